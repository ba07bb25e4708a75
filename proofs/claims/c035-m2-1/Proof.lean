import JvmDerived
import JvmDerived.Pilot.@@N@@Statement
import JvmDerived.Pilot.@@N@@Code
set_option linter.unusedVariables false
set_option linter.unusedSimpArgs false
namespace Jvm.Pilot.@@N@@
open Jvm Jvm.ClassFile Sem Op Lib Jvm.Free Jvm.Stand Jvm.LawKit Jvm.RoadKit Bundle Jvm.Pilot.@@N@@.Jvm.D
section OwnKit
variable {p : Program} {l : Launch} {e : Env} {R : Room} {s : State} {m : MethodId} {args : Array Value} {below : List Frame} {meth : Method} {c : Code} {T : State} {locs : List Loc} {cells slots : Nat} {bc : ByteArray} {Q : Option Value → Heap → List Loc → Prop} {EF : Outcome → State → List Loc → Prop} {mc ms kk : Nat} {Z : State} {a0 : Array Value} {h : Heap} {pc pc' pt pf : Nat} {Ls : Array Slot} {st rest : List Value}
/-- from this frame over T the invocation comes to its end by returning, and Q holds there -/
def Go (p : Program) (e : Env) (below : List Frame) (EF : Outcome → State → List Loc → Prop) (Q : Option Value → Heap → List Loc → Prop) (m : MethodId) (T : State) (pc : Nat) (Ls : Array Slot) (st : List Value) : Prop :=
  ∃ s₂ o, Steps p.tables e below (T.setTop (mkF m pc Ls st)) s₂ ∧ s₂.status = .running ∧ Ended s₂ below o ∧ ∃ v L, o = .returned v ∧ Q v s₂.heap L ∧ EF o s₂ L
def EndOk (s : State) (EF : Outcome → State → List Loc → Prop) (mc ms kk : Nat) : Prop := ∀ v U L, FrameEnd s (.returned v) U L mc ms → kk ≤ U.heap.size → EF (.returned v) U L
theorem Go.of {T' : State} {Ls' : Array Slot} {st' : List Value} (k : ∀ t, Steps p.tables e below (T'.setTop (mkF m pc' Ls' st')) t → Steps p.tables e below (T.setTop (mkF m pc Ls st)) t) (g : Go p e below EF Q m T' pc' Ls' st') : Go p e below EF Q m T pc Ls st := by
  obtain ⟨s₂, o, h1, h2⟩ := g
  exact ⟨s₂, o, k _ h1, h2⟩
/-- a method's contract, as a caller takes it -/
def Ct (l : Launch) (Z : State) (y : MethodName) (bytes : ByteArray) (maxL : Nat) (ret : Option FieldType) (rm : Room) (as' : Array Value) (h : Heap) (Q : Option Value → Heap → List Loc → Prop) : Prop :=
  MetFree l y (head1 [Jvm.Cond.code y bytes maxL ret] rm) (fun a U => a = as' ∧ Z.Warmed39 U.vm ∧ U.heap = h) (fun _ _ _ _ _ => True) (fun _ U o U' => ∃ v L, o = .returned v ∧ Q v U'.heap L ∧ FrameEnd U o U' L rm.cells rm.slots)
theorem own_met {y : MethodName} {bytes : ByteArray} {maxL : Nat} {ret : Option FieldType} {ws : List Jvm.Cond} {rm : Room} {as' : Array Value}
    (hpl : plainFor y = true) (hef : ∀ m, entryFrame m as' maxL = mkF m 0 Ls [])
    (body : ∀ (p : Program) (e : Env) (s : State) (m : MethodId) (below : List Frame) (meth : Method) (c : Code) (T : State) (EF : Outcome → State → List Loc → Prop), Stand p l e rm s m as' below meth c T [] 0 0 → p.tables.exec = Jvm.exec → c.code = bytes → c.maxLocals = maxL →
      s.vm.findClass y.cls = some m.cls → meth.name = y.name → meth.sig.returnType = ret → meth.locks = false → Z.Warmed39 s.vm → EndOk s EF mc ms 0 → T.heap = h → Go p e below EF Q m T 0 Ls []) :
    MetFree l y (head1 (Jvm.Cond.code y bytes maxL ret :: ws) rm) (fun a U => a = as' ∧ Z.Warmed39 U.vm ∧ U.heap = h) (fun _ _ _ _ _ => True) (fun _ U o U' => ∃ v L, o = .returned v ∧ Q v U'.heap L ∧ FrameEnd U o U' L mc ms) := by
  refine MetFree.of_bodySF hpl hisR ?_
  intro p e s m args below meth c s₁ Bd hml0 hP hK
  obtain ⟨rfl, hZ, hh⟩ := hP
  obtain ⟨s₂, o, h1, h2, h3, v, L, h4, h5, h6⟩ := body p e s m below meth c s₁ (fun o U L => FrameEnd s o U L mc ms) (Stand.of_body Bd) Bd.exec Bd.bytes hml0 (findClass_of_methodNamed Bd.named) (name_of_methodNamed Bd.named Bd.method).1 Bd.returns Bd.notSynchronized hZ (fun _ _ _ f _ => f) (by rw [← hh, Bd.state]; rfl)
  exact ⟨s₂, o, castTop (hef m) h1, h2, h3, v, L, h4, h5, h6⟩
def WOk (s : State) (EF : Outcome → State → List Loc → Prop) (mc ms kk : Nat) : Prop := ∀ vm' n, s.Since vm' n → kk ≤ n → ∀ v U L, FrameEnd (s.setVm vm') (.returned v) U L mc ms → n ≤ U.heap.size → EF (.returned v) U L
theorem WOk.fin (W : WOk s EF mc ms kk) : EndOk s EF mc ms kk := fun v U L f k => W s.vm kk (State.WarmedH.since (State.WarmedH.refl s) kk) (Nat.le_refl _) v U L f k
theorem WOk.step (W : WOk s EF mc ms kk) {vm1 : Vm} {n1 : Nat} (h : s.Since vm1 n1) (hk : kk ≤ n1) : WOk (s.setVm vm1) EF mc ms n1 := fun vm' n h2 hn v U L f k => W vm' n (h.trans h2 hn) (Nat.le_trans hk hn) v U L f k
theorem WOk.start : WOk s (fun o U L => ReturnedEndW s o U L mc ms) mc ms 0 := fun vm' n h _ v U L f k => by
  obtain ⟨a, b, d⟩ := f
  obtain ⟨x, y, z⟩ := h.ended b k d
  exact ⟨⟨v, rfl⟩, x, y, z⟩
/-- .. of a method that may intern -/
def CtW (l : Launch) (Z : State) (y : MethodName) (bytes : ByteArray) (maxL : Nat) (ret : Option FieldType) (rm : Room) (as' : Array Value) (h : Heap) (Q : Option Value → Heap → List Loc → Prop) : Prop :=
  MetFree l y (head1 [Jvm.Cond.code y bytes maxL ret] rm) (fun a U => a = as' ∧ Z.Warmed39 U.vm ∧ U.heap = h) (fun _ _ _ _ _ => True) (fun _ U o U' => ∃ v L, o = .returned v ∧ Q v U'.heap L ∧ ReturnedEndW U o U' L rm.cells rm.slots)
theorem own_metW {y : MethodName} {bytes : ByteArray} {maxL : Nat} {ret : Option FieldType} {ws : List Jvm.Cond} {rm : Room} {as' : Array Value}
    (hpl : plainFor y = true) (hef : ∀ m, entryFrame m as' maxL = mkF m 0 Ls [])
    (body : ∀ (p : Program) (e : Env) (s : State) (m : MethodId) (below : List Frame) (meth : Method) (c : Code) (T : State) (EF : Outcome → State → List Loc → Prop), Stand p l e rm s m as' below meth c T [] 0 0 → p.tables.exec = Jvm.exec → c.code = bytes → c.maxLocals = maxL →
      s.vm.findClass y.cls = some m.cls → meth.name = y.name → meth.sig.returnType = ret → meth.locks = false → Z.Warmed39 s.vm → WOk s EF mc ms 0 → T.heap = h → Go p e below EF Q m T 0 Ls []) :
    MetFree l y (head1 (Jvm.Cond.code y bytes maxL ret :: ws) rm) (fun a U => a = as' ∧ Z.Warmed39 U.vm ∧ U.heap = h) (fun _ _ _ _ _ => True) (fun _ U o U' => ∃ v L, o = .returned v ∧ Q v U'.heap L ∧ ReturnedEndW U o U' L mc ms) := by
  refine MetFree.of_bodySF hpl hisR ?_
  intro p e s m args below meth c s₁ Bd hml0 hP hK
  obtain ⟨rfl, hZ, hh⟩ := hP
  obtain ⟨s₂, o, h1, h2, h3, v, L, h4, h5, h6⟩ := body p e s m below meth c s₁ (fun o U L => ReturnedEndW s o U L mc ms) (Stand.of_body Bd) Bd.exec Bd.bytes hml0 (findClass_of_methodNamed Bd.named) (name_of_methodNamed Bd.named Bd.method).1 Bd.returns Bd.notSynchronized hZ WOk.start (by rw [← hh, Bd.state]; rfl)
  exact ⟨s₂, o, castTop (hef m) h1, h2, h3, v, L, h4, h5, h6⟩
theorem g_nameI {x : Int32} (k : ∀ z : Int32, z = x → Go p e below EF Q m T pc Ls (.int z :: rest)) : Go p e below EF Q m T pc Ls (.int x :: rest) := k x rfl
theorem g_iloadN (X : Stand p l e R s m args below meth c T locs cells slots) (hx : p.tables.exec = Jvm.exec) (hby : c.code = bc) {n : Fin 4} {v : Int32} (hd : decode bc pc = .ok (.iload_n n, 1)) (hp : pc + 1 = pc') (hl : Ls[n.val]? = some (.val (.int v))) (k : Go p e below EF Q m T pc' Ls (.int v :: st)) : Go p e below EF Q m T pc Ls st := by
  subst hp; exact Go.of (fun _ q => XS.iloadN X.here hx rfl (hb hby hd) hl q) k
theorem g_iload (X : Stand p l e R s m args below meth c T locs cells slots) (hx : p.tables.exec = Jvm.exec) (hby : c.code = bc) {n : Nat} {v : Int32} (hd : decode bc pc = .ok (.iload n, 2)) (hp : pc + 2 = pc') (hl : Ls[n]? = some (.val (.int v))) (k : Go p e below EF Q m T pc' Ls (.int v :: st)) : Go p e below EF Q m T pc Ls st := by
  subst hp; exact Go.of (fun _ q => XS.iload X.here hx rfl (hb hby hd) hl q) k
theorem g_istore (X : Stand p l e R s m args below meth c T locs cells slots) (hx : p.tables.exec = Jvm.exec) (hby : c.code = bc) {n : Nat} {v : Int32} {Ls' : Array Slot} (hd : decode bc pc = .ok (.istore n, 2)) (hp : pc + 2 = pc') (hl : storeLocals Ls n (.int v) = some Ls') (k : Go p e below EF Q m T pc' Ls' rest) : Go p e below EF Q m T pc Ls (.int v :: rest) := by
  subst hp; exact Go.of (fun _ q => XS.istore X.here hx rfl (hb hby hd) rfl hl q) k
theorem g_aloadN (X : Stand p l e R s m args below meth c T locs cells slots) (hx : p.tables.exec = Jvm.exec) (hby : c.code = bc) {n : Fin 4} {v : Value} (hd : decode bc pc = .ok (.aload_n n, 1)) (hp : pc + 1 = pc') (hl : Ls[n.val]? = some (.val v)) (hv : v.isRef = true) (k : Go p e below EF Q m T pc' Ls (v :: st)) : Go p e below EF Q m T pc Ls st := by
  subst hp; exact Go.of (fun _ q => XS.aloadN X.here hx rfl (hb hby hd) hl hv q) k
theorem g_aload (X : Stand p l e R s m args below meth c T locs cells slots) (hx : p.tables.exec = Jvm.exec) (hby : c.code = bc) {n : Nat} {v : Value} (hd : decode bc pc = .ok (.aload n, 2)) (hp : pc + 2 = pc') (hl : Ls[n]? = some (.val v)) (hv : v.isRef = true) (k : Go p e below EF Q m T pc' Ls (v :: st)) : Go p e below EF Q m T pc Ls st := by
  subst hp; exact Go.of (fun _ q => XS.aload X.here hx rfl (hb hby hd) hl hv q) k
theorem g_astoreN (X : Stand p l e R s m args below meth c T locs cells slots) (hx : p.tables.exec = Jvm.exec) (hby : c.code = bc) {n : Fin 4} {v : Value} {Ls' : Array Slot} (hd : decode bc pc = .ok (.astore_n n, 1)) (hp : pc + 1 = pc') (hv : v.isRef = true) (hl : storeLocals Ls n.val v = some Ls') (k : Go p e below EF Q m T pc' Ls' rest) : Go p e below EF Q m T pc Ls (v :: rest) := by
  subst hp; exact Go.of (fun _ q => XS.astoreN X.here hx rfl (hb hby hd) rfl hv hl q) k
theorem g_astore (X : Stand p l e R s m args below meth c T locs cells slots) (hx : p.tables.exec = Jvm.exec) (hby : c.code = bc) {n : Nat} {v : Value} {Ls' : Array Slot} (hd : decode bc pc = .ok (.astore n, 2)) (hp : pc + 2 = pc') (hv : v.isRef = true) (hl : storeLocals Ls n v = some Ls') (k : Go p e below EF Q m T pc' Ls' rest) : Go p e below EF Q m T pc Ls (v :: rest) := by
  subst hp; exact Go.of (fun _ q => XS.astore X.here hx rfl (hb hby hd) rfl hv hl q) k
theorem g_iconst (X : Stand p l e R s m args below meth c T locs cells slots) (hx : p.tables.exec = Jvm.exec) (hby : c.code = bc) {i : Int} {n : Int32} (hd : decode bc pc = .ok (.iconst i, 1)) (hp : pc + 1 = pc') (hn : Int32.ofInt i = n) (k : Go p e below EF Q m T pc' Ls (.int n :: st)) : Go p e below EF Q m T pc Ls st := by
  subst hp; exact Go.of (fun _ q => XS.iconst X.here hx rfl (hb hby hd) (by rw [hn]; exact q)) k
theorem g_bipush (X : Stand p l e R s m args below meth c T locs cells slots) (hx : p.tables.exec = Jvm.exec) (hby : c.code = bc) {i : Int} {n : Int32} (hd : decode bc pc = .ok (.bipush i, 2)) (hp : pc + 2 = pc') (hn : (Int8.ofInt i).toInt32 = n) (k : Go p e below EF Q m T pc' Ls (.int n :: st)) : Go p e below EF Q m T pc Ls st := by
  subst hp; exact Go.of (fun _ q => XS.bipush X.here hx rfl (hb hby hd) (by rw [hn]; exact q)) k
theorem g_sipush (X : Stand p l e R s m args below meth c T locs cells slots) (hx : p.tables.exec = Jvm.exec) (hby : c.code = bc) {i : Int} {n : Int32} (hd : decode bc pc = .ok (.sipush i, 3)) (hp : pc + 3 = pc') (hn : (Int16.ofInt i).toInt32 = n) (k : Go p e below EF Q m T pc' Ls (.int n :: st)) : Go p e below EF Q m T pc Ls st := by
  subst hp; exact Go.of (fun _ q => XS.sipush X.here hx rfl (hb hby hd) (by rw [hn]; exact q)) k
theorem g_aconst_null (X : Stand p l e R s m args below meth c T locs cells slots) (hx : p.tables.exec = Jvm.exec) (hby : c.code = bc)  (hd : decode bc pc = .ok (.aconst_null, 1)) (hp : pc + 1 = pc')  (k : Go p e below EF Q m T pc' Ls (.null :: st)) : Go p e below EF Q m T pc Ls st := by
  subst hp; exact Go.of (fun _ q => XS.aconstNull X.here hx rfl (hb hby hd) q) k
theorem g_isub (X : Stand p l e R s m args below meth c T locs cells slots) (hx : p.tables.exec = Jvm.exec) (hby : c.code = bc) {x y : Int32} (hd : decode bc pc = .ok (.isub, 1)) (hp : pc + 1 = pc')  (k : Go p e below EF Q m T pc' Ls (.int (x - y) :: rest)) : Go p e below EF Q m T pc Ls (.int y :: .int x :: rest) := by
  subst hp; exact Go.of (fun _ q => XS.isub X.here hx rfl (hb hby hd) rfl q) k
theorem g_iand (X : Stand p l e R s m args below meth c T locs cells slots) (hx : p.tables.exec = Jvm.exec) (hby : c.code = bc) {x y : Int32} (hd : decode bc pc = .ok (.iand, 1)) (hp : pc + 1 = pc')  (k : Go p e below EF Q m T pc' Ls (.int (x &&& y) :: rest)) : Go p e below EF Q m T pc Ls (.int y :: .int x :: rest) := by
  subst hp; exact Go.of (fun _ q => XS.iand X.here hx rfl (hb hby hd) rfl q) k
theorem g_iushr (X : Stand p l e R s m args below meth c T locs cells slots) (hx : p.tables.exec = Jvm.exec) (hby : c.code = bc) {x y : Int32} (hd : decode bc pc = .ok (.iushr, 1)) (hp : pc + 1 = pc')  (k : Go p e below EF Q m T pc' Ls (.int ((x.toUInt32 >>> (y &&& 31).toUInt32).toInt32) :: rest)) : Go p e below EF Q m T pc Ls (.int y :: .int x :: rest) := by
  subst hp; exact Go.of (fun _ q => XS.iushr X.here hx rfl (hb hby hd) rfl q) k
theorem g_i2b (X : Stand p l e R s m args below meth c T locs cells slots) (hx : p.tables.exec = Jvm.exec) (hby : c.code = bc) {x : Int32} (hd : decode bc pc = .ok (.i2b, 1)) (hp : pc + 1 = pc')  (k : Go p e below EF Q m T pc' Ls (.int (x.toInt8.toInt32) :: rest)) : Go p e below EF Q m T pc Ls (.int x :: rest) := by
  subst hp; exact Go.of (fun _ q => XS.i2b X.here hx rfl (hb hby hd) rfl q) k
theorem g_i2c (X : Stand p l e R s m args below meth c T locs cells slots) (hx : p.tables.exec = Jvm.exec) (hby : c.code = bc) {x : Int32} (hd : decode bc pc = .ok (.i2c, 1)) (hp : pc + 1 = pc')  (k : Go p e below EF Q m T pc' Ls (.int (x.toUInt32.toUInt16.toUInt32.toInt32) :: rest)) : Go p e below EF Q m T pc Ls (.int x :: rest) := by
  subst hp; exact Go.of (fun _ q => XS.i2c X.here hx rfl (hb hby hd) rfl q) k
theorem g_dup (X : Stand p l e R s m args below meth c T locs cells slots) (hx : p.tables.exec = Jvm.exec) (hby : c.code = bc) {x : Value} (hd : decode bc pc = .ok (.dup, 1)) (hp : pc + 1 = pc') (hc : x.category = 1) (k : Go p e below EF Q m T pc' Ls (x :: x :: rest)) : Go p e below EF Q m T pc Ls (x :: rest) := by
  subst hp; exact Go.of (fun _ q => XS.dup X.here hx rfl (hb hby hd) rfl hc q) k
theorem g_pop (X : Stand p l e R s m args below meth c T locs cells slots) (hx : p.tables.exec = Jvm.exec) (hby : c.code = bc) {x : Value} (hd : decode bc pc = .ok (.pop, 1)) (hp : pc + 1 = pc') (hc : x.category = 1) (k : Go p e below EF Q m T pc' Ls rest) : Go p e below EF Q m T pc Ls (x :: rest) := by
  subst hp; exact Go.of (fun _ q => XS.pop X.here hx rfl (hb hby hd) rfl hc q) k
theorem g_iinc (X : Stand p l e R s m args below meth c T locs cells slots) (hx : p.tables.exec = Jvm.exec) (hby : c.code = bc) {n : Nat} {i : Int} {x : Int32} {Ls' : Array Slot} (hd : decode bc pc = .ok (.iinc n i, 3)) (hp : pc + 3 = pc') (hl : Ls[n]? = some (.val (.int x))) (hl' : storeLocals Ls n (.int (x + Int32.ofInt i)) = some Ls') (k : Go p e below EF Q m T pc' Ls' st) : Go p e below EF Q m T pc Ls st := by
  subst hp; exact Go.of (fun _ q => XS.iinc X.here hx rfl (hb hby hd) hl hl' q) k
theorem g_goto (X : Stand p l e R s m args below meth c T locs cells slots) (hx : p.tables.exec = Jvm.exec) (hby : c.code = bc) {i : Int} (hd : decode bc pc = .ok (.goto i, 3)) (ho : 0 ≤ (pc : Int) + i) (hp : ((pc : Int) + i).toNat = pc') (k : Go p e below EF Q m T pc' Ls st) : Go p e below EF Q m T pc Ls st := Go.of (fun _ q => XS.goto X.here hx rfl rfl (hb hby hd) ho hp q) k
theorem own_hge (x y : Int32) : if_icmp.holds .ge x y = decide (y.toInt ≤ x.toInt) := by simp [if_icmp.holds, Int32.le_iff_toInt_le]
theorem own_hle (x y : Int32) : if_icmp.holds .le x y = decide (x.toInt ≤ y.toInt) := by simp [if_icmp.holds, Int32.le_iff_toInt_le]
theorem own_heq (x y : Int32) : if_icmp.holds .eq x y = decide (x = y) := by by_cases q : x = y <;> simp [if_icmp.holds, q]
theorem own_hne (x y : Int32) : if_icmp.holds .ne x y = decide (¬ x = y) := by by_cases q : x = y <;> simp [if_icmp.holds, q]
theorem g_icmp (X : Stand p l e R s m args below meth c T locs cells slots) (hx : p.tables.exec = Jvm.exec) (hby : c.code = bc) {cd : ClassFile.Cond} {i : Int} {x y : Int32} {P : Prop} [Decidable P] (hP : if_icmp.holds cd x y = decide P) (hd : decode bc pc = .ok (.if_icmp cd i, 3)) (ho : 0 ≤ (pc : Int) + i) (hp : ((pc : Int) + i).toNat = pt) (hf : pc + 3 = pf) (ky : P → Go p e below EF Q m T pt Ls rest) (kn : ¬ P → Go p e below EF Q m T pf Ls rest) : Go p e below EF Q m T pc Ls (.int y :: .int x :: rest) := by
  subst hf
  by_cases q : P
  · exact Go.of (fun _ z => XS.icmpYes X.here hx rfl rfl (hb hby hd) rfl (by rw [hP]; exact decide_eq_true q) ho hp z) (ky q)
  · exact Go.of (fun _ z => XS.icmpNo X.here hx rfl (hb hby hd) rfl (by rw [hP]; exact decide_eq_false q) z) (kn q)
theorem g_ifc (X : Stand p l e R s m args below meth c T locs cells slots) (hx : p.tables.exec = Jvm.exec) (hby : c.code = bc) {cd : ClassFile.Cond} {i : Int} {x : Int32} {P : Prop} [Decidable P] (hP : if_icmp.holds cd x 0 = decide P) (hd : decode bc pc = .ok (.ifCond cd i, 3)) (ho : 0 ≤ (pc : Int) + i) (hp : ((pc : Int) + i).toNat = pt) (hf : pc + 3 = pf) (ky : P → Go p e below EF Q m T pt Ls rest) (kn : ¬ P → Go p e below EF Q m T pf Ls rest) : Go p e below EF Q m T pc Ls (.int x :: rest) := by
  subst hf
  by_cases q : P
  · exact Go.of (fun _ z => XS.ifYes X.here hx rfl rfl (hb hby hd) rfl (by rw [if0, hP]; exact decide_eq_true q) ho hp z) (ky q)
  · exact Go.of (fun _ z => XS.ifNo X.here hx rfl (hb hby hd) rfl (by rw [if0, hP]; exact decide_eq_false q) z) (kn q)
theorem g_icmpge (X : Stand p l e R s m args below meth c T locs cells slots) (hx : p.tables.exec = Jvm.exec) (hby : c.code = bc) {i : Int} {x y : Int32} (hd : decode bc pc = .ok (.if_icmp .ge i, 3)) (ho : 0 ≤ (pc : Int) + i) (hp : ((pc : Int) + i).toNat = pt) (hf : pc + 3 = pf) (ky : y.toInt ≤ x.toInt → Go p e below EF Q m T pt Ls rest) (kn : x.toInt < y.toInt → Go p e below EF Q m T pf Ls rest) : Go p e below EF Q m T pc Ls (.int y :: .int x :: rest) :=
  g_icmp X hx hby (own_hge x y) hd ho hp hf ky (fun q => kn (Int.not_le.mp q))
theorem g_icmple (X : Stand p l e R s m args below meth c T locs cells slots) (hx : p.tables.exec = Jvm.exec) (hby : c.code = bc) {i : Int} {x y : Int32} (hd : decode bc pc = .ok (.if_icmp .le i, 3)) (ho : 0 ≤ (pc : Int) + i) (hp : ((pc : Int) + i).toNat = pt) (hf : pc + 3 = pf) (ky : x.toInt ≤ y.toInt → Go p e below EF Q m T pt Ls rest) (kn : y.toInt < x.toInt → Go p e below EF Q m T pf Ls rest) : Go p e below EF Q m T pc Ls (.int y :: .int x :: rest) :=
  g_icmp X hx hby (own_hle x y) hd ho hp hf ky (fun q => kn (Int.not_le.mp q))
theorem g_icmpeq (X : Stand p l e R s m args below meth c T locs cells slots) (hx : p.tables.exec = Jvm.exec) (hby : c.code = bc) {i : Int} {x y : Int32} (hd : decode bc pc = .ok (.if_icmp .eq i, 3)) (ho : 0 ≤ (pc : Int) + i) (hp : ((pc : Int) + i).toNat = pt) (hf : pc + 3 = pf) (ky : x = y → Go p e below EF Q m T pt Ls rest) (kn : ¬ x = y → Go p e below EF Q m T pf Ls rest) : Go p e below EF Q m T pc Ls (.int y :: .int x :: rest) :=
  g_icmp X hx hby (own_heq x y) hd ho hp hf ky (fun q => kn (id q))
theorem g_ifeq (X : Stand p l e R s m args below meth c T locs cells slots) (hx : p.tables.exec = Jvm.exec) (hby : c.code = bc) {i : Int} {x : Int32} (hd : decode bc pc = .ok (.ifCond .eq i, 3)) (ho : 0 ≤ (pc : Int) + i) (hp : ((pc : Int) + i).toNat = pt) (hf : pc + 3 = pf) (ky : x = 0 → Go p e below EF Q m T pt Ls rest) (kn : ¬ x = 0 → Go p e below EF Q m T pf Ls rest) : Go p e below EF Q m T pc Ls (.int x :: rest) :=
  g_ifc X hx hby (own_heq x 0) hd ho hp hf ky (fun q => kn (id q))
theorem g_icmpne (X : Stand p l e R s m args below meth c T locs cells slots) (hx : p.tables.exec = Jvm.exec) (hby : c.code = bc) {i : Int} {x y : Int32} (hd : decode bc pc = .ok (.if_icmp .ne i, 3)) (ho : 0 ≤ (pc : Int) + i) (hp : ((pc : Int) + i).toNat = pt) (hf : pc + 3 = pf) (ky : ¬ x = y → Go p e below EF Q m T pt Ls rest) (kn : x = y → Go p e below EF Q m T pf Ls rest) : Go p e below EF Q m T pc Ls (.int y :: .int x :: rest) :=
  g_icmp X hx hby (own_hne x y) hd ho hp hf ky (fun q => kn (Decidable.not_not.mp q))
theorem g_ifne (X : Stand p l e R s m args below meth c T locs cells slots) (hx : p.tables.exec = Jvm.exec) (hby : c.code = bc) {i : Int} {x : Int32} (hd : decode bc pc = .ok (.ifCond .ne i, 3)) (ho : 0 ≤ (pc : Int) + i) (hp : ((pc : Int) + i).toNat = pt) (hf : pc + 3 = pf) (ky : ¬ x = 0 → Go p e below EF Q m T pt Ls rest) (kn : x = 0 → Go p e below EF Q m T pf Ls rest) : Go p e below EF Q m T pc Ls (.int x :: rest) :=
  g_ifc X hx hby (own_hne x 0) hd ho hp hf ky (fun q => kn (Decidable.not_not.mp q))
theorem g_ifnull (X : Stand p l e R s m args below meth c T locs cells slots) (hx : p.tables.exec = Jvm.exec) (hby : c.code = bc) {i : Int} {v : Value} (hv : v.isRef = true) (hd : decode bc pc = .ok (.ifnull i, 3)) (ho : 0 ≤ (pc : Int) + i) (hp : ((pc : Int) + i).toNat = pt) (hf : pc + 3 = pf) (ky : v = .null → Go p e below EF Q m T pt Ls rest) (kn : ∀ b, v = .ref b → Go p e below EF Q m T pf Ls rest) : Go p e below EF Q m T pc Ls (v :: rest) := by
  subst hf
  rcases ref_cases hv with rfl | ⟨b, rfl⟩
  · exact Go.of (fun _ z => XS.ifnullYes X.here hx rfl rfl (hb hby hd) rfl ho hp z) (ky rfl)
  · exact Go.of (fun _ z => XS.ifnullNo X.here hx rfl (hb hby hd) rfl z) (kn b rfl)
theorem g_ifnonnull (X : Stand p l e R s m args below meth c T locs cells slots) (hx : p.tables.exec = Jvm.exec) (hby : c.code = bc) {i : Int} {v : Value} (hv : v.isRef = true) (hd : decode bc pc = .ok (.ifnonnull i, 3)) (ho : 0 ≤ (pc : Int) + i) (hp : ((pc : Int) + i).toNat = pt) (hf : pc + 3 = pf) (ky : ∀ b, v = .ref b → Go p e below EF Q m T pt Ls rest) (kn : v = .null → Go p e below EF Q m T pf Ls rest) : Go p e below EF Q m T pc Ls (v :: rest) := by
  subst hf
  rcases ref_cases hv with rfl | ⟨b, rfl⟩
  · exact Go.of (fun _ z => XS.ifnonnullNo X.here hx rfl (hb hby hd) rfl z) (kn rfl)
  · exact Go.of (fun _ z => XS.ifnonnullYes X.here hx rfl rfl (hb hby hd) rfl ho hp z) (ky b rfl)
theorem g_ret (X : Stand p l e R s m args below meth c T locs cells slots) (hx : p.tables.exec = Jvm.exec) (hby : c.code = bc) (hF : EndOk s EF mc ms kk) (hk : kk ≤ T.heap.size) (hlk : meth.locks = false) {t : FieldType} {w : Value} {i : Instr} (hret : meth.sig.returnType = some t) (hn : narrow t w = w) (hi : (i = .ireturn ∧ (t = .int ∨ t = .boolean ∨ t = .byte ∨ t = .char ∨ t = .short) ∧ ∃ z, w = .int z) ∨ (i = .lreturn ∧ t = .long ∧ ∃ z, w = .long z) ∨ (i = .dreturn ∧ t = .double ∧ ∃ z, w = .double z) ∨ (i = .freturn ∧ t = .float ∧ ∃ z, w = .float z) ∨ (i = .areturn ∧ t.isReference = true ∧ w.isRef = true)) (hd : decode bc pc = .ok (i, 1)) (hc : cells ≤ mc) (hs : slots ≤ ms) (hq : Q (some w) T.heap locs) : Go p e below EF Q m T pc Ls (w :: rest) := by
  obtain ⟨fs, hr, hrun, hended, hW, hsame⟩ := X.leave (v := some w) (fun h => by rw [hret] at h; cases h) hlk
  exact ⟨_, _, retOut X hx hret hn hi (hb hby hd) hr, hrun, hended, _, _, rfl, hq, hF _ _ _ ⟨⟨_, rfl⟩, hW, hsame.mono hc hs⟩ hk⟩
theorem g_retI (X : Stand p l e R s m args below meth c T locs cells slots) (hx : p.tables.exec = Jvm.exec) (hby : c.code = bc) (hF : EndOk s EF mc ms kk) (hk : kk ≤ T.heap.size) (hlk : meth.locks = false) {z : Int32} (hret : meth.sig.returnType = some .int) (hd : decode bc pc = .ok (.ireturn, 1)) (hc : cells ≤ mc) (hs : slots ≤ ms) (hq : Q (some (.int z)) T.heap locs) : Go p e below EF Q m T pc Ls (.int z :: rest) := g_ret X hx hby hF hk hlk hret rfl (Or.inl ⟨rfl, Or.inl rfl, _, rfl⟩) hd hc hs hq
theorem g_retZ (X : Stand p l e R s m args below meth c T locs cells slots) (hx : p.tables.exec = Jvm.exec) (hby : c.code = bc) (hF : EndOk s EF mc ms kk) (hk : kk ≤ T.heap.size) (hlk : meth.locks = false) {z : Int32} (hz : z = 0 ∨ z = 1) (hret : meth.sig.returnType = some .boolean) (hd : decode bc pc = .ok (.ireturn, 1)) (hc : cells ≤ mc) (hs : slots ≤ ms) (hq : Q (some (.int z)) T.heap locs) : Go p e below EF Q m T pc Ls (.int z :: rest) := g_ret X hx hby hF hk hlk hret (by rcases hz with rfl | rfl <;> rfl) (Or.inl ⟨rfl, Or.inr (Or.inl rfl), _, rfl⟩) hd hc hs hq
theorem g_retB (X : Stand p l e R s m args below meth c T locs cells slots) (hx : p.tables.exec = Jvm.exec) (hby : c.code = bc) (hF : EndOk s EF mc ms kk) (hk : kk ≤ T.heap.size) (hlk : meth.locks = false) {z : Int32} (hz : narrow .byte (.int z) = .int z) (hret : meth.sig.returnType = some .byte) (hd : decode bc pc = .ok (.ireturn, 1)) (hc : cells ≤ mc) (hs : slots ≤ ms) (hq : Q (some (.int z)) T.heap locs) : Go p e below EF Q m T pc Ls (.int z :: rest) := g_ret X hx hby hF hk hlk hret hz (Or.inl ⟨rfl, Or.inr (Or.inr (Or.inl rfl)), _, rfl⟩) hd hc hs hq
theorem g_retA (X : Stand p l e R s m args below meth c T locs cells slots) (hx : p.tables.exec = Jvm.exec) (hby : c.code = bc) (hF : EndOk s EF mc ms kk) (hk : kk ≤ T.heap.size) (hlk : meth.locks = false) {t : FieldType} {w : Value} (ht : t.isReference = true) (hw : w.isRef = true) (hret : meth.sig.returnType = some t) (hd : decode bc pc = .ok (.areturn, 1)) (hc : cells ≤ mc) (hs : slots ≤ ms) (hq : Q (some w) T.heap locs) : Go p e below EF Q m T pc Ls (w :: rest) := g_ret X hx hby hF hk hlk hret (by rcases ref_cases hw with rfl | ⟨b, rfl⟩ <;> cases t <;> first | rfl | cases ht) (Or.inr (Or.inr (Or.inr (Or.inr ⟨rfl, ht, hw⟩)))) hd hc hs hq
theorem g_retV (X : Stand p l e R s m args below meth c T locs cells slots) (hx : p.tables.exec = Jvm.exec) (hby : c.code = bc) (hF : EndOk s EF mc ms kk) (hk : kk ≤ T.heap.size) (hlk : meth.locks = false) (hret : meth.sig.returnType = none) (hd : decode bc pc = .ok (.return_, 1)) (hc : cells ≤ mc) (hs : slots ≤ ms) (hq : Q none T.heap locs) : Go p e below EF Q m T pc Ls [] := by
  obtain ⟨fs, hr, hrun, hended, hW, hsame⟩ := X.leave (v := none) (fun _ => rfl) hlk
  exact ⟨_, _, X.returnOut hx hret (hb hby hd) hr, hrun, hended, _, _, rfl, hq, hF _ _ _ ⟨⟨_, rfl⟩, hW, hsame.mono hc hs⟩ hk⟩
theorem g_getS (X : Stand p l e R s m args below meth c T locs cells slots) (hx : p.tables.exec = Jvm.exec) (hby : c.code = bc) (hZ : Z.Warmed39 s.vm) {own : String} (hown : s.vm.findClass own = some m.cls) (eT : T.heap = h) {i : Nat} {O n d : String} {v : Value} (w : (Jvm.Cond.fieldLink own i O n d).before a0 Z = true) (F : Sta Z h O n d v) (hd : decode bc pc = .ok (.getstatic i, 3)) (hp : pc + 3 = pc') (k : ∀ T', Stand p l e R s m args below meth c T' locs cells slots → T'.heap = h → Go p e below EF Q m T' pc' Ls (v :: st)) : Go p e below EF Q m T pc Ls st := by
  subst hp
  obtain ⟨T', X', e', st'⟩ := getS2 X hx hZ hown (host := "") (Or.inl w) Via.refl eT F (g := mkF m pc Ls st) rfl (hb hby hd)
  exact Go.of st' (k T' X' e')
theorem g_getF (X : Stand p l e R s m args below meth c T locs cells slots) (hx : p.tables.exec = Jvm.exec) (hby : c.code = bc) (hZ : Z.Warmed39 s.vm) {own : String} (hown : s.vm.findClass own = some m.cls) (eT : T.heap = h) {i : Nat} {O n d : String} {a : Addr} {v : Value} (w : (Jvm.Cond.fieldLink own i O n d).before a0 Z = true) (F : Fld Z h a O n d v) (hd : decode bc pc = .ok (.getfield i, 3)) (hp : pc + 3 = pc') (k : ∀ T', Stand p l e R s m args below meth c T' locs cells slots → T'.heap = h → Go p e below EF Q m T' pc' Ls (v :: rest)) : Go p e below EF Q m T pc Ls (.ref a :: rest) := by
  subst hp
  obtain ⟨T', X', e', st'⟩ := getF X hx hZ hown (host := "") (Or.inl w) Via.refl eT F (g := mkF m pc Ls (.ref a :: rest)) rfl rfl (hb hby hd)
  exact Go.of st' (k T' X' e')
theorem g_putF (X : Stand p l e R s m args below meth c T locs cells slots) (hx : p.tables.exec = Jvm.exec) (hby : c.code = bc) (hZ : Z.Warmed39 s.vm) {own : String} (hown : s.vm.findClass own = some m.cls) (eT : T.heap = h) {i kk : Nat} {O n d C : String} {a : Addr} {v old : Value} {ty : FieldType} (w : (Jvm.Cond.fieldLink own i O n d).before a0 Z = true) (F : Fld Z h a O n d old) (E : Exa Z h a C) (L : (Jvm.Cond.lays C O n d).before a0 Z = true ∨ ((Jvm.Cond.laysFinal C O n d).before a0 Z = true ∧ own = O ∧ meth.name = "<init>")) (wi : (Jvm.Cond.instantiable C kk).before a0 Z = true) (hty : parseFieldDescriptor d = some ty) (hn : narrow ty v = v) (hf : fits ty v = true) (hd : decode bc pc = .ok (.putfield i, 3)) (hp : pc + 3 = pc') (k : ∀ T' h', Stand p l e R s m args below meth c T' (locs ++ [⟨a, Jvm.RoadKit.slotOf Z O n d⟩]) cells slots → T'.heap = h' → Wr h h' a (Jvm.RoadKit.slotOf Z O n d) v → Go p e below EF Q m T' pc' Ls rest) : Go p e below EF Q m T pc Ls (v :: .ref a :: rest) := by
  subst hp
  obtain ⟨T', h', X', e', W', st'⟩ := putF X hx hZ hown (host := "") (Or.inl w) Via.refl eT F E L wi hty hn hf (g := mkF m pc Ls (v :: .ref a :: rest)) rfl rfl (hb hby hd)
  exact Go.of st' (k T' h' X' e' W')
theorem g_new (X : Stand p l e R s m args below meth c T locs cells slots) (hx : p.tables.exec = Jvm.exec) (hby : c.code = bc) (hZ : Z.Warmed39 s.vm) {own : String} (hown : s.vm.findClass own = some m.cls) (eT : T.heap = h) {i n : Nat} {C : String} (w : (Jvm.Cond.classLink own i C).before a0 Z = true) (wi : (Jvm.Cond.instantiable C n).before a0 Z = true) (wz : (Jvm.Cond.initialized C).before a0 Z = true) (hd : decode bc pc = .ok (.new i, 3)) (hp : pc + 3 = pc') (hc : cells + 1 ≤ R.cells) (hl : slots + n ≤ R.slots) (k : ∀ T' h' b, b = h.size → Stand p l e R s m args below meth c T' locs (cells + 1) (slots + n) → T'.heap = h' → Ext h h' → Exa Z h' b C → (∀ {O nm d : String} {ty : FieldType}, Laid Z a0 C O nm d → parseFieldDescriptor d = some ty → Fld Z h' b O nm d (defaultValue ty)) → Go p e below EF Q m T' pc' Ls (.ref b :: st)) : Go p e below EF Q m T pc Ls st := by
  subst hp
  obtain ⟨T', h', X', e', E', A', D', -, st'⟩ := newO X hx hZ hown w wi wz eT (g := mkF m pc Ls st) rfl (hb hby hd) hc hl
  exact Go.of st' (k T' h' _ rfl X' e' E' A' D')
theorem g_initO (X : Stand p l e R s m args below meth c T locs cells slots) (hx : p.tables.exec = Jvm.exec) (hby : c.code = bc) (hZ : Z.Warmed39 s.vm) {own : String} (hown : s.vm.findClass own = some m.cls) (eT : T.heap = h) {i ML : Nat} {a : Addr} (w1 : (Jvm.Cond.methodLink own i Lib.objectInit).before a0 Z = true) (w2 : (Jvm.Cond.instanceMethod Lib.objectInit).before a0 Z = true) (w3 : (Jvm.Cond.code Lib.objectInit ⟨#[0xb1]⟩ 1 none).before a0 Z = true) (hml : c.maxLocals = ML) (hls : Ls.size = ML) (hd : decode bc pc = .ok (.invokespecial i, 3)) (hp : pc + 3 = pc') (hf : 1 ≤ R.frames) (hl : (rest.map fun v => v.category).sum + 12 ≤ R.locals) (k : ∀ T', Stand p l e R s m args below meth c T' locs cells slots → T'.heap = h → Go p e below EF Q m T' pc' Ls rest) : Go p e below EF Q m T pc Ls (.ref a :: rest) := by
  subst hp
  obtain ⟨T', X', e', st'⟩ := initO X hx hZ hown w1 w2 w3 eT (g := mkF m pc Ls (.ref a :: rest)) rfl (by rw [hml]; exact hls) rfl (hb hby hd) hf (W := (rest.map fun v => v.category).sum) (by show 2 * 0 + _ ≤ _; omega) hl
  exact Go.of st' (k T' X' e')
theorem g_newP (X : Stand p l e R s m args below meth c T locs cells slots) (hx : p.tables.exec = Jvm.exec) (hby : c.code = bc) (hZ : Z.Warmed39 s.vm) (eT : T.heap = h) {aty : ArrayType} {n : Int32} (w : (Jvm.Cond.arrayClass (newarray.typeOf aty)).before a0 Z = true) (hd : decode bc pc = .ok (.newarray aty, 2)) (hp : pc + 2 = pc') (hn : ¬ n < 0) {cap : Nat} (hcap : n.toNatClampNeg ≤ cap) (hbig : cap * 8 ≤ 536870912) (hc : cells + 1 ≤ R.cells) (hl : slots + cap ≤ R.slots) (k : ∀ T' h' b cA, b = h.size → Stand p l e R s m args below meth c T' locs (cells + 1) (slots + cap) → T'.heap = h' → Ext h h' → Arv Z h' b cA (newarray.typeOf aty) n [] (defaultValue (newarray.typeOf aty)) → Go p e below EF Q m T' pc' Ls (.ref b :: rest)) : Go p e below EF Q m T pc Ls (.int n :: rest) := by
  subst hp
  obtain ⟨T', h', cA, X', e', E', A', st'⟩ := newP X hx hZ w eT (g := mkF m pc Ls (.int n :: rest)) rfl (hb hby hd) rfl hn hcap hbig hc hl
  exact Go.of st' (k T' h' _ cA rfl X' e' E' (Arv.new A' hn))
theorem g_bastore (X : Stand p l e R s m args below meth c T locs cells slots) (hx : p.tables.exec = Jvm.exec) (hby : c.code = bc) (hZ : Z.Warmed39 s.vm) (eT : T.heap = h) {a : Addr} {cl : Cell} (A : Arr Z h a cl .byte) {j : Int32} {x : Int32} (hj : ¬ (j < 0 ∨ cl.slots.size ≤ j.toNatClampNeg)) (hd : decode bc pc = .ok (.bastore, 1)) (hp : pc + 1 = pc') (k : ∀ T' h', Stand p l e R s m args below meth c T' (locs ++ [⟨a, j.toNatClampNeg⟩]) cells slots → T'.heap = h' → Wr h h' a j.toNatClampNeg (.int (nar .byte x)) → Go p e below EF Q m T' pc' Ls rest) : Go p e below EF Q m T pc Ls (.int x :: .int j :: .ref a :: rest) := by
  subst hp
  obtain ⟨T', h', X', e', W', st'⟩ := stB X hx hZ eT A (j := j) hj (g := mkF m pc Ls (.int x :: .int j :: .ref a :: rest)) rfl rfl (hb hby hd)
  exact Go.of st' (k T' h' X' e' W')
theorem g_castore (X : Stand p l e R s m args below meth c T locs cells slots) (hx : p.tables.exec = Jvm.exec) (hby : c.code = bc) (hZ : Z.Warmed39 s.vm) (eT : T.heap = h) {a : Addr} {cl : Cell} (A : Arr Z h a cl .char) {j : Int32} {x : Int32} (hj : ¬ (j < 0 ∨ cl.slots.size ≤ j.toNatClampNeg)) (hd : decode bc pc = .ok (.castore, 1)) (hp : pc + 1 = pc') (k : ∀ T' h', Stand p l e R s m args below meth c T' (locs ++ [⟨a, j.toNatClampNeg⟩]) cells slots → T'.heap = h' → Wr h h' a j.toNatClampNeg (.int (nar .char x)) → Go p e below EF Q m T' pc' Ls rest) : Go p e below EF Q m T pc Ls (.int x :: .int j :: .ref a :: rest) := by
  subst hp
  obtain ⟨T', h', X', e', W', st'⟩ := stC X hx hZ eT A (j := j) hj (g := mkF m pc Ls (.int x :: .int j :: .ref a :: rest)) rfl rfl (hb hby hd)
  exact Go.of st' (k T' h' X' e' W')
theorem g_caload (X : Stand p l e R s m args below meth c T locs cells slots) (hx : p.tables.exec = Jvm.exec) (hby : c.code = bc) (hZ : Z.Warmed39 s.vm) (eT : T.heap = h) {a : Addr} {cl : Cell} (A : Arr Z h a cl .char) {j : Int32} {v : Value} (hj : ¬ (j < 0 ∨ cl.slots.size ≤ j.toNatClampNeg)) (hv : cl.slots[j.toNatClampNeg]? = some v) (hd : decode bc pc = .ok (.caload, 1)) (hp : pc + 1 = pc') (k : Go p e below EF Q m T pc' Ls (v :: rest)) : Go p e below EF Q m T pc Ls (.int j :: .ref a :: rest) := by
  subst hp
  exact Go.of (fun _ q => X.caload hx (j := j) (v := v) (by rw [eT]; exact A.1) (State.isArrayOf_alike hZ.alike A.2.1) A.2.2 hj hv (g := mkF m pc Ls (.int j :: .ref a :: rest)) rfl rfl (hb hby hd) _ q) k
theorem g_arraylength (X : Stand p l e R s m args below meth c T locs cells slots) (hx : p.tables.exec = Jvm.exec) (hby : c.code = bc) (hZ : Z.Warmed39 s.vm) (eT : T.heap = h) {a : Addr} {cl : Cell} {ty : FieldType} (A : Arr Z h a cl ty) {n : Int32} (S : cl.slots.size = n.toNatClampNeg) (hn : ¬ n < 0) (hd : decode bc pc = .ok (.arraylength, 1)) (hp : pc + 1 = pc') (k : Go p e below EF Q m T pc' Ls (.int n :: rest)) : Go p e below EF Q m T pc Ls (.ref a :: rest) := by
  subst hp
  exact Go.of (fun _ q => X.arraylength hx (by rw [eT]; exact A.1) (State.isArrayOf_alike hZ.alike A.2.1) (g := mkF m pc Ls (.ref a :: rest)) rfl rfl (hb hby hd) _ (by rw [len_of S hn]; exact q)) k
/-- in heap h the array at a (of kind ty) has n places; place j holds f j -/
def Ara (Z : State) (h : Heap) (a : Addr) (ty : FieldType) (n : Nat) (f : Nat → Value) : Prop := ∃ cl : Cell, Arr Z h a cl ty ∧ cl.slots.size = n ∧ n < 2147483648 ∧ ∀ j, j < n → cl.slots[j]? = some (f j)
def own_up (f : Nat → Value) (k : Nat) (v : Value) : Nat → Value := fun j => if j = k then v else f j
theorem own_up_self (f : Nat → Value) (k : Nat) (v : Value) : own_up f k v k = v := if_pos rfl
theorem own_up_ne (f : Nat → Value) {k j : Nat} (v : Value) (q : j ≠ k) : own_up f k v j = f j := if_neg q
theorem Ara.lt {h : Heap} {a : Addr} {ty : FieldType} {n : Nat} {f : Nat → Value} (V : Ara Z h a ty n f) : a < h.size := by obtain ⟨_, A, _⟩ := V; exact A.lt
theorem Ara.ext {h h' : Heap} {a : Addr} {ty : FieldType} {n : Nat} {f : Nat → Value} (V : Ara Z h a ty n f) (E : Ext h h') : Ara Z h' a ty n f := by obtain ⟨c, A, r⟩ := V; exact ⟨c, A.ext E, r⟩
theorem Ara.other {h h' : Heap} {a b : Addr} {ty : FieldType} {n : Nat} {f : Nat → Value} {sl : Nat} {v : Value} (V : Ara Z h a ty n f) (W : Wr h h' b sl v) (q : a ≠ b) : Ara Z h' a ty n f := by obtain ⟨c, A, r⟩ := V; exact ⟨c, A.other W q, r⟩
theorem Ara.keep {h h' : Heap} {a : Addr} {ty : FieldType} {n : Nat} {f : Nat → Value} {ws : List Addr} (V : Ara Z h a ty n f) (K : Keep h h' ws) (q : a ∉ ws) : Ara Z h' a ty n f := by obtain ⟨c, A, r⟩ := V; exact ⟨c, ⟨K.2.1 a c A.1 q, A.2⟩, r⟩
theorem Ara.set {h h' : Heap} {a : Addr} {ty : FieldType} {n k : Nat} {f : Nat → Value} {v : Value} (V : Ara Z h a ty n f) (W : Wr h h' a k v) : Ara Z h' a ty n (own_up f k v) := by
  obtain ⟨c, A, hs, hn, hf⟩ := V
  refine ⟨_, A.same W, by rw [sz_set]; exact hs, hn, fun j hj => ?_⟩
  by_cases q : k = j
  · subst q; rw [own_up_self]; simp [Cell.setSlot, hs, hj]
  · rw [own_up_ne f v (Ne.symm q), ← hf j hj]; exact Array.getElem?_setIfInBounds_ne q
theorem Ara.eq {h : Heap} {a : Addr} {ty : FieldType} {n : Nat} {f f' : Nat → Value} (V : Ara Z h a ty n f) (q : ∀ j, j < n → f j = f' j) : Ara Z h a ty n f' := by obtain ⟨c, A, hs, hn, hf⟩ := V; exact ⟨c, A, hs, hn, fun j hj => by rw [← q j hj]; exact hf j hj⟩
def own_ui (g : Nat → Int32) (k : Nat) (x : Int32) : Nat → Int32 := fun j => if j = k then x else g j
theorem Ara.setI {h h' : Heap} {a : Addr} {ty : FieldType} {n k : Nat} {g : Nat → Int32} {x : Int32} (V : Ara Z h a ty n (fun j => .int (g j))) (W : Wr h h' a k (.int x)) : Ara Z h' a ty n (fun j => .int (own_ui g k x j)) := (V.set W).eq fun j _ => by
  by_cases q : j = k <;> simp [own_up, own_ui, q]
theorem own_in {cl : Cell} {j : Int32} {n : Nat} (hs : cl.slots.size = n) (h0 : 0 ≤ j.toInt) (h1 : j.toInt < n) : ¬ (j < 0 ∨ cl.slots.size ≤ j.toNatClampNeg) := by
  rw [Int32.lt_iff_toInt_lt, hs]
  show ¬ (j.toInt < 0 ∨ n ≤ j.toInt.toNat)
  omega
theorem g_newA (X : Stand p l e R s m args below meth c T locs cells slots) (hx : p.tables.exec = Jvm.exec) (hby : c.code = bc) (hZ : Z.Warmed39 s.vm) (eT : T.heap = h) {aty : ArrayType} {n : Int32} {N : Nat} (w : (Jvm.Cond.arrayClass (newarray.typeOf aty)).before a0 Z = true) (hd : decode bc pc = .ok (.newarray aty, 2)) (hp : pc + 2 = pc') (hn : n.toInt = N) {cap : Nat} (hcap : N ≤ cap) (hbig : cap * 8 ≤ 536870912) (hc : cells + 1 ≤ R.cells) (hl : slots + cap ≤ R.slots) (k : ∀ T' h' b, b = h.size → Stand p l e R s m args below meth c T' locs (cells + 1) (slots + cap) → T'.heap = h' → Ext h h' → Ara Z h' b (newarray.typeOf aty) N (fun _ => defaultValue (newarray.typeOf aty)) → Go p e below EF Q m T' pc' Ls (.ref b :: rest)) : Go p e below EF Q m T pc Ls (.int n :: rest) := by
  have h1 : n.toNatClampNeg = N := by show n.toInt.toNat = N; omega
  have h2 : ¬ n < 0 := by rw [Int32.lt_iff_toInt_lt]; show ¬ n.toInt < 0; omega
  have h3 := rng32 n
  refine g_newP X hx hby hZ eT w hd hp h2 (cap := cap) (by omega) hbig hc hl (fun T' h' b cA hb' X' e' E' V => k T' h' b hb' X' e' E' ?_)
  obtain ⟨cl, A, -, hs, -, hH, -⟩ := V
  exact ⟨cl, A, by rw [hs, h1], by omega, fun j hj => by rw [hH j (by rw [hs, h1]; exact hj)]; simp⟩
theorem a_bastore (X : Stand p l e R s m args below meth c T locs cells slots) (hx : p.tables.exec = Jvm.exec) (hby : c.code = bc) (hZ : Z.Warmed39 s.vm) (eT : T.heap = h) {a : Addr} {n : Nat} {f : Nat → Value} (A : Ara Z h a .byte n f) {j : Int32} {x : Int32} (h0 : 0 ≤ j.toInt) (h1 : j.toInt < n) (hd : decode bc pc = .ok (.bastore, 1)) (hp : pc + 1 = pc') (k : ∀ T' h', Stand p l e R s m args below meth c T' (locs ++ [⟨a, j.toInt.toNat⟩]) cells slots → T'.heap = h' → Wr h h' a j.toInt.toNat (.int (nar .byte x)) → Go p e below EF Q m T' pc' Ls rest) : Go p e below EF Q m T pc Ls (.int x :: .int j :: .ref a :: rest) := by
  obtain ⟨cl, A, hs, hn, hf⟩ := A
  exact g_bastore X hx hby hZ eT A (own_in hs h0 h1) hd hp k
theorem a_castore (X : Stand p l e R s m args below meth c T locs cells slots) (hx : p.tables.exec = Jvm.exec) (hby : c.code = bc) (hZ : Z.Warmed39 s.vm) (eT : T.heap = h) {a : Addr} {n : Nat} {f : Nat → Value} (A : Ara Z h a .char n f) {j : Int32} {x : Int32} (h0 : 0 ≤ j.toInt) (h1 : j.toInt < n) (hd : decode bc pc = .ok (.castore, 1)) (hp : pc + 1 = pc') (k : ∀ T' h', Stand p l e R s m args below meth c T' (locs ++ [⟨a, j.toInt.toNat⟩]) cells slots → T'.heap = h' → Wr h h' a j.toInt.toNat (.int (nar .char x)) → Go p e below EF Q m T' pc' Ls rest) : Go p e below EF Q m T pc Ls (.int x :: .int j :: .ref a :: rest) := by
  obtain ⟨cl, A, hs, hn, hf⟩ := A
  exact g_castore X hx hby hZ eT A (own_in hs h0 h1) hd hp k
theorem a_caload (X : Stand p l e R s m args below meth c T locs cells slots) (hx : p.tables.exec = Jvm.exec) (hby : c.code = bc) (hZ : Z.Warmed39 s.vm) (eT : T.heap = h) {a : Addr} {n : Nat} {f : Nat → Value} (A : Ara Z h a .char n f) {j : Int32} {v : Value} (h0 : 0 ≤ j.toInt) (h1 : j.toInt < n) (hv : f j.toInt.toNat = v) (hd : decode bc pc = .ok (.caload, 1)) (hp : pc + 1 = pc') (k : Go p e below EF Q m T pc' Ls (v :: rest)) : Go p e below EF Q m T pc Ls (.int j :: .ref a :: rest) := by
  obtain ⟨cl, A, hs, hn, hf⟩ := A
  exact g_caload X hx hby hZ eT A (own_in hs h0 h1) (by show cl.slots[j.toInt.toNat]? = some v; rw [hf _ (by omega), hv]) hd hp k
theorem a_arraylength (X : Stand p l e R s m args below meth c T locs cells slots) (hx : p.tables.exec = Jvm.exec) (hby : c.code = bc) (hZ : Z.Warmed39 s.vm) (eT : T.heap = h) {a : Addr} {n : Nat} {f : Nat → Value} {ty : FieldType} (A : Ara Z h a ty n f) {N : Int32} (hN : N.toInt = n) (hd : decode bc pc = .ok (.arraylength, 1)) (hp : pc + 1 = pc') (k : Go p e below EF Q m T pc' Ls (.int N :: rest)) : Go p e below EF Q m T pc Ls (.ref a :: rest) := by
  obtain ⟨cl, A, hs, hn, hf⟩ := A
  exact g_arraylength X hx hby hZ eT A (n := N) (by rw [hs]; show n = N.toInt.toNat; omega) (by rw [Int32.lt_iff_toInt_lt]; show ¬ N.toInt < 0; omega) hd hp k
/-- the array at a takes arrays of ints -/
def Ovi (Z : State) (h : Heap) (a : Addr) : Prop := ∃ cl : Cell, h[a]? = some cl ∧ OvrA Z cl.cls .int "[I"
theorem Ovi.ext {h h' : Heap} {a : Addr} (V : Ovi Z h a) (E : Ext h h') : Ovi Z h' a := by obtain ⟨c, q, r⟩ := V; exact ⟨c, E.2 _ _ q, r⟩
theorem Ovi.wr {h h' : Heap} {a b : Addr} {sl : Nat} {v : Value} (V : Ovi Z h a) (W : Wr h h' b sl v) : Ovi Z h' a := by obtain ⟨c, q, r⟩ := V; obtain ⟨c', q', e, -⟩ := wr_at W q; exact ⟨c', q', e ▸ r⟩
theorem Ovi.keep {h h' : Heap} {a : Addr} {ws : List Addr} (V : Ovi Z h a) (K : Keep h h' ws) : Ovi Z h' a := by obtain ⟨c, q, r⟩ := V; obtain ⟨c', q', e, -⟩ := K.2.2 _ _ q; exact ⟨c', q', e ▸ r⟩
theorem g_static (X : Stand p l e R s m args below meth c T locs cells slots) (hx : p.tables.exec = Jvm.exec) (hby : c.code = bc) (hZ : Z.Warmed39 s.vm) {own : String} (hown : s.vm.findClass own = some m.cls) {i ML : Nat} {y : MethodName} {bytes : ByteArray} {maxL : Nat} {ret : Option FieldType} {rm : Room} {as' : Array Value} {QC : Option Value → Heap → List Loc → Prop} (hml : c.maxLocals = ML) (hls : Ls.size = ML) (w1 : (Jvm.Cond.methodLink own i y).before a0 Z = true) (w2 : (Jvm.Cond.static y).before a0 Z = true) (w3 : (Jvm.Cond.initialized y.cls).before a0 Z = true) (w4 : (Jvm.Cond.code y bytes maxL ret).before a0 Z = true) (hy : y.cls ≠ "java/lang/invoke/MethodHandle" ∧ y.cls ≠ "java/lang/invoke/VarHandle") (eT : T.heap = h) (M : Ct l Z y bytes maxL ret rm as' h QC) {ps : List FieldType} {r : Option FieldType} (pd : parseMethodDescriptor y.desc = some ⟨ps, r⟩) {argsL : List Value} (hl : argsL.length = ps.length) (has : argsL.toArray = as') (hst : st = argsL.reverse ++ rest) (hd : decode bc pc = .ok (.invokestatic i, 3)) (hp : pc + 3 = pc') (hf : rm.frames + 1 ≤ R.frames) (hlo : (rest.map fun v => v.category).sum + (maxL + 11) + rm.locals ≤ R.locals) (hc : cells + rm.cells ≤ R.cells) (hs : slots + rm.slots ≤ R.slots)
    (k : ∀ (T' : State) (v : Option Value) (L : List Loc), Stand p l e R s m args below meth c T' (locs ++ L) (cells + rm.cells) (slots + rm.slots) → QC v T'.heap L → Go p e below EF Q m T' pc' Ls (v.toList ++ rest)) : Go p e below EF Q m T pc Ls st := by
  subst hp has hst
  obtain ⟨v, vm₁, ⟨U, L', c', s'⟩, -, X', ⟨L, hQ, l1, l2, l3⟩, st⟩ := Jvm.LawKit.callS X hx (y := y) hown (mvT hZ w1) (mvT hZ w2) (mvT hZ w3) (mvT hZ w4) hy (backOf (W := (rest.map fun v => v.category).sum) M hZ w4 w3 hf hlo) (g := mkF m pc Ls (argsL.reverse ++ rest)) rfl (by rw [hml]; exact hls) (argsL := argsL) (rest := rest) (lenOf pd hl) rfl (by show 2 * 0 + _ ≤ _; omega) (hb hby hd) (fun _ _ => ⟨rfl, eT, hc, hs⟩)
  dsimp only at X' l1 l2 l3 st hQ
  subst l1 l2 l3
  exact Go.of st (k _ _ _ X' hQ)
theorem g_special (X : Stand p l e R s m args below meth c T locs cells slots) (hx : p.tables.exec = Jvm.exec) (hby : c.code = bc) (hZ : Z.Warmed39 s.vm) {own : String} (hown : s.vm.findClass own = some m.cls) {i ML : Nat} {y : MethodName} {bytes : ByteArray} {maxL : Nat} {ret : Option FieldType} {rm : Room} {as' : Array Value} {QC : Option Value → Heap → List Loc → Prop} (hy1 : y.name = "<init>") (hml : c.maxLocals = ML) (hls : Ls.size = ML) (w1 : (Jvm.Cond.methodLink own i y).before a0 Z = true) (w2 : (Jvm.Cond.instanceMethod y).before a0 Z = true) (w3 : (Jvm.Cond.initialized y.cls).before a0 Z = true) (hrt : ret = none) (w4 : (Jvm.Cond.code y bytes maxL ret).before a0 Z = true) (hy : y.cls ≠ "java/lang/invoke/MethodHandle" ∧ y.cls ≠ "java/lang/invoke/VarHandle") (eT : T.heap = h) (M : Ct l Z y bytes maxL ret rm as' h QC) {ps : List FieldType} {r : Option FieldType} (pd : parseMethodDescriptor y.desc = some ⟨ps, r⟩) {a : Addr} {argsL : List Value} (hl : argsL.length = ps.length) (has : (.ref a :: argsL).toArray = as') (hst : st = argsL.reverse ++ .ref a :: rest) (hd : decode bc pc = .ok (.invokespecial i, 3)) (hp : pc + 3 = pc') (hf : rm.frames + 1 ≤ R.frames) (hlo : (rest.map fun v => v.category).sum + (maxL + 11) + rm.locals ≤ R.locals) (hc : cells + rm.cells ≤ R.cells) (hs : slots + rm.slots ≤ R.slots)
    (k : ∀ (T' : State) (v : Option Value) (L : List Loc), Stand p l e R s m args below meth c T' (locs ++ L) (cells + rm.cells) (slots + rm.slots) → QC v T'.heap L → Go p e below EF Q m T' pc' Ls (v.toList ++ rest)) : Go p e below EF Q m T pc Ls st := by
  subst hp has hst hrt
  obtain ⟨v, vm₁, ⟨U, L', c', s'⟩, -, X', ⟨L, hQ, l1, l2, l3⟩, st⟩ := X.specialBack hx (y := y) hy1 hown (mvT hZ w1) (mvT hZ w2) (mvT hZ w4) hy (backOf (W := (rest.map fun v => v.category).sum) M hZ w4 w3 hf hlo) (g := mkF m pc Ls (argsL.reverse ++ .ref a :: rest)) rfl (by rw [hml]; exact hls) (Steps.refl _) (a := a) (argsL := argsL) (rest := rest) (lenOf pd hl) rfl (by show 2 * 0 + _ ≤ _; omega) (hb hby hd) (fun _ _ => ⟨rfl, eT, hc, hs⟩)
  dsimp only at X' l1 l2 l3 st hQ
  subst l1 l2 l3
  exact Go.of (fun _ q => st.trans q) (k _ _ _ X' hQ)
theorem g_virtual (X : Stand p l e R s m args below meth c T locs cells slots) (hx : p.tables.exec = Jvm.exec) (hby : c.code = bc) (hZ : Z.Warmed39 s.vm) {own : String} (hown : s.vm.findClass own = some m.cls) {i ML : Nat} {y : MethodName} {bytes : ByteArray} {maxL : Nat} {ret : Option FieldType} {rm : Room} {as' : Array Value} {QC : Option Value → Heap → List Loc → Prop} (hml : c.maxLocals = ML) (hls : Ls.size = ML) {C : String} (w1 : (Jvm.Cond.methodLink own i y).before a0 Z = true) (w2 : (Jvm.Cond.declares y).before a0 Z = true) (w5 : (Jvm.Cond.selects C y y).before a0 Z = true) (w6 : (Jvm.Cond.instanceMethod y).before a0 Z = true) (w3 : (Jvm.Cond.initialized y.cls).before a0 Z = true) (w4 : (Jvm.Cond.code y bytes maxL ret).before a0 Z = true) (hy : y.cls ≠ "java/lang/invoke/MethodHandle" ∧ y.cls ≠ "java/lang/invoke/VarHandle") (eT : T.heap = h) (M : Ct l Z y bytes maxL ret rm as' h QC) {ps : List FieldType} {r : Option FieldType} (pd : parseMethodDescriptor y.desc = some ⟨ps, r⟩) {a : Addr} (E : Exa Z h a C) {argsL : List Value} (hl : argsL.length = ps.length) (has : (.ref a :: argsL).toArray = as') (hst : st = argsL.reverse ++ .ref a :: rest) (hd : decode bc pc = .ok (.invokevirtual i, 3)) (hp : pc + 3 = pc') (hf : rm.frames + 1 ≤ R.frames) (hlo : (rest.map fun v => v.category).sum + (maxL + 11) + rm.locals ≤ R.locals) (hc : cells + rm.cells ≤ R.cells) (hs : slots + rm.slots ≤ R.slots)
    (k : ∀ (T' : State) (v : Option Value) (L : List Loc), Stand p l e R s m args below meth c T' (locs ++ L) (cells + rm.cells) (slots + rm.slots) → QC v T'.heap L → Go p e below EF Q m T' pc' Ls (v.toList ++ rest)) : Go p e below EF Q m T pc Ls st := by
  subst hp has hst
  obtain ⟨cB, kB, qa, qb, qc⟩ := isOf hZ eT E
  obtain ⟨v, vm₁, ⟨U, L', c', s'⟩, -, X', ⟨L, hQ, l1, l2, l3⟩, st⟩ := X.virtualBack hx (y := y) (z := y) hown (mvT hZ w1) (mvT hZ w2) (notFace_of_selects (args := #[]) (mvT hZ w5)) (mvT hZ w5) (mvT hZ w6) hy (backOf (W := (rest.map fun v => v.category).sum) M hZ w4 w3 hf hlo) qa qc (g := mkF m pc Ls (argsL.reverse ++ .ref a :: rest)) rfl (by rw [hml]; exact hls) (Steps.refl _) (argsL := argsL) (rest := rest) (lenOf pd hl) rfl (by show 2 * 0 + _ ≤ _; omega) (hb hby hd) (fun _ _ => ⟨rfl, eT, hc, hs⟩)
  dsimp only at X' l1 l2 l3 st hQ
  subst l1 l2 l3
  exact Go.of (fun _ q => st.trans q) (k _ _ _ X' hQ)
theorem g_ldcS (X : Stand p l e R s m args below meth c T locs cells slots) (hx : p.tables.exec = Jvm.exec) (hby : c.code = bc) (hZ : Z.Warmed39 s.vm) {own : String} (hown : s.vm.findClass own = some m.cls) (eT : T.heap = h) (hW : WOk s EF mc ms kk) (hk : kk ≤ h.size) {text : String} {i : Nat} (w : (Jvm.Cond.stringLink own i text).before a0 Z = true) (wS : ∀ a ∈ Bundle.stringAtoms, a.before a0 Z = true) (hd : decode bc pc = .ok (.ldc i, 2)) (hp : pc + 2 = pc') {n : Nat} (hn : 4 * text.toList.length ≤ n) (hbig : n ≤ 536870912) (hc : cells + 2 ≤ R.cells) (hl : slots + (n + 4) ≤ R.slots) (k : ∀ (s' T' : State) (h' : Heap) (a : Addr) (k1 : Nat), Stand p l e R s' m args below meth c T' locs (cells + 2) (slots + (n + 4)) → Z.Warmed39 s'.vm → s'.vm.findClass own = some m.cls → WOk s' EF mc ms k1 → k1 ≤ h'.size → T'.heap = h' → Ext h h' → Go p e below EF Q m T' pc' Ls (.ref a :: st)) : Go p e below EF Q m T pc Ls st := by
  subst hp eT
  obtain ⟨a, T', X', hS', -, hb', -, st'⟩ := X.ldcStringCold hx (own := own) hown (mvS (s := s) (vm0 := s.vm) hZ w) (fun d hd => by
    have q := wS d hd
    simp only [Bundle.stringAtoms, List.mem_cons, List.not_mem_nil, or_false] at hd
    rcases hd with rfl | rfl | rfl | rfl | rfl | rfl | rfl
    · exact mv hZ q
    · exact mv hZ q
    · exact mvA hZ q
    · exact mv hZ q
    · exact mv hZ q
    · exact mv hZ q
    · exact mv hZ q) (g := mkF m pc Ls st) rfl (hb hby hd) hn hbig hc hl
  have E := ext_of hb'
  exact Go.of st' (k _ T' _ a _ X' (State.Warmed39.trans (t := s) hZ hS'.1) (by rw [show (s.setVm T'.vm).vm = T'.vm from rfl, hS'.1.alike.findClass]; exact hown) (hW.step hS' (Nat.le_trans hk E.1)) (Nat.le_refl _) rfl E)
theorem g_specialS (X : Stand p l e R s m args below meth c T locs cells slots) (hx : p.tables.exec = Jvm.exec) (hby : c.code = bc) (hZ : Z.Warmed39 s.vm) {own : String} (hown : s.vm.findClass own = some m.cls) {i ML : Nat} {y : MethodName} {bytes : ByteArray} {maxL : Nat} {ret : Option FieldType} {rm : Room} {as' : Array Value} {QC : Option Value → Heap → List Loc → Prop} (hy1 : y.name = "<init>") (hml : c.maxLocals = ML) (hls : Ls.size = ML) (w1 : (Jvm.Cond.methodLink own i y).before a0 Z = true) (w2 : (Jvm.Cond.instanceMethod y).before a0 Z = true) (w3 : (Jvm.Cond.initialized y.cls).before a0 Z = true) (hrt : ret = none) (w4 : (Jvm.Cond.code y bytes maxL ret).before a0 Z = true) (hy : y.cls ≠ "java/lang/invoke/MethodHandle" ∧ y.cls ≠ "java/lang/invoke/VarHandle") (eT : T.heap = h) (hW : WOk s EF mc ms kk) (hk : kk ≤ h.size) (M : CtW l Z y bytes maxL ret rm as' h QC) {ps : List FieldType} {r : Option FieldType} (pd : parseMethodDescriptor y.desc = some ⟨ps, r⟩) {a : Addr} {argsL : List Value} (hl : argsL.length = ps.length) (has : (.ref a :: argsL).toArray = as') (hst : st = argsL.reverse ++ .ref a :: rest) (hd : decode bc pc = .ok (.invokespecial i, 3)) (hp : pc + 3 = pc') (hf : rm.frames + 1 ≤ R.frames) (hlo : (rest.map fun v => v.category).sum + (maxL + 11) + rm.locals ≤ R.locals) (hc : cells + rm.cells ≤ R.cells) (hs : slots + rm.slots ≤ R.slots)
    (k : ∀ (s' T' : State) (v : Option Value) (L : List Loc), Stand p l e R s' m args below meth c T' (locs ++ L) (cells + rm.cells) (slots + rm.slots) → Z.Warmed39 s'.vm → s'.vm.findClass own = some m.cls → WOk s' EF mc ms T'.heap.size → h.size ≤ T'.heap.size → QC v T'.heap L → Go p e below EF Q m T' pc' Ls (v.toList ++ rest)) : Go p e below EF Q m T pc Ls st := by
  subst hp has hst hrt
  obtain ⟨v, vm₁, ⟨U, L', c', s'⟩, -, X', hS', hgr, ⟨L, hQ, l1, l2, l3⟩, st⟩ := X.specialBackS hx (y := y) hy1 hown (mvT hZ w1) (mvT hZ w2) (mvT hZ w4) hy (backOfS (W := (rest.map fun v => v.category).sum) M hZ w4 w3 hf hlo) (g := mkF m pc Ls (argsL.reverse ++ .ref a :: rest)) rfl (by rw [hml]; exact hls) (Steps.refl _) (a := a) (argsL := argsL) (rest := rest) (lenOf pd hl) rfl (by show 2 * 0 + _ ≤ _; omega) (hb hby hd) (fun _ _ => ⟨rfl, eT, hc, hs⟩)
  dsimp only at X' l1 l2 l3 st hQ hgr
  subst l1 l2 l3 eT
  exact Go.of (fun _ q => st.trans q) (k _ _ _ _ X' (State.Warmed39.trans (t := s) hZ hS'.1) (by rw [show (s.setVm U.vm).vm = U.vm from rfl, hS'.1.alike.findClass]; exact hown) (hW.step hS' (Nat.le_trans hk hgr)) hgr hQ)
def CtH (l : Launch) (Z : State) (EL : List (String × Nat)) (y : MethodName) (bytes : ByteArray) (maxL : Nat) (ret : Option FieldType) (rm : Room) (as' : Array Value) (h : Heap) (Q : Option Value → Heap → List Loc → Prop) : Prop :=
  MetFree l y (head1 [Jvm.Cond.code y bytes maxL ret] rm) (fun a U => a = as' ∧ Z.Warmed39 U.vm ∧ U.heap = h ∧ CHv Z EL U.vm h) (fun _ _ _ _ _ => True) (fun _ U o U' => ∃ v L, o = .returned v ∧ Q v U'.heap L ∧ ReturnedEndW U o U' L rm.cells rm.slots)
theorem own_backH {y : MethodName} {bytes : ByteArray} {maxL : Nat} {ret : Option FieldType} {rm : Room} {len W : Nat} {as' : Array Value} {EL : List (String × Nat)} (hM : CtH l Z EL y bytes maxL ret rm as' h Q) (hZ : Z.Warmed39 s.vm) (wc : (Jvm.Cond.code y bytes maxL ret).before a0 Z = true) (wz : (Jvm.Cond.initialized y.cls).before a0 Z = true) (hf : rm.frames + 1 ≤ R.frames) (hl : W + (maxL + 11) + rm.locals ≤ R.locals) (hEL : EW Z a0 EL) (H : CHv Z EL s.vm h) :
    BackS l R p e below s args y len W (fun A a => a = as' ∧ A.U.heap = h ∧ A.cells + rm.cells ≤ R.cells ∧ A.slots + rm.slots ≤ R.slots) (fun A _ v B => ∃ L, Q v B.U.heap L ∧ B.locs = A.locs ++ L ∧ B.cells = A.cells + rm.cells ∧ B.slots = A.slots + rm.slots) :=
  BackS.of_freeW (bytes := bytes) (maxL := maxL) (ret := ret) (E := fun _ _ o t L k n => k = rm.cells ∧ n = rm.slots ∧ ∃ v, o = .returned v ∧ Q v t.heap L) hM hf hl
    (fun m meth c A a Y hp => have hU : Z.Warmed39 A.U.vm := wtrans hZ Y.warmed
      ⟨by show (Jvm.Cond.and _ .tt).before a A.U = true; rw [Cond.before_and, mv hU wc]; rfl, mv hU wc, mv hU wz, hp.2.2.1, hp.2.2.2⟩)
    (fun m meth c A a g mk Y hp => ⟨hp.1, wtrans hZ Y.warmed, hp.2.1, (CHv.at (s := s) (vm0 := s.vm) Y hZ hEL H).1⟩) (fun _ _ _ _ _ _ _ _ _ => trivial)
    (fun _ _ _ _ ⟨v, L, h1, h2, h3⟩ => ⟨L, _, _, h3, rfl, rfl, v, h1, h2⟩)
    (fun m meth c A a g mk v t L k n Y hp _ _ ⟨e1, e2, v', e3, e4⟩ => by cases e3; subst e1 e2; exact ⟨L, e4, rfl, rfl, rfl⟩)
theorem own_metH {y : MethodName} {bytes : ByteArray} {maxL : Nat} {ret : Option FieldType} {ws : List Jvm.Cond} {rm : Room} {as' : Array Value} {EL : List (String × Nat)}
    (hpl : plainFor y = true) (hef : ∀ m, entryFrame m as' maxL = mkF m 0 Ls [])
    (body : ∀ (p : Program) (e : Env) (s : State) (m : MethodId) (below : List Frame) (meth : Method) (c : Code) (T : State) (EF : Outcome → State → List Loc → Prop), Stand p l e rm s m as' below meth c T [] 0 0 → p.tables.exec = Jvm.exec → c.code = bytes → c.maxLocals = maxL →
      s.vm.findClass y.cls = some m.cls → meth.name = y.name → meth.sig.returnType = ret → meth.locks = false → Z.Warmed39 s.vm → WOk s EF mc ms 0 → T.heap = h → CHv Z EL s.vm h → Go p e below EF Q m T 0 Ls []) :
    MetFree l y (head1 (Jvm.Cond.code y bytes maxL ret :: ws) rm) (fun a U => a = as' ∧ Z.Warmed39 U.vm ∧ U.heap = h ∧ CHv Z EL U.vm h) (fun _ _ _ _ _ => True) (fun _ U o U' => ∃ v L, o = .returned v ∧ Q v U'.heap L ∧ ReturnedEndW U o U' L mc ms) := by
  refine MetFree.of_bodySF hpl hisR ?_
  intro p e s m args below meth c s₁ Bd hml0 hP hK
  obtain ⟨rfl, hZ, hh, hC⟩ := hP
  obtain ⟨s₂, o, h1, h2, h3, v, L, h4, h5, h6⟩ := body p e s m below meth c s₁ (fun o U L => ReturnedEndW s o U L mc ms) (Stand.of_body Bd) Bd.exec Bd.bytes hml0 (findClass_of_methodNamed Bd.named) (name_of_methodNamed Bd.named Bd.method).1 Bd.returns Bd.notSynchronized hZ WOk.start (by rw [← hh, Bd.state]; rfl) hC
  exact ⟨s₂, o, castTop (hef m) h1, h2, h3, v, L, h4, h5, h6⟩
theorem g_specialH (X : Stand p l e R s m args below meth c T locs cells slots) (hx : p.tables.exec = Jvm.exec) (hby : c.code = bc) (hZ : Z.Warmed39 s.vm) {own : String} (hown : s.vm.findClass own = some m.cls) {EL : List (String × Nat)} {i ML : Nat} {y : MethodName} {bytes : ByteArray} {maxL : Nat} {ret : Option FieldType} {rm : Room} {as' : Array Value} {QC : Option Value → Heap → List Loc → Prop} (hy1 : y.name = "<init>") (hml : c.maxLocals = ML) (hls : Ls.size = ML) (w1 : (Jvm.Cond.methodLink own i y).before a0 Z = true) (w2 : (Jvm.Cond.instanceMethod y).before a0 Z = true) (w3 : (Jvm.Cond.initialized y.cls).before a0 Z = true) (hrt : ret = none) (w4 : (Jvm.Cond.code y bytes maxL ret).before a0 Z = true) (hy : y.cls ≠ "java/lang/invoke/MethodHandle" ∧ y.cls ≠ "java/lang/invoke/VarHandle") (eT : T.heap = h) (hW : WOk s EF mc ms kk) (hk : kk ≤ h.size) (M : CtH l Z EL y bytes maxL ret rm as' h QC) {ps : List FieldType} {r : Option FieldType} (pd : parseMethodDescriptor y.desc = some ⟨ps, r⟩) (hEL : EW Z a0 EL) (HC : CHv Z EL s.vm h) {a : Addr} {argsL : List Value} (hl : argsL.length = ps.length) (has : (.ref a :: argsL).toArray = as') (hst : st = argsL.reverse ++ .ref a :: rest) (hd : decode bc pc = .ok (.invokespecial i, 3)) (hp : pc + 3 = pc') (hf : rm.frames + 1 ≤ R.frames) (hlo : (rest.map fun v => v.category).sum + (maxL + 11) + rm.locals ≤ R.locals) (hc : cells + rm.cells ≤ R.cells) (hs : slots + rm.slots ≤ R.slots)
    (k : ∀ (s' T' : State) (v : Option Value) (L : List Loc), Stand p l e R s' m args below meth c T' (locs ++ L) (cells + rm.cells) (slots + rm.slots) → Z.Warmed39 s'.vm → s'.vm.findClass own = some m.cls → WOk s' EF mc ms T'.heap.size → h.size ≤ T'.heap.size → QC v T'.heap L → Go p e below EF Q m T' pc' Ls (v.toList ++ rest)) : Go p e below EF Q m T pc Ls st := by
  subst hp has hst hrt
  obtain ⟨v, vm₁, ⟨U, L', c', s'⟩, -, X', hS', hgr, ⟨L, hQ, l1, l2, l3⟩, st⟩ := X.specialBackS hx (y := y) hy1 hown (mvT hZ w1) (mvT hZ w2) (mvT hZ w4) hy (own_backH (W := (rest.map fun v => v.category).sum) M hZ w4 w3 hf hlo hEL HC) (g := mkF m pc Ls (argsL.reverse ++ .ref a :: rest)) rfl (by rw [hml]; exact hls) (Steps.refl _) (a := a) (argsL := argsL) (rest := rest) (lenOf pd hl) rfl (by show 2 * 0 + _ ≤ _; omega) (hb hby hd) (fun _ _ => ⟨rfl, eT, hc, hs⟩)
  dsimp only at X' l1 l2 l3 st hQ hgr
  subst l1 l2 l3 eT
  exact Go.of (fun _ q => st.trans q) (k _ _ _ _ X' (State.Warmed39.trans (t := s) hZ hS'.1) (by rw [show (s.setVm U.vm).vm = U.vm from rfl, hS'.1.alike.findClass]; exact hown) (hW.step hS' (Nat.le_trans hk hgr)) hgr hQ)
theorem g_ldcH (X : Stand p l e R s m args below meth c T locs cells slots) (hx : p.tables.exec = Jvm.exec) (hby : c.code = bc) (hZ : Z.Warmed39 s.vm) {own : String} (hown : s.vm.findClass own = some m.cls) {EL : List (String × Nat)} (eT : T.heap = h) (hW : WOk s EF mc ms kk) (hk : kk ≤ h.size) (hEL : EW Z a0 EL) (HC : CHv Z EL s.vm h) {text : String} {i : Nat} (hmem : (own, i) ∈ EL) (w : (Jvm.Cond.stringLink own i text).before a0 Z = true) (wS : ∀ a ∈ Bundle.stringAtoms, a.before a0 Z = true) {vs : List Value} {z : Int32} (ht : (∀ c ∈ text.toList, c.toNat < 256) ∧ text.toList.map (fun c => Value.int (Jvm.Lit.byteI c.toNat.toUInt16)) = vs) (hz : ¬ z < 0) (hlz : z.toNatClampNeg = vs.length) (hd : decode bc pc = .ok (.ldc i, 2)) (hp : pc + 2 = pc') {n : Nat} (hn : 4 * text.toList.length ≤ n) (hbig : n ≤ 536870912) (hc : cells + 2 ≤ R.cells) (hl : slots + (n + 4) ≤ R.slots) (k : ∀ (s' T' : State) (h' : Heap) (a b : Addr) (k1 : Nat), Stand p l e R s' m args below meth c T' locs (cells + 2) (slots + (n + 4)) → Z.Warmed39 s'.vm → s'.vm.findClass own = some m.cls → WOk s' EF mc ms k1 → k1 ≤ h'.size → T'.heap = h' → Ext h h' → Exa Z h' a "java/lang/String" → Fld Z h' a "java/lang/String" "coder" "B" (.int 0) → Fld Z h' a "java/lang/String" "value" "[B" (.ref b) → Jvm.RoadKit.Lit s' own i a → CHv Z EL s'.vm h' → Go p e below EF Q m T' pc' Ls (.ref a :: st)) : Go p e below EF Q m T pc Ls st := by
  subst hp eT
  obtain ⟨a, T', h', k1, b, kc, X', e', E', hS', hk', hZ', hown', A1, A2, A3, -, -, -, hC, hL', -, st'⟩ := ldcCH (s := s) (vm0 := s.vm) X hx hZ hown w wS rfl (State.WarmedH.since (State.WarmedH.refl s) kk) hk hEL hmem HC ht hz hlz (g := mkF m pc Ls st) rfl (hb hby hd) hn hbig hc hl
  subst e'
  exact Go.of st' (k _ T' _ a b _ X' hZ' hown' (hW.step (n1 := max k1 kk) ⟨hS'.1, hS'.2.mono (Nat.le_max_left _ _)⟩ (Nat.le_max_right _ _)) (Nat.max_le.mpr ⟨hk', Nat.le_trans hk E'.1⟩) rfl E' A1 A2 A3 hL' hC.1)
theorem g_ldcA (X : Stand p l e R s m args below meth c T locs cells slots) (hx : p.tables.exec = Jvm.exec) (hby : c.code = bc) (hZ : Z.Warmed39 s.vm) {own : String} (hown : s.vm.findClass own = some m.cls) {text : String} {i : Nat} {a : Addr} (w : (Jvm.Cond.stringLink own i text).before a0 Z = true) (L : Jvm.RoadKit.Lit s own i a) (hd : decode bc pc = .ok (.ldc i, 2)) (hp : pc + 2 = pc') (k : Go p e below EF Q m T pc' Ls (.ref a :: st)) : Go p e below EF Q m T pc Ls st := by
  subst hp
  exact Go.of (ldcAgain (s := s) (vm0 := s.vm) X hx hZ hown w L (g := mkF m pc Ls st) rfl (hb hby hd)) k
/-- of the object at a, exactly a C: every field that is laid and whose name isn't in ws holds its default -/
def Unw (Z : State) (a0 : Array Value) (h : Heap) (a : Addr) (C : String) (ws : List String) : Prop := ∀ (O nm d : String) (ty : FieldType), Laid Z a0 C O nm d → nm ∉ ws → parseFieldDescriptor d = some ty → Fld Z h a O nm d (defaultValue ty)
theorem Unw.ext {h' : Heap} {a : Addr} {C : String} {ws : List String} (U : Unw Z a0 h a C ws) (E : Ext h h') : Unw Z a0 h' a C ws := fun O nm d ty L q p => (U O nm d ty L q p).ext E
theorem Unw.other {h' : Heap} {a b : Addr} {C : String} {ws : List String} {sl : Nat} {v : Value} (U : Unw Z a0 h a C ws) (W : Wr h h' b sl v) (hne : a ≠ b) : Unw Z a0 h' a C ws := fun O nm d ty L q p => (U O nm d ty L q p).other W (Or.inl hne)
theorem Unw.keep {h' : Heap} {a : Addr} {C : String} {ws : List String} {zs : List Addr} (U : Unw Z a0 h a C ws) (K : Keep h h' zs) (hz : a ∉ zs) : Unw Z a0 h' a C ws := fun O nm d ty L q p => (U O nm d ty L q p).keep K hz
end OwnKit
section OwnLib
/-- b is 1 where P holds, 0 where it doesn't -/
def own_bool (b : Int32) (P : Prop) : Prop := (b = 1 ∧ P) ∨ (b = 0 ∧ ¬ P)
theorem own_bool_01 {b : Int32} {P : Prop} (h : own_bool b P) : b = 0 ∨ b = 1 := h.elim (fun q => Or.inr q.1) (fun q => Or.inl q.1)
theorem own_bool_iff {b : Int32} {P : Prop} (h : own_bool b P) : b = 1 ↔ P := h.elim (fun q => ⟨fun _ => q.2, fun _ => q.1⟩) (fun q => ⟨fun z => absurd (q.1.symm.trans z) (by decide), fun z => absurd z q.2⟩)
theorem own_bool_zero {b : Int32} {P : Prop} (h : own_bool b P) : b = 0 ↔ ¬ P := h.elim (fun q => ⟨fun z => absurd (q.1.symm.trans z) (by decide), fun z => absurd q.2 z⟩) (fun q => ⟨fun _ => q.2, fun _ => q.1⟩)
theorem own_bool_eq {a b : Int32} {P P' : Prop} (h : own_bool a P) (h' : own_bool b P') (i : P ↔ P') : a = b := by
  rcases h with ⟨rfl, q⟩ | ⟨rfl, q⟩ <;> rcases h' with ⟨rfl, q'⟩ | ⟨rfl, q'⟩ <;> first | rfl | exact absurd (i.mp q) q' | exact absurd (i.mpr q') q
theorem own_inc (i : Int32) (h : i.toInt < 2147483647) : (i + 1).toInt = i.toInt + 1 := by
  have a := c_iadd i 1
  have e : (1 : Int32).toInt = 1 := rfl
  rw [e] at a
  have b := rng32 i
  have b' := rng32 (i + 1)
  omega
theorem own_dec (i : Int32) (h : -2147483648 < i.toInt) : (i - 1).toInt = i.toInt - 1 := by
  have a := c_isub i 1
  have e : (1 : Int32).toInt = 1 := rfl
  rw [e] at a
  have b := rng32 i
  have b' := rng32 (i - 1)
  omega
theorem own_add (x y : Int32) (h1 : -2147483648 ≤ x.toInt + y.toInt) (h2 : x.toInt + y.toInt < 2147483648) : (x + y).toInt = x.toInt + y.toInt := by
  have a := c_iadd x y
  have b := rng32 (x + y)
  omega
theorem own_sub (x y : Int32) (h1 : -2147483648 ≤ x.toInt - y.toInt) (h2 : x.toInt - y.toInt < 2147483648) : (x - y).toInt = x.toInt - y.toInt := by
  have a := c_isub x y
  have b := rng32 (x - y)
  omega
/-- (u & 0x7fffffff) % n lies from 0 up to n - 1 -/
theorem own_modr (u n : Int32) (hn : 0 < n.toInt) : 0 ≤ ((u &&& 2147483647) % n).toInt ∧ ((u &&& 2147483647) % n).toInt < n.toInt := by
  have a1 := c_mask u 2147483647 31 (by decide) (by decide)
  have a2 := (c_iremV (u &&& 2147483647) n).1 (by omega) hn
  omega
def QI (h0 : Heap) (P : Int32 → Prop) : Option Value → Heap → List Loc → Prop := fun v h L => (∃ r, v = some (.int r) ∧ P r) ∧ h = h0 ∧ L = []
def QL (h0 : Heap) (P : Int64 → Prop) : Option Value → Heap → List Loc → Prop := fun v h L => (∃ r, v = some (.long r) ∧ P r) ∧ h = h0 ∧ L = []
def QV (h0 : Heap) : Option Value → Heap → List Loc → Prop := fun v h L => v = none ∧ h = h0 ∧ L = []
/-- what the law leaves -/
def Q0 (n0 : Nat) : Option Value → Heap → List Loc → Prop := fun v h L => v = some (.int 1) ∧ Fr n0 L
end OwnLib
theorem own_EW {a0 : Array Value} {Z : State} (hw : ∀ d ∈ tables_1, d.before a0 Z = true) : EW Z a0 consts_1 := EW.cons (hw _ (List.mem_of_getElem? (i := 45) rfl)) (by decide) (EW.cons (hw _ (List.mem_of_getElem? (i := 0) rfl)) (by decide) (EW.cons (hw _ (List.mem_of_getElem? (i := 59) rfl)) (by decide) EW.nil))
theorem own_staK {Z : State} {h h' : Heap} {C n d : String} {v : Value} (K : Keep h h' []) (F : Sta Z h C n d v) : Sta Z h' C n d v := by
  obtain ⟨cf, i, k, f, st, cell, h1, h2, h3, h4, h5, r⟩ := F
  exact ⟨cf, i, k, f, st, cell, h1, h2, h3, h4, K.2.1 _ _ h5 (fun q => nomatch q), r⟩
theorem own_cc (u y : Int32) (h : y = ((u &&& (255 : Int32)).toUInt32.toUInt16.toUInt32.toInt32)) : 0 ≤ y.toInt ∧ y.toInt ≤ 255 := by
  have a := c_mask u 255 8 (by decide) (by decide)
  have b := c_i2c (u &&& 255)
  rw [← h] at b; omega
theorem own_cn (g : Nat → Int32) (x : Int32) (h : 0 ≤ x.toInt ∧ x.toInt ≤ 255) : 0 ≤ (own_ui g 0 (nar .char x) 0).toInt ∧ (own_ui g 0 (nar .char x) 0).toInt ≤ 255 := by
  have e : own_ui g 0 (nar .char x) 0 = x.toUInt32.toUInt16.toUInt32.toInt32 := by simp [own_ui, nar]
  have b := c_i2c x
  rw [e]; omega
theorem own_m3 (u w : Int32) (h : w = (u &&& (3 : Int32))) : w = 0 ∨ w = 1 ∨ w = 2 ∨ w = 3 := by
  have a := c_mask u 3 2 (by decide) (by decide)
  rw [← h] at a
  have b : w.toInt = 0 ∨ w.toInt = 1 ∨ w.toInt = 2 ∨ w.toInt = 3 := by omega
  rcases b with b | b | b | b
  · exact Or.inl (Int32.toInt_inj.mp b)
  · exact Or.inr (Or.inl (Int32.toInt_inj.mp b))
  · exact Or.inr (Or.inr (Or.inl (Int32.toInt_inj.mp b)))
  · exact Or.inr (Or.inr (Or.inr (Int32.toInt_inj.mp b)))
def QK (h0 : Heap) (z : Int32) : Option Value → Heap → List Loc → Prop := fun v h L => v = some (.int z) ∧ h = h0 ∧ L = []
def QA (h0 : Heap) (b : Addr) : Option Value → Heap → List Loc → Prop := fun v h L => v = some (.ref b) ∧ h = h0 ∧ L = []
def QC2 (Z : State) (n0 : Nat) (h0 : Heap) (dst : Addr) : Option Value → Heap → List Loc → Prop := fun v h L => v = some (.int 1) ∧ Fr n0 L ∧ (∃ gz : Nat → Int32, Ara Z h dst .byte 1 (fun jz => .int (gz jz))) ∧ Keep h0 h [dst]
def QC1 (Z : State) (n0 : Nat) (h0 : Heap) : Option Value → Heap → List Loc → Prop := fun v h L => ∃ b, v = some (.ref b) ∧ h0.size ≤ b ∧ Fr n0 L ∧ (∃ gz : Nat → Int32, Ara Z h b .byte 1 (fun jz => .int (gz jz))) ∧ Keep h0 h []
def QSt (Z : State) (n0 : Nat) (h0 : Heap) (o : Addr) (cs : Int32) : Option Value → Heap → List Loc → Prop := fun v h L => v = none ∧ Fr n0 L ∧ Exa Z h o "java/lang/String" ∧ Sta Z h "java/lang/String" "COMPACT_STRINGS" "Z" (.int cs) ∧ Keep h0 h [o]
def QSh (Z : State) (n0 : Nat) (h0 : Heap) (o : Addr) : Option Value → Heap → List Loc → Prop := fun v h L => v = none ∧ Fr n0 L ∧ Exa Z h o "java/lang/String" ∧ Keep h0 h [o]
def QVd (Z : State) (n0 : Nat) (h0 : Heap) (o : Addr) (w : Value) : Option Value → Heap → List Loc → Prop := fun v h L => v = none ∧ Fr n0 L ∧ Exa Z h o "com/example/turnstone/turnstone/index/Verdict" ∧ Fld Z h o "com/example/turnstone/turnstone/index/Verdict" "originalId" "Ljava/lang/String;" w ∧ Keep h0 h [o]
theorem ef_5 (m : MethodId) (ar : Addr) (dst : Addr) : entryFrame m #[(.ref ar), (.int (0 : Int32)), (.ref dst), (.int (0 : Int32)), (.int (1 : Int32))] 7 = mkF m 0 #[.val (.ref ar), .val (.int (0 : Int32)), .val (.ref dst), .val (.int (0 : Int32)), .val (.int (1 : Int32)), .unset, .unset] [] := by first | (simp [entryFrame, mkF, argsToLocals, Value.category]; done) | rfl
theorem pn_5 : plainName "java/lang/StringUTF16" = true := by first | (simp [plainName, overriddenIn]; done) | decide +kernel
theorem d5_0 : decode jdk_52_method_21_code 0 = .ok (.iconst 0, 1) := by decide +kernel
theorem d5_1 : decode jdk_52_method_21_code 1 = .ok (.istore 5, 2) := by decide +kernel
theorem d5_3 : decode jdk_52_method_21_code 3 = .ok (.iload 5, 2) := by decide +kernel
theorem d5_5 : decode jdk_52_method_21_code 5 = .ok (.iload 4, 2) := by decide +kernel
theorem d5_7 : decode jdk_52_method_21_code 7 = .ok (.if_icmp .ge 37, 3) := by decide +kernel
theorem d5_10 : decode jdk_52_method_21_code 10 = .ok (.aload_n 0, 1) := by decide +kernel
theorem d5_11 : decode jdk_52_method_21_code 11 = .ok (.iload_n 1, 1) := by decide +kernel
theorem d5_12 : decode jdk_52_method_21_code 12 = .ok (.caload, 1) := by decide +kernel
theorem d5_13 : decode jdk_52_method_21_code 13 = .ok (.istore 6, 2) := by decide +kernel
theorem d5_15 : decode jdk_52_method_21_code 15 = .ok (.iload 6, 2) := by decide +kernel
theorem d5_17 : decode jdk_52_method_21_code 17 = .ok (.sipush 255, 3) := by decide +kernel
theorem d5_20 : decode jdk_52_method_21_code 20 = .ok (.if_icmp .le 6, 3) := by decide +kernel
theorem d5_26 : decode jdk_52_method_21_code 26 = .ok (.aload_n 2, 1) := by decide +kernel
theorem d5_27 : decode jdk_52_method_21_code 27 = .ok (.iload_n 3, 1) := by decide +kernel
theorem d5_28 : decode jdk_52_method_21_code 28 = .ok (.iload 6, 2) := by decide +kernel
theorem d5_30 : decode jdk_52_method_21_code 30 = .ok (.i2b, 1) := by decide +kernel
theorem d5_31 : decode jdk_52_method_21_code 31 = .ok (.bastore, 1) := by decide +kernel
theorem d5_32 : decode jdk_52_method_21_code 32 = .ok (.iinc 1 1, 3) := by decide +kernel
theorem d5_35 : decode jdk_52_method_21_code 35 = .ok (.iinc 3 1, 3) := by decide +kernel
theorem d5_38 : decode jdk_52_method_21_code 38 = .ok (.iinc 5 1, 3) := by decide +kernel
theorem d5_41 : decode jdk_52_method_21_code 41 = .ok (.goto (-38), 3) := by decide +kernel
theorem d5_44 : decode jdk_52_method_21_code 44 = .ok (.iload 4, 2) := by decide +kernel
theorem d5_46 : decode jdk_52_method_21_code 46 = .ok (.ireturn, 1) := by decide +kernel
set_option maxRecDepth 65536 in
set_option maxHeartbeats 40000000 in
theorem rm5 (l : Launch) (Z : State) (a0 : Array Value) (hw : ∀ d ∈ tables_1, d.before a0 Z = true) (ar : Addr) (dst : Addr) (n0 : Nat) (g gd : Nat → Int32) (h0 : Heap) (Z0 : n0 ≤ h0.size) (g_d : n0 ≤ dst) (A_ar : Ara Z h0 ar .char 1 (fun jz => .int (g jz))) (A_dst : Ara Z h0 dst .byte 1 (fun jz => .int (gd jz))) (hne : ar ≠ dst) (hv : 0 ≤ (g 0).toInt ∧ (g 0).toInt ≤ 255) :
    Ct l Z (⟨"java/lang/StringUTF16", "compress", "([CI[BII)I"⟩ : MethodName) jdk_52_method_21_code 7 (some .int) ({ frames := 0, cells := 0, slots := 0, locals := 0 } : Room) #[(.ref ar), (.int (0 : Int32)), (.ref dst), (.int (0 : Int32)), (.int (1 : Int32))] h0 (QC2 Z n0 h0 dst) := by
  refine own_met (plainFor_of_name pn_5) (fun m => ef_5 m ar dst) ?_
  intro p e s m below meth c T0 EF X0 hx hby hml hown hnm hret hlk hZ hF e0
  have N0 := Fr.nil n0
  refine g_iconst X0 hx hby d5_0 (pc' := 1) rfl (n := (0 : Int32)) (by first | rfl | decide) ?_
  refine g_istore X0 hx hby d5_1 (pc' := 3) rfl (Ls' := #[.val (.ref ar), .val (.int (0 : Int32)), .val (.ref dst), .val (.int (0 : Int32)), .val (.int (1 : Int32)), .val (.int (0 : Int32)), .unset]) rfl ?_
  refine g_iload X0 hx hby d5_3 (pc' := 5) rfl rfl ?_
  refine g_iload X0 hx hby d5_5 (pc' := 7) rfl rfl ?_
  refine g_icmpge X0 hx hby d5_7 (pt := 44) (pf := 10) (by decide) (by decide) rfl (fun (h7 : 1 ≤ 0) => (by exfalso; revert h7; decide)) (fun (h7 : 0 < 1) => ?_)
  refine g_aloadN X0 hx hby d5_10 (pc' := 11) rfl rfl rfl ?_
  refine g_iloadN X0 hx hby d5_11 (pc' := 12) rfl rfl ?_
  refine a_caload X0 hx hby hZ e0 A_ar (by decide) (by decide) (v := (.int (g 0))) (rfl) d5_12 (pc' := 13) rfl ?_
  refine g_istore X0 hx hby d5_13 (pc' := 15) rfl (Ls' := #[.val (.ref ar), .val (.int (0 : Int32)), .val (.ref dst), .val (.int (0 : Int32)), .val (.int (1 : Int32)), .val (.int (0 : Int32)), .val (.int (g 0))]) rfl ?_
  refine g_iload X0 hx hby d5_15 (pc' := 17) rfl rfl ?_
  refine g_sipush X0 hx hby d5_17 (pc' := 20) rfl (n := (255 : Int32)) (by first | rfl | decide) ?_
  refine g_icmple X0 hx hby d5_20 (pt := 26) (pf := 23) (by decide) (by decide) rfl (fun (h20 : (g 0).toInt ≤ 255) => ?_) (fun (h20 : 255 < (g 0).toInt) => (by exfalso; omega))
  refine g_aloadN X0 hx hby d5_26 (pc' := 27) rfl rfl rfl ?_
  refine g_iloadN X0 hx hby d5_27 (pc' := 28) rfl rfl ?_
  refine g_iload X0 hx hby d5_28 (pc' := 30) rfl rfl ?_
  refine g_i2b X0 hx hby d5_30 (pc' := 31) rfl ?_
  refine a_bastore X0 hx hby hZ e0 A_dst (by decide) (by decide) d5_31 (pc' := 32) rfl (fun T1 h1 X1 e1 W1 => ?_)
  replace A_ar := A_ar.other W1 hne
  have Z2 : n0 ≤ h1.size := by rw [W1.size]; exact Z0
  have K3 := (Keep.refl h0 [dst]).wr W1 (Or.inl (List.mem_of_getElem? (i := 0) rfl))
  have N4 := Fr.snoc X1 N0 g_d
  replace A_dst : Ara Z h1 dst .byte 1 (fun jz => .int ((own_ui gd 0 (nar .byte ((g 0).toInt8.toInt32))) jz)) := A_dst.setI W1
  refine g_iinc X1 hx hby d5_32 (pc' := 35) rfl rfl (Ls' := #[.val (.ref ar), .val (.int (1 : Int32)), .val (.ref dst), .val (.int (0 : Int32)), .val (.int (1 : Int32)), .val (.int (0 : Int32)), .val (.int (g 0))]) rfl ?_
  refine g_iinc X1 hx hby d5_35 (pc' := 38) rfl rfl (Ls' := #[.val (.ref ar), .val (.int (1 : Int32)), .val (.ref dst), .val (.int (1 : Int32)), .val (.int (1 : Int32)), .val (.int (0 : Int32)), .val (.int (g 0))]) rfl ?_
  refine g_iinc X1 hx hby d5_38 (pc' := 41) rfl rfl (Ls' := #[.val (.ref ar), .val (.int (1 : Int32)), .val (.ref dst), .val (.int (1 : Int32)), .val (.int (1 : Int32)), .val (.int (1 : Int32)), .val (.int (g 0))]) rfl ?_
  refine g_goto X1 hx hby d5_41 (pc' := 3) (by decide) (by decide) ?_
  refine g_iload X1 hx hby d5_3 (pc' := 5) rfl rfl ?_
  refine g_iload X1 hx hby d5_5 (pc' := 7) rfl rfl ?_
  refine g_icmpge X1 hx hby d5_7 (pt := 44) (pf := 10) (by decide) (by decide) rfl (fun (h7 : 1 ≤ 1) => ?_) (fun (h7 : 1 < 1) => (by exfalso; revert h7; decide))
  refine g_iload X1 hx hby d5_44 (pc' := 46) rfl rfl ?_
  exact g_retI X1 hx hby hF (Nat.zero_le _) hlk hret d5_46 (by decide) (by decide) (by rw [e1]; exact ⟨rfl, N4, ⟨_, A_dst⟩, K3⟩)
theorem ef_4 (m : MethodId) (ar : Addr) : entryFrame m #[(.ref ar), (.int (0 : Int32)), (.int (1 : Int32))] 6 = mkF m 0 #[.val (.ref ar), .val (.int (0 : Int32)), .val (.int (1 : Int32)), .unset, .unset, .unset] [] := by first | (simp [entryFrame, mkF, argsToLocals, Value.category]; done) | rfl
theorem pn_4 : plainName "java/lang/StringUTF16" = true := by first | (simp [plainName, overriddenIn]; done) | decide +kernel
theorem d4_0 : decode jdk_52_method_16_code 0 = .ok (.iload_n 2, 1) := by decide +kernel
theorem d4_1 : decode jdk_52_method_16_code 1 = .ok (.newarray .byte, 2) := by decide +kernel
theorem d4_3 : decode jdk_52_method_16_code 3 = .ok (.astore_n 3, 1) := by decide +kernel
theorem d4_4 : decode jdk_52_method_16_code 4 = .ok (.aload_n 0, 1) := by decide +kernel
theorem d4_5 : decode jdk_52_method_16_code 5 = .ok (.iload_n 1, 1) := by decide +kernel
theorem d4_6 : decode jdk_52_method_16_code 6 = .ok (.aload_n 3, 1) := by decide +kernel
theorem d4_7 : decode jdk_52_method_16_code 7 = .ok (.iconst 0, 1) := by decide +kernel
theorem d4_8 : decode jdk_52_method_16_code 8 = .ok (.iload_n 2, 1) := by decide +kernel
theorem d4_9 : decode jdk_52_method_16_code 9 = .ok (.invokestatic 115, 3) := by decide +kernel
theorem pd___CI_BII_I_688 : parseMethodDescriptor "([CI[BII)I" = some ⟨[(.array .char), .int, (.array .byte), .int, .int], some .int⟩ := by decide +kernel
theorem d4_12 : decode jdk_52_method_16_code 12 = .ok (.istore 4, 2) := by decide +kernel
theorem d4_14 : decode jdk_52_method_16_code 14 = .ok (.iload 4, 2) := by decide +kernel
theorem d4_16 : decode jdk_52_method_16_code 16 = .ok (.iload_n 2, 1) := by decide +kernel
theorem d4_17 : decode jdk_52_method_16_code 17 = .ok (.if_icmp .eq 40, 3) := by decide +kernel
theorem d4_57 : decode jdk_52_method_16_code 57 = .ok (.aload_n 3, 1) := by decide +kernel
theorem d4_58 : decode jdk_52_method_16_code 58 = .ok (.areturn, 1) := by decide +kernel
set_option maxRecDepth 65536 in
set_option maxHeartbeats 40000000 in
theorem rm4 (l : Launch) (Z : State) (a0 : Array Value) (hw : ∀ d ∈ tables_1, d.before a0 Z = true) (ar : Addr) (n0 : Nat) (g : Nat → Int32) (h0 : Heap) (Z0 : n0 ≤ h0.size) (A_ar : Ara Z h0 ar .char 1 (fun jz => .int (g jz))) (hv : 0 ≤ (g 0).toInt ∧ (g 0).toInt ≤ 255) :
    Ct l Z (⟨"java/lang/StringUTF16", "compress", "([CII)[B"⟩ : MethodName) jdk_52_method_16_code 6 (some (.array .byte)) ({ frames := 1, cells := 1, slots := 1, locals := 20 } : Room) #[(.ref ar), (.int (0 : Int32)), (.int (1 : Int32))] h0 (QC1 Z n0 h0) := by
  refine own_met (plainFor_of_name pn_4) (fun m => ef_4 m ar) ?_
  intro p e s m below meth c T0 EF X0 hx hby hml hown hnm hret hlk hZ hF e0
  have N0 := Fr.nil n0
  refine g_iloadN X0 hx hby d4_0 (pc' := 1) rfl rfl ?_
  refine g_newA X0 hx hby hZ e0 (N := 1) (hw _ (List.mem_of_getElem? (i := 3) rfl)) d4_1 (pc' := 3) rfl rfl (cap := 1) (Nat.le_refl _) (by decide) (by decide) (by decide) (fun T1 h1 dst g1 X1 e1 E1 A_dst => ?_)
  have lne2 : ar < dst := by rw [g1]; exact A_ar.lt
  have ne2 : ar ≠ dst := Nat.ne_of_lt lne2
  have g3 : n0 ≤ dst := by rw [g1]; exact Z0
  have o4 : h0.size ≤ dst := by rw [g1]; exact (Keep.refl h0 []).1
  replace A_ar := A_ar.ext E1
  have Z5 : n0 ≤ h1.size := Nat.le_trans Z0 E1.1
  have K6 := (Keep.refl h0 []).ext E1
  replace X1 : Stand p l e ({ frames := 1, cells := 1, slots := 1, locals := 20 } : Room) s m _ below meth c T1 _ 1 1 := X1
  replace A_dst : Ara Z h1 dst .byte 1 (fun jz => .int ((fun _ => (0 : Int32)) jz)) := A_dst
  refine g_astoreN X1 hx hby d4_3 (pc' := 4) rfl rfl (Ls' := #[.val (.ref ar), .val (.int (0 : Int32)), .val (.int (1 : Int32)), .val (.ref dst), .unset, .unset]) rfl ?_
  refine g_aloadN X1 hx hby d4_4 (pc' := 5) rfl rfl rfl ?_
  refine g_iloadN X1 hx hby d4_5 (pc' := 6) rfl rfl ?_
  refine g_aloadN X1 hx hby d4_6 (pc' := 7) rfl rfl rfl ?_
  refine g_iconst X1 hx hby d4_7 (pc' := 8) rfl (n := (0 : Int32)) (by first | rfl | decide) ?_
  refine g_iloadN X1 hx hby d4_8 (pc' := 9) rfl rfl ?_
  refine g_static X1 hx hby hZ hown hml rfl (hw _ (List.mem_of_getElem? (i := 25) rfl)) (hw _ (List.mem_of_getElem? (i := 26) rfl)) (hw _ (List.mem_of_getElem? (i := 23) rfl)) (hw _ (List.mem_of_getElem? (i := 27) rfl)) (by decide) e1 (rm5 l Z a0 hw ar dst n0 g (fun _ => (0 : Int32)) h1 Z5 g3 A_ar A_dst ne2 hv) pd___CI_BII_I_688 (argsL := [(.ref ar), (.int (0 : Int32)), (.ref dst), (.int (0 : Int32)), (.int (1 : Int32))]) (rest := []) rfl rfl rfl d4_9 (pc' := 12) rfl (by decide) (Nat.le_of_ble_eq_true rfl) (by decide) (by decide) ?_
  intro Tp9 vp9 Lp9 Xp9 qp9
  obtain ⟨rfl, Nqp9, ⟨gzp9, A_dp9⟩, Kqp9⟩ := qp9
  replace Xp9 : Stand p l e ({ frames := 1, cells := 1, slots := 1, locals := 20 } : Room) s m _ below meth c Tp9 _ 1 1 := Xp9
  replace A_ar := A_ar.keep Kqp9 (ninS ne2 nin0)
  have Z7 : n0 ≤ Tp9.heap.size := Nat.le_trans Z5 Kqp9.1
  have K8 := K6.trans Kqp9 (allS (Or.inr o4) all0)
  have Np9 := Fr.app N0 Nqp9
  show Go p e below EF (QC1 Z n0 h0) m Tp9 12 #[.val (.ref ar), .val (.int (0 : Int32)), .val (.int (1 : Int32)), .val (.ref dst), .unset, .unset] [(.int (1 : Int32))]
  refine g_istore Xp9 hx hby d4_12 (pc' := 14) rfl (Ls' := #[.val (.ref ar), .val (.int (0 : Int32)), .val (.int (1 : Int32)), .val (.ref dst), .val (.int (1 : Int32)), .unset]) rfl ?_
  refine g_iload Xp9 hx hby d4_14 (pc' := 16) rfl rfl ?_
  refine g_iloadN Xp9 hx hby d4_16 (pc' := 17) rfl rfl ?_
  refine g_icmpeq Xp9 hx hby d4_17 (pt := 57) (pf := 20) (by decide) (by decide) rfl (fun (h17 : (1 : Int32) = (1 : Int32)) => ?_) (fun (h17 : ¬ (1 : Int32) = (1 : Int32)) => (by exfalso; revert h17; decide))
  refine g_aloadN Xp9 hx hby d4_57 (pc' := 58) rfl rfl rfl ?_
  exact g_retA Xp9 hx hby hF (Nat.zero_le _) hlk rfl rfl hret d4_58 (by decide) (by decide) (⟨_, rfl, o4, Np9, ⟨_, A_dp9⟩, K8⟩)
theorem ef_6 (m : MethodId) (ar : Addr) : entryFrame m #[(.ref ar), (.int (1 : Int32))] 2 = mkF m 0 #[.val (.ref ar), .val (.int (1 : Int32))] [] := by first | (simp [entryFrame, mkF, argsToLocals, Value.category]; done) | rfl
theorem pn_6 : plainName "java/lang/StringUTF16" = true := by first | (simp [plainName, overriddenIn]; done) | decide +kernel
theorem d6_0 : decode jdk_52_method_15_code 0 = .ok (.iload_n 1, 1) := by decide +kernel
theorem d6_1 : decode jdk_52_method_15_code 1 = .ok (.aload_n 0, 1) := by decide +kernel
theorem d6_2 : decode jdk_52_method_15_code 2 = .ok (.arraylength, 1) := by decide +kernel
theorem d6_3 : decode jdk_52_method_15_code 3 = .ok (.isub, 1) := by decide +kernel
theorem d6_4 : decode jdk_52_method_15_code 4 = .ok (.bipush 31, 2) := by decide +kernel
theorem d6_6 : decode jdk_52_method_15_code 6 = .ok (.iushr, 1) := by decide +kernel
theorem d6_7 : decode jdk_52_method_15_code 7 = .ok (.i2b, 1) := by decide +kernel
theorem d6_8 : decode jdk_52_method_15_code 8 = .ok (.ireturn, 1) := by decide +kernel
set_option maxRecDepth 65536 in
set_option maxHeartbeats 40000000 in
theorem rm6 (l : Launch) (Z : State) (a0 : Array Value) (hw : ∀ d ∈ tables_1, d.before a0 Z = true) (ar : Addr) (g : Nat → Int32) (h0 : Heap) (A_ar : Ara Z h0 ar .byte 1 (fun jz => .int (g jz))) :
    Ct l Z (⟨"java/lang/StringUTF16", "coderFromArrayLen", "([BI)B"⟩ : MethodName) jdk_52_method_15_code 2 (some .byte) ({ frames := 0, cells := 0, slots := 0, locals := 0 } : Room) #[(.ref ar), (.int (1 : Int32))] h0 (QK h0 0) := by
  refine own_met (plainFor_of_name pn_6) (fun m => ef_6 m ar) ?_
  intro p e s m below meth c T0 EF X0 hx hby hml hown hnm hret hlk hZ hF e0
  refine g_iloadN X0 hx hby d6_0 (pc' := 1) rfl rfl ?_
  refine g_aloadN X0 hx hby d6_1 (pc' := 2) rfl rfl rfl ?_
  refine a_arraylength X0 hx hby hZ e0 A_ar (N := (1 : Int32)) rfl d6_2 (pc' := 3) rfl ?_
  refine g_isub X0 hx hby d6_3 (pc' := 4) rfl ?_
  show Go p e below EF (QK h0 0) m T0 4 #[.val (.ref ar), .val (.int (1 : Int32))] [(.int (0 : Int32))]
  refine g_bipush X0 hx hby d6_4 (pc' := 6) rfl (n := (31 : Int32)) (by first | rfl | decide) ?_
  refine g_iushr X0 hx hby d6_6 (pc' := 7) rfl ?_
  show Go p e below EF (QK h0 0) m T0 7 #[.val (.ref ar), .val (.int (1 : Int32))] [(.int (0 : Int32))]
  refine g_i2b X0 hx hby d6_7 (pc' := 8) rfl ?_
  show Go p e below EF (QK h0 0) m T0 8 #[.val (.ref ar), .val (.int (1 : Int32))] [(.int (0 : Int32))]
  exact g_retB X0 hx hby hF (Nat.zero_le _) hlk rfl hret d6_8 (by decide) (by decide) (⟨rfl, e0, rfl⟩)
theorem ef_2_rm_i2 (m : MethodId) (o : Addr) (ar : Addr) : entryFrame m #[(.ref o), (.ref ar), (.int (0 : Int32)), (.int (1 : Int32)), .null] 6 = mkF m 0 #[.val (.ref o), .val (.ref ar), .val (.int (0 : Int32)), .val (.int (1 : Int32)), .val .null, .unset] [] := by first | (simp [entryFrame, mkF, argsToLocals, Value.category]; done) | rfl
theorem pn_2 : plainName "java/lang/String" = true := by first | (simp [plainName, overriddenIn]; done) | decide +kernel
theorem d2_0 : decode jdk_42_method_149_code 0 = .ok (.aload_n 0, 1) := by decide +kernel
theorem d2_1 : decode jdk_42_method_149_code 1 = .ok (.invokespecial 1, 3) := by decide +kernel
theorem d2_4 : decode jdk_42_method_149_code 4 = .ok (.iload_n 3, 1) := by decide +kernel
theorem d2_5 : decode jdk_42_method_149_code 5 = .ok (.ifCond .ne 22, 3) := by decide +kernel
theorem d2_27 : decode jdk_42_method_149_code 27 = .ok (.getstatic 38, 3) := by decide +kernel
theorem d2_30 : decode jdk_42_method_149_code 30 = .ok (.ifCond .eq 28, 3) := by decide +kernel
theorem d2_33 : decode jdk_42_method_149_code 33 = .ok (.aload_n 1, 1) := by decide +kernel
theorem d2_34 : decode jdk_42_method_149_code 34 = .ok (.iload_n 2, 1) := by decide +kernel
theorem d2_35 : decode jdk_42_method_149_code 35 = .ok (.iload_n 3, 1) := by decide +kernel
theorem d2_36 : decode jdk_42_method_149_code 36 = .ok (.invokestatic 177, 3) := by decide +kernel
theorem pd___CII__B_542 : parseMethodDescriptor "([CII)[B" = some ⟨[(.array .char), .int, .int], some (.array .byte)⟩ := by decide +kernel
theorem d2_39 : decode jdk_42_method_149_code 39 = .ok (.astore 5, 2) := by decide +kernel
theorem d2_41 : decode jdk_42_method_149_code 41 = .ok (.aload_n 0, 1) := by decide +kernel
theorem d2_42 : decode jdk_42_method_149_code 42 = .ok (.aload 5, 2) := by decide +kernel
theorem d2_44 : decode jdk_42_method_149_code 44 = .ok (.iload_n 3, 1) := by decide +kernel
theorem d2_45 : decode jdk_42_method_149_code 45 = .ok (.invokestatic 47, 3) := by decide +kernel
theorem pd___BI_B_377 : parseMethodDescriptor "([BI)B" = some ⟨[(.array .byte), .int], some .byte⟩ := by decide +kernel
theorem d2_48 : decode jdk_42_method_149_code 48 = .ok (.putfield 15, 3) := by decide +kernel
theorem sn_0 {a0 : Array Value} {Z : State} (hw : ∀ d ∈ tables_1, d.before a0 Z = true) : Jvm.RoadKit.slotOf Z "java/lang/String" "value" "[B" ≠ Jvm.RoadKit.slotOf Z "java/lang/String" "coder" "B" := slot_ne (Or.inr (hw _ (List.mem_of_getElem? (i := 4) rfl))) (Or.inr (hw _ (List.mem_of_getElem? (i := 5) rfl))) (by decide) (t := (.array .byte)) (t' := .byte) (by decide) (by decide)
theorem d2_51 : decode jdk_42_method_149_code 51 = .ok (.aload_n 0, 1) := by decide +kernel
theorem d2_52 : decode jdk_42_method_149_code 52 = .ok (.aload 5, 2) := by decide +kernel
theorem d2_54 : decode jdk_42_method_149_code 54 = .ok (.putfield 9, 3) := by decide +kernel
theorem sn_1 {a0 : Array Value} {Z : State} (hw : ∀ d ∈ tables_1, d.before a0 Z = true) : Jvm.RoadKit.slotOf Z "java/lang/String" "coder" "B" ≠ Jvm.RoadKit.slotOf Z "java/lang/String" "value" "[B" := slot_ne (Or.inr (hw _ (List.mem_of_getElem? (i := 5) rfl))) (Or.inr (hw _ (List.mem_of_getElem? (i := 4) rfl))) (by decide) (t := .byte) (t' := (.array .byte)) (by decide) (by decide)
theorem d2_57 : decode jdk_42_method_149_code 57 = .ok (.return_, 1) := by decide +kernel
set_option maxRecDepth 65536 in
set_option maxHeartbeats 40000000 in
theorem rm_i2 (l : Launch) (Z : State) (a0 : Array Value) (hw : ∀ d ∈ tables_1, d.before a0 Z = true) (o : Addr) (ar : Addr) (n0 : Nat) (cs : Int32) (g : Nat → Int32) (h0 : Heap) (Z0 : n0 ≤ h0.size) (g_o : n0 ≤ o) (E_o : Exa Z h0 o "java/lang/String") (F_value : Fld Z h0 o "java/lang/String" "value" "[B" .null) (F_coder : Fld Z h0 o "java/lang/String" "coder" "B" (.int 0)) (hne : ar ≠ o) (SC : Sta Z h0 "java/lang/String" "COMPACT_STRINGS" "Z" (.int cs)) (hcs : ¬ cs = 0) (A_ar : Ara Z h0 ar .char 1 (fun jz => .int (g jz))) (hv : 0 ≤ (g 0).toInt ∧ (g 0).toInt ≤ 255) :
    Ct l Z (⟨"java/lang/String", "<init>", "([CIILjava/lang/Void;)V"⟩ : MethodName) jdk_42_method_149_code 6 none ({ frames := 2, cells := 1, slots := 1, locals := 40 } : Room) #[(.ref o), (.ref ar), (.int (0 : Int32)), (.int (1 : Int32)), .null] h0 (QSt Z n0 h0 o cs) := by
  refine own_met (plainFor_of_name pn_2) (fun m => ef_2_rm_i2 m o ar) ?_
  intro p e s m below meth c T0 EF X0 hx hby hml hown hnm hret hlk hZ hF e0
  have N0 := Fr.nil n0
  refine g_aloadN X0 hx hby d2_0 (pc' := 1) rfl rfl rfl ?_
  refine g_initO X0 hx hby hZ hown e0 (hw _ (List.mem_of_getElem? (i := 17) rfl)) (hw _ (List.mem_of_getElem? (i := 18) rfl)) (hw _ (List.mem_of_getElem? (i := 19) rfl)) hml rfl d2_1 (pc' := 4) rfl (by decide) (Nat.le_of_ble_eq_true rfl) (fun Tp1 Xp1 ep1 => ?_)
  refine g_iloadN Xp1 hx hby d2_4 (pc' := 5) rfl rfl ?_
  refine g_ifne Xp1 hx hby d2_5 (pt := 27) (pf := 8) (by decide) (by decide) rfl (fun (h5 : ¬ (1 : Int32) = (0 : Int32)) => ?_) (fun (h5 : (1 : Int32) = (0 : Int32)) => (by exfalso; revert h5; decide))
  refine g_getS Xp1 hx hby hZ hown ep1 (hw _ (List.mem_of_getElem? (i := 20) rfl)) SC d2_27 (pc' := 30) rfl (fun T1 X1 e1 => ?_)
  refine g_ifeq X1 hx hby d2_30 (pt := 58) (pf := 33) (by decide) (by decide) rfl (fun (h30 : cs = (0 : Int32)) => (by exfalso; exact hcs h30)) (fun (h30 : ¬ cs = (0 : Int32)) => ?_)
  have h30i : ¬ cs.toInt = 0 := fun q => h30 (Int32.toInt_inj.mp q)
  refine g_aloadN X1 hx hby d2_33 (pc' := 34) rfl rfl rfl ?_
  refine g_iloadN X1 hx hby d2_34 (pc' := 35) rfl rfl ?_
  refine g_iloadN X1 hx hby d2_35 (pc' := 36) rfl rfl ?_
  refine g_static X1 hx hby hZ hown hml rfl (hw _ (List.mem_of_getElem? (i := 21) rfl)) (hw _ (List.mem_of_getElem? (i := 22) rfl)) (hw _ (List.mem_of_getElem? (i := 23) rfl)) (hw _ (List.mem_of_getElem? (i := 24) rfl)) (by decide) e1 (rm4 l Z a0 hw ar n0 g h0 Z0 A_ar hv) pd___CII__B_542 (argsL := [(.ref ar), (.int (0 : Int32)), (.int (1 : Int32))]) (rest := []) rfl rfl rfl d2_36 (pc' := 39) rfl (by decide) (Nat.le_of_ble_eq_true rfl) (by decide) (by decide) ?_
  intro Tp36 vp36 Lp36 Xp36 qp36
  obtain ⟨byp36, rfl, hbp36, Nqp36, ⟨gzp36, A_byp36⟩, Kqp36⟩ := qp36
  have SCqp36 := own_staK Kqp36 SC
  have nebp36 : o ≠ byp36 := Nat.ne_of_lt (Nat.lt_of_lt_of_le E_o.lt hbp36)
  have gbp36 : n0 ≤ byp36 := Nat.le_trans Z0 hbp36
  replace Xp36 : Stand p l e ({ frames := 2, cells := 1, slots := 1, locals := 40 } : Room) s m _ below meth c Tp36 _ 1 1 := Xp36
  replace E_o := E_o.keep Kqp36
  replace F_value := F_value.keep Kqp36 nin0
  replace F_coder := F_coder.keep Kqp36 nin0
  replace A_ar := A_ar.keep Kqp36 nin0
  have Z2 : n0 ≤ Tp36.heap.size := Nat.le_trans Z0 Kqp36.1
  have K3 := (Keep.refl h0 [o]).trans Kqp36 all0
  have Np36 := Fr.app N0 Nqp36
  show Go p e below EF (QSt Z n0 h0 o cs) m Tp36 39 #[.val (.ref o), .val (.ref ar), .val (.int (0 : Int32)), .val (.int (1 : Int32)), .val .null, .unset] [(.ref byp36)]
  refine g_astore Xp36 hx hby d2_39 (pc' := 41) rfl rfl (Ls' := #[.val (.ref o), .val (.ref ar), .val (.int (0 : Int32)), .val (.int (1 : Int32)), .val .null, .val (.ref byp36)]) rfl ?_
  refine g_aloadN Xp36 hx hby d2_41 (pc' := 42) rfl rfl rfl ?_
  refine g_aload Xp36 hx hby d2_42 (pc' := 44) rfl rfl rfl ?_
  refine g_iloadN Xp36 hx hby d2_44 (pc' := 45) rfl rfl ?_
  refine g_static Xp36 hx hby hZ hown hml rfl (hw _ (List.mem_of_getElem? (i := 28) rfl)) (hw _ (List.mem_of_getElem? (i := 29) rfl)) (hw _ (List.mem_of_getElem? (i := 23) rfl)) (hw _ (List.mem_of_getElem? (i := 30) rfl)) (by decide) rfl (rm6 l Z a0 hw byp36 gzp36 Tp36.heap A_byp36) pd___BI_B_377 (argsL := [(.ref byp36), (.int (1 : Int32))]) (rest := [(.ref o)]) rfl rfl rfl d2_45 (pc' := 48) rfl (by decide) (Nat.le_of_ble_eq_true rfl) (by decide) (by decide) ?_
  intro Tp45 vp45 Lp45 Xp45 qp45
  obtain ⟨rfl, ep45, rfl⟩ := qp45
  rw [List.append_nil] at Xp45
  replace Xp45 : Stand p l e ({ frames := 2, cells := 1, slots := 1, locals := 40 } : Room) s m _ below meth c Tp45 _ 1 1 := Xp45
  show Go p e below EF (QSt Z n0 h0 o cs) m Tp45 48 #[.val (.ref o), .val (.ref ar), .val (.int (0 : Int32)), .val (.int (1 : Int32)), .val .null, .val (.ref byp36)] [(.int (0 : Int32)), (.ref o)]
  refine g_putF Xp45 hx hby hZ hown ep45 (hw _ (List.mem_of_getElem? (i := 31) rfl)) F_coder E_o (Or.inr ⟨(hw _ (List.mem_of_getElem? (i := 5) rfl)), rfl, hnm⟩) (hw _ (List.mem_of_getElem? (i := 2) rfl)) (ty := .byte) (by decide) rfl rfl d2_48 (pc' := 51) rfl (fun T4 h4 X4 e4 W4 => ?_)
  replace E_o := E_o.wr W4
  replace F_value := F_value.other W4 (Or.inr (sn_0 hw))
  replace F_coder := F_coder.same W4
  replace A_ar := A_ar.other W4 hne
  replace A_byp36 := A_byp36.other W4 (Ne.symm nebp36)
  replace SCqp36 := SCqp36.wr W4
  have Z5 : n0 ≤ h4.size := by rw [W4.size]; exact Z2
  have K6 := K3.wr W4 (Or.inl (List.mem_of_getElem? (i := 0) rfl))
  have N7 := Fr.snoc X4 Np36 g_o
  refine g_aloadN X4 hx hby d2_51 (pc' := 52) rfl rfl rfl ?_
  refine g_aload X4 hx hby d2_52 (pc' := 54) rfl rfl rfl ?_
  refine g_putF X4 hx hby hZ hown e4 (hw _ (List.mem_of_getElem? (i := 32) rfl)) F_value E_o (Or.inr ⟨(hw _ (List.mem_of_getElem? (i := 4) rfl)), rfl, hnm⟩) (hw _ (List.mem_of_getElem? (i := 2) rfl)) (ty := (.array .byte)) (by decide) rfl rfl d2_54 (pc' := 57) rfl (fun T8 h8 X8 e8 W8 => ?_)
  replace E_o := E_o.wr W8
  replace F_value := F_value.same W8
  replace F_coder := F_coder.other W8 (Or.inr (sn_1 hw))
  replace A_ar := A_ar.other W8 hne
  replace A_byp36 := A_byp36.other W8 (Ne.symm nebp36)
  replace SCqp36 := SCqp36.wr W8
  have Z9 : n0 ≤ h8.size := by rw [W8.size]; exact Z5
  have K10 := K6.wr W8 (Or.inl (List.mem_of_getElem? (i := 0) rfl))
  have N11 := Fr.snoc X8 N7 g_o
  exact g_retV X8 hx hby hF (Nat.zero_le _) hlk hret d2_57 (by decide) (by decide) (by rw [e8]; exact ⟨rfl, N11, E_o, SCqp36, K10⟩)
theorem ef_2_rm_i2H (m : MethodId) (o : Addr) (ar : Addr) : entryFrame m #[(.ref o), (.ref ar), (.int (0 : Int32)), (.int (0 : Int32)), .null] 6 = mkF m 0 #[.val (.ref o), .val (.ref ar), .val (.int (0 : Int32)), .val (.int (0 : Int32)), .val .null, .unset] [] := by first | (simp [entryFrame, mkF, argsToLocals, Value.category]; done) | rfl
theorem d2_8 : decode jdk_42_method_149_code 8 = .ok (.aload_n 0, 1) := by decide +kernel
theorem d2_9 : decode jdk_42_method_149_code 9 = .ok (.ldc 7, 2) := by decide +kernel
theorem own_wS {a0 : Array Value} {Z : State} (hw : ∀ d ∈ tables_1, d.before a0 Z = true) : ∀ a ∈ Bundle.stringAtoms, a.before a0 Z = true := fun a ha => by
  simp only [Bundle.stringAtoms, List.mem_cons, List.not_mem_nil, or_false] at ha
  rcases ha with rfl | rfl | rfl | rfl | rfl | rfl | rfl
  · exact (hw _ (List.mem_of_getElem? (i := 1) rfl))
  · exact (hw _ (List.mem_of_getElem? (i := 2) rfl))
  · exact (hw _ (List.mem_of_getElem? (i := 3) rfl))
  · exact (hw _ (List.mem_of_getElem? (i := 4) rfl))
  · exact (hw _ (List.mem_of_getElem? (i := 5) rfl))
  · exact (hw _ (List.mem_of_getElem? (i := 6) rfl))
  · exact (hw _ (List.mem_of_getElem? (i := 7) rfl))
theorem d2_11 : decode jdk_42_method_149_code 11 = .ok (.getfield 9, 3) := by decide +kernel
theorem d2_14 : decode jdk_42_method_149_code 14 = .ok (.putfield 9, 3) := by decide +kernel
theorem d2_17 : decode jdk_42_method_149_code 17 = .ok (.aload_n 0, 1) := by decide +kernel
theorem d2_18 : decode jdk_42_method_149_code 18 = .ok (.ldc 7, 2) := by decide +kernel
theorem d2_20 : decode jdk_42_method_149_code 20 = .ok (.getfield 15, 3) := by decide +kernel
theorem d2_23 : decode jdk_42_method_149_code 23 = .ok (.putfield 15, 3) := by decide +kernel
theorem d2_26 : decode jdk_42_method_149_code 26 = .ok (.return_, 1) := by decide +kernel
set_option maxRecDepth 65536 in
set_option maxHeartbeats 40000000 in
theorem rm_i2H (l : Launch) (Z : State) (a0 : Array Value) (hw : ∀ d ∈ tables_1, d.before a0 Z = true) (o : Addr) (ar : Addr) (n0 : Nat) (h0 : Heap) (Z0 : n0 ≤ h0.size) (g_o : n0 ≤ o) (E_o : Exa Z h0 o "java/lang/String") (F_value : Fld Z h0 o "java/lang/String" "value" "[B" .null) (F_coder : Fld Z h0 o "java/lang/String" "coder" "B" (.int 0)) (hne : ar ≠ o) (A_ar : Ara Z h0 ar .char 0 (fun jz => .int ((fun _ => (0 : Int32)) jz))) :
    CtH l Z consts_1 (⟨"java/lang/String", "<init>", "([CIILjava/lang/Void;)V"⟩ : MethodName) jdk_42_method_149_code 6 none ({ frames := 1, cells := 2, slots := 4, locals := 12 } : Room) #[(.ref o), (.ref ar), (.int (0 : Int32)), (.int (0 : Int32)), .null] h0 (QSh Z n0 h0 o) := by
  refine own_metH (plainFor_of_name pn_2) (fun m => ef_2_rm_i2H m o ar) ?_
  intro p e s m below meth c T0 EF X0 hx hby hml hown hnm hret hlk hZ hF e0 HC
  have N0 := Fr.nil n0
  refine g_aloadN X0 hx hby d2_0 (pc' := 1) rfl rfl rfl ?_
  refine g_initO X0 hx hby hZ hown e0 (hw _ (List.mem_of_getElem? (i := 17) rfl)) (hw _ (List.mem_of_getElem? (i := 18) rfl)) (hw _ (List.mem_of_getElem? (i := 19) rfl)) hml rfl d2_1 (pc' := 4) rfl (by decide) (Nat.le_of_ble_eq_true rfl) (fun Tp1 Xp1 ep1 => ?_)
  refine g_iloadN Xp1 hx hby d2_4 (pc' := 5) rfl rfl ?_
  refine g_ifne Xp1 hx hby d2_5 (pt := 27) (pf := 8) (by decide) (by decide) rfl (fun (h5 : ¬ (0 : Int32) = (0 : Int32)) => (by exfalso; revert h5; decide)) (fun (h5 : (0 : Int32) = (0 : Int32)) => ?_)
  refine g_aloadN Xp1 hx hby d2_8 (pc' := 9) rfl rfl rfl ?_
  refine g_ldcH Xp1 hx hby hZ hown ep1 hF (Nat.zero_le _) (own_EW hw) HC (List.mem_of_getElem? (i := 2) rfl) (hw _ (List.mem_of_getElem? (i := 59) rfl)) (own_wS hw) (vs := []) (z := 0) ⟨by decide, rfl⟩ (by decide) rfl d2_9 (pc' := 11) rfl (n := 0) (by decide) (by decide) (by decide) (by decide) (fun s T1 h1 sl1 sl1v k1 X1 hZ hown hF kz1 e1 E1 E_sl1 Fc_sl1 Fv_sl1 LT1 HC' => ?_)
  replace E_o := E_o.ext E1
  replace F_value := F_value.ext E1
  replace F_coder := F_coder.ext E1
  replace A_ar := A_ar.ext E1
  have Z2 : n0 ≤ h1.size := Nat.le_trans Z0 E1.1
  have K3 := (Keep.refl h0 [o]).ext E1
  replace HC := HC'
  replace X1 : Stand p l e ({ frames := 1, cells := 2, slots := 4, locals := 12 } : Room) s m _ below meth c T1 _ 2 4 := X1
  have ne_sl1 : o ≠ sl1 := F_value.ne Fv_sl1 (fun q => nomatch q)
  refine g_getF X1 hx hby hZ hown e1 (hw _ (List.mem_of_getElem? (i := 32) rfl)) Fv_sl1 d2_11 (pc' := 14) rfl (fun T4 X4 e4 => ?_)
  refine g_putF X4 hx hby hZ hown e4 (hw _ (List.mem_of_getElem? (i := 32) rfl)) F_value E_o (Or.inr ⟨(hw _ (List.mem_of_getElem? (i := 4) rfl)), rfl, hnm⟩) (hw _ (List.mem_of_getElem? (i := 2) rfl)) (ty := (.array .byte)) (by decide) rfl rfl d2_14 (pc' := 17) rfl (fun T5 h5 X5 e5 W5 => ?_)
  replace E_o := E_o.wr W5
  replace F_value := F_value.same W5
  replace F_coder := F_coder.other W5 (Or.inr (sn_1 hw))
  replace A_ar := A_ar.other W5 hne
  replace E_sl1 := E_sl1.wr W5
  replace Fc_sl1 := Fc_sl1.other W5 (Or.inl (Ne.symm ne_sl1))
  replace Fv_sl1 := Fv_sl1.other W5 (Or.inl (Ne.symm ne_sl1))
  have Z6 : n0 ≤ h5.size := by rw [W5.size]; exact Z2
  have kz7 := Nat.le_trans kz1 (Nat.le_of_eq W5.size.symm)
  have K8 := K3.wr W5 (Or.inl (List.mem_of_getElem? (i := 0) rfl))
  have N9 := Fr.snoc X5 N0 g_o
  refine g_aloadN X5 hx hby d2_17 (pc' := 18) rfl rfl rfl ?_
  refine g_ldcA X5 hx hby hZ hown (hw _ (List.mem_of_getElem? (i := 59) rfl)) LT1 d2_18 (pc' := 20) rfl ?_
  refine g_getF X5 hx hby hZ hown e5 (hw _ (List.mem_of_getElem? (i := 31) rfl)) Fc_sl1 d2_20 (pc' := 23) rfl (fun T11 X11 e11 => ?_)
  refine g_putF X11 hx hby hZ hown e11 (hw _ (List.mem_of_getElem? (i := 31) rfl)) F_coder E_o (Or.inr ⟨(hw _ (List.mem_of_getElem? (i := 5) rfl)), rfl, hnm⟩) (hw _ (List.mem_of_getElem? (i := 2) rfl)) (ty := .byte) (by decide) rfl rfl d2_23 (pc' := 26) rfl (fun T12 h12 X12 e12 W12 => ?_)
  replace E_o := E_o.wr W12
  replace F_value := F_value.other W12 (Or.inr (sn_0 hw))
  replace F_coder := F_coder.same W12
  replace A_ar := A_ar.other W12 hne
  replace E_sl1 := E_sl1.wr W12
  replace Fc_sl1 := Fc_sl1.other W12 (Or.inl (Ne.symm ne_sl1))
  replace Fv_sl1 := Fv_sl1.other W12 (Or.inl (Ne.symm ne_sl1))
  have Z13 : n0 ≤ h12.size := by rw [W12.size]; exact Z6
  have kz14 := Nat.le_trans kz7 (Nat.le_of_eq W12.size.symm)
  have K15 := K8.wr W12 (Or.inl (List.mem_of_getElem? (i := 0) rfl))
  have N16 := Fr.snoc X12 N9 g_o
  exact g_retV X12 hx hby hF.fin (by rw [e12]; exact kz14) hlk hret d2_26 (by decide) (by decide) (by rw [e12]; exact ⟨rfl, N16, E_o, K15⟩)
theorem ef_1_rm_i1 (m : MethodId) (o : Addr) (ar : Addr) : entryFrame m #[(.ref o), (.ref ar)] 2 = mkF m 0 #[.val (.ref o), .val (.ref ar)] [] := by first | (simp [entryFrame, mkF, argsToLocals, Value.category]; done) | rfl
theorem pn_1 : plainName "java/lang/String" = true := by first | (simp [plainName, overriddenIn]; done) | decide +kernel
theorem d1_0 : decode jdk_42_method_3_code 0 = .ok (.aload_n 0, 1) := by decide +kernel
theorem d1_1 : decode jdk_42_method_3_code 1 = .ok (.aload_n 1, 1) := by decide +kernel
theorem d1_2 : decode jdk_42_method_3_code 2 = .ok (.iconst 0, 1) := by decide +kernel
theorem d1_3 : decode jdk_42_method_3_code 3 = .ok (.aload_n 1, 1) := by decide +kernel
theorem d1_4 : decode jdk_42_method_3_code 4 = .ok (.arraylength, 1) := by decide +kernel
theorem d1_5 : decode jdk_42_method_3_code 5 = .ok (.aconst_null, 1) := by decide +kernel
theorem d1_6 : decode jdk_42_method_3_code 6 = .ok (.invokespecial 27, 3) := by decide +kernel
theorem pd___CIILjava_lang_Void__V_938 : parseMethodDescriptor "([CIILjava/lang/Void;)V" = some ⟨[(.array .char), .int, .int, (.object "java/lang/Void")], none⟩ := by decide +kernel
theorem d1_9 : decode jdk_42_method_3_code 9 = .ok (.return_, 1) := by decide +kernel
set_option maxRecDepth 65536 in
set_option maxHeartbeats 40000000 in
theorem rm_i1 (l : Launch) (Z : State) (a0 : Array Value) (hw : ∀ d ∈ tables_1, d.before a0 Z = true) (o : Addr) (ar : Addr) (n0 : Nat) (cs : Int32) (g : Nat → Int32) (h0 : Heap) (Z0 : n0 ≤ h0.size) (g_o : n0 ≤ o) (E_o : Exa Z h0 o "java/lang/String") (F_value : Fld Z h0 o "java/lang/String" "value" "[B" .null) (F_coder : Fld Z h0 o "java/lang/String" "coder" "B" (.int 0)) (hne : ar ≠ o) (SC : Sta Z h0 "java/lang/String" "COMPACT_STRINGS" "Z" (.int cs)) (hcs : ¬ cs = 0) (A_ar : Ara Z h0 ar .char 1 (fun jz => .int (g jz))) (hv : 0 ≤ (g 0).toInt ∧ (g 0).toInt ≤ 255) :
    Ct l Z (⟨"java/lang/String", "<init>", "([C)V"⟩ : MethodName) jdk_42_method_3_code 2 none ({ frames := 3, cells := 1, slots := 1, locals := 60 } : Room) #[(.ref o), (.ref ar)] h0 (QSt Z n0 h0 o cs) := by
  refine own_met (plainFor_of_name pn_1) (fun m => ef_1_rm_i1 m o ar) ?_
  intro p e s m below meth c T0 EF X0 hx hby hml hown hnm hret hlk hZ hF e0
  have N0 := Fr.nil n0
  refine g_aloadN X0 hx hby d1_0 (pc' := 1) rfl rfl rfl ?_
  refine g_aloadN X0 hx hby d1_1 (pc' := 2) rfl rfl rfl ?_
  refine g_iconst X0 hx hby d1_2 (pc' := 3) rfl (n := (0 : Int32)) (by first | rfl | decide) ?_
  refine g_aloadN X0 hx hby d1_3 (pc' := 4) rfl rfl rfl ?_
  refine a_arraylength X0 hx hby hZ e0 A_ar (N := (1 : Int32)) rfl d1_4 (pc' := 5) rfl ?_
  refine g_aconst_null X0 hx hby d1_5 (pc' := 6) rfl ?_
  refine g_special X0 hx hby hZ hown rfl hml rfl (hw _ (List.mem_of_getElem? (i := 13) rfl)) (hw _ (List.mem_of_getElem? (i := 14) rfl)) (hw _ (List.mem_of_getElem? (i := 1) rfl)) rfl (hw _ (List.mem_of_getElem? (i := 16) rfl)) (by decide) e0 (rm_i2 l Z a0 hw o ar n0 cs g h0 Z0 g_o E_o F_value F_coder hne SC hcs A_ar hv) pd___CIILjava_lang_Void__V_938 (a := o) (argsL := [(.ref ar), (.int (0 : Int32)), (.int (1 : Int32)), .null]) (rest := []) rfl rfl rfl d1_6 (pc' := 9) rfl (by decide) (Nat.le_of_ble_eq_true rfl) (by decide) (by decide) ?_
  intro Tp6 vp6 Lp6 Xp6 qp6
  obtain ⟨rfl, Nqp6, E_qp6, SCqp6, Kqp6⟩ := qp6
  replace Xp6 : Stand p l e ({ frames := 3, cells := 1, slots := 1, locals := 60 } : Room) s m _ below meth c Tp6 _ 1 1 := Xp6
  replace E_o := E_o.keep Kqp6
  replace A_ar := A_ar.keep Kqp6 (ninS hne nin0)
  have Z1 : n0 ≤ Tp6.heap.size := Nat.le_trans Z0 Kqp6.1
  have K2 := (Keep.refl h0 [o]).trans Kqp6 (allS (Or.inl (List.mem_of_getElem? (i := 0) rfl)) all0)
  have Np6 := Fr.app N0 Nqp6
  show Go p e below EF (QSt Z n0 h0 o cs) m Tp6 9 #[.val (.ref o), .val (.ref ar)] []
  exact g_retV Xp6 hx hby hF (Nat.zero_le _) hlk hret d1_9 (by decide) (by decide) (⟨rfl, Np6, E_qp6, SCqp6, K2⟩)
theorem ef_1_rm_i1H (m : MethodId) (o : Addr) (ar : Addr) : entryFrame m #[(.ref o), (.ref ar)] 2 = mkF m 0 #[.val (.ref o), .val (.ref ar)] [] := by first | (simp [entryFrame, mkF, argsToLocals, Value.category]; done) | rfl
set_option maxRecDepth 65536 in
set_option maxHeartbeats 40000000 in
theorem rm_i1H (l : Launch) (Z : State) (a0 : Array Value) (hw : ∀ d ∈ tables_1, d.before a0 Z = true) (o : Addr) (ar : Addr) (n0 : Nat) (h0 : Heap) (Z0 : n0 ≤ h0.size) (g_o : n0 ≤ o) (E_o : Exa Z h0 o "java/lang/String") (F_value : Fld Z h0 o "java/lang/String" "value" "[B" .null) (F_coder : Fld Z h0 o "java/lang/String" "coder" "B" (.int 0)) (hne : ar ≠ o) (A_ar : Ara Z h0 ar .char 0 (fun jz => .int ((fun _ => (0 : Int32)) jz))) :
    CtH l Z consts_1 (⟨"java/lang/String", "<init>", "([C)V"⟩ : MethodName) jdk_42_method_3_code 2 none ({ frames := 2, cells := 2, slots := 4, locals := 30 } : Room) #[(.ref o), (.ref ar)] h0 (QSh Z n0 h0 o) := by
  refine own_metH (plainFor_of_name pn_1) (fun m => ef_1_rm_i1H m o ar) ?_
  intro p e s m below meth c T0 EF X0 hx hby hml hown hnm hret hlk hZ hF e0 HC
  have N0 := Fr.nil n0
  refine g_aloadN X0 hx hby d1_0 (pc' := 1) rfl rfl rfl ?_
  refine g_aloadN X0 hx hby d1_1 (pc' := 2) rfl rfl rfl ?_
  refine g_iconst X0 hx hby d1_2 (pc' := 3) rfl (n := (0 : Int32)) (by first | rfl | decide) ?_
  refine g_aloadN X0 hx hby d1_3 (pc' := 4) rfl rfl rfl ?_
  refine a_arraylength X0 hx hby hZ e0 A_ar (N := (0 : Int32)) rfl d1_4 (pc' := 5) rfl ?_
  refine g_aconst_null X0 hx hby d1_5 (pc' := 6) rfl ?_
  refine g_specialH X0 hx hby hZ hown rfl hml rfl (hw _ (List.mem_of_getElem? (i := 13) rfl)) (hw _ (List.mem_of_getElem? (i := 14) rfl)) (hw _ (List.mem_of_getElem? (i := 1) rfl)) rfl (hw _ (List.mem_of_getElem? (i := 16) rfl)) (by decide) e0 hF (Nat.zero_le _) (rm_i2H l Z a0 hw o ar n0 h0 Z0 g_o E_o F_value F_coder hne A_ar) pd___CIILjava_lang_Void__V_938 (own_EW hw) HC (a := o) (argsL := [(.ref ar), (.int (0 : Int32)), (.int (0 : Int32)), .null]) (rest := []) rfl rfl rfl d1_6 (pc' := 9) rfl (by decide) (Nat.le_of_ble_eq_true rfl) (by decide) (by decide) ?_
  intro s Tp6 vp6 Lp6 Xp6 hZ hown hF kgp6 qp6
  obtain ⟨rfl, Nqp6, E_qp6, Kqp6⟩ := qp6
  replace Xp6 : Stand p l e ({ frames := 2, cells := 2, slots := 4, locals := 30 } : Room) s m _ below meth c Tp6 _ 2 4 := Xp6
  replace E_o := E_o.keep Kqp6
  replace A_ar := A_ar.keep Kqp6 (ninS hne nin0)
  have Z1 : n0 ≤ Tp6.heap.size := Nat.le_trans Z0 Kqp6.1
  have K2 := (Keep.refl h0 [o]).trans Kqp6 (allS (Or.inl (List.mem_of_getElem? (i := 0) rfl)) all0)
  have Np6 := Fr.app N0 Nqp6
  show Go p e below EF (QSh Z n0 h0 o) m Tp6 9 #[.val (.ref o), .val (.ref ar)] []
  exact g_retV Xp6 hx hby hF.fin (Nat.le_refl _) hlk hret d1_9 (by decide) (by decide) (⟨rfl, Np6, E_qp6, K2⟩)
theorem ef_8 (m : MethodId) (o : Addr) : entryFrame m #[(.ref o)] 1 = mkF m 0 #[.val (.ref o)] [] := by first | (simp [entryFrame, mkF, argsToLocals, Value.category]; done) | rfl
theorem pn_8 : plainName "java/lang/Record" = true := by first | (simp [plainName, overriddenIn]; done) | decide +kernel
theorem d8_0 : decode jdk_30_method_1_code 0 = .ok (.aload_n 0, 1) := by decide +kernel
theorem d8_1 : decode jdk_30_method_1_code 1 = .ok (.invokespecial 1, 3) := by decide +kernel
theorem d8_4 : decode jdk_30_method_1_code 4 = .ok (.return_, 1) := by decide +kernel
set_option maxRecDepth 65536 in
set_option maxHeartbeats 40000000 in
theorem rm8 (l : Launch) (Z : State) (a0 : Array Value) (hw : ∀ d ∈ tables_1, d.before a0 Z = true) (o : Addr) (h0 : Heap)  :
    Ct l Z (⟨"java/lang/Record", "<init>", "()V"⟩ : MethodName) jdk_30_method_1_code 1 none ({ frames := 1, cells := 0, slots := 0, locals := 12 } : Room) #[(.ref o)] h0 (QV h0) := by
  refine own_met (plainFor_of_name pn_8) (fun m => ef_8 m o) ?_
  intro p e s m below meth c T0 EF X0 hx hby hml hown hnm hret hlk hZ hF e0
  refine g_aloadN X0 hx hby d8_0 (pc' := 1) rfl rfl rfl ?_
  refine g_initO X0 hx hby hZ hown e0 (hw _ (List.mem_of_getElem? (i := 44) rfl)) (hw _ (List.mem_of_getElem? (i := 18) rfl)) (hw _ (List.mem_of_getElem? (i := 19) rfl)) hml rfl d8_1 (pc' := 4) rfl (by decide) (Nat.le_of_ble_eq_true rfl) (fun Tp1 Xp1 ep1 => ?_)
  exact g_retV Xp1 hx hby hF (Nat.zero_le _) hlk hret d8_4 (by decide) (by decide) (⟨rfl, ep1, rfl⟩)
theorem ef_9 (m : MethodId) (ob : Addr) (ms : Addr) : entryFrame m #[(.ref ob), (.ref ms)] 2 = mkF m 0 #[.val (.ref ob), .val (.ref ms)] [] := by first | (simp [entryFrame, mkF, argsToLocals, Value.category]; done) | rfl
theorem pn_9 : plainName "java/util/Objects" = true := by first | (simp [plainName, overriddenIn]; done) | decide +kernel
theorem d9_0 : decode jdk_31_method_11_code 0 = .ok (.aload_n 0, 1) := by decide +kernel
theorem d9_1 : decode jdk_31_method_11_code 1 = .ok (.ifnonnull 12, 3) := by decide +kernel
theorem d9_13 : decode jdk_31_method_11_code 13 = .ok (.aload_n 0, 1) := by decide +kernel
theorem d9_14 : decode jdk_31_method_11_code 14 = .ok (.areturn, 1) := by decide +kernel
set_option maxRecDepth 65536 in
set_option maxHeartbeats 40000000 in
theorem rm9 (l : Launch) (Z : State) (a0 : Array Value) (hw : ∀ d ∈ tables_1, d.before a0 Z = true) (ob : Addr) (ms : Addr) (h0 : Heap)  :
    Ct l Z (⟨"java/util/Objects", "requireNonNull", "(Ljava/lang/Object;Ljava/lang/String;)Ljava/lang/Object;"⟩ : MethodName) jdk_31_method_11_code 2 (some (.object "java/lang/Object")) ({ frames := 0, cells := 0, slots := 0, locals := 0 } : Room) #[(.ref ob), (.ref ms)] h0 (QA h0 ob) := by
  refine own_met (plainFor_of_name pn_9) (fun m => ef_9 m ob ms) ?_
  intro p e s m below meth c T0 EF X0 hx hby hml hown hnm hret hlk hZ hF e0
  refine g_aloadN X0 hx hby d9_0 (pc' := 1) rfl rfl rfl ?_
  refine g_ifnonnull X0 hx hby rfl d9_1 (pt := 13) (pf := 4) (by decide) (by decide) rfl (fun bz qz => ?_) (fun qz => nomatch qz)
  refine g_aloadN X0 hx hby d9_13 (pc' := 14) rfl rfl rfl ?_
  exact g_retA X0 hx hby hF (Nat.zero_le _) hlk rfl rfl hret d9_14 (by decide) (by decide) (⟨rfl, e0, rfl⟩)
theorem ef_7_rm_vN (m : MethodId) (o : Addr) (di : Addr) : entryFrame m #[(.ref o), (.ref di), .null] 3 = mkF m 0 #[.val (.ref o), .val (.ref di), .val .null] [] := by first | (simp [entryFrame, mkF, argsToLocals, Value.category]; done) | rfl
theorem pn_7 : plainName "com/example/turnstone/turnstone/index/Verdict" = true := by first | (simp [plainName, overriddenIn]; done) | decide +kernel
theorem d7_0 : decode prog_13_method_1_code 0 = .ok (.aload_n 0, 1) := by decide +kernel
theorem d7_1 : decode prog_13_method_1_code 1 = .ok (.invokespecial 1, 3) := by decide +kernel
theorem pd___V_167 : parseMethodDescriptor "()V" = some ⟨[], none⟩ := by decide +kernel
theorem d7_4 : decode prog_13_method_1_code 4 = .ok (.aload_n 1, 1) := by decide +kernel
theorem d7_5 : decode prog_13_method_1_code 5 = .ok (.ldc 7, 2) := by decide +kernel
theorem d7_7 : decode prog_13_method_1_code 7 = .ok (.invokestatic 9, 3) := by decide +kernel
theorem pd__Ljava_lang_Object_Ljava_lang_String__Ljava_lang_Object__105 : parseMethodDescriptor "(Ljava/lang/Object;Ljava/lang/String;)Ljava/lang/Object;" = some ⟨[(.object "java/lang/Object"), (.object "java/lang/String")], some (.object "java/lang/Object")⟩ := by decide +kernel
theorem d7_10 : decode prog_13_method_1_code 10 = .ok (.pop, 1) := by decide +kernel
theorem d7_11 : decode prog_13_method_1_code 11 = .ok (.aload_n 0, 1) := by decide +kernel
theorem d7_12 : decode prog_13_method_1_code 12 = .ok (.aload_n 1, 1) := by decide +kernel
theorem d7_13 : decode prog_13_method_1_code 13 = .ok (.putfield 15, 3) := by decide +kernel
theorem sn_2 {a0 : Array Value} {Z : State} (hw : ∀ d ∈ tables_1, d.before a0 Z = true) : Jvm.RoadKit.slotOf Z "com/example/turnstone/turnstone/index/Verdict" "originalId" "Ljava/lang/String;" ≠ Jvm.RoadKit.slotOf Z "com/example/turnstone/turnstone/index/Verdict" "id" "Ljava/lang/String;" := slot_ne (Or.inr (hw _ (List.mem_of_getElem? (i := 53) rfl))) (Or.inr (hw _ (List.mem_of_getElem? (i := 51) rfl))) (by decide) (t := (.object "java/lang/String")) (t' := (.object "java/lang/String")) (by decide) (by decide)
theorem d7_16 : decode prog_13_method_1_code 16 = .ok (.aload_n 0, 1) := by decide +kernel
theorem d7_17 : decode prog_13_method_1_code 17 = .ok (.aload_n 2, 1) := by decide +kernel
theorem d7_18 : decode prog_13_method_1_code 18 = .ok (.putfield 20, 3) := by decide +kernel
theorem sn_3 {a0 : Array Value} {Z : State} (hw : ∀ d ∈ tables_1, d.before a0 Z = true) : Jvm.RoadKit.slotOf Z "com/example/turnstone/turnstone/index/Verdict" "id" "Ljava/lang/String;" ≠ Jvm.RoadKit.slotOf Z "com/example/turnstone/turnstone/index/Verdict" "originalId" "Ljava/lang/String;" := slot_ne (Or.inr (hw _ (List.mem_of_getElem? (i := 51) rfl))) (Or.inr (hw _ (List.mem_of_getElem? (i := 53) rfl))) (by decide) (t := (.object "java/lang/String")) (t' := (.object "java/lang/String")) (by decide) (by decide)
theorem d7_21 : decode prog_13_method_1_code 21 = .ok (.return_, 1) := by decide +kernel
set_option maxRecDepth 65536 in
set_option maxHeartbeats 40000000 in
theorem rm_vN (l : Launch) (Z : State) (a0 : Array Value) (hw : ∀ d ∈ tables_1, d.before a0 Z = true) (o : Addr) (di : Addr) (n0 : Nat) (h0 : Heap) (Z0 : n0 ≤ h0.size) (g_o : n0 ≤ o) (E_o : Exa Z h0 o "com/example/turnstone/turnstone/index/Verdict") (F_id : Fld Z h0 o "com/example/turnstone/turnstone/index/Verdict" "id" "Ljava/lang/String;" .null) (F_or : Fld Z h0 o "com/example/turnstone/turnstone/index/Verdict" "originalId" "Ljava/lang/String;" .null) :
    CtW l Z (⟨"com/example/turnstone/turnstone/index/Verdict", "<init>", "(Ljava/lang/String;Ljava/lang/String;)V"⟩ : MethodName) prog_13_method_1_code 3 none ({ frames := 2, cells := 2, slots := 12, locals := 30 } : Room) #[(.ref o), (.ref di), .null] h0 (QVd Z n0 h0 o .null) := by
  refine own_metW (plainFor_of_name pn_7) (fun m => ef_7_rm_vN m o di) ?_
  intro p e s m below meth c T0 EF X0 hx hby hml hown hnm hret hlk hZ hF e0
  have N0 := Fr.nil n0
  refine g_aloadN X0 hx hby d7_0 (pc' := 1) rfl rfl rfl ?_
  refine g_special X0 hx hby hZ hown rfl hml rfl (hw _ (List.mem_of_getElem? (i := 39) rfl)) (hw _ (List.mem_of_getElem? (i := 40) rfl)) (hw _ (List.mem_of_getElem? (i := 42) rfl)) rfl (hw _ (List.mem_of_getElem? (i := 43) rfl)) (by decide) e0 (rm8 l Z a0 hw o h0 ) pd___V_167 (a := o) (argsL := []) (rest := []) rfl rfl rfl d7_1 (pc' := 4) rfl (by decide) (Nat.le_of_ble_eq_true rfl) (by decide) (by decide) ?_
  intro Tp1 vp1 Lp1 Xp1 qp1
  obtain ⟨rfl, ep1, rfl⟩ := qp1
  rw [List.append_nil] at Xp1
  replace Xp1 : Stand p l e ({ frames := 2, cells := 2, slots := 12, locals := 30 } : Room) s m _ below meth c Tp1 _ 0 0 := Xp1
  show Go p e below EF (QVd Z n0 h0 o .null) m Tp1 4 #[.val (.ref o), .val (.ref di), .val .null] []
  refine g_aloadN Xp1 hx hby d7_4 (pc' := 5) rfl rfl rfl ?_
  refine g_ldcS Xp1 hx hby hZ hown ep1 hF (Nat.zero_le _) (hw _ (List.mem_of_getElem? (i := 45) rfl)) (own_wS hw) d7_5 (pc' := 7) rfl (n := 8) (by decide) (by decide) (by decide) (by decide) (fun s T1 h1 sl1 k1 X1 hZ hown hF kz1 e1 E1 => ?_)
  replace E_o := E_o.ext E1
  replace F_id := F_id.ext E1
  replace F_or := F_or.ext E1
  have Z2 : n0 ≤ h1.size := Nat.le_trans Z0 E1.1
  have K3 := (Keep.refl h0 [o]).ext E1
  replace X1 : Stand p l e ({ frames := 2, cells := 2, slots := 12, locals := 30 } : Room) s m _ below meth c T1 _ 2 12 := X1
  refine g_static X1 hx hby hZ hown hml rfl (hw _ (List.mem_of_getElem? (i := 46) rfl)) (hw _ (List.mem_of_getElem? (i := 47) rfl)) (hw _ (List.mem_of_getElem? (i := 48) rfl)) (hw _ (List.mem_of_getElem? (i := 49) rfl)) (by decide) e1 (rm9 l Z a0 hw di sl1 h1) pd__Ljava_lang_Object_Ljava_lang_String__Ljava_lang_Object__105 (argsL := [(.ref di), (.ref sl1)]) (rest := []) rfl rfl rfl d7_7 (pc' := 10) rfl (by decide) (Nat.le_of_ble_eq_true rfl) (by decide) (by decide) ?_
  intro Tp7 vp7 Lp7 Xp7 qp7
  obtain ⟨rfl, ep7, rfl⟩ := qp7
  rw [List.append_nil] at Xp7
  replace Xp7 : Stand p l e ({ frames := 2, cells := 2, slots := 12, locals := 30 } : Room) s m _ below meth c Tp7 _ 2 12 := Xp7
  show Go p e below EF (QVd Z n0 h0 o .null) m Tp7 10 #[.val (.ref o), .val (.ref di), .val .null] [(.ref di)]
  refine g_pop Xp7 hx hby d7_10 (pc' := 11) rfl rfl ?_
  refine g_aloadN Xp7 hx hby d7_11 (pc' := 12) rfl rfl rfl ?_
  refine g_aloadN Xp7 hx hby d7_12 (pc' := 13) rfl rfl rfl ?_
  refine g_putF Xp7 hx hby hZ hown ep7 (hw _ (List.mem_of_getElem? (i := 50) rfl)) F_id E_o (Or.inr ⟨(hw _ (List.mem_of_getElem? (i := 51) rfl)), rfl, hnm⟩) (hw _ (List.mem_of_getElem? (i := 34) rfl)) (ty := (.object "java/lang/String")) (by decide) rfl rfl d7_13 (pc' := 16) rfl (fun T4 h4 X4 e4 W4 => ?_)
  replace E_o := E_o.wr W4
  replace F_id := F_id.same W4
  replace F_or := F_or.other W4 (Or.inr (sn_2 hw))
  have Z5 : n0 ≤ h4.size := by rw [W4.size]; exact Z2
  have kz6 := Nat.le_trans kz1 (Nat.le_of_eq W4.size.symm)
  have K7 := K3.wr W4 (Or.inl (List.mem_of_getElem? (i := 0) rfl))
  have N8 := Fr.snoc X4 N0 g_o
  refine g_aloadN X4 hx hby d7_16 (pc' := 17) rfl rfl rfl ?_
  refine g_aloadN X4 hx hby d7_17 (pc' := 18) rfl rfl rfl ?_
  refine g_putF X4 hx hby hZ hown e4 (hw _ (List.mem_of_getElem? (i := 52) rfl)) F_or E_o (Or.inr ⟨(hw _ (List.mem_of_getElem? (i := 53) rfl)), rfl, hnm⟩) (hw _ (List.mem_of_getElem? (i := 34) rfl)) (ty := (.object "java/lang/String")) (by decide) rfl rfl d7_18 (pc' := 21) rfl (fun T9 h9 X9 e9 W9 => ?_)
  replace E_o := E_o.wr W9
  replace F_id := F_id.other W9 (Or.inr (sn_3 hw))
  replace F_or := F_or.same W9
  have Z10 : n0 ≤ h9.size := by rw [W9.size]; exact Z5
  have kz11 := Nat.le_trans kz6 (Nat.le_of_eq W9.size.symm)
  have K12 := K7.wr W9 (Or.inl (List.mem_of_getElem? (i := 0) rfl))
  have N13 := Fr.snoc X9 N8 g_o
  exact g_retV X9 hx hby hF.fin (by rw [e9]; exact kz11) hlk hret d7_21 (by decide) (by decide) (by rw [e9]; exact ⟨rfl, N13, E_o, F_or, K12⟩)
theorem ef_7_rm_vR (m : MethodId) (o : Addr) (di : Addr) (og : Addr) : entryFrame m #[(.ref o), (.ref di), (.ref og)] 3 = mkF m 0 #[.val (.ref o), .val (.ref di), .val (.ref og)] [] := by first | (simp [entryFrame, mkF, argsToLocals, Value.category]; done) | rfl
set_option maxRecDepth 65536 in
set_option maxHeartbeats 40000000 in
theorem rm_vR (l : Launch) (Z : State) (a0 : Array Value) (hw : ∀ d ∈ tables_1, d.before a0 Z = true) (o : Addr) (di : Addr) (og : Addr) (n0 : Nat) (h0 : Heap) (Z0 : n0 ≤ h0.size) (g_o : n0 ≤ o) (E_o : Exa Z h0 o "com/example/turnstone/turnstone/index/Verdict") (F_id : Fld Z h0 o "com/example/turnstone/turnstone/index/Verdict" "id" "Ljava/lang/String;" .null) (F_or : Fld Z h0 o "com/example/turnstone/turnstone/index/Verdict" "originalId" "Ljava/lang/String;" .null) :
    CtW l Z (⟨"com/example/turnstone/turnstone/index/Verdict", "<init>", "(Ljava/lang/String;Ljava/lang/String;)V"⟩ : MethodName) prog_13_method_1_code 3 none ({ frames := 2, cells := 2, slots := 12, locals := 30 } : Room) #[(.ref o), (.ref di), (.ref og)] h0 (QVd Z n0 h0 o (.ref og)) := by
  refine own_metW (plainFor_of_name pn_7) (fun m => ef_7_rm_vR m o di og) ?_
  intro p e s m below meth c T0 EF X0 hx hby hml hown hnm hret hlk hZ hF e0
  have N0 := Fr.nil n0
  refine g_aloadN X0 hx hby d7_0 (pc' := 1) rfl rfl rfl ?_
  refine g_special X0 hx hby hZ hown rfl hml rfl (hw _ (List.mem_of_getElem? (i := 39) rfl)) (hw _ (List.mem_of_getElem? (i := 40) rfl)) (hw _ (List.mem_of_getElem? (i := 42) rfl)) rfl (hw _ (List.mem_of_getElem? (i := 43) rfl)) (by decide) e0 (rm8 l Z a0 hw o h0 ) pd___V_167 (a := o) (argsL := []) (rest := []) rfl rfl rfl d7_1 (pc' := 4) rfl (by decide) (Nat.le_of_ble_eq_true rfl) (by decide) (by decide) ?_
  intro Tp1 vp1 Lp1 Xp1 qp1
  obtain ⟨rfl, ep1, rfl⟩ := qp1
  rw [List.append_nil] at Xp1
  replace Xp1 : Stand p l e ({ frames := 2, cells := 2, slots := 12, locals := 30 } : Room) s m _ below meth c Tp1 _ 0 0 := Xp1
  show Go p e below EF (QVd Z n0 h0 o (.ref og)) m Tp1 4 #[.val (.ref o), .val (.ref di), .val (.ref og)] []
  refine g_aloadN Xp1 hx hby d7_4 (pc' := 5) rfl rfl rfl ?_
  refine g_ldcS Xp1 hx hby hZ hown ep1 hF (Nat.zero_le _) (hw _ (List.mem_of_getElem? (i := 45) rfl)) (own_wS hw) d7_5 (pc' := 7) rfl (n := 8) (by decide) (by decide) (by decide) (by decide) (fun s T1 h1 sl1 k1 X1 hZ hown hF kz1 e1 E1 => ?_)
  replace E_o := E_o.ext E1
  replace F_id := F_id.ext E1
  replace F_or := F_or.ext E1
  have Z2 : n0 ≤ h1.size := Nat.le_trans Z0 E1.1
  have K3 := (Keep.refl h0 [o]).ext E1
  replace X1 : Stand p l e ({ frames := 2, cells := 2, slots := 12, locals := 30 } : Room) s m _ below meth c T1 _ 2 12 := X1
  refine g_static X1 hx hby hZ hown hml rfl (hw _ (List.mem_of_getElem? (i := 46) rfl)) (hw _ (List.mem_of_getElem? (i := 47) rfl)) (hw _ (List.mem_of_getElem? (i := 48) rfl)) (hw _ (List.mem_of_getElem? (i := 49) rfl)) (by decide) e1 (rm9 l Z a0 hw di sl1 h1) pd__Ljava_lang_Object_Ljava_lang_String__Ljava_lang_Object__105 (argsL := [(.ref di), (.ref sl1)]) (rest := []) rfl rfl rfl d7_7 (pc' := 10) rfl (by decide) (Nat.le_of_ble_eq_true rfl) (by decide) (by decide) ?_
  intro Tp7 vp7 Lp7 Xp7 qp7
  obtain ⟨rfl, ep7, rfl⟩ := qp7
  rw [List.append_nil] at Xp7
  replace Xp7 : Stand p l e ({ frames := 2, cells := 2, slots := 12, locals := 30 } : Room) s m _ below meth c Tp7 _ 2 12 := Xp7
  show Go p e below EF (QVd Z n0 h0 o (.ref og)) m Tp7 10 #[.val (.ref o), .val (.ref di), .val (.ref og)] [(.ref di)]
  refine g_pop Xp7 hx hby d7_10 (pc' := 11) rfl rfl ?_
  refine g_aloadN Xp7 hx hby d7_11 (pc' := 12) rfl rfl rfl ?_
  refine g_aloadN Xp7 hx hby d7_12 (pc' := 13) rfl rfl rfl ?_
  refine g_putF Xp7 hx hby hZ hown ep7 (hw _ (List.mem_of_getElem? (i := 50) rfl)) F_id E_o (Or.inr ⟨(hw _ (List.mem_of_getElem? (i := 51) rfl)), rfl, hnm⟩) (hw _ (List.mem_of_getElem? (i := 34) rfl)) (ty := (.object "java/lang/String")) (by decide) rfl rfl d7_13 (pc' := 16) rfl (fun T4 h4 X4 e4 W4 => ?_)
  replace E_o := E_o.wr W4
  replace F_id := F_id.same W4
  replace F_or := F_or.other W4 (Or.inr (sn_2 hw))
  have Z5 : n0 ≤ h4.size := by rw [W4.size]; exact Z2
  have kz6 := Nat.le_trans kz1 (Nat.le_of_eq W4.size.symm)
  have K7 := K3.wr W4 (Or.inl (List.mem_of_getElem? (i := 0) rfl))
  have N8 := Fr.snoc X4 N0 g_o
  refine g_aloadN X4 hx hby d7_16 (pc' := 17) rfl rfl rfl ?_
  refine g_aloadN X4 hx hby d7_17 (pc' := 18) rfl rfl rfl ?_
  refine g_putF X4 hx hby hZ hown e4 (hw _ (List.mem_of_getElem? (i := 52) rfl)) F_or E_o (Or.inr ⟨(hw _ (List.mem_of_getElem? (i := 53) rfl)), rfl, hnm⟩) (hw _ (List.mem_of_getElem? (i := 34) rfl)) (ty := (.object "java/lang/String")) (by decide) rfl rfl d7_18 (pc' := 21) rfl (fun T9 h9 X9 e9 W9 => ?_)
  replace E_o := E_o.wr W9
  replace F_id := F_id.other W9 (Or.inr (sn_3 hw))
  replace F_or := F_or.same W9
  have Z10 : n0 ≤ h9.size := by rw [W9.size]; exact Z5
  have kz11 := Nat.le_trans kz6 (Nat.le_of_eq W9.size.symm)
  have K12 := K7.wr W9 (Or.inl (List.mem_of_getElem? (i := 0) rfl))
  have N13 := Fr.snoc X9 N8 g_o
  exact g_retV X9 hx hby hF.fin (by rw [e9]; exact kz11) hlk hret d7_21 (by decide) (by decide) (by rw [e9]; exact ⟨rfl, N13, E_o, F_or, K12⟩)
theorem ef_10_rm_dN (m : MethodId) (o : Addr) : entryFrame m #[(.ref o)] 1 = mkF m 0 #[.val (.ref o)] [] := by first | (simp [entryFrame, mkF, argsToLocals, Value.category]; done) | rfl
theorem pn_10 : plainName "com/example/turnstone/turnstone/index/Verdict" = true := by first | (simp [plainName, overriddenIn]; done) | decide +kernel
theorem d10_0 : decode prog_13_method_4_code 0 = .ok (.aload_n 0, 1) := by decide +kernel
theorem d10_1 : decode prog_13_method_4_code 1 = .ok (.getfield 20, 3) := by decide +kernel
theorem d10_4 : decode prog_13_method_4_code 4 = .ok (.ifnull 7, 3) := by decide +kernel
theorem d10_11 : decode prog_13_method_4_code 11 = .ok (.iconst 0, 1) := by decide +kernel
theorem d10_12 : decode prog_13_method_4_code 12 = .ok (.ireturn, 1) := by decide +kernel
set_option maxRecDepth 65536 in
set_option maxHeartbeats 40000000 in
theorem rm_dN (l : Launch) (Z : State) (a0 : Array Value) (hw : ∀ d ∈ tables_1, d.before a0 Z = true) (o : Addr) (h0 : Heap) (F_or : Fld Z h0 o "com/example/turnstone/turnstone/index/Verdict" "originalId" "Ljava/lang/String;" .null) :
    Ct l Z (⟨"com/example/turnstone/turnstone/index/Verdict", "isDuplicate", "()Z"⟩ : MethodName) prog_13_method_4_code 1 (some .boolean) ({ frames := 0, cells := 0, slots := 0, locals := 0 } : Room) #[(.ref o)] h0 (QK h0 0) := by
  refine own_met (plainFor_of_name pn_10) (fun m => ef_10_rm_dN m o) ?_
  intro p e s m below meth c T0 EF X0 hx hby hml hown hnm hret hlk hZ hF e0
  refine g_aloadN X0 hx hby d10_0 (pc' := 1) rfl rfl rfl ?_
  refine g_getF X0 hx hby hZ hown e0 (hw _ (List.mem_of_getElem? (i := 52) rfl)) F_or d10_1 (pc' := 4) rfl (fun T1 X1 e1 => ?_)
  refine g_ifnull X1 hx hby rfl d10_4 (pt := 11) (pf := 7) (by decide) (by decide) rfl (fun qz => ?_) (fun bz qz => nomatch qz)
  refine g_iconst X1 hx hby d10_11 (pc' := 12) rfl (n := (0 : Int32)) (by first | rfl | decide) ?_
  exact g_retZ X1 hx hby hF (Nat.zero_le _) hlk (Or.inl rfl) hret d10_12 (by decide) (by decide) (⟨rfl, e1, rfl⟩)
theorem ef_10_rm_dR (m : MethodId) (o : Addr) : entryFrame m #[(.ref o)] 1 = mkF m 0 #[.val (.ref o)] [] := by first | (simp [entryFrame, mkF, argsToLocals, Value.category]; done) | rfl
theorem d10_7 : decode prog_13_method_4_code 7 = .ok (.iconst 1, 1) := by decide +kernel
theorem d10_8 : decode prog_13_method_4_code 8 = .ok (.goto 4, 3) := by decide +kernel
set_option maxRecDepth 65536 in
set_option maxHeartbeats 40000000 in
theorem rm_dR (l : Launch) (Z : State) (a0 : Array Value) (hw : ∀ d ∈ tables_1, d.before a0 Z = true) (o : Addr) (og : Addr) (h0 : Heap) (F_or : Fld Z h0 o "com/example/turnstone/turnstone/index/Verdict" "originalId" "Ljava/lang/String;" (.ref og)) :
    Ct l Z (⟨"com/example/turnstone/turnstone/index/Verdict", "isDuplicate", "()Z"⟩ : MethodName) prog_13_method_4_code 1 (some .boolean) ({ frames := 0, cells := 0, slots := 0, locals := 0 } : Room) #[(.ref o)] h0 (QK h0 1) := by
  refine own_met (plainFor_of_name pn_10) (fun m => ef_10_rm_dR m o) ?_
  intro p e s m below meth c T0 EF X0 hx hby hml hown hnm hret hlk hZ hF e0
  refine g_aloadN X0 hx hby d10_0 (pc' := 1) rfl rfl rfl ?_
  refine g_getF X0 hx hby hZ hown e0 (hw _ (List.mem_of_getElem? (i := 52) rfl)) F_or d10_1 (pc' := 4) rfl (fun T1 X1 e1 => ?_)
  refine g_ifnull X1 hx hby rfl d10_4 (pt := 11) (pf := 7) (by decide) (by decide) rfl (fun qz => nomatch qz) (fun bz qz => ?_)
  refine g_iconst X1 hx hby d10_7 (pc' := 8) rfl (n := (1 : Int32)) (by first | rfl | decide) ?_
  refine g_goto X1 hx hby d10_8 (pc' := 12) (by decide) (by decide) ?_
  exact g_retZ X1 hx hby hF (Nat.zero_le _) hlk (Or.inr rfl) hret d10_12 (by decide) (by decide) (⟨rfl, e1, rfl⟩)
theorem ef_0 (m : MethodId) (ua : Int32) (ub : Int32) (uc : Int32) (ud : Int32) : entryFrame m #[(.int ua), (.int ub), (.int uc), (.int ud)] maxLocals = mkF m 0 #[.val (.int ua), .val (.int ub), .val (.int uc), .val (.int ud), .unset, .unset, .unset, .unset, .unset, .unset, .unset] [] := by first | (simp [entryFrame, mkF, argsToLocals, Value.category, maxLocals]; done) | rfl
theorem pn_0 : plainName "com/example/turnstone/turnstone/index/VerdictIsDuplicatePinLaw" = true := by first | (simp [plainName, overriddenIn]; done) | decide +kernel
theorem pd__Ljava_lang_String_Ljava_lang_String__V_559 : parseMethodDescriptor "(Ljava/lang/String;Ljava/lang/String;)V" = some ⟨[(.object "java/lang/String"), (.object "java/lang/String")], none⟩ := by decide +kernel
theorem pd___Z_171 : parseMethodDescriptor "()Z" = some ⟨[], some .boolean⟩ := by decide +kernel
theorem pd___C_V_325 : parseMethodDescriptor "([C)V" = some ⟨[(.array .char)], none⟩ := by decide +kernel
set_option maxRecDepth 65536 in
set_option maxHeartbeats 40000000 in
theorem law0 (l : Launch) (Z : State) (a0 : Array Value) (hw : ∀ d ∈ tables_1, d.before a0 Z = true) (ws : List Jvm.Cond) (ua : Int32) (ub : Int32) (uc : Int32) (ud : Int32) (n0 : Nat) (cs : Int32) (h0 : Heap) (Z0 : n0 ≤ h0.size) (SC : Sta Z h0 "java/lang/String" "COMPACT_STRINGS" "Z" (.int cs)) (hcs : ¬ cs = 0) :
    MetFree l x (head1 (Jvm.Cond.code x code maxLocals ret :: ws) room_1) (fun a U => a = #[(.int ua), (.int ub), (.int uc), (.int ud)] ∧ Z.Warmed39 U.vm ∧ U.heap = h0 ∧ CHv Z consts_1 U.vm h0) (fun _ _ _ _ _ => True) (fun _ U o U' => ∃ v L, o = .returned v ∧ (Q0 n0) v U'.heap L ∧ ReturnedEndW U o U' L room_1.cells room_1.slots) := by
  refine own_metH (plainFor_of_name pn_0) (fun m => ef_0 m ua ub uc ud) ?_
  intro p e s m below meth c T0 EF X0 hx hby hml hown hnm hret hlk hZ hF e0 HC
  have N0 := Fr.nil n0
  refine g_iloadN X0 hx hby at_0 (pc' := 1) rfl rfl ?_
  refine g_sipush X0 hx hby at_1 (pc' := 4) rfl (n := (255 : Int32)) (by first | rfl | decide) ?_
  refine g_iand X0 hx hby at_4 (pc' := 5) rfl ?_
  refine g_i2c X0 hx hby at_5 (pc' := 6) rfl ?_
  refine g_nameI (fun cc h_cc => ?_)
  have hcc := own_cc _ cc h_cc
  refine g_istore X0 hx hby at_6 (pc' := 8) rfl (Ls' := #[.val (.int ua), .val (.int ub), .val (.int uc), .val (.int ud), .val (.int cc), .unset, .unset, .unset, .unset, .unset, .unset]) rfl ?_
  refine g_iloadN X0 hx hby at_8 (pc' := 9) rfl rfl ?_
  refine g_iconst X0 hx hby at_9 (pc' := 10) rfl (n := (1 : Int32)) (by first | rfl | decide) ?_
  refine g_iand X0 hx hby at_10 (pc' := 11) rfl ?_
  refine g_ifeq X0 hx hby at_11 (pt := 18) (pf := 14) (by decide) (by decide) rfl (fun (h11 : (ua &&& (1 : Int32)) = (0 : Int32)) => ?_) (fun (h11 : ¬ (ua &&& (1 : Int32)) = (0 : Int32)) => ?_)
  · have h11i : (ua &&& (1 : Int32)).toInt = 0 := congrArg Int32.toInt h11
    refine g_iconst X0 hx hby at_18 (pc' := 19) rfl (n := (0 : Int32)) (by first | rfl | decide) ?_
    refine g_istore X0 hx hby at_19 (pc' := 21) rfl (Ls' := #[.val (.int ua), .val (.int ub), .val (.int uc), .val (.int ud), .val (.int cc), .val (.int (0 : Int32)), .unset, .unset, .unset, .unset, .unset]) rfl ?_
    refine g_iload X0 hx hby at_21 (pc' := 23) rfl rfl ?_
    refine g_ifeq X0 hx hby at_23 (pt := 44) (pf := 26) (by decide) (by decide) rfl (fun (h23 : (0 : Int32) = (0 : Int32)) => ?_) (fun (h23 : ¬ (0 : Int32) = (0 : Int32)) => (by exfalso; revert h23; decide))
    refine g_ldcH X0 hx hby hZ hown e0 hF (Nat.zero_le _) (own_EW hw) HC (List.mem_of_getElem? (i := 1) rfl) (hw _ (List.mem_of_getElem? (i := 0) rfl)) (own_wS hw) (vs := []) (z := 0) ⟨by decide, rfl⟩ (by decide) rfl at_44 (pc' := 46) rfl (n := 0) (by decide) (by decide) (by decide) (by decide) (fun s T1 h1 sl1 sl1v k1 X1 hZ hown hF kz1 e1 E1 E_sl1 Fc_sl1 Fv_sl1 LT1 HC' => ?_)
    replace SC := SC.ext E1
    have Z2 : n0 ≤ h1.size := Nat.le_trans Z0 E1.1
    replace HC := HC'
    replace X1 : Stand p l e room_1 s m _ below meth c T1 _ 2 4 := X1
    refine g_astore X1 hx hby at_46 (pc' := 48) rfl rfl (Ls' := #[.val (.int ua), .val (.int ub), .val (.int uc), .val (.int ud), .val (.int cc), .val (.int (0 : Int32)), .val (.ref sl1), .unset, .unset, .unset, .unset]) rfl ?_
    refine g_iloadN X1 hx hby at_48 (pc' := 49) rfl rfl ?_
    refine g_iconst X1 hx hby at_49 (pc' := 50) rfl (n := (3 : Int32)) (by first | rfl | decide) ?_
    refine g_iand X1 hx hby at_50 (pc' := 51) rfl ?_
    refine g_nameI (fun um h_um => ?_)
    refine g_istore X1 hx hby at_51 (pc' := 53) rfl (Ls' := #[.val (.int ua), .val (.int ub), .val (.int uc), .val (.int ud), .val (.int cc), .val (.int (0 : Int32)), .val (.ref sl1), .val (.int um), .unset, .unset, .unset]) rfl ?_
    have hum := own_m3 _ um h_um
    rcases hum with rfl | rfl | rfl | rfl
    · have ev_um : (0 : Int32).toInt = 0 := rfl
      refine g_iload X1 hx hby at_53 (pc' := 55) rfl rfl ?_
      refine g_ifne X1 hx hby at_55 (pt := 64) (pf := 58) (by decide) (by decide) rfl (fun (h55 : ¬ (0 : Int32) = (0 : Int32)) => (by exfalso; revert h55; decide)) (fun (h55 : (0 : Int32) = (0 : Int32)) => ?_)
      refine g_aconst_null X1 hx hby at_58 (pc' := 59) rfl ?_
      refine g_astore X1 hx hby at_59 (pc' := 61) rfl rfl (Ls' := #[.val (.int ua), .val (.int ub), .val (.int uc), .val (.int ud), .val (.int cc), .val (.int (0 : Int32)), .val (.ref sl1), .val (.int (0 : Int32)), .val .null, .unset, .unset]) rfl ?_
      refine g_goto X1 hx hby at_61 (pc' := 142) (by decide) (by decide) ?_
      refine g_new X1 hx hby hZ hown e1 (hw _ (List.mem_of_getElem? (i := 33) rfl)) (hw _ (List.mem_of_getElem? (i := 34) rfl)) (hw _ (List.mem_of_getElem? (i := 35) rfl)) at_142 (pc' := 145) rfl (by decide) (by decide) (fun T3 h3 vd g3 X3 e3 E3 A3 D3 => ?_)
      have g4 : n0 ≤ vd := by rw [g3]; exact Z2
      replace SC := SC.ext E3
      replace HC := HC.ext E3
      have Z5 : n0 ≤ h3.size := Nat.le_trans Z2 E3.1
      have kz6 := Nat.le_trans kz1 E3.1
      replace X3 : Stand p l e room_1 s m _ below meth c T3 _ 3 6 := X3
      have E_vd : Exa Z h3 vd "com/example/turnstone/turnstone/index/Verdict" := A3
      have F_id_vd : Fld Z h3 vd "com/example/turnstone/turnstone/index/Verdict" "id" "Ljava/lang/String;" .null := D3 (Or.inr (hw _ (List.mem_of_getElem? (i := 51) rfl))) (ty := (.object "java/lang/String")) (by decide)
      have F_originalId_vd : Fld Z h3 vd "com/example/turnstone/turnstone/index/Verdict" "originalId" "Ljava/lang/String;" .null := D3 (Or.inr (hw _ (List.mem_of_getElem? (i := 53) rfl))) (ty := (.object "java/lang/String")) (by decide)
      refine g_dup X3 hx hby at_145 (pc' := 146) rfl rfl ?_
      refine g_aload X3 hx hby at_146 (pc' := 148) rfl rfl rfl ?_
      refine g_aload X3 hx hby at_148 (pc' := 150) rfl rfl rfl ?_
      refine g_specialS X3 hx hby hZ hown rfl hml rfl (hw _ (List.mem_of_getElem? (i := 36) rfl)) (hw _ (List.mem_of_getElem? (i := 37) rfl)) (hw _ (List.mem_of_getElem? (i := 35) rfl)) rfl (hw _ (List.mem_of_getElem? (i := 38) rfl)) (by decide) e3 hF kz6 (rm_vN l Z a0 hw vd sl1 n0 h3 Z5 g4 E_vd F_id_vd F_originalId_vd) pd__Ljava_lang_String_Ljava_lang_String__V_559 (a := vd) (argsL := [(.ref sl1), .null]) (rest := [(.ref vd)]) rfl rfl rfl at_150 (pc' := 153) rfl (by decide) (Nat.le_of_ble_eq_true rfl) (by decide) (by decide) ?_
      intro s Tp150 vp150 Lp150 Xp150 hZ hown hF kgp150 qp150
      obtain ⟨rfl, Nqp150, E_qp150, F_qp150, Kqp150⟩ := qp150
      replace Xp150 : Stand p l e room_1 s m _ below meth c Tp150 _ 5 18 := Xp150
      replace E_vd := E_vd.keep Kqp150
      have Z7 : n0 ≤ Tp150.heap.size := Nat.le_trans Z5 Kqp150.1
      have kz8 := Nat.le_trans kz6 Kqp150.1
      have Np150 := Fr.app N0 Nqp150
      show Go p e below EF (Q0 n0) m Tp150 153 #[.val (.int ua), .val (.int ub), .val (.int uc), .val (.int ud), .val (.int cc), .val (.int (0 : Int32)), .val (.ref sl1), .val (.int (0 : Int32)), .val .null, .unset, .unset] [(.ref vd)]
      refine g_astore Xp150 hx hby at_153 (pc' := 155) rfl rfl (Ls' := #[.val (.int ua), .val (.int ub), .val (.int uc), .val (.int ud), .val (.int cc), .val (.int (0 : Int32)), .val (.ref sl1), .val (.int (0 : Int32)), .val .null, .val (.ref vd), .unset]) rfl ?_
      refine g_iload Xp150 hx hby at_155 (pc' := 157) rfl rfl ?_
      refine g_ifeq Xp150 hx hby at_157 (pt := 164) (pf := 160) (by decide) (by decide) rfl (fun (h157 : (0 : Int32) = (0 : Int32)) => ?_) (fun (h157 : ¬ (0 : Int32) = (0 : Int32)) => (by exfalso; revert h157; decide))
      refine g_iconst Xp150 hx hby at_164 (pc' := 165) rfl (n := (0 : Int32)) (by first | rfl | decide) ?_
      refine g_istore Xp150 hx hby at_165 (pc' := 167) rfl (Ls' := #[.val (.int ua), .val (.int ub), .val (.int uc), .val (.int ud), .val (.int cc), .val (.int (0 : Int32)), .val (.ref sl1), .val (.int (0 : Int32)), .val .null, .val (.ref vd), .val (.int (0 : Int32))]) rfl ?_
      refine g_aload Xp150 hx hby at_167 (pc' := 169) rfl rfl rfl ?_
      refine g_virtual Xp150 hx hby hZ hown hml rfl (hw _ (List.mem_of_getElem? (i := 54) rfl)) (hw _ (List.mem_of_getElem? (i := 55) rfl)) (hw _ (List.mem_of_getElem? (i := 57) rfl)) (hw _ (List.mem_of_getElem? (i := 56) rfl)) (hw _ (List.mem_of_getElem? (i := 35) rfl)) (hw _ (List.mem_of_getElem? (i := 58) rfl)) (by decide) rfl (rm_dN l Z a0 hw vd Tp150.heap F_qp150) pd___Z_171 E_qp150 (argsL := []) (rest := []) rfl rfl rfl at_169 (pc' := 172) rfl (by decide) (Nat.le_of_ble_eq_true rfl) (by decide) (by decide) ?_
      intro Tp169 vp169 Lp169 Xp169 qp169
      obtain ⟨rfl, ep169, rfl⟩ := qp169
      rw [List.append_nil] at Xp169
      replace Xp169 : Stand p l e room_1 s m _ below meth c Tp169 _ 5 18 := Xp169
      show Go p e below EF (Q0 n0) m Tp169 172 #[.val (.int ua), .val (.int ub), .val (.int uc), .val (.int ud), .val (.int cc), .val (.int (0 : Int32)), .val (.ref sl1), .val (.int (0 : Int32)), .val .null, .val (.ref vd), .val (.int (0 : Int32))] [(.int (0 : Int32))]
      refine g_iload Xp169 hx hby at_172 (pc' := 174) rfl rfl ?_
      refine g_icmpne Xp169 hx hby at_174 (pt := 181) (pf := 177) (by decide) (by decide) rfl (fun (h174 : ¬ (0 : Int32) = (0 : Int32)) => (by exfalso; revert h174; decide)) (fun (h174 : (0 : Int32) = (0 : Int32)) => ?_)
      refine g_iconst Xp169 hx hby at_177 (pc' := 178) rfl (n := (1 : Int32)) (by first | rfl | decide) ?_
      refine g_goto Xp169 hx hby at_178 (pc' := 182) (by decide) (by decide) ?_
      exact g_retZ Xp169 hx hby hF.fin (by rw [ep169]; exact (Nat.le_refl _)) hlk (Or.inr rfl) hret at_182 (by decide) (by decide) (⟨rfl, Np150⟩)
    · have ev_um : (1 : Int32).toInt = 1 := rfl
      refine g_iload X1 hx hby at_53 (pc' := 55) rfl rfl ?_
      refine g_ifne X1 hx hby at_55 (pt := 64) (pf := 58) (by decide) (by decide) rfl (fun (h55 : ¬ (1 : Int32) = (0 : Int32)) => ?_) (fun (h55 : (1 : Int32) = (0 : Int32)) => (by exfalso; revert h55; decide))
      refine g_iload X1 hx hby at_64 (pc' := 66) rfl rfl ?_
      refine g_iconst X1 hx hby at_66 (pc' := 67) rfl (n := (1 : Int32)) (by first | rfl | decide) ?_
      refine g_icmpne X1 hx hby at_67 (pt := 77) (pf := 70) (by decide) (by decide) rfl (fun (h67 : ¬ (1 : Int32) = (1 : Int32)) => (by exfalso; revert h67; decide)) (fun (h67 : (1 : Int32) = (1 : Int32)) => ?_)
      refine g_ldcS X1 hx hby hZ hown e1 hF kz1 (hw _ (List.mem_of_getElem? (i := 0) rfl)) (own_wS hw) at_70 (pc' := 72) rfl (n := 0) (by decide) (by decide) (by decide) (by decide) (fun s T9 h9 sl9 k9 X9 hZ hown hF kz9 e9 E9 => ?_)
      replace SC := SC.ext E9
      have Z10 : n0 ≤ h9.size := Nat.le_trans Z2 E9.1
      replace X9 : Stand p l e room_1 s m _ below meth c T9 _ 4 8 := X9
      refine g_astore X9 hx hby at_72 (pc' := 74) rfl rfl (Ls' := #[.val (.int ua), .val (.int ub), .val (.int uc), .val (.int ud), .val (.int cc), .val (.int (0 : Int32)), .val (.ref sl1), .val (.int (1 : Int32)), .val (.ref sl9), .unset, .unset]) rfl ?_
      refine g_goto X9 hx hby at_74 (pc' := 142) (by decide) (by decide) ?_
      refine g_new X9 hx hby hZ hown e9 (hw _ (List.mem_of_getElem? (i := 33) rfl)) (hw _ (List.mem_of_getElem? (i := 34) rfl)) (hw _ (List.mem_of_getElem? (i := 35) rfl)) at_142 (pc' := 145) rfl (by decide) (by decide) (fun T11 h11 vd g11 X11 e11 E11 A11 D11 => ?_)
      have g12 : n0 ≤ vd := by rw [g11]; exact Z10
      replace SC := SC.ext E11
      have Z13 : n0 ≤ h11.size := Nat.le_trans Z10 E11.1
      have kz14 := Nat.le_trans kz9 E11.1
      replace X11 : Stand p l e room_1 s m _ below meth c T11 _ 5 10 := X11
      have E_vd : Exa Z h11 vd "com/example/turnstone/turnstone/index/Verdict" := A11
      have F_id_vd : Fld Z h11 vd "com/example/turnstone/turnstone/index/Verdict" "id" "Ljava/lang/String;" .null := D11 (Or.inr (hw _ (List.mem_of_getElem? (i := 51) rfl))) (ty := (.object "java/lang/String")) (by decide)
      have F_originalId_vd : Fld Z h11 vd "com/example/turnstone/turnstone/index/Verdict" "originalId" "Ljava/lang/String;" .null := D11 (Or.inr (hw _ (List.mem_of_getElem? (i := 53) rfl))) (ty := (.object "java/lang/String")) (by decide)
      refine g_dup X11 hx hby at_145 (pc' := 146) rfl rfl ?_
      refine g_aload X11 hx hby at_146 (pc' := 148) rfl rfl rfl ?_
      refine g_aload X11 hx hby at_148 (pc' := 150) rfl rfl rfl ?_
      refine g_specialS X11 hx hby hZ hown rfl hml rfl (hw _ (List.mem_of_getElem? (i := 36) rfl)) (hw _ (List.mem_of_getElem? (i := 37) rfl)) (hw _ (List.mem_of_getElem? (i := 35) rfl)) rfl (hw _ (List.mem_of_getElem? (i := 38) rfl)) (by decide) e11 hF kz14 (rm_vR l Z a0 hw vd sl1 sl9 n0 h11 Z13 g12 E_vd F_id_vd F_originalId_vd) pd__Ljava_lang_String_Ljava_lang_String__V_559 (a := vd) (argsL := [(.ref sl1), (.ref sl9)]) (rest := [(.ref vd)]) rfl rfl rfl at_150 (pc' := 153) rfl (by decide) (Nat.le_of_ble_eq_true rfl) (by decide) (by decide) ?_
      intro s Tp150 vp150 Lp150 Xp150 hZ hown hF kgp150 qp150
      obtain ⟨rfl, Nqp150, E_qp150, F_qp150, Kqp150⟩ := qp150
      replace Xp150 : Stand p l e room_1 s m _ below meth c Tp150 _ 7 22 := Xp150
      replace E_vd := E_vd.keep Kqp150
      have Z15 : n0 ≤ Tp150.heap.size := Nat.le_trans Z13 Kqp150.1
      have kz16 := Nat.le_trans kz14 Kqp150.1
      have Np150 := Fr.app N0 Nqp150
      show Go p e below EF (Q0 n0) m Tp150 153 #[.val (.int ua), .val (.int ub), .val (.int uc), .val (.int ud), .val (.int cc), .val (.int (0 : Int32)), .val (.ref sl1), .val (.int (1 : Int32)), .val (.ref sl9), .unset, .unset] [(.ref vd)]
      refine g_astore Xp150 hx hby at_153 (pc' := 155) rfl rfl (Ls' := #[.val (.int ua), .val (.int ub), .val (.int uc), .val (.int ud), .val (.int cc), .val (.int (0 : Int32)), .val (.ref sl1), .val (.int (1 : Int32)), .val (.ref sl9), .val (.ref vd), .unset]) rfl ?_
      refine g_iload Xp150 hx hby at_155 (pc' := 157) rfl rfl ?_
      refine g_ifeq Xp150 hx hby at_157 (pt := 164) (pf := 160) (by decide) (by decide) rfl (fun (h157 : (1 : Int32) = (0 : Int32)) => (by exfalso; revert h157; decide)) (fun (h157 : ¬ (1 : Int32) = (0 : Int32)) => ?_)
      refine g_iconst Xp150 hx hby at_160 (pc' := 161) rfl (n := (1 : Int32)) (by first | rfl | decide) ?_
      refine g_goto Xp150 hx hby at_161 (pc' := 165) (by decide) (by decide) ?_
      refine g_istore Xp150 hx hby at_165 (pc' := 167) rfl (Ls' := #[.val (.int ua), .val (.int ub), .val (.int uc), .val (.int ud), .val (.int cc), .val (.int (0 : Int32)), .val (.ref sl1), .val (.int (1 : Int32)), .val (.ref sl9), .val (.ref vd), .val (.int (1 : Int32))]) rfl ?_
      refine g_aload Xp150 hx hby at_167 (pc' := 169) rfl rfl rfl ?_
      refine g_virtual Xp150 hx hby hZ hown hml rfl (hw _ (List.mem_of_getElem? (i := 54) rfl)) (hw _ (List.mem_of_getElem? (i := 55) rfl)) (hw _ (List.mem_of_getElem? (i := 57) rfl)) (hw _ (List.mem_of_getElem? (i := 56) rfl)) (hw _ (List.mem_of_getElem? (i := 35) rfl)) (hw _ (List.mem_of_getElem? (i := 58) rfl)) (by decide) rfl (rm_dR l Z a0 hw vd sl9 Tp150.heap F_qp150) pd___Z_171 E_qp150 (argsL := []) (rest := []) rfl rfl rfl at_169 (pc' := 172) rfl (by decide) (Nat.le_of_ble_eq_true rfl) (by decide) (by decide) ?_
      intro Tp169 vp169 Lp169 Xp169 qp169
      obtain ⟨rfl, ep169, rfl⟩ := qp169
      rw [List.append_nil] at Xp169
      replace Xp169 : Stand p l e room_1 s m _ below meth c Tp169 _ 7 22 := Xp169
      show Go p e below EF (Q0 n0) m Tp169 172 #[.val (.int ua), .val (.int ub), .val (.int uc), .val (.int ud), .val (.int cc), .val (.int (0 : Int32)), .val (.ref sl1), .val (.int (1 : Int32)), .val (.ref sl9), .val (.ref vd), .val (.int (1 : Int32))] [(.int (1 : Int32))]
      refine g_iload Xp169 hx hby at_172 (pc' := 174) rfl rfl ?_
      refine g_icmpne Xp169 hx hby at_174 (pt := 181) (pf := 177) (by decide) (by decide) rfl (fun (h174 : ¬ (1 : Int32) = (1 : Int32)) => (by exfalso; revert h174; decide)) (fun (h174 : (1 : Int32) = (1 : Int32)) => ?_)
      refine g_iconst Xp169 hx hby at_177 (pc' := 178) rfl (n := (1 : Int32)) (by first | rfl | decide) ?_
      refine g_goto Xp169 hx hby at_178 (pc' := 182) (by decide) (by decide) ?_
      exact g_retZ Xp169 hx hby hF.fin (by rw [ep169]; exact (Nat.le_refl _)) hlk (Or.inr rfl) hret at_182 (by decide) (by decide) (⟨rfl, Np150⟩)
    · have ev_um : (2 : Int32).toInt = 2 := rfl
      refine g_iload X1 hx hby at_53 (pc' := 55) rfl rfl ?_
      refine g_ifne X1 hx hby at_55 (pt := 64) (pf := 58) (by decide) (by decide) rfl (fun (h55 : ¬ (2 : Int32) = (0 : Int32)) => ?_) (fun (h55 : (2 : Int32) = (0 : Int32)) => (by exfalso; revert h55; decide))
      refine g_iload X1 hx hby at_64 (pc' := 66) rfl rfl ?_
      refine g_iconst X1 hx hby at_66 (pc' := 67) rfl (n := (1 : Int32)) (by first | rfl | decide) ?_
      refine g_icmpne X1 hx hby at_67 (pt := 77) (pf := 70) (by decide) (by decide) rfl (fun (h67 : ¬ (2 : Int32) = (1 : Int32)) => ?_) (fun (h67 : (2 : Int32) = (1 : Int32)) => (by exfalso; revert h67; decide))
      refine g_iload X1 hx hby at_77 (pc' := 79) rfl rfl ?_
      refine g_iconst X1 hx hby at_79 (pc' := 80) rfl (n := (2 : Int32)) (by first | rfl | decide) ?_
      refine g_icmpne X1 hx hby at_80 (pt := 107) (pf := 83) (by decide) (by decide) rfl (fun (h80 : ¬ (2 : Int32) = (2 : Int32)) => (by exfalso; revert h80; decide)) (fun (h80 : (2 : Int32) = (2 : Int32)) => ?_)
      refine g_new X1 hx hby hZ hown e1 (hw _ (List.mem_of_getElem? (i := 8) rfl)) (hw _ (List.mem_of_getElem? (i := 2) rfl)) (hw _ (List.mem_of_getElem? (i := 1) rfl)) at_83 (pc' := 86) rfl (by decide) (by decide) (fun T17 h17 oo g17 X17 e17 E17 A17 D17 => ?_)
      have g18 : n0 ≤ oo := by rw [g17]; exact Z2
      replace SC := SC.ext E17
      replace HC := HC.ext E17
      have Z19 : n0 ≤ h17.size := Nat.le_trans Z2 E17.1
      have kz20 := Nat.le_trans kz1 E17.1
      replace X17 : Stand p l e room_1 s m _ below meth c T17 _ 3 8 := X17
      have E_oo : Exa Z h17 oo "java/lang/String" := A17
      have F_value_oo : Fld Z h17 oo "java/lang/String" "value" "[B" .null := D17 (Or.inr (hw _ (List.mem_of_getElem? (i := 4) rfl))) (ty := (.array .byte)) (by decide)
      have F_coder_oo : Fld Z h17 oo "java/lang/String" "coder" "B" (.int (0 : Int32)) := D17 (Or.inr (hw _ (List.mem_of_getElem? (i := 5) rfl))) (ty := .byte) (by decide)
      refine g_dup X17 hx hby at_86 (pc' := 87) rfl rfl ?_
      refine g_iconst X17 hx hby at_87 (pc' := 88) rfl (n := (1 : Int32)) (by first | rfl | decide) ?_
      refine g_newA X17 hx hby hZ e17 (N := 1) (hw _ (List.mem_of_getElem? (i := 9) rfl)) at_88 (pc' := 90) rfl rfl (cap := 1) (Nat.le_refl _) (by decide) (by decide) (by decide) (fun T21 h21 cb g21 X21 e21 E21 A_cb => ?_)
      have lne22 : oo < cb := by rw [g21]; exact E_oo.lt
      have ne22 : oo ≠ cb := Nat.ne_of_lt lne22
      have g23 : n0 ≤ cb := by rw [g21]; exact Z19
      replace SC := SC.ext E21
      replace HC := HC.ext E21
      replace E_oo := E_oo.ext E21
      replace F_value_oo := F_value_oo.ext E21
      replace F_coder_oo := F_coder_oo.ext E21
      have Z24 : n0 ≤ h21.size := Nat.le_trans Z19 E21.1
      have kz25 := Nat.le_trans kz20 E21.1
      replace X21 : Stand p l e room_1 s m _ below meth c T21 _ 4 9 := X21
      replace A_cb : Ara Z h21 cb .char 1 (fun jz => .int ((fun _ => (0 : Int32)) jz)) := A_cb
      refine g_dup X21 hx hby at_90 (pc' := 91) rfl rfl ?_
      refine g_iconst X21 hx hby at_91 (pc' := 92) rfl (n := (0 : Int32)) (by first | rfl | decide) ?_
      refine g_iloadN X21 hx hby at_92 (pc' := 93) rfl rfl ?_
      refine g_sipush X21 hx hby at_93 (pc' := 96) rfl (n := (255 : Int32)) (by first | rfl | decide) ?_
      refine g_iand X21 hx hby at_96 (pc' := 97) rfl ?_
      refine g_i2c X21 hx hby at_97 (pc' := 98) rfl ?_
      refine g_nameI (fun co h_co => ?_)
      have hco := own_cc _ co h_co
      refine a_castore X21 hx hby hZ e21 A_cb (by decide) (by decide) at_98 (pc' := 99) rfl (fun T26 h26 X26 e26 W26 => ?_)
      replace SC := SC.wr W26
      replace E_oo := E_oo.wr W26
      replace F_value_oo := F_value_oo.other W26 (Or.inl ne22)
      replace F_coder_oo := F_coder_oo.other W26 (Or.inl ne22)
      have Z27 : n0 ≤ h26.size := by rw [W26.size]; exact Z24
      have kz28 := Nat.le_trans kz25 (Nat.le_of_eq W26.size.symm)
      have N29 := Fr.snoc X26 N0 g23
      replace A_cb : Ara Z h26 cb .char 1 (fun jz => .int ((own_ui (fun _ => (0 : Int32)) 0 (nar .char co)) jz)) := A_cb.setI W26
      refine g_special X26 hx hby hZ hown rfl hml rfl (hw _ (List.mem_of_getElem? (i := 10) rfl)) (hw _ (List.mem_of_getElem? (i := 11) rfl)) (hw _ (List.mem_of_getElem? (i := 1) rfl)) rfl (hw _ (List.mem_of_getElem? (i := 12) rfl)) (by decide) e26 (rm_i1 l Z a0 hw oo cb n0 cs (own_ui (fun _ => (0 : Int32)) 0 (nar .char co)) h26 Z27 g18 E_oo F_value_oo F_coder_oo (Ne.symm ne22) SC hcs A_cb (own_cn _ co hco)) pd___C_V_325 (a := oo) (argsL := [(.ref cb)]) (rest := [(.ref oo)]) rfl rfl rfl at_99 (pc' := 102) rfl (by decide) (Nat.le_of_ble_eq_true rfl) (by decide) (by decide) ?_
      intro Tp99 vp99 Lp99 Xp99 qp99
      obtain ⟨rfl, Nqp99, E_qp99, SCqp99, Kqp99⟩ := qp99
      replace Xp99 : Stand p l e room_1 s m _ below meth c Tp99 _ 5 10 := Xp99
      replace E_oo := E_oo.keep Kqp99
      replace A_cb := A_cb.keep Kqp99 (ninS (Ne.symm ne22) nin0)
      have Z30 : n0 ≤ Tp99.heap.size := Nat.le_trans Z27 Kqp99.1
      have kz31 := Nat.le_trans kz28 Kqp99.1
      have Np99 := Fr.app N29 Nqp99
      show Go p e below EF (Q0 n0) m Tp99 102 #[.val (.int ua), .val (.int ub), .val (.int uc), .val (.int ud), .val (.int cc), .val (.int (0 : Int32)), .val (.ref sl1), .val (.int (2 : Int32)), .unset, .unset, .unset] [(.ref oo)]
      refine g_astore Xp99 hx hby at_102 (pc' := 104) rfl rfl (Ls' := #[.val (.int ua), .val (.int ub), .val (.int uc), .val (.int ud), .val (.int cc), .val (.int (0 : Int32)), .val (.ref sl1), .val (.int (2 : Int32)), .val (.ref oo), .unset, .unset]) rfl ?_
      refine g_goto Xp99 hx hby at_104 (pc' := 142) (by decide) (by decide) ?_
      refine g_new Xp99 hx hby hZ hown rfl (hw _ (List.mem_of_getElem? (i := 33) rfl)) (hw _ (List.mem_of_getElem? (i := 34) rfl)) (hw _ (List.mem_of_getElem? (i := 35) rfl)) at_142 (pc' := 145) rfl (by decide) (by decide) (fun T32 h32 vd g32 X32 e32 E32 A32 D32 => ?_)
      have lne33 : oo < vd := by rw [g32]; exact E_qp99.lt
      have ne33 : oo ≠ vd := Nat.ne_of_lt lne33
      have lne34 : cb < vd := by rw [g32]; exact A_cb.lt
      have ne34 : cb ≠ vd := Nat.ne_of_lt lne34
      have g35 : n0 ≤ vd := by rw [g32]; exact Z30
      replace E_qp99 := E_qp99.ext E32
      replace A_cb := A_cb.ext E32
      replace SCqp99 := SCqp99.ext E32
      have Z36 : n0 ≤ h32.size := Nat.le_trans Z30 E32.1
      have kz37 := Nat.le_trans kz31 E32.1
      replace X32 : Stand p l e room_1 s m _ below meth c T32 _ 6 12 := X32
      have E_vd : Exa Z h32 vd "com/example/turnstone/turnstone/index/Verdict" := A32
      have F_id_vd : Fld Z h32 vd "com/example/turnstone/turnstone/index/Verdict" "id" "Ljava/lang/String;" .null := D32 (Or.inr (hw _ (List.mem_of_getElem? (i := 51) rfl))) (ty := (.object "java/lang/String")) (by decide)
      have F_originalId_vd : Fld Z h32 vd "com/example/turnstone/turnstone/index/Verdict" "originalId" "Ljava/lang/String;" .null := D32 (Or.inr (hw _ (List.mem_of_getElem? (i := 53) rfl))) (ty := (.object "java/lang/String")) (by decide)
      refine g_dup X32 hx hby at_145 (pc' := 146) rfl rfl ?_
      refine g_aload X32 hx hby at_146 (pc' := 148) rfl rfl rfl ?_
      refine g_aload X32 hx hby at_148 (pc' := 150) rfl rfl rfl ?_
      refine g_specialS X32 hx hby hZ hown rfl hml rfl (hw _ (List.mem_of_getElem? (i := 36) rfl)) (hw _ (List.mem_of_getElem? (i := 37) rfl)) (hw _ (List.mem_of_getElem? (i := 35) rfl)) rfl (hw _ (List.mem_of_getElem? (i := 38) rfl)) (by decide) e32 hF kz37 (rm_vR l Z a0 hw vd sl1 oo n0 h32 Z36 g35 E_vd F_id_vd F_originalId_vd) pd__Ljava_lang_String_Ljava_lang_String__V_559 (a := vd) (argsL := [(.ref sl1), (.ref oo)]) (rest := [(.ref vd)]) rfl rfl rfl at_150 (pc' := 153) rfl (by decide) (Nat.le_of_ble_eq_true rfl) (by decide) (by decide) ?_
      intro s Tp150 vp150 Lp150 Xp150 hZ hown hF kgp150 qp150
      obtain ⟨rfl, Nqp150, E_qp150, F_qp150, Kqp150⟩ := qp150
      replace Xp150 : Stand p l e room_1 s m _ below meth c Tp150 _ 8 24 := Xp150
      replace E_qp99 := E_qp99.keep Kqp150
      replace A_cb := A_cb.keep Kqp150 (ninS ne34 nin0)
      replace E_vd := E_vd.keep Kqp150
      have Z38 : n0 ≤ Tp150.heap.size := Nat.le_trans Z36 Kqp150.1
      have kz39 := Nat.le_trans kz37 Kqp150.1
      have Np150 := Fr.app Np99 Nqp150
      show Go p e below EF (Q0 n0) m Tp150 153 #[.val (.int ua), .val (.int ub), .val (.int uc), .val (.int ud), .val (.int cc), .val (.int (0 : Int32)), .val (.ref sl1), .val (.int (2 : Int32)), .val (.ref oo), .unset, .unset] [(.ref vd)]
      refine g_astore Xp150 hx hby at_153 (pc' := 155) rfl rfl (Ls' := #[.val (.int ua), .val (.int ub), .val (.int uc), .val (.int ud), .val (.int cc), .val (.int (0 : Int32)), .val (.ref sl1), .val (.int (2 : Int32)), .val (.ref oo), .val (.ref vd), .unset]) rfl ?_
      refine g_iload Xp150 hx hby at_155 (pc' := 157) rfl rfl ?_
      refine g_ifeq Xp150 hx hby at_157 (pt := 164) (pf := 160) (by decide) (by decide) rfl (fun (h157 : (2 : Int32) = (0 : Int32)) => (by exfalso; revert h157; decide)) (fun (h157 : ¬ (2 : Int32) = (0 : Int32)) => ?_)
      refine g_iconst Xp150 hx hby at_160 (pc' := 161) rfl (n := (1 : Int32)) (by first | rfl | decide) ?_
      refine g_goto Xp150 hx hby at_161 (pc' := 165) (by decide) (by decide) ?_
      refine g_istore Xp150 hx hby at_165 (pc' := 167) rfl (Ls' := #[.val (.int ua), .val (.int ub), .val (.int uc), .val (.int ud), .val (.int cc), .val (.int (0 : Int32)), .val (.ref sl1), .val (.int (2 : Int32)), .val (.ref oo), .val (.ref vd), .val (.int (1 : Int32))]) rfl ?_
      refine g_aload Xp150 hx hby at_167 (pc' := 169) rfl rfl rfl ?_
      refine g_virtual Xp150 hx hby hZ hown hml rfl (hw _ (List.mem_of_getElem? (i := 54) rfl)) (hw _ (List.mem_of_getElem? (i := 55) rfl)) (hw _ (List.mem_of_getElem? (i := 57) rfl)) (hw _ (List.mem_of_getElem? (i := 56) rfl)) (hw _ (List.mem_of_getElem? (i := 35) rfl)) (hw _ (List.mem_of_getElem? (i := 58) rfl)) (by decide) rfl (rm_dR l Z a0 hw vd oo Tp150.heap F_qp150) pd___Z_171 E_qp150 (argsL := []) (rest := []) rfl rfl rfl at_169 (pc' := 172) rfl (by decide) (Nat.le_of_ble_eq_true rfl) (by decide) (by decide) ?_
      intro Tp169 vp169 Lp169 Xp169 qp169
      obtain ⟨rfl, ep169, rfl⟩ := qp169
      rw [List.append_nil] at Xp169
      replace Xp169 : Stand p l e room_1 s m _ below meth c Tp169 _ 8 24 := Xp169
      show Go p e below EF (Q0 n0) m Tp169 172 #[.val (.int ua), .val (.int ub), .val (.int uc), .val (.int ud), .val (.int cc), .val (.int (0 : Int32)), .val (.ref sl1), .val (.int (2 : Int32)), .val (.ref oo), .val (.ref vd), .val (.int (1 : Int32))] [(.int (1 : Int32))]
      refine g_iload Xp169 hx hby at_172 (pc' := 174) rfl rfl ?_
      refine g_icmpne Xp169 hx hby at_174 (pt := 181) (pf := 177) (by decide) (by decide) rfl (fun (h174 : ¬ (1 : Int32) = (1 : Int32)) => (by exfalso; revert h174; decide)) (fun (h174 : (1 : Int32) = (1 : Int32)) => ?_)
      refine g_iconst Xp169 hx hby at_177 (pc' := 178) rfl (n := (1 : Int32)) (by first | rfl | decide) ?_
      refine g_goto Xp169 hx hby at_178 (pc' := 182) (by decide) (by decide) ?_
      exact g_retZ Xp169 hx hby hF.fin (by rw [ep169]; exact (Nat.le_refl _)) hlk (Or.inr rfl) hret at_182 (by decide) (by decide) (⟨rfl, Np150⟩)
    · have ev_um : (3 : Int32).toInt = 3 := rfl
      refine g_iload X1 hx hby at_53 (pc' := 55) rfl rfl ?_
      refine g_ifne X1 hx hby at_55 (pt := 64) (pf := 58) (by decide) (by decide) rfl (fun (h55 : ¬ (3 : Int32) = (0 : Int32)) => ?_) (fun (h55 : (3 : Int32) = (0 : Int32)) => (by exfalso; revert h55; decide))
      refine g_iload X1 hx hby at_64 (pc' := 66) rfl rfl ?_
      refine g_iconst X1 hx hby at_66 (pc' := 67) rfl (n := (1 : Int32)) (by first | rfl | decide) ?_
      refine g_icmpne X1 hx hby at_67 (pt := 77) (pf := 70) (by decide) (by decide) rfl (fun (h67 : ¬ (3 : Int32) = (1 : Int32)) => ?_) (fun (h67 : (3 : Int32) = (1 : Int32)) => (by exfalso; revert h67; decide))
      refine g_iload X1 hx hby at_77 (pc' := 79) rfl rfl ?_
      refine g_iconst X1 hx hby at_79 (pc' := 80) rfl (n := (2 : Int32)) (by first | rfl | decide) ?_
      refine g_icmpne X1 hx hby at_80 (pt := 107) (pf := 83) (by decide) (by decide) rfl (fun (h80 : ¬ (3 : Int32) = (2 : Int32)) => ?_) (fun (h80 : (3 : Int32) = (2 : Int32)) => (by exfalso; revert h80; decide))
      refine g_iload X1 hx hby at_107 (pc' := 109) rfl rfl ?_
      refine g_ifeq X1 hx hby at_109 (pt := 130) (pf := 112) (by decide) (by decide) rfl (fun (h109 : (0 : Int32) = (0 : Int32)) => ?_) (fun (h109 : ¬ (0 : Int32) = (0 : Int32)) => (by exfalso; revert h109; decide))
      refine g_new X1 hx hby hZ hown e1 (hw _ (List.mem_of_getElem? (i := 8) rfl)) (hw _ (List.mem_of_getElem? (i := 2) rfl)) (hw _ (List.mem_of_getElem? (i := 1) rfl)) at_130 (pc' := 133) rfl (by decide) (by decide) (fun T40 h40 oo g40 X40 e40 E40 A40 D40 => ?_)
      have g41 : n0 ≤ oo := by rw [g40]; exact Z2
      replace SC := SC.ext E40
      replace HC := HC.ext E40
      have Z42 : n0 ≤ h40.size := Nat.le_trans Z2 E40.1
      have kz43 := Nat.le_trans kz1 E40.1
      replace X40 : Stand p l e room_1 s m _ below meth c T40 _ 3 8 := X40
      have E_oo : Exa Z h40 oo "java/lang/String" := A40
      have F_value_oo : Fld Z h40 oo "java/lang/String" "value" "[B" .null := D40 (Or.inr (hw _ (List.mem_of_getElem? (i := 4) rfl))) (ty := (.array .byte)) (by decide)
      have F_coder_oo : Fld Z h40 oo "java/lang/String" "coder" "B" (.int (0 : Int32)) := D40 (Or.inr (hw _ (List.mem_of_getElem? (i := 5) rfl))) (ty := .byte) (by decide)
      refine g_dup X40 hx hby at_133 (pc' := 134) rfl rfl ?_
      refine g_iconst X40 hx hby at_134 (pc' := 135) rfl (n := (0 : Int32)) (by first | rfl | decide) ?_
      refine g_newA X40 hx hby hZ e40 (N := 0) (hw _ (List.mem_of_getElem? (i := 9) rfl)) at_135 (pc' := 137) rfl rfl (cap := 0) (Nat.le_refl _) (by decide) (by decide) (by decide) (fun T44 h44 cb g44 X44 e44 E44 A_cb => ?_)
      have lne45 : oo < cb := by rw [g44]; exact E_oo.lt
      have ne45 : oo ≠ cb := Nat.ne_of_lt lne45
      have g46 : n0 ≤ cb := by rw [g44]; exact Z42
      replace SC := SC.ext E44
      replace HC := HC.ext E44
      replace E_oo := E_oo.ext E44
      replace F_value_oo := F_value_oo.ext E44
      replace F_coder_oo := F_coder_oo.ext E44
      have Z47 : n0 ≤ h44.size := Nat.le_trans Z42 E44.1
      have kz48 := Nat.le_trans kz43 E44.1
      replace X44 : Stand p l e room_1 s m _ below meth c T44 _ 4 8 := X44
      replace A_cb : Ara Z h44 cb .char 0 (fun jz => .int ((fun _ => (0 : Int32)) jz)) := A_cb
      refine g_specialH X44 hx hby hZ hown rfl hml rfl (hw _ (List.mem_of_getElem? (i := 10) rfl)) (hw _ (List.mem_of_getElem? (i := 11) rfl)) (hw _ (List.mem_of_getElem? (i := 1) rfl)) rfl (hw _ (List.mem_of_getElem? (i := 12) rfl)) (by decide) e44 hF kz48 (rm_i1H l Z a0 hw oo cb n0 h44 Z47 g41 E_oo F_value_oo F_coder_oo (Ne.symm ne45) A_cb) pd___C_V_325 (own_EW hw) HC (a := oo) (argsL := [(.ref cb)]) (rest := [(.ref oo)]) rfl rfl rfl at_137 (pc' := 140) rfl (by decide) (Nat.le_of_ble_eq_true rfl) (by decide) (by decide) ?_
      intro s Tp137 vp137 Lp137 Xp137 hZ hown hF kgp137 qp137
      obtain ⟨rfl, Nqp137, E_qp137, Kqp137⟩ := qp137
      replace Xp137 : Stand p l e room_1 s m _ below meth c Tp137 _ 6 12 := Xp137
      replace E_oo := E_oo.keep Kqp137
      replace A_cb := A_cb.keep Kqp137 (ninS (Ne.symm ne45) nin0)
      have Z49 : n0 ≤ Tp137.heap.size := Nat.le_trans Z47 Kqp137.1
      have kz50 := Nat.le_trans kz48 Kqp137.1
      have Np137 := Fr.app N0 Nqp137
      show Go p e below EF (Q0 n0) m Tp137 140 #[.val (.int ua), .val (.int ub), .val (.int uc), .val (.int ud), .val (.int cc), .val (.int (0 : Int32)), .val (.ref sl1), .val (.int (3 : Int32)), .unset, .unset, .unset] [(.ref oo)]
      refine g_astore Xp137 hx hby at_140 (pc' := 142) rfl rfl (Ls' := #[.val (.int ua), .val (.int ub), .val (.int uc), .val (.int ud), .val (.int cc), .val (.int (0 : Int32)), .val (.ref sl1), .val (.int (3 : Int32)), .val (.ref oo), .unset, .unset]) rfl ?_
      refine g_new Xp137 hx hby hZ hown rfl (hw _ (List.mem_of_getElem? (i := 33) rfl)) (hw _ (List.mem_of_getElem? (i := 34) rfl)) (hw _ (List.mem_of_getElem? (i := 35) rfl)) at_142 (pc' := 145) rfl (by decide) (by decide) (fun T51 h51 vd g51 X51 e51 E51 A51 D51 => ?_)
      have lne52 : oo < vd := by rw [g51]; exact E_qp137.lt
      have ne52 : oo ≠ vd := Nat.ne_of_lt lne52
      have lne53 : cb < vd := by rw [g51]; exact A_cb.lt
      have ne53 : cb ≠ vd := Nat.ne_of_lt lne53
      have g54 : n0 ≤ vd := by rw [g51]; exact Z49
      replace E_qp137 := E_qp137.ext E51
      replace A_cb := A_cb.ext E51
      have Z55 : n0 ≤ h51.size := Nat.le_trans Z49 E51.1
      have kz56 := Nat.le_trans (Nat.le_refl _) E51.1
      replace X51 : Stand p l e room_1 s m _ below meth c T51 _ 7 14 := X51
      have E_vd : Exa Z h51 vd "com/example/turnstone/turnstone/index/Verdict" := A51
      have F_id_vd : Fld Z h51 vd "com/example/turnstone/turnstone/index/Verdict" "id" "Ljava/lang/String;" .null := D51 (Or.inr (hw _ (List.mem_of_getElem? (i := 51) rfl))) (ty := (.object "java/lang/String")) (by decide)
      have F_originalId_vd : Fld Z h51 vd "com/example/turnstone/turnstone/index/Verdict" "originalId" "Ljava/lang/String;" .null := D51 (Or.inr (hw _ (List.mem_of_getElem? (i := 53) rfl))) (ty := (.object "java/lang/String")) (by decide)
      refine g_dup X51 hx hby at_145 (pc' := 146) rfl rfl ?_
      refine g_aload X51 hx hby at_146 (pc' := 148) rfl rfl rfl ?_
      refine g_aload X51 hx hby at_148 (pc' := 150) rfl rfl rfl ?_
      refine g_specialS X51 hx hby hZ hown rfl hml rfl (hw _ (List.mem_of_getElem? (i := 36) rfl)) (hw _ (List.mem_of_getElem? (i := 37) rfl)) (hw _ (List.mem_of_getElem? (i := 35) rfl)) rfl (hw _ (List.mem_of_getElem? (i := 38) rfl)) (by decide) e51 hF kz56 (rm_vR l Z a0 hw vd sl1 oo n0 h51 Z55 g54 E_vd F_id_vd F_originalId_vd) pd__Ljava_lang_String_Ljava_lang_String__V_559 (a := vd) (argsL := [(.ref sl1), (.ref oo)]) (rest := [(.ref vd)]) rfl rfl rfl at_150 (pc' := 153) rfl (by decide) (Nat.le_of_ble_eq_true rfl) (by decide) (by decide) ?_
      intro s Tp150 vp150 Lp150 Xp150 hZ hown hF kgp150 qp150
      obtain ⟨rfl, Nqp150, E_qp150, F_qp150, Kqp150⟩ := qp150
      replace Xp150 : Stand p l e room_1 s m _ below meth c Tp150 _ 9 26 := Xp150
      replace E_qp137 := E_qp137.keep Kqp150
      replace A_cb := A_cb.keep Kqp150 (ninS ne53 nin0)
      replace E_vd := E_vd.keep Kqp150
      have Z57 : n0 ≤ Tp150.heap.size := Nat.le_trans Z55 Kqp150.1
      have kz58 := Nat.le_trans kz56 Kqp150.1
      have Np150 := Fr.app Np137 Nqp150
      show Go p e below EF (Q0 n0) m Tp150 153 #[.val (.int ua), .val (.int ub), .val (.int uc), .val (.int ud), .val (.int cc), .val (.int (0 : Int32)), .val (.ref sl1), .val (.int (3 : Int32)), .val (.ref oo), .unset, .unset] [(.ref vd)]
      refine g_astore Xp150 hx hby at_153 (pc' := 155) rfl rfl (Ls' := #[.val (.int ua), .val (.int ub), .val (.int uc), .val (.int ud), .val (.int cc), .val (.int (0 : Int32)), .val (.ref sl1), .val (.int (3 : Int32)), .val (.ref oo), .val (.ref vd), .unset]) rfl ?_
      refine g_iload Xp150 hx hby at_155 (pc' := 157) rfl rfl ?_
      refine g_ifeq Xp150 hx hby at_157 (pt := 164) (pf := 160) (by decide) (by decide) rfl (fun (h157 : (3 : Int32) = (0 : Int32)) => (by exfalso; revert h157; decide)) (fun (h157 : ¬ (3 : Int32) = (0 : Int32)) => ?_)
      refine g_iconst Xp150 hx hby at_160 (pc' := 161) rfl (n := (1 : Int32)) (by first | rfl | decide) ?_
      refine g_goto Xp150 hx hby at_161 (pc' := 165) (by decide) (by decide) ?_
      refine g_istore Xp150 hx hby at_165 (pc' := 167) rfl (Ls' := #[.val (.int ua), .val (.int ub), .val (.int uc), .val (.int ud), .val (.int cc), .val (.int (0 : Int32)), .val (.ref sl1), .val (.int (3 : Int32)), .val (.ref oo), .val (.ref vd), .val (.int (1 : Int32))]) rfl ?_
      refine g_aload Xp150 hx hby at_167 (pc' := 169) rfl rfl rfl ?_
      refine g_virtual Xp150 hx hby hZ hown hml rfl (hw _ (List.mem_of_getElem? (i := 54) rfl)) (hw _ (List.mem_of_getElem? (i := 55) rfl)) (hw _ (List.mem_of_getElem? (i := 57) rfl)) (hw _ (List.mem_of_getElem? (i := 56) rfl)) (hw _ (List.mem_of_getElem? (i := 35) rfl)) (hw _ (List.mem_of_getElem? (i := 58) rfl)) (by decide) rfl (rm_dR l Z a0 hw vd oo Tp150.heap F_qp150) pd___Z_171 E_qp150 (argsL := []) (rest := []) rfl rfl rfl at_169 (pc' := 172) rfl (by decide) (Nat.le_of_ble_eq_true rfl) (by decide) (by decide) ?_
      intro Tp169 vp169 Lp169 Xp169 qp169
      obtain ⟨rfl, ep169, rfl⟩ := qp169
      rw [List.append_nil] at Xp169
      replace Xp169 : Stand p l e room_1 s m _ below meth c Tp169 _ 9 26 := Xp169
      show Go p e below EF (Q0 n0) m Tp169 172 #[.val (.int ua), .val (.int ub), .val (.int uc), .val (.int ud), .val (.int cc), .val (.int (0 : Int32)), .val (.ref sl1), .val (.int (3 : Int32)), .val (.ref oo), .val (.ref vd), .val (.int (1 : Int32))] [(.int (1 : Int32))]
      refine g_iload Xp169 hx hby at_172 (pc' := 174) rfl rfl ?_
      refine g_icmpne Xp169 hx hby at_174 (pt := 181) (pf := 177) (by decide) (by decide) rfl (fun (h174 : ¬ (1 : Int32) = (1 : Int32)) => (by exfalso; revert h174; decide)) (fun (h174 : (1 : Int32) = (1 : Int32)) => ?_)
      refine g_iconst Xp169 hx hby at_177 (pc' := 178) rfl (n := (1 : Int32)) (by first | rfl | decide) ?_
      refine g_goto Xp169 hx hby at_178 (pc' := 182) (by decide) (by decide) ?_
      exact g_retZ Xp169 hx hby hF.fin (by rw [ep169]; exact (Nat.le_refl _)) hlk (Or.inr rfl) hret at_182 (by decide) (by decide) (⟨rfl, Np150⟩)
  · have h11i : ¬ (ua &&& (1 : Int32)).toInt = 0 := fun q => h11 (Int32.toInt_inj.mp q)
    refine g_iconst X0 hx hby at_14 (pc' := 15) rfl (n := (1 : Int32)) (by first | rfl | decide) ?_
    refine g_goto X0 hx hby at_15 (pc' := 19) (by decide) (by decide) ?_
    refine g_istore X0 hx hby at_19 (pc' := 21) rfl (Ls' := #[.val (.int ua), .val (.int ub), .val (.int uc), .val (.int ud), .val (.int cc), .val (.int (1 : Int32)), .unset, .unset, .unset, .unset, .unset]) rfl ?_
    refine g_iload X0 hx hby at_21 (pc' := 23) rfl rfl ?_
    refine g_ifeq X0 hx hby at_23 (pt := 44) (pf := 26) (by decide) (by decide) rfl (fun (h23 : (1 : Int32) = (0 : Int32)) => (by exfalso; revert h23; decide)) (fun (h23 : ¬ (1 : Int32) = (0 : Int32)) => ?_)
    refine g_new X0 hx hby hZ hown e0 (hw _ (List.mem_of_getElem? (i := 8) rfl)) (hw _ (List.mem_of_getElem? (i := 2) rfl)) (hw _ (List.mem_of_getElem? (i := 1) rfl)) at_26 (pc' := 29) rfl (by decide) (by decide) (fun T59 h59 oi g59 X59 e59 E59 A59 D59 => ?_)
    have g60 : n0 ≤ oi := by rw [g59]; exact Z0
    replace SC := SC.ext E59
    replace HC := HC.ext E59
    have Z61 : n0 ≤ h59.size := Nat.le_trans Z0 E59.1
    replace X59 : Stand p l e room_1 s m _ below meth c T59 _ 1 4 := X59
    have E_oi : Exa Z h59 oi "java/lang/String" := A59
    have F_value_oi : Fld Z h59 oi "java/lang/String" "value" "[B" .null := D59 (Or.inr (hw _ (List.mem_of_getElem? (i := 4) rfl))) (ty := (.array .byte)) (by decide)
    have F_coder_oi : Fld Z h59 oi "java/lang/String" "coder" "B" (.int (0 : Int32)) := D59 (Or.inr (hw _ (List.mem_of_getElem? (i := 5) rfl))) (ty := .byte) (by decide)
    refine g_dup X59 hx hby at_29 (pc' := 30) rfl rfl ?_
    refine g_iconst X59 hx hby at_30 (pc' := 31) rfl (n := (1 : Int32)) (by first | rfl | decide) ?_
    refine g_newA X59 hx hby hZ e59 (N := 1) (hw _ (List.mem_of_getElem? (i := 9) rfl)) at_31 (pc' := 33) rfl rfl (cap := 1) (Nat.le_refl _) (by decide) (by decide) (by decide) (fun T62 h62 ca g62 X62 e62 E62 A_ca => ?_)
    have lne63 : oi < ca := by rw [g62]; exact E_oi.lt
    have ne63 : oi ≠ ca := Nat.ne_of_lt lne63
    have g64 : n0 ≤ ca := by rw [g62]; exact Z61
    replace SC := SC.ext E62
    replace HC := HC.ext E62
    replace E_oi := E_oi.ext E62
    replace F_value_oi := F_value_oi.ext E62
    replace F_coder_oi := F_coder_oi.ext E62
    have Z65 : n0 ≤ h62.size := Nat.le_trans Z61 E62.1
    replace X62 : Stand p l e room_1 s m _ below meth c T62 _ 2 5 := X62
    replace A_ca : Ara Z h62 ca .char 1 (fun jz => .int ((fun _ => (0 : Int32)) jz)) := A_ca
    refine g_dup X62 hx hby at_33 (pc' := 34) rfl rfl ?_
    refine g_iconst X62 hx hby at_34 (pc' := 35) rfl (n := (0 : Int32)) (by first | rfl | decide) ?_
    refine g_iload X62 hx hby at_35 (pc' := 37) rfl rfl ?_
    refine a_castore X62 hx hby hZ e62 A_ca (by decide) (by decide) at_37 (pc' := 38) rfl (fun T66 h66 X66 e66 W66 => ?_)
    replace SC := SC.wr W66
    replace E_oi := E_oi.wr W66
    replace F_value_oi := F_value_oi.other W66 (Or.inl ne63)
    replace F_coder_oi := F_coder_oi.other W66 (Or.inl ne63)
    have Z67 : n0 ≤ h66.size := by rw [W66.size]; exact Z65
    have N68 := Fr.snoc X66 N0 g64
    replace A_ca : Ara Z h66 ca .char 1 (fun jz => .int ((own_ui (fun _ => (0 : Int32)) 0 (nar .char cc)) jz)) := A_ca.setI W66
    refine g_special X66 hx hby hZ hown rfl hml rfl (hw _ (List.mem_of_getElem? (i := 10) rfl)) (hw _ (List.mem_of_getElem? (i := 11) rfl)) (hw _ (List.mem_of_getElem? (i := 1) rfl)) rfl (hw _ (List.mem_of_getElem? (i := 12) rfl)) (by decide) e66 (rm_i1 l Z a0 hw oi ca n0 cs (own_ui (fun _ => (0 : Int32)) 0 (nar .char cc)) h66 Z67 g60 E_oi F_value_oi F_coder_oi (Ne.symm ne63) SC hcs A_ca (own_cn _ cc hcc)) pd___C_V_325 (a := oi) (argsL := [(.ref ca)]) (rest := [(.ref oi)]) rfl rfl rfl at_38 (pc' := 41) rfl (by decide) (Nat.le_of_ble_eq_true rfl) (by decide) (by decide) ?_
    intro Tp38 vp38 Lp38 Xp38 qp38
    obtain ⟨rfl, Nqp38, E_qp38, SCqp38, Kqp38⟩ := qp38
    replace Xp38 : Stand p l e room_1 s m _ below meth c Tp38 _ 3 6 := Xp38
    replace E_oi := E_oi.keep Kqp38
    replace A_ca := A_ca.keep Kqp38 (ninS (Ne.symm ne63) nin0)
    have Z69 : n0 ≤ Tp38.heap.size := Nat.le_trans Z67 Kqp38.1
    have Np38 := Fr.app N68 Nqp38
    show Go p e below EF (Q0 n0) m Tp38 41 #[.val (.int ua), .val (.int ub), .val (.int uc), .val (.int ud), .val (.int cc), .val (.int (1 : Int32)), .unset, .unset, .unset, .unset, .unset] [(.ref oi)]
    refine g_goto Xp38 hx hby at_41 (pc' := 46) (by decide) (by decide) ?_
    refine g_astore Xp38 hx hby at_46 (pc' := 48) rfl rfl (Ls' := #[.val (.int ua), .val (.int ub), .val (.int uc), .val (.int ud), .val (.int cc), .val (.int (1 : Int32)), .val (.ref oi), .unset, .unset, .unset, .unset]) rfl ?_
    refine g_iloadN Xp38 hx hby at_48 (pc' := 49) rfl rfl ?_
    refine g_iconst Xp38 hx hby at_49 (pc' := 50) rfl (n := (3 : Int32)) (by first | rfl | decide) ?_
    refine g_iand Xp38 hx hby at_50 (pc' := 51) rfl ?_
    refine g_nameI (fun um h_um => ?_)
    refine g_istore Xp38 hx hby at_51 (pc' := 53) rfl (Ls' := #[.val (.int ua), .val (.int ub), .val (.int uc), .val (.int ud), .val (.int cc), .val (.int (1 : Int32)), .val (.ref oi), .val (.int um), .unset, .unset, .unset]) rfl ?_
    have hum := own_m3 _ um h_um
    rcases hum with rfl | rfl | rfl | rfl
    · have ev_um : (0 : Int32).toInt = 0 := rfl
      refine g_iload Xp38 hx hby at_53 (pc' := 55) rfl rfl ?_
      refine g_ifne Xp38 hx hby at_55 (pt := 64) (pf := 58) (by decide) (by decide) rfl (fun (h55 : ¬ (0 : Int32) = (0 : Int32)) => (by exfalso; revert h55; decide)) (fun (h55 : (0 : Int32) = (0 : Int32)) => ?_)
      refine g_aconst_null Xp38 hx hby at_58 (pc' := 59) rfl ?_
      refine g_astore Xp38 hx hby at_59 (pc' := 61) rfl rfl (Ls' := #[.val (.int ua), .val (.int ub), .val (.int uc), .val (.int ud), .val (.int cc), .val (.int (1 : Int32)), .val (.ref oi), .val (.int (0 : Int32)), .val .null, .unset, .unset]) rfl ?_
      refine g_goto Xp38 hx hby at_61 (pc' := 142) (by decide) (by decide) ?_
      refine g_new Xp38 hx hby hZ hown rfl (hw _ (List.mem_of_getElem? (i := 33) rfl)) (hw _ (List.mem_of_getElem? (i := 34) rfl)) (hw _ (List.mem_of_getElem? (i := 35) rfl)) at_142 (pc' := 145) rfl (by decide) (by decide) (fun T70 h70 vd g70 X70 e70 E70 A70 D70 => ?_)
      have lne71 : oi < vd := by rw [g70]; exact E_qp38.lt
      have ne71 : oi ≠ vd := Nat.ne_of_lt lne71
      have lne72 : ca < vd := by rw [g70]; exact A_ca.lt
      have ne72 : ca ≠ vd := Nat.ne_of_lt lne72
      have g73 : n0 ≤ vd := by rw [g70]; exact Z69
      replace E_qp38 := E_qp38.ext E70
      replace A_ca := A_ca.ext E70
      replace SCqp38 := SCqp38.ext E70
      have Z74 : n0 ≤ h70.size := Nat.le_trans Z69 E70.1
      replace X70 : Stand p l e room_1 s m _ below meth c T70 _ 4 8 := X70
      have E_vd : Exa Z h70 vd "com/example/turnstone/turnstone/index/Verdict" := A70
      have F_id_vd : Fld Z h70 vd "com/example/turnstone/turnstone/index/Verdict" "id" "Ljava/lang/String;" .null := D70 (Or.inr (hw _ (List.mem_of_getElem? (i := 51) rfl))) (ty := (.object "java/lang/String")) (by decide)
      have F_originalId_vd : Fld Z h70 vd "com/example/turnstone/turnstone/index/Verdict" "originalId" "Ljava/lang/String;" .null := D70 (Or.inr (hw _ (List.mem_of_getElem? (i := 53) rfl))) (ty := (.object "java/lang/String")) (by decide)
      refine g_dup X70 hx hby at_145 (pc' := 146) rfl rfl ?_
      refine g_aload X70 hx hby at_146 (pc' := 148) rfl rfl rfl ?_
      refine g_aload X70 hx hby at_148 (pc' := 150) rfl rfl rfl ?_
      refine g_specialS X70 hx hby hZ hown rfl hml rfl (hw _ (List.mem_of_getElem? (i := 36) rfl)) (hw _ (List.mem_of_getElem? (i := 37) rfl)) (hw _ (List.mem_of_getElem? (i := 35) rfl)) rfl (hw _ (List.mem_of_getElem? (i := 38) rfl)) (by decide) e70 hF (Nat.zero_le _) (rm_vN l Z a0 hw vd oi n0 h70 Z74 g73 E_vd F_id_vd F_originalId_vd) pd__Ljava_lang_String_Ljava_lang_String__V_559 (a := vd) (argsL := [(.ref oi), .null]) (rest := [(.ref vd)]) rfl rfl rfl at_150 (pc' := 153) rfl (by decide) (Nat.le_of_ble_eq_true rfl) (by decide) (by decide) ?_
      intro s Tp150 vp150 Lp150 Xp150 hZ hown hF kgp150 qp150
      obtain ⟨rfl, Nqp150, E_qp150, F_qp150, Kqp150⟩ := qp150
      replace Xp150 : Stand p l e room_1 s m _ below meth c Tp150 _ 6 20 := Xp150
      replace E_qp38 := E_qp38.keep Kqp150
      replace A_ca := A_ca.keep Kqp150 (ninS ne72 nin0)
      replace E_vd := E_vd.keep Kqp150
      have Z75 : n0 ≤ Tp150.heap.size := Nat.le_trans Z74 Kqp150.1
      have Np150 := Fr.app Np38 Nqp150
      show Go p e below EF (Q0 n0) m Tp150 153 #[.val (.int ua), .val (.int ub), .val (.int uc), .val (.int ud), .val (.int cc), .val (.int (1 : Int32)), .val (.ref oi), .val (.int (0 : Int32)), .val .null, .unset, .unset] [(.ref vd)]
      refine g_astore Xp150 hx hby at_153 (pc' := 155) rfl rfl (Ls' := #[.val (.int ua), .val (.int ub), .val (.int uc), .val (.int ud), .val (.int cc), .val (.int (1 : Int32)), .val (.ref oi), .val (.int (0 : Int32)), .val .null, .val (.ref vd), .unset]) rfl ?_
      refine g_iload Xp150 hx hby at_155 (pc' := 157) rfl rfl ?_
      refine g_ifeq Xp150 hx hby at_157 (pt := 164) (pf := 160) (by decide) (by decide) rfl (fun (h157 : (0 : Int32) = (0 : Int32)) => ?_) (fun (h157 : ¬ (0 : Int32) = (0 : Int32)) => (by exfalso; revert h157; decide))
      refine g_iconst Xp150 hx hby at_164 (pc' := 165) rfl (n := (0 : Int32)) (by first | rfl | decide) ?_
      refine g_istore Xp150 hx hby at_165 (pc' := 167) rfl (Ls' := #[.val (.int ua), .val (.int ub), .val (.int uc), .val (.int ud), .val (.int cc), .val (.int (1 : Int32)), .val (.ref oi), .val (.int (0 : Int32)), .val .null, .val (.ref vd), .val (.int (0 : Int32))]) rfl ?_
      refine g_aload Xp150 hx hby at_167 (pc' := 169) rfl rfl rfl ?_
      refine g_virtual Xp150 hx hby hZ hown hml rfl (hw _ (List.mem_of_getElem? (i := 54) rfl)) (hw _ (List.mem_of_getElem? (i := 55) rfl)) (hw _ (List.mem_of_getElem? (i := 57) rfl)) (hw _ (List.mem_of_getElem? (i := 56) rfl)) (hw _ (List.mem_of_getElem? (i := 35) rfl)) (hw _ (List.mem_of_getElem? (i := 58) rfl)) (by decide) rfl (rm_dN l Z a0 hw vd Tp150.heap F_qp150) pd___Z_171 E_qp150 (argsL := []) (rest := []) rfl rfl rfl at_169 (pc' := 172) rfl (by decide) (Nat.le_of_ble_eq_true rfl) (by decide) (by decide) ?_
      intro Tp169 vp169 Lp169 Xp169 qp169
      obtain ⟨rfl, ep169, rfl⟩ := qp169
      rw [List.append_nil] at Xp169
      replace Xp169 : Stand p l e room_1 s m _ below meth c Tp169 _ 6 20 := Xp169
      show Go p e below EF (Q0 n0) m Tp169 172 #[.val (.int ua), .val (.int ub), .val (.int uc), .val (.int ud), .val (.int cc), .val (.int (1 : Int32)), .val (.ref oi), .val (.int (0 : Int32)), .val .null, .val (.ref vd), .val (.int (0 : Int32))] [(.int (0 : Int32))]
      refine g_iload Xp169 hx hby at_172 (pc' := 174) rfl rfl ?_
      refine g_icmpne Xp169 hx hby at_174 (pt := 181) (pf := 177) (by decide) (by decide) rfl (fun (h174 : ¬ (0 : Int32) = (0 : Int32)) => (by exfalso; revert h174; decide)) (fun (h174 : (0 : Int32) = (0 : Int32)) => ?_)
      refine g_iconst Xp169 hx hby at_177 (pc' := 178) rfl (n := (1 : Int32)) (by first | rfl | decide) ?_
      refine g_goto Xp169 hx hby at_178 (pc' := 182) (by decide) (by decide) ?_
      exact g_retZ Xp169 hx hby hF.fin (by rw [ep169]; exact (Nat.le_refl _)) hlk (Or.inr rfl) hret at_182 (by decide) (by decide) (⟨rfl, Np150⟩)
    · have ev_um : (1 : Int32).toInt = 1 := rfl
      refine g_iload Xp38 hx hby at_53 (pc' := 55) rfl rfl ?_
      refine g_ifne Xp38 hx hby at_55 (pt := 64) (pf := 58) (by decide) (by decide) rfl (fun (h55 : ¬ (1 : Int32) = (0 : Int32)) => ?_) (fun (h55 : (1 : Int32) = (0 : Int32)) => (by exfalso; revert h55; decide))
      refine g_iload Xp38 hx hby at_64 (pc' := 66) rfl rfl ?_
      refine g_iconst Xp38 hx hby at_66 (pc' := 67) rfl (n := (1 : Int32)) (by first | rfl | decide) ?_
      refine g_icmpne Xp38 hx hby at_67 (pt := 77) (pf := 70) (by decide) (by decide) rfl (fun (h67 : ¬ (1 : Int32) = (1 : Int32)) => (by exfalso; revert h67; decide)) (fun (h67 : (1 : Int32) = (1 : Int32)) => ?_)
      refine g_ldcS Xp38 hx hby hZ hown rfl hF (Nat.zero_le _) (hw _ (List.mem_of_getElem? (i := 0) rfl)) (own_wS hw) at_70 (pc' := 72) rfl (n := 0) (by decide) (by decide) (by decide) (by decide) (fun s T76 h76 sl76 k76 X76 hZ hown hF kz76 e76 E76 => ?_)
      replace E_qp38 := E_qp38.ext E76
      replace A_ca := A_ca.ext E76
      replace SCqp38 := SCqp38.ext E76
      have Z77 : n0 ≤ h76.size := Nat.le_trans Z69 E76.1
      replace X76 : Stand p l e room_1 s m _ below meth c T76 _ 5 10 := X76
      refine g_astore X76 hx hby at_72 (pc' := 74) rfl rfl (Ls' := #[.val (.int ua), .val (.int ub), .val (.int uc), .val (.int ud), .val (.int cc), .val (.int (1 : Int32)), .val (.ref oi), .val (.int (1 : Int32)), .val (.ref sl76), .unset, .unset]) rfl ?_
      refine g_goto X76 hx hby at_74 (pc' := 142) (by decide) (by decide) ?_
      refine g_new X76 hx hby hZ hown e76 (hw _ (List.mem_of_getElem? (i := 33) rfl)) (hw _ (List.mem_of_getElem? (i := 34) rfl)) (hw _ (List.mem_of_getElem? (i := 35) rfl)) at_142 (pc' := 145) rfl (by decide) (by decide) (fun T78 h78 vd g78 X78 e78 E78 A78 D78 => ?_)
      have lne79 : oi < vd := by rw [g78]; exact E_qp38.lt
      have ne79 : oi ≠ vd := Nat.ne_of_lt lne79
      have lne80 : ca < vd := by rw [g78]; exact A_ca.lt
      have ne80 : ca ≠ vd := Nat.ne_of_lt lne80
      have g81 : n0 ≤ vd := by rw [g78]; exact Z77
      replace E_qp38 := E_qp38.ext E78
      replace A_ca := A_ca.ext E78
      replace SCqp38 := SCqp38.ext E78
      have Z82 : n0 ≤ h78.size := Nat.le_trans Z77 E78.1
      have kz83 := Nat.le_trans kz76 E78.1
      replace X78 : Stand p l e room_1 s m _ below meth c T78 _ 6 12 := X78
      have E_vd : Exa Z h78 vd "com/example/turnstone/turnstone/index/Verdict" := A78
      have F_id_vd : Fld Z h78 vd "com/example/turnstone/turnstone/index/Verdict" "id" "Ljava/lang/String;" .null := D78 (Or.inr (hw _ (List.mem_of_getElem? (i := 51) rfl))) (ty := (.object "java/lang/String")) (by decide)
      have F_originalId_vd : Fld Z h78 vd "com/example/turnstone/turnstone/index/Verdict" "originalId" "Ljava/lang/String;" .null := D78 (Or.inr (hw _ (List.mem_of_getElem? (i := 53) rfl))) (ty := (.object "java/lang/String")) (by decide)
      refine g_dup X78 hx hby at_145 (pc' := 146) rfl rfl ?_
      refine g_aload X78 hx hby at_146 (pc' := 148) rfl rfl rfl ?_
      refine g_aload X78 hx hby at_148 (pc' := 150) rfl rfl rfl ?_
      refine g_specialS X78 hx hby hZ hown rfl hml rfl (hw _ (List.mem_of_getElem? (i := 36) rfl)) (hw _ (List.mem_of_getElem? (i := 37) rfl)) (hw _ (List.mem_of_getElem? (i := 35) rfl)) rfl (hw _ (List.mem_of_getElem? (i := 38) rfl)) (by decide) e78 hF kz83 (rm_vR l Z a0 hw vd oi sl76 n0 h78 Z82 g81 E_vd F_id_vd F_originalId_vd) pd__Ljava_lang_String_Ljava_lang_String__V_559 (a := vd) (argsL := [(.ref oi), (.ref sl76)]) (rest := [(.ref vd)]) rfl rfl rfl at_150 (pc' := 153) rfl (by decide) (Nat.le_of_ble_eq_true rfl) (by decide) (by decide) ?_
      intro s Tp150 vp150 Lp150 Xp150 hZ hown hF kgp150 qp150
      obtain ⟨rfl, Nqp150, E_qp150, F_qp150, Kqp150⟩ := qp150
      replace Xp150 : Stand p l e room_1 s m _ below meth c Tp150 _ 8 24 := Xp150
      replace E_qp38 := E_qp38.keep Kqp150
      replace A_ca := A_ca.keep Kqp150 (ninS ne80 nin0)
      replace E_vd := E_vd.keep Kqp150
      have Z84 : n0 ≤ Tp150.heap.size := Nat.le_trans Z82 Kqp150.1
      have kz85 := Nat.le_trans kz83 Kqp150.1
      have Np150 := Fr.app Np38 Nqp150
      show Go p e below EF (Q0 n0) m Tp150 153 #[.val (.int ua), .val (.int ub), .val (.int uc), .val (.int ud), .val (.int cc), .val (.int (1 : Int32)), .val (.ref oi), .val (.int (1 : Int32)), .val (.ref sl76), .unset, .unset] [(.ref vd)]
      refine g_astore Xp150 hx hby at_153 (pc' := 155) rfl rfl (Ls' := #[.val (.int ua), .val (.int ub), .val (.int uc), .val (.int ud), .val (.int cc), .val (.int (1 : Int32)), .val (.ref oi), .val (.int (1 : Int32)), .val (.ref sl76), .val (.ref vd), .unset]) rfl ?_
      refine g_iload Xp150 hx hby at_155 (pc' := 157) rfl rfl ?_
      refine g_ifeq Xp150 hx hby at_157 (pt := 164) (pf := 160) (by decide) (by decide) rfl (fun (h157 : (1 : Int32) = (0 : Int32)) => (by exfalso; revert h157; decide)) (fun (h157 : ¬ (1 : Int32) = (0 : Int32)) => ?_)
      refine g_iconst Xp150 hx hby at_160 (pc' := 161) rfl (n := (1 : Int32)) (by first | rfl | decide) ?_
      refine g_goto Xp150 hx hby at_161 (pc' := 165) (by decide) (by decide) ?_
      refine g_istore Xp150 hx hby at_165 (pc' := 167) rfl (Ls' := #[.val (.int ua), .val (.int ub), .val (.int uc), .val (.int ud), .val (.int cc), .val (.int (1 : Int32)), .val (.ref oi), .val (.int (1 : Int32)), .val (.ref sl76), .val (.ref vd), .val (.int (1 : Int32))]) rfl ?_
      refine g_aload Xp150 hx hby at_167 (pc' := 169) rfl rfl rfl ?_
      refine g_virtual Xp150 hx hby hZ hown hml rfl (hw _ (List.mem_of_getElem? (i := 54) rfl)) (hw _ (List.mem_of_getElem? (i := 55) rfl)) (hw _ (List.mem_of_getElem? (i := 57) rfl)) (hw _ (List.mem_of_getElem? (i := 56) rfl)) (hw _ (List.mem_of_getElem? (i := 35) rfl)) (hw _ (List.mem_of_getElem? (i := 58) rfl)) (by decide) rfl (rm_dR l Z a0 hw vd sl76 Tp150.heap F_qp150) pd___Z_171 E_qp150 (argsL := []) (rest := []) rfl rfl rfl at_169 (pc' := 172) rfl (by decide) (Nat.le_of_ble_eq_true rfl) (by decide) (by decide) ?_
      intro Tp169 vp169 Lp169 Xp169 qp169
      obtain ⟨rfl, ep169, rfl⟩ := qp169
      rw [List.append_nil] at Xp169
      replace Xp169 : Stand p l e room_1 s m _ below meth c Tp169 _ 8 24 := Xp169
      show Go p e below EF (Q0 n0) m Tp169 172 #[.val (.int ua), .val (.int ub), .val (.int uc), .val (.int ud), .val (.int cc), .val (.int (1 : Int32)), .val (.ref oi), .val (.int (1 : Int32)), .val (.ref sl76), .val (.ref vd), .val (.int (1 : Int32))] [(.int (1 : Int32))]
      refine g_iload Xp169 hx hby at_172 (pc' := 174) rfl rfl ?_
      refine g_icmpne Xp169 hx hby at_174 (pt := 181) (pf := 177) (by decide) (by decide) rfl (fun (h174 : ¬ (1 : Int32) = (1 : Int32)) => (by exfalso; revert h174; decide)) (fun (h174 : (1 : Int32) = (1 : Int32)) => ?_)
      refine g_iconst Xp169 hx hby at_177 (pc' := 178) rfl (n := (1 : Int32)) (by first | rfl | decide) ?_
      refine g_goto Xp169 hx hby at_178 (pc' := 182) (by decide) (by decide) ?_
      exact g_retZ Xp169 hx hby hF.fin (by rw [ep169]; exact (Nat.le_refl _)) hlk (Or.inr rfl) hret at_182 (by decide) (by decide) (⟨rfl, Np150⟩)
    · have ev_um : (2 : Int32).toInt = 2 := rfl
      refine g_iload Xp38 hx hby at_53 (pc' := 55) rfl rfl ?_
      refine g_ifne Xp38 hx hby at_55 (pt := 64) (pf := 58) (by decide) (by decide) rfl (fun (h55 : ¬ (2 : Int32) = (0 : Int32)) => ?_) (fun (h55 : (2 : Int32) = (0 : Int32)) => (by exfalso; revert h55; decide))
      refine g_iload Xp38 hx hby at_64 (pc' := 66) rfl rfl ?_
      refine g_iconst Xp38 hx hby at_66 (pc' := 67) rfl (n := (1 : Int32)) (by first | rfl | decide) ?_
      refine g_icmpne Xp38 hx hby at_67 (pt := 77) (pf := 70) (by decide) (by decide) rfl (fun (h67 : ¬ (2 : Int32) = (1 : Int32)) => ?_) (fun (h67 : (2 : Int32) = (1 : Int32)) => (by exfalso; revert h67; decide))
      refine g_iload Xp38 hx hby at_77 (pc' := 79) rfl rfl ?_
      refine g_iconst Xp38 hx hby at_79 (pc' := 80) rfl (n := (2 : Int32)) (by first | rfl | decide) ?_
      refine g_icmpne Xp38 hx hby at_80 (pt := 107) (pf := 83) (by decide) (by decide) rfl (fun (h80 : ¬ (2 : Int32) = (2 : Int32)) => (by exfalso; revert h80; decide)) (fun (h80 : (2 : Int32) = (2 : Int32)) => ?_)
      refine g_new Xp38 hx hby hZ hown rfl (hw _ (List.mem_of_getElem? (i := 8) rfl)) (hw _ (List.mem_of_getElem? (i := 2) rfl)) (hw _ (List.mem_of_getElem? (i := 1) rfl)) at_83 (pc' := 86) rfl (by decide) (by decide) (fun T86 h86 oo g86 X86 e86 E86 A86 D86 => ?_)
      have lne87 : oi < oo := by rw [g86]; exact E_qp38.lt
      have ne87 : oi ≠ oo := Nat.ne_of_lt lne87
      have lne88 : ca < oo := by rw [g86]; exact A_ca.lt
      have ne88 : ca ≠ oo := Nat.ne_of_lt lne88
      have g89 : n0 ≤ oo := by rw [g86]; exact Z69
      replace E_qp38 := E_qp38.ext E86
      replace A_ca := A_ca.ext E86
      replace SCqp38 := SCqp38.ext E86
      have Z90 : n0 ≤ h86.size := Nat.le_trans Z69 E86.1
      replace X86 : Stand p l e room_1 s m _ below meth c T86 _ 4 10 := X86
      have E_oo : Exa Z h86 oo "java/lang/String" := A86
      have F_value_oo : Fld Z h86 oo "java/lang/String" "value" "[B" .null := D86 (Or.inr (hw _ (List.mem_of_getElem? (i := 4) rfl))) (ty := (.array .byte)) (by decide)
      have F_coder_oo : Fld Z h86 oo "java/lang/String" "coder" "B" (.int (0 : Int32)) := D86 (Or.inr (hw _ (List.mem_of_getElem? (i := 5) rfl))) (ty := .byte) (by decide)
      refine g_dup X86 hx hby at_86 (pc' := 87) rfl rfl ?_
      refine g_iconst X86 hx hby at_87 (pc' := 88) rfl (n := (1 : Int32)) (by first | rfl | decide) ?_
      refine g_newA X86 hx hby hZ e86 (N := 1) (hw _ (List.mem_of_getElem? (i := 9) rfl)) at_88 (pc' := 90) rfl rfl (cap := 1) (Nat.le_refl _) (by decide) (by decide) (by decide) (fun T91 h91 cb g91 X91 e91 E91 A_cb => ?_)
      have lne92 : oi < cb := by rw [g91]; exact E_qp38.lt
      have ne92 : oi ≠ cb := Nat.ne_of_lt lne92
      have lne93 : ca < cb := by rw [g91]; exact A_ca.lt
      have ne93 : ca ≠ cb := Nat.ne_of_lt lne93
      have lne94 : oo < cb := by rw [g91]; exact E_oo.lt
      have ne94 : oo ≠ cb := Nat.ne_of_lt lne94
      have g95 : n0 ≤ cb := by rw [g91]; exact Z90
      replace E_qp38 := E_qp38.ext E91
      replace A_ca := A_ca.ext E91
      replace SCqp38 := SCqp38.ext E91
      replace E_oo := E_oo.ext E91
      replace F_value_oo := F_value_oo.ext E91
      replace F_coder_oo := F_coder_oo.ext E91
      have Z96 : n0 ≤ h91.size := Nat.le_trans Z90 E91.1
      replace X91 : Stand p l e room_1 s m _ below meth c T91 _ 5 11 := X91
      replace A_cb : Ara Z h91 cb .char 1 (fun jz => .int ((fun _ => (0 : Int32)) jz)) := A_cb
      refine g_dup X91 hx hby at_90 (pc' := 91) rfl rfl ?_
      refine g_iconst X91 hx hby at_91 (pc' := 92) rfl (n := (0 : Int32)) (by first | rfl | decide) ?_
      refine g_iloadN X91 hx hby at_92 (pc' := 93) rfl rfl ?_
      refine g_sipush X91 hx hby at_93 (pc' := 96) rfl (n := (255 : Int32)) (by first | rfl | decide) ?_
      refine g_iand X91 hx hby at_96 (pc' := 97) rfl ?_
      refine g_i2c X91 hx hby at_97 (pc' := 98) rfl ?_
      refine g_nameI (fun co h_co => ?_)
      have hco := own_cc _ co h_co
      refine a_castore X91 hx hby hZ e91 A_cb (by decide) (by decide) at_98 (pc' := 99) rfl (fun T97 h97 X97 e97 W97 => ?_)
      replace E_qp38 := E_qp38.wr W97
      replace A_ca := A_ca.other W97 ne93
      replace SCqp38 := SCqp38.wr W97
      replace E_oo := E_oo.wr W97
      replace F_value_oo := F_value_oo.other W97 (Or.inl ne94)
      replace F_coder_oo := F_coder_oo.other W97 (Or.inl ne94)
      have Z98 : n0 ≤ h97.size := by rw [W97.size]; exact Z96
      have N99 := Fr.snoc X97 Np38 g95
      replace A_cb : Ara Z h97 cb .char 1 (fun jz => .int ((own_ui (fun _ => (0 : Int32)) 0 (nar .char co)) jz)) := A_cb.setI W97
      refine g_special X97 hx hby hZ hown rfl hml rfl (hw _ (List.mem_of_getElem? (i := 10) rfl)) (hw _ (List.mem_of_getElem? (i := 11) rfl)) (hw _ (List.mem_of_getElem? (i := 1) rfl)) rfl (hw _ (List.mem_of_getElem? (i := 12) rfl)) (by decide) e97 (rm_i1 l Z a0 hw oo cb n0 cs (own_ui (fun _ => (0 : Int32)) 0 (nar .char co)) h97 Z98 g89 E_oo F_value_oo F_coder_oo (Ne.symm ne94) SCqp38 hcs A_cb (own_cn _ co hco)) pd___C_V_325 (a := oo) (argsL := [(.ref cb)]) (rest := [(.ref oo)]) rfl rfl rfl at_99 (pc' := 102) rfl (by decide) (Nat.le_of_ble_eq_true rfl) (by decide) (by decide) ?_
      intro Tp99 vp99 Lp99 Xp99 qp99
      obtain ⟨rfl, Nqp99, E_qp99, SCqp99, Kqp99⟩ := qp99
      replace Xp99 : Stand p l e room_1 s m _ below meth c Tp99 _ 6 12 := Xp99
      replace E_qp38 := E_qp38.keep Kqp99
      replace A_ca := A_ca.keep Kqp99 (ninS ne88 nin0)
      replace E_oo := E_oo.keep Kqp99
      replace A_cb := A_cb.keep Kqp99 (ninS (Ne.symm ne94) nin0)
      have Z100 : n0 ≤ Tp99.heap.size := Nat.le_trans Z98 Kqp99.1
      have Np99 := Fr.app N99 Nqp99
      show Go p e below EF (Q0 n0) m Tp99 102 #[.val (.int ua), .val (.int ub), .val (.int uc), .val (.int ud), .val (.int cc), .val (.int (1 : Int32)), .val (.ref oi), .val (.int (2 : Int32)), .unset, .unset, .unset] [(.ref oo)]
      refine g_astore Xp99 hx hby at_102 (pc' := 104) rfl rfl (Ls' := #[.val (.int ua), .val (.int ub), .val (.int uc), .val (.int ud), .val (.int cc), .val (.int (1 : Int32)), .val (.ref oi), .val (.int (2 : Int32)), .val (.ref oo), .unset, .unset]) rfl ?_
      refine g_goto Xp99 hx hby at_104 (pc' := 142) (by decide) (by decide) ?_
      refine g_new Xp99 hx hby hZ hown rfl (hw _ (List.mem_of_getElem? (i := 33) rfl)) (hw _ (List.mem_of_getElem? (i := 34) rfl)) (hw _ (List.mem_of_getElem? (i := 35) rfl)) at_142 (pc' := 145) rfl (by decide) (by decide) (fun T101 h101 vd g101 X101 e101 E101 A101 D101 => ?_)
      have lne102 : oi < vd := by rw [g101]; exact E_qp38.lt
      have ne102 : oi ≠ vd := Nat.ne_of_lt lne102
      have lne103 : ca < vd := by rw [g101]; exact A_ca.lt
      have ne103 : ca ≠ vd := Nat.ne_of_lt lne103
      have lne104 : oo < vd := by rw [g101]; exact E_qp99.lt
      have ne104 : oo ≠ vd := Nat.ne_of_lt lne104
      have lne105 : cb < vd := by rw [g101]; exact A_cb.lt
      have ne105 : cb ≠ vd := Nat.ne_of_lt lne105
      have g106 : n0 ≤ vd := by rw [g101]; exact Z100
      replace E_qp38 := E_qp38.ext E101
      replace A_ca := A_ca.ext E101
      replace E_qp99 := E_qp99.ext E101
      replace A_cb := A_cb.ext E101
      replace SCqp99 := SCqp99.ext E101
      have Z107 : n0 ≤ h101.size := Nat.le_trans Z100 E101.1
      replace X101 : Stand p l e room_1 s m _ below meth c T101 _ 7 14 := X101
      have E_vd : Exa Z h101 vd "com/example/turnstone/turnstone/index/Verdict" := A101
      have F_id_vd : Fld Z h101 vd "com/example/turnstone/turnstone/index/Verdict" "id" "Ljava/lang/String;" .null := D101 (Or.inr (hw _ (List.mem_of_getElem? (i := 51) rfl))) (ty := (.object "java/lang/String")) (by decide)
      have F_originalId_vd : Fld Z h101 vd "com/example/turnstone/turnstone/index/Verdict" "originalId" "Ljava/lang/String;" .null := D101 (Or.inr (hw _ (List.mem_of_getElem? (i := 53) rfl))) (ty := (.object "java/lang/String")) (by decide)
      refine g_dup X101 hx hby at_145 (pc' := 146) rfl rfl ?_
      refine g_aload X101 hx hby at_146 (pc' := 148) rfl rfl rfl ?_
      refine g_aload X101 hx hby at_148 (pc' := 150) rfl rfl rfl ?_
      refine g_specialS X101 hx hby hZ hown rfl hml rfl (hw _ (List.mem_of_getElem? (i := 36) rfl)) (hw _ (List.mem_of_getElem? (i := 37) rfl)) (hw _ (List.mem_of_getElem? (i := 35) rfl)) rfl (hw _ (List.mem_of_getElem? (i := 38) rfl)) (by decide) e101 hF (Nat.zero_le _) (rm_vR l Z a0 hw vd oi oo n0 h101 Z107 g106 E_vd F_id_vd F_originalId_vd) pd__Ljava_lang_String_Ljava_lang_String__V_559 (a := vd) (argsL := [(.ref oi), (.ref oo)]) (rest := [(.ref vd)]) rfl rfl rfl at_150 (pc' := 153) rfl (by decide) (Nat.le_of_ble_eq_true rfl) (by decide) (by decide) ?_
      intro s Tp150 vp150 Lp150 Xp150 hZ hown hF kgp150 qp150
      obtain ⟨rfl, Nqp150, E_qp150, F_qp150, Kqp150⟩ := qp150
      replace Xp150 : Stand p l e room_1 s m _ below meth c Tp150 _ 9 26 := Xp150
      replace E_qp38 := E_qp38.keep Kqp150
      replace A_ca := A_ca.keep Kqp150 (ninS ne103 nin0)
      replace E_qp99 := E_qp99.keep Kqp150
      replace A_cb := A_cb.keep Kqp150 (ninS ne105 nin0)
      replace E_vd := E_vd.keep Kqp150
      have Z108 : n0 ≤ Tp150.heap.size := Nat.le_trans Z107 Kqp150.1
      have Np150 := Fr.app Np99 Nqp150
      show Go p e below EF (Q0 n0) m Tp150 153 #[.val (.int ua), .val (.int ub), .val (.int uc), .val (.int ud), .val (.int cc), .val (.int (1 : Int32)), .val (.ref oi), .val (.int (2 : Int32)), .val (.ref oo), .unset, .unset] [(.ref vd)]
      refine g_astore Xp150 hx hby at_153 (pc' := 155) rfl rfl (Ls' := #[.val (.int ua), .val (.int ub), .val (.int uc), .val (.int ud), .val (.int cc), .val (.int (1 : Int32)), .val (.ref oi), .val (.int (2 : Int32)), .val (.ref oo), .val (.ref vd), .unset]) rfl ?_
      refine g_iload Xp150 hx hby at_155 (pc' := 157) rfl rfl ?_
      refine g_ifeq Xp150 hx hby at_157 (pt := 164) (pf := 160) (by decide) (by decide) rfl (fun (h157 : (2 : Int32) = (0 : Int32)) => (by exfalso; revert h157; decide)) (fun (h157 : ¬ (2 : Int32) = (0 : Int32)) => ?_)
      refine g_iconst Xp150 hx hby at_160 (pc' := 161) rfl (n := (1 : Int32)) (by first | rfl | decide) ?_
      refine g_goto Xp150 hx hby at_161 (pc' := 165) (by decide) (by decide) ?_
      refine g_istore Xp150 hx hby at_165 (pc' := 167) rfl (Ls' := #[.val (.int ua), .val (.int ub), .val (.int uc), .val (.int ud), .val (.int cc), .val (.int (1 : Int32)), .val (.ref oi), .val (.int (2 : Int32)), .val (.ref oo), .val (.ref vd), .val (.int (1 : Int32))]) rfl ?_
      refine g_aload Xp150 hx hby at_167 (pc' := 169) rfl rfl rfl ?_
      refine g_virtual Xp150 hx hby hZ hown hml rfl (hw _ (List.mem_of_getElem? (i := 54) rfl)) (hw _ (List.mem_of_getElem? (i := 55) rfl)) (hw _ (List.mem_of_getElem? (i := 57) rfl)) (hw _ (List.mem_of_getElem? (i := 56) rfl)) (hw _ (List.mem_of_getElem? (i := 35) rfl)) (hw _ (List.mem_of_getElem? (i := 58) rfl)) (by decide) rfl (rm_dR l Z a0 hw vd oo Tp150.heap F_qp150) pd___Z_171 E_qp150 (argsL := []) (rest := []) rfl rfl rfl at_169 (pc' := 172) rfl (by decide) (Nat.le_of_ble_eq_true rfl) (by decide) (by decide) ?_
      intro Tp169 vp169 Lp169 Xp169 qp169
      obtain ⟨rfl, ep169, rfl⟩ := qp169
      rw [List.append_nil] at Xp169
      replace Xp169 : Stand p l e room_1 s m _ below meth c Tp169 _ 9 26 := Xp169
      show Go p e below EF (Q0 n0) m Tp169 172 #[.val (.int ua), .val (.int ub), .val (.int uc), .val (.int ud), .val (.int cc), .val (.int (1 : Int32)), .val (.ref oi), .val (.int (2 : Int32)), .val (.ref oo), .val (.ref vd), .val (.int (1 : Int32))] [(.int (1 : Int32))]
      refine g_iload Xp169 hx hby at_172 (pc' := 174) rfl rfl ?_
      refine g_icmpne Xp169 hx hby at_174 (pt := 181) (pf := 177) (by decide) (by decide) rfl (fun (h174 : ¬ (1 : Int32) = (1 : Int32)) => (by exfalso; revert h174; decide)) (fun (h174 : (1 : Int32) = (1 : Int32)) => ?_)
      refine g_iconst Xp169 hx hby at_177 (pc' := 178) rfl (n := (1 : Int32)) (by first | rfl | decide) ?_
      refine g_goto Xp169 hx hby at_178 (pc' := 182) (by decide) (by decide) ?_
      exact g_retZ Xp169 hx hby hF.fin (by rw [ep169]; exact (Nat.le_refl _)) hlk (Or.inr rfl) hret at_182 (by decide) (by decide) (⟨rfl, Np150⟩)
    · have ev_um : (3 : Int32).toInt = 3 := rfl
      refine g_iload Xp38 hx hby at_53 (pc' := 55) rfl rfl ?_
      refine g_ifne Xp38 hx hby at_55 (pt := 64) (pf := 58) (by decide) (by decide) rfl (fun (h55 : ¬ (3 : Int32) = (0 : Int32)) => ?_) (fun (h55 : (3 : Int32) = (0 : Int32)) => (by exfalso; revert h55; decide))
      refine g_iload Xp38 hx hby at_64 (pc' := 66) rfl rfl ?_
      refine g_iconst Xp38 hx hby at_66 (pc' := 67) rfl (n := (1 : Int32)) (by first | rfl | decide) ?_
      refine g_icmpne Xp38 hx hby at_67 (pt := 77) (pf := 70) (by decide) (by decide) rfl (fun (h67 : ¬ (3 : Int32) = (1 : Int32)) => ?_) (fun (h67 : (3 : Int32) = (1 : Int32)) => (by exfalso; revert h67; decide))
      refine g_iload Xp38 hx hby at_77 (pc' := 79) rfl rfl ?_
      refine g_iconst Xp38 hx hby at_79 (pc' := 80) rfl (n := (2 : Int32)) (by first | rfl | decide) ?_
      refine g_icmpne Xp38 hx hby at_80 (pt := 107) (pf := 83) (by decide) (by decide) rfl (fun (h80 : ¬ (3 : Int32) = (2 : Int32)) => ?_) (fun (h80 : (3 : Int32) = (2 : Int32)) => (by exfalso; revert h80; decide))
      refine g_iload Xp38 hx hby at_107 (pc' := 109) rfl rfl ?_
      refine g_ifeq Xp38 hx hby at_109 (pt := 130) (pf := 112) (by decide) (by decide) rfl (fun (h109 : (1 : Int32) = (0 : Int32)) => (by exfalso; revert h109; decide)) (fun (h109 : ¬ (1 : Int32) = (0 : Int32)) => ?_)
      refine g_new Xp38 hx hby hZ hown rfl (hw _ (List.mem_of_getElem? (i := 8) rfl)) (hw _ (List.mem_of_getElem? (i := 2) rfl)) (hw _ (List.mem_of_getElem? (i := 1) rfl)) at_112 (pc' := 115) rfl (by decide) (by decide) (fun T109 h109 oo g109 X109 e109 E109 A109 D109 => ?_)
      have lne110 : oi < oo := by rw [g109]; exact E_qp38.lt
      have ne110 : oi ≠ oo := Nat.ne_of_lt lne110
      have lne111 : ca < oo := by rw [g109]; exact A_ca.lt
      have ne111 : ca ≠ oo := Nat.ne_of_lt lne111
      have g112 : n0 ≤ oo := by rw [g109]; exact Z69
      replace E_qp38 := E_qp38.ext E109
      replace A_ca := A_ca.ext E109
      replace SCqp38 := SCqp38.ext E109
      have Z113 : n0 ≤ h109.size := Nat.le_trans Z69 E109.1
      replace X109 : Stand p l e room_1 s m _ below meth c T109 _ 4 10 := X109
      have E_oo : Exa Z h109 oo "java/lang/String" := A109
      have F_value_oo : Fld Z h109 oo "java/lang/String" "value" "[B" .null := D109 (Or.inr (hw _ (List.mem_of_getElem? (i := 4) rfl))) (ty := (.array .byte)) (by decide)
      have F_coder_oo : Fld Z h109 oo "java/lang/String" "coder" "B" (.int (0 : Int32)) := D109 (Or.inr (hw _ (List.mem_of_getElem? (i := 5) rfl))) (ty := .byte) (by decide)
      refine g_dup X109 hx hby at_115 (pc' := 116) rfl rfl ?_
      refine g_iconst X109 hx hby at_116 (pc' := 117) rfl (n := (1 : Int32)) (by first | rfl | decide) ?_
      refine g_newA X109 hx hby hZ e109 (N := 1) (hw _ (List.mem_of_getElem? (i := 9) rfl)) at_117 (pc' := 119) rfl rfl (cap := 1) (Nat.le_refl _) (by decide) (by decide) (by decide) (fun T114 h114 cb g114 X114 e114 E114 A_cb => ?_)
      have lne115 : oi < cb := by rw [g114]; exact E_qp38.lt
      have ne115 : oi ≠ cb := Nat.ne_of_lt lne115
      have lne116 : ca < cb := by rw [g114]; exact A_ca.lt
      have ne116 : ca ≠ cb := Nat.ne_of_lt lne116
      have lne117 : oo < cb := by rw [g114]; exact E_oo.lt
      have ne117 : oo ≠ cb := Nat.ne_of_lt lne117
      have g118 : n0 ≤ cb := by rw [g114]; exact Z113
      replace E_qp38 := E_qp38.ext E114
      replace A_ca := A_ca.ext E114
      replace SCqp38 := SCqp38.ext E114
      replace E_oo := E_oo.ext E114
      replace F_value_oo := F_value_oo.ext E114
      replace F_coder_oo := F_coder_oo.ext E114
      have Z119 : n0 ≤ h114.size := Nat.le_trans Z113 E114.1
      replace X114 : Stand p l e room_1 s m _ below meth c T114 _ 5 11 := X114
      replace A_cb : Ara Z h114 cb .char 1 (fun jz => .int ((fun _ => (0 : Int32)) jz)) := A_cb
      refine g_dup X114 hx hby at_119 (pc' := 120) rfl rfl ?_
      refine g_iconst X114 hx hby at_120 (pc' := 121) rfl (n := (0 : Int32)) (by first | rfl | decide) ?_
      refine g_iload X114 hx hby at_121 (pc' := 123) rfl rfl ?_
      refine a_castore X114 hx hby hZ e114 A_cb (by decide) (by decide) at_123 (pc' := 124) rfl (fun T120 h120 X120 e120 W120 => ?_)
      replace E_qp38 := E_qp38.wr W120
      replace A_ca := A_ca.other W120 ne116
      replace SCqp38 := SCqp38.wr W120
      replace E_oo := E_oo.wr W120
      replace F_value_oo := F_value_oo.other W120 (Or.inl ne117)
      replace F_coder_oo := F_coder_oo.other W120 (Or.inl ne117)
      have Z121 : n0 ≤ h120.size := by rw [W120.size]; exact Z119
      have N122 := Fr.snoc X120 Np38 g118
      replace A_cb : Ara Z h120 cb .char 1 (fun jz => .int ((own_ui (fun _ => (0 : Int32)) 0 (nar .char cc)) jz)) := A_cb.setI W120
      refine g_special X120 hx hby hZ hown rfl hml rfl (hw _ (List.mem_of_getElem? (i := 10) rfl)) (hw _ (List.mem_of_getElem? (i := 11) rfl)) (hw _ (List.mem_of_getElem? (i := 1) rfl)) rfl (hw _ (List.mem_of_getElem? (i := 12) rfl)) (by decide) e120 (rm_i1 l Z a0 hw oo cb n0 cs (own_ui (fun _ => (0 : Int32)) 0 (nar .char cc)) h120 Z121 g112 E_oo F_value_oo F_coder_oo (Ne.symm ne117) SCqp38 hcs A_cb (own_cn _ cc hcc)) pd___C_V_325 (a := oo) (argsL := [(.ref cb)]) (rest := [(.ref oo)]) rfl rfl rfl at_124 (pc' := 127) rfl (by decide) (Nat.le_of_ble_eq_true rfl) (by decide) (by decide) ?_
      intro Tp124 vp124 Lp124 Xp124 qp124
      obtain ⟨rfl, Nqp124, E_qp124, SCqp124, Kqp124⟩ := qp124
      replace Xp124 : Stand p l e room_1 s m _ below meth c Tp124 _ 6 12 := Xp124
      replace E_qp38 := E_qp38.keep Kqp124
      replace A_ca := A_ca.keep Kqp124 (ninS ne111 nin0)
      replace E_oo := E_oo.keep Kqp124
      replace A_cb := A_cb.keep Kqp124 (ninS (Ne.symm ne117) nin0)
      have Z123 : n0 ≤ Tp124.heap.size := Nat.le_trans Z121 Kqp124.1
      have Np124 := Fr.app N122 Nqp124
      show Go p e below EF (Q0 n0) m Tp124 127 #[.val (.int ua), .val (.int ub), .val (.int uc), .val (.int ud), .val (.int cc), .val (.int (1 : Int32)), .val (.ref oi), .val (.int (3 : Int32)), .unset, .unset, .unset] [(.ref oo)]
      refine g_goto Xp124 hx hby at_127 (pc' := 140) (by decide) (by decide) ?_
      refine g_astore Xp124 hx hby at_140 (pc' := 142) rfl rfl (Ls' := #[.val (.int ua), .val (.int ub), .val (.int uc), .val (.int ud), .val (.int cc), .val (.int (1 : Int32)), .val (.ref oi), .val (.int (3 : Int32)), .val (.ref oo), .unset, .unset]) rfl ?_
      refine g_new Xp124 hx hby hZ hown rfl (hw _ (List.mem_of_getElem? (i := 33) rfl)) (hw _ (List.mem_of_getElem? (i := 34) rfl)) (hw _ (List.mem_of_getElem? (i := 35) rfl)) at_142 (pc' := 145) rfl (by decide) (by decide) (fun T124 h124 vd g124 X124 e124 E124 A124 D124 => ?_)
      have lne125 : oi < vd := by rw [g124]; exact E_qp38.lt
      have ne125 : oi ≠ vd := Nat.ne_of_lt lne125
      have lne126 : ca < vd := by rw [g124]; exact A_ca.lt
      have ne126 : ca ≠ vd := Nat.ne_of_lt lne126
      have lne127 : oo < vd := by rw [g124]; exact E_qp124.lt
      have ne127 : oo ≠ vd := Nat.ne_of_lt lne127
      have lne128 : cb < vd := by rw [g124]; exact A_cb.lt
      have ne128 : cb ≠ vd := Nat.ne_of_lt lne128
      have g129 : n0 ≤ vd := by rw [g124]; exact Z123
      replace E_qp38 := E_qp38.ext E124
      replace A_ca := A_ca.ext E124
      replace E_qp124 := E_qp124.ext E124
      replace A_cb := A_cb.ext E124
      replace SCqp124 := SCqp124.ext E124
      have Z130 : n0 ≤ h124.size := Nat.le_trans Z123 E124.1
      replace X124 : Stand p l e room_1 s m _ below meth c T124 _ 7 14 := X124
      have E_vd : Exa Z h124 vd "com/example/turnstone/turnstone/index/Verdict" := A124
      have F_id_vd : Fld Z h124 vd "com/example/turnstone/turnstone/index/Verdict" "id" "Ljava/lang/String;" .null := D124 (Or.inr (hw _ (List.mem_of_getElem? (i := 51) rfl))) (ty := (.object "java/lang/String")) (by decide)
      have F_originalId_vd : Fld Z h124 vd "com/example/turnstone/turnstone/index/Verdict" "originalId" "Ljava/lang/String;" .null := D124 (Or.inr (hw _ (List.mem_of_getElem? (i := 53) rfl))) (ty := (.object "java/lang/String")) (by decide)
      refine g_dup X124 hx hby at_145 (pc' := 146) rfl rfl ?_
      refine g_aload X124 hx hby at_146 (pc' := 148) rfl rfl rfl ?_
      refine g_aload X124 hx hby at_148 (pc' := 150) rfl rfl rfl ?_
      refine g_specialS X124 hx hby hZ hown rfl hml rfl (hw _ (List.mem_of_getElem? (i := 36) rfl)) (hw _ (List.mem_of_getElem? (i := 37) rfl)) (hw _ (List.mem_of_getElem? (i := 35) rfl)) rfl (hw _ (List.mem_of_getElem? (i := 38) rfl)) (by decide) e124 hF (Nat.zero_le _) (rm_vR l Z a0 hw vd oi oo n0 h124 Z130 g129 E_vd F_id_vd F_originalId_vd) pd__Ljava_lang_String_Ljava_lang_String__V_559 (a := vd) (argsL := [(.ref oi), (.ref oo)]) (rest := [(.ref vd)]) rfl rfl rfl at_150 (pc' := 153) rfl (by decide) (Nat.le_of_ble_eq_true rfl) (by decide) (by decide) ?_
      intro s Tp150 vp150 Lp150 Xp150 hZ hown hF kgp150 qp150
      obtain ⟨rfl, Nqp150, E_qp150, F_qp150, Kqp150⟩ := qp150
      replace Xp150 : Stand p l e room_1 s m _ below meth c Tp150 _ 9 26 := Xp150
      replace E_qp38 := E_qp38.keep Kqp150
      replace A_ca := A_ca.keep Kqp150 (ninS ne126 nin0)
      replace E_qp124 := E_qp124.keep Kqp150
      replace A_cb := A_cb.keep Kqp150 (ninS ne128 nin0)
      replace E_vd := E_vd.keep Kqp150
      have Z131 : n0 ≤ Tp150.heap.size := Nat.le_trans Z130 Kqp150.1
      have Np150 := Fr.app Np124 Nqp150
      show Go p e below EF (Q0 n0) m Tp150 153 #[.val (.int ua), .val (.int ub), .val (.int uc), .val (.int ud), .val (.int cc), .val (.int (1 : Int32)), .val (.ref oi), .val (.int (3 : Int32)), .val (.ref oo), .unset, .unset] [(.ref vd)]
      refine g_astore Xp150 hx hby at_153 (pc' := 155) rfl rfl (Ls' := #[.val (.int ua), .val (.int ub), .val (.int uc), .val (.int ud), .val (.int cc), .val (.int (1 : Int32)), .val (.ref oi), .val (.int (3 : Int32)), .val (.ref oo), .val (.ref vd), .unset]) rfl ?_
      refine g_iload Xp150 hx hby at_155 (pc' := 157) rfl rfl ?_
      refine g_ifeq Xp150 hx hby at_157 (pt := 164) (pf := 160) (by decide) (by decide) rfl (fun (h157 : (3 : Int32) = (0 : Int32)) => (by exfalso; revert h157; decide)) (fun (h157 : ¬ (3 : Int32) = (0 : Int32)) => ?_)
      refine g_iconst Xp150 hx hby at_160 (pc' := 161) rfl (n := (1 : Int32)) (by first | rfl | decide) ?_
      refine g_goto Xp150 hx hby at_161 (pc' := 165) (by decide) (by decide) ?_
      refine g_istore Xp150 hx hby at_165 (pc' := 167) rfl (Ls' := #[.val (.int ua), .val (.int ub), .val (.int uc), .val (.int ud), .val (.int cc), .val (.int (1 : Int32)), .val (.ref oi), .val (.int (3 : Int32)), .val (.ref oo), .val (.ref vd), .val (.int (1 : Int32))]) rfl ?_
      refine g_aload Xp150 hx hby at_167 (pc' := 169) rfl rfl rfl ?_
      refine g_virtual Xp150 hx hby hZ hown hml rfl (hw _ (List.mem_of_getElem? (i := 54) rfl)) (hw _ (List.mem_of_getElem? (i := 55) rfl)) (hw _ (List.mem_of_getElem? (i := 57) rfl)) (hw _ (List.mem_of_getElem? (i := 56) rfl)) (hw _ (List.mem_of_getElem? (i := 35) rfl)) (hw _ (List.mem_of_getElem? (i := 58) rfl)) (by decide) rfl (rm_dR l Z a0 hw vd oo Tp150.heap F_qp150) pd___Z_171 E_qp150 (argsL := []) (rest := []) rfl rfl rfl at_169 (pc' := 172) rfl (by decide) (Nat.le_of_ble_eq_true rfl) (by decide) (by decide) ?_
      intro Tp169 vp169 Lp169 Xp169 qp169
      obtain ⟨rfl, ep169, rfl⟩ := qp169
      rw [List.append_nil] at Xp169
      replace Xp169 : Stand p l e room_1 s m _ below meth c Tp169 _ 9 26 := Xp169
      show Go p e below EF (Q0 n0) m Tp169 172 #[.val (.int ua), .val (.int ub), .val (.int uc), .val (.int ud), .val (.int cc), .val (.int (1 : Int32)), .val (.ref oi), .val (.int (3 : Int32)), .val (.ref oo), .val (.ref vd), .val (.int (1 : Int32))] [(.int (1 : Int32))]
      refine g_iload Xp169 hx hby at_172 (pc' := 174) rfl rfl ?_
      refine g_icmpne Xp169 hx hby at_174 (pt := 181) (pf := 177) (by decide) (by decide) rfl (fun (h174 : ¬ (1 : Int32) = (1 : Int32)) => (by exfalso; revert h174; decide)) (fun (h174 : (1 : Int32) = (1 : Int32)) => ?_)
      refine g_iconst Xp169 hx hby at_177 (pc' := 178) rfl (n := (1 : Int32)) (by first | rfl | decide) ?_
      refine g_goto Xp169 hx hby at_178 (pc' := 182) (by decide) (by decide) ?_
      exact g_retZ Xp169 hx hby hF.fin (by rw [ep169]; exact (Nat.le_refl _)) hlk (Or.inr rfl) hret at_182 (by decide) (by decide) (⟨rfl, Np150⟩)
set_option maxRecDepth 65536 in
set_option maxHeartbeats 40000000 in
theorem comes_1 {Post : Tables → Env → Array Value → State → Outcome → State → Prop} (hpost : ∀ tb e args s v u, (limb_1_1.after args s (.returned v) u = true ∧ limb_1_2.after args s (.returned v) u = true ∧ True) → ReturnedEndW s (.returned v) u (Jvm.fieldLocs frame_1_writes args s ++ Jvm.arrayLocs frame_1_arrays args s ++ Jvm.staticLocs frame_1_statics s) 32 3200 → Post tb e args s (.returned v) u) :
    ArmFor flags0 classFile x code maxLocals ret World_1 tables_1 room_1 Calls_1 rest_1 Pre_1 Post := by
  intro l hfl _ _ p e ha hc hk s m args below hf hA hF happ hP
  obtain ⟨hcalls, hrest, hpre⟩ := hP
  obtain ⟨-, -, -, hnamed, -, -, -, hat⟩ := (Spec.applies_iff hf).mp happ
  obtain ⟨hg, hn⟩ := and_e (Cond.before_iff.mp (show (Jvm.Cond.and given_1 narrow_1).before args s = true from hpre))
  obtain ⟨g1, g2⟩ := and_e hg
  obtain ⟨g3, g4⟩ := and_e g2
  obtain ⟨g5, g6⟩ := and_e g4
  obtain ⟨g7, g8⟩ := and_e g6
  obtain ⟨w0, w1, w2, w3, rfl⟩ : ∃ w0 w1 w2 w3 : Value, args = #[w0, w1, w2, w3] := by
    have hs : args.size = 4 := by simpa [Cond.value, given_1] using g1
    obtain ⟨L⟩ := args
    match L, hs with
    | [w0, w1, w2, w3], _ => exact ⟨w0, w1, w2, w3, rfl⟩
  have hw := fun d (hd : d ∈ tables_1) => atoms_spec (ws := Jvm.Cond.code x code maxLocals ret :: tables_1) hat d (List.mem_cons_of_mem _ hd)
  have hfit : Fit s := fun {y c} hc i hi => by
    obtain ⟨ha, rfl⟩ := Array.getElem?_eq_some_iff.mp hc
    have q := List.all_eq_true.mp ((Array.all_eq_true_iff_forall_mem.mp hF) _ (Array.getElem_mem ha)) i (List.mem_range.mpr hi)
    simpa [Array.getElem?_eq_getElem hi] using q
  obtain ⟨i0, ei0⟩ := is_v g3
  obtain rfl : w0 = (.int i0) := Option.some.inj ei0
  obtain ⟨i1, ei1⟩ := is_v g5
  obtain rfl : w1 = (.int i1) := Option.some.inj ei1
  obtain ⟨i2, ei2⟩ := is_v g7
  obtain rfl : w2 = (.int i2) := Option.some.inj ei2
  obtain ⟨i3, ei3⟩ := is_v g8
  obtain rfl : w3 = (.int i3) := Option.some.inj ei3
  obtain ⟨q1, q2⟩ := and_e (Cond.before_iff.mp (show rest_1_c.before _ s = true from hrest))
  obtain ⟨q3, q4⟩ := and_e q2
  obtain ⟨q5, -⟩ := and_e q4
  obtain ⟨cs, ecs⟩ := is_v q3
  have hcs : ¬ cs = 0 := fun q => by
    subst q
    have z := not_v q5
    rw [eq_i ecs (Term.int_eval (0)) rfl] at z
    cases z
  have SC : Sta s s.heap "java/lang/String" "COMPACT_STRINGS" "Z" (.int cs) := Sta.start ecs (Or.inl (Cond.before_iff.mpr q1))
  have HC0 : CHv s consts_1 s.vm s.heap := CHv.start (own_EW hw) (fun p hp => hcalls.1 p hp) (Cond.before_iff.mpr q5) (hw _ (List.mem_of_getElem? (i := 3) rfl)) (hw _ (List.mem_of_getElem? (i := 2) rfl))
  obtain ⟨n, o, h1, h2, h3, _, L, rfl, ⟨rfl, N⟩, hq⟩ := law0 l s _ hw tables_1 i0 i1 i2 i3 s.heap.size cs s.heap (Nat.le_refl _) SC hcs p e ha hc hk s m _ below hf ((Spec.applies_iff_loose hf).mp happ).1 ⟨rfl, State.Warmed39.refl s, rfl, HC0⟩ trivial
  refine ⟨n, _, h1, h2, h3, hpost _ _ _ _ _ _ ⟨Cond.after_iff.mpr rfl, Cond.after_iff.mpr (eq_i res_at (Term.int_eval (1)) rfl), trivial⟩ ⟨hq.1, hq.2.1, hq.2.2.1, (hq.2.2.2.sift fun y hy => Or.inr (N y hy)).mono (by decide) (by decide)⟩⟩
theorem main_1_1 : Claimed_1_1 := comes_1 fun _ _ _ _ _ _ h hF => ⟨h.1, hF⟩
theorem main_1_2 : Claimed_1_2 := comes_1 fun _ _ _ _ _ _ h hF => ⟨h.2.1, hF⟩
end Jvm.Pilot.@@N@@
namespace Jvm.Pilot.@@N@@
open Jvm Jvm.ClassFile Sem Op Lib Jvm.Free Jvm.Stand Jvm.Pilot.@@N@@.Jvm.D
/-! MADE BY PROGRAM (witnessworld.py) out of the Statement's table words and the real class files: 22 classes; the members and pool entries that the words name. The judged class is class 1, her method 1. -/
namespace start1
open Jvm.ClassFile
def u (s : String) : CpInfo := .utf8 (stringToUtf16 s)
/-- a pool by its gaps: so many unusable entries, then the entry; so many at the end -/
def gap : Nat → List CpInfo → List CpInfo
  | 0, r => r
  | n + 1, r => .unusable :: gap n r
def poolList (es : List (Nat × CpInfo)) (last : Nat) : List CpInfo := es.foldr (fun e r => gap e.1 (e.2 :: r)) (gap last [])
def pool (es : List (Nat × CpInfo)) (last : Nat) : Array CpInfo := ⟨poolList es last⟩
def fileOf (pool : Array CpInfo) (this : Nat) (attrs : Array Attribute := #[]) (ms : Array MethodInfo := #[]) (fl : Nat := 33) (sup : Nat := 0) (ifs : Array Nat := #[]) (fds : Array FieldInfo := #[]) : ClassFile where
  minorVersion := 0
  majorVersion := 65
  constantPool := pool
  accessFlags := fl
  thisClass := this
  superClass := sup
  interfaces := ifs
  fields := fds
  methods := ms
  attributes := attrs
def plain (name : String) (sup : Option ClassId) : Class where
  name := name
  kind := .ordinary
  loader := none
  accessFlags := 33
  super := sup
  interfaces := #[]
  cf := none
  fields := #[]
  methods := #[]
  instanceTypes := #[]
  staticTypes := #[]
  resolved := #[]
  callSites := []
  init := .initialized
  statics := none
  mirror := none

def pool0 : Array CpInfo := pool [(5, u "<init>"), (0, u "()V"), (1, .class_ 10), (1, u "java/lang/Object")] 113

def k0c0 : Code := { maxStack := 0, maxLocals := 1, code := object_method_1_code, exceptionTable := #[], attributes := #[] }
def k0m0 : Method := { name := "<init>", desc := "()V", sig := { parameters := [], returnType := none }, accessFlags := 1, code := some k0c0 }
/-- java/lang/Object -/
def k0 : Class := { plain "java/lang/Object" none with
  accessFlags := 33
  interfaces := #[]
  cf := some (fileOf pool0 8 #[] #[{ accessFlags := 1, nameIndex := 5, descriptorIndex := 6, attributes := #[] }] 33 0 #[] #[])
  fields := #[]
  methods := #[k0m0]
  instanceTypes := #[]
  staticTypes := #[]
  resolved := Array.replicate 124 none
  statics := none }

def pool1 : Array CpInfo := pool [(2, .class_ 4), (1, u "java/lang/Object"), (0, u "<init>"), (0, u "()V"), (0, .class_ 8), (0, u "java/lang/String"), (0, .methodref 7 10), (0, .nameAndType 5 11), (0, u "([C)V"), (0, .string 13), (0, u ""), (0, .class_ 15), (0, u "com/example/turnstone/turnstone/index/Verdict"), (0, .methodref 14 17), (0, .nameAndType 5 18), (0, u "(Ljava/lang/String;Ljava/lang/String;)V"), (0, .methodref 14 20), (0, .nameAndType 21 22), (0, u "isDuplicate"), (0, u "()Z"), (0, .class_ 24), (0, u "com/example/turnstone/turnstone/index/VerdictIsDuplicatePinLaw"), (2, u "law"), (0, u "(IIII)Z")] 3

def k1m0 : Method := { name := "<init>", desc := "()V", sig := { parameters := [], returnType := none }, accessFlags := 1, code := none }
def k1c1 : Code := { maxStack := 7, maxLocals := 11, code := code, exceptionTable := #[], attributes := #[] }
def k1m1 : Method := { name := "law", desc := "(IIII)Z", sig := { parameters := [.int, .int, .int, .int], returnType := some .boolean }, accessFlags := 9, code := some k1c1 }
/-- com/example/turnstone/turnstone/index/VerdictIsDuplicatePinLaw -/
def k1 : Class := { plain "com/example/turnstone/turnstone/index/VerdictIsDuplicatePinLaw" (some 0) with
  accessFlags := 49
  interfaces := #[]
  cf := some (fileOf pool1 23 #[] #[{ accessFlags := 1, nameIndex := 5, descriptorIndex := 6, attributes := #[] }, { accessFlags := 9, nameIndex := 27, descriptorIndex := 28, attributes := #[] }] 49 2 #[] #[])
  fields := #[]
  methods := #[k1m0, k1m1]
  instanceTypes := #[]
  staticTypes := #[]
  resolved := Array.replicate 32 none
  statics := none }

def pool2 : Array CpInfo := pool [(1, .class_ 2), (0, u "java/io/Serializable"), (0, .class_ 4), (0, u "java/lang/Object")] 2

/-- java/io/Serializable -/
def k2 : Class := { plain "java/io/Serializable" (some 0) with
  accessFlags := 1537
  interfaces := #[]
  cf := some (fileOf pool2 1 #[] #[] 1537 3 #[] #[])
  fields := #[]
  methods := #[]
  instanceTypes := #[]
  staticTypes := #[]
  resolved := Array.replicate 7 none
  statics := none }

def pool3 : Array CpInfo := pool [(1, .class_ 2), (0, u "java/lang/Comparable"), (0, .class_ 4), (0, u "java/lang/Object")] 7

/-- java/lang/Comparable -/
def k3 : Class := { plain "java/lang/Comparable" (some 0) with
  accessFlags := 1537
  interfaces := #[]
  cf := some (fileOf pool3 1 #[] #[] 1537 3 #[] #[])
  fields := #[]
  methods := #[]
  instanceTypes := #[]
  staticTypes := #[]
  resolved := Array.replicate 12 none
  statics := none }

def pool4 : Array CpInfo := pool [(2, .class_ 4), (1, u "java/lang/CharSequence"), (42, .class_ 48), (0, u "java/lang/CharSequence$1CodePointIterator"), (10, .class_ 60), (0, u "java/lang/CharSequence$1CharIterator"), (5, .class_ 67), (0, u "java/lang/Object")] 63

/-- java/lang/CharSequence -/
def k4 : Class := { plain "java/lang/CharSequence" (some 0) with
  accessFlags := 1537
  interfaces := #[]
  cf := some (fileOf pool4 2 #[.nestMembers #[47, 59]] #[] 1537 66 #[] #[])
  fields := #[]
  methods := #[]
  instanceTypes := #[]
  staticTypes := #[]
  resolved := Array.replicate 131 none
  statics := none }

def pool5 : Array CpInfo := pool [(1, .class_ 2), (0, u "java/lang/constant/Constable"), (0, .class_ 4), (0, u "java/lang/Object")] 6

/-- java/lang/constant/Constable -/
def k5 : Class := { plain "java/lang/constant/Constable" (some 0) with
  accessFlags := 1537
  interfaces := #[]
  cf := some (fileOf pool5 1 #[] #[] 1537 3 #[] #[])
  fields := #[]
  methods := #[]
  instanceTypes := #[]
  staticTypes := #[]
  resolved := Array.replicate 11 none
  statics := none }

def pool6 : Array CpInfo := pool [(1, .class_ 2), (0, u "java/lang/constant/ConstantDesc"), (0, .class_ 4), (0, u "java/lang/Object")] 32

/-- java/lang/constant/ConstantDesc -/
def k6 : Class := { plain "java/lang/constant/ConstantDesc" (some 0) with
  accessFlags := 1537
  interfaces := #[]
  cf := some (fileOf pool6 1 #[] #[] 1537 3 #[] #[])
  fields := #[]
  methods := #[]
  instanceTypes := #[]
  staticTypes := #[]
  resolved := Array.replicate 37 none
  statics := none }

def pool7 : Array CpInfo := pool [(1, .methodref 2 3), (0, .class_ 4), (0, .nameAndType 5 6), (0, u "java/lang/Object"), (0, u "<init>"), (0, u "()V"), (0, .string 8), (0, u ""), (0, .fieldref 10 11), (0, .class_ 12), (0, .nameAndType 13 14), (0, u "java/lang/String"), (0, u "value"), (0, u "[B"), (0, .fieldref 10 16), (0, .nameAndType 17 18), (0, u "coder"), (0, u "B"), (2, u "hash"), (0, u "I"), (2, u "hashIsZero"), (0, u "Z"), (0, .methodref 10 28), (0, .nameAndType 5 29), (0, u "([CIILjava/lang/Void;)V"), (8, .fieldref 10 39), (0, .nameAndType 40 26), (0, u "COMPACT_STRINGS"), (1, .class_ 44), (1, u "java/lang/StringUTF16"), (0, u "compress"), (1, .methodref 42 48), (0, .nameAndType 49 50), (0, u "coderFromArrayLen"), (0, u "([BI)B"), (126, .methodref 42 178), (0, .nameAndType 45 179), (0, u "([CII)[B"), (395, .class_ 576), (0, u "java/lang/CharSequence"), (22, u "CASE_INSENSITIVE_ORDER"), (0, u "Ljava/util/Comparator;"), (409, u "([C)V"), (90, u "serialPersistentFields"), (0, u "[Ljava/io/ObjectStreamField;"), (0, .class_ 1104), (0, u "java/lang/String$CaseInsensitiveComparator"), (1, .class_ 1107), (0, u "java/io/Serializable"), (0, .class_ 1109), (0, u "java/lang/Comparable"), (0, .class_ 1111), (0, u "java/lang/constant/Constable"), (0, .class_ 1113), (0, u "java/lang/constant/ConstantDesc"), (2, u "serialVersionUID"), (0, u "J"), (3, u "REPL"), (0, u "C"), (2, u "LATIN1"), (1, u "UTF16")] 323

def k7m0 : Method := { name := "<init>", desc := "()V", sig := { parameters := [], returnType := none }, accessFlags := 1, code := none }
def k7c1 : Code := { maxStack := 5, maxLocals := 2, code := jdk_42_method_3_code, exceptionTable := #[], attributes := #[] }
def k7m1 : Method := { name := "<init>", desc := "([C)V", sig := { parameters := [(.array .char)], returnType := none }, accessFlags := 1, code := some k7c1 }
def k7c2 : Code := { maxStack := 4, maxLocals := 6, code := jdk_42_method_149_code, exceptionTable := #[], attributes := #[] }
def k7m2 : Method := { name := "<init>", desc := "([CIILjava/lang/Void;)V", sig := { parameters := [(.array .char), .int, .int, (.object "java/lang/Void")], returnType := none }, accessFlags := 2, code := some k7c2 }
/-- java/lang/String -/
def k7 : Class := { plain "java/lang/String" (some 0) with
  accessFlags := 49
  interfaces := #[2, 3, 4, 5, 6]
  cf := some (fileOf pool7 10 #[.nestMembers #[1103]] #[{ accessFlags := 1, nameIndex := 5, descriptorIndex := 6, attributes := #[] }, { accessFlags := 1, nameIndex := 5, descriptorIndex := 1010, attributes := #[] }, { accessFlags := 2, nameIndex := 5, descriptorIndex := 29, attributes := #[] }] 49 2 #[1106, 1108, 575, 1110, 1112] #[{ accessFlags := 18, nameIndex := 13, descriptorIndex := 14, attributes := #[] }, { accessFlags := 18, nameIndex := 17, descriptorIndex := 18, attributes := #[] }, { accessFlags := 2, nameIndex := 21, descriptorIndex := 22, attributes := #[] }, { accessFlags := 2, nameIndex := 25, descriptorIndex := 26, attributes := #[] }, { accessFlags := 26, nameIndex := 1116, descriptorIndex := 1117, attributes := #[] }, { accessFlags := 24, nameIndex := 40, descriptorIndex := 26, attributes := #[] }, { accessFlags := 26, nameIndex := 1101, descriptorIndex := 1102, attributes := #[] }, { accessFlags := 26, nameIndex := 1121, descriptorIndex := 1122, attributes := #[] }, { accessFlags := 25, nameIndex := 599, descriptorIndex := 600, attributes := #[] }, { accessFlags := 24, nameIndex := 1125, descriptorIndex := 18, attributes := #[] }, { accessFlags := 24, nameIndex := 1127, descriptorIndex := 18, attributes := #[] }])
  fields := #[{ name := "value", type := (.array .byte), accessFlags := 18, slot := 0, constantValue := 0 }, { name := "coder", type := .byte, accessFlags := 18, slot := 1, constantValue := 0 }, { name := "hash", type := .int, accessFlags := 2, slot := 2, constantValue := 0 }, { name := "hashIsZero", type := .boolean, accessFlags := 2, slot := 3, constantValue := 0 }, { name := "serialVersionUID", type := .long, accessFlags := 26, slot := 0, constantValue := 0 }, { name := "COMPACT_STRINGS", type := .boolean, accessFlags := 24, slot := 1, constantValue := 0 }, { name := "serialPersistentFields", type := (.array (.object "java/io/ObjectStreamField")), accessFlags := 26, slot := 2, constantValue := 0 }, { name := "REPL", type := .char, accessFlags := 26, slot := 3, constantValue := 0 }, { name := "CASE_INSENSITIVE_ORDER", type := (.object "java/util/Comparator"), accessFlags := 25, slot := 4, constantValue := 0 }, { name := "LATIN1", type := .byte, accessFlags := 24, slot := 5, constantValue := 0 }, { name := "UTF16", type := .byte, accessFlags := 24, slot := 6, constantValue := 0 }]
  methods := #[k7m0, k7m1, k7m2]
  instanceTypes := #[(.array .byte), .byte, .int, .boolean]
  staticTypes := #[.long, .boolean, (.array (.object "java/io/ObjectStreamField")), .char, (.object "java/util/Comparator"), .byte, .byte]
  resolved := Array.replicate 1451 none
  statics := some 0 }

def pool8 : Array CpInfo := pool [(6, .class_ 8), (1, u "java/lang/Object"), (0, u "<init>"), (0, u "()V"), (1, .class_ 14), (1, u "java/lang/StringUTF16"), (31, u "$assertionsDisabled"), (0, u "Z"), (13, u "HI_BYTE_SHIFT"), (0, u "I"), (2, u "LO_BYTE_SHIFT"), (49, .methodref 12 116), (0, .nameAndType 117 118), (0, u "compress"), (0, u "([CI[BII)I"), (3, u "([CII)[B"), (138, u "coderFromArrayLen"), (0, u "([BI)B"), (106, .class_ 371), (1, u "java/lang/StringUTF16$LinesSpliterator"), (58, u "MAX_LENGTH"), (196, .class_ 628), (0, u "java/lang/StringUTF16$CodePointsSpliterator"), (0, .class_ 630), (0, u "java/lang/StringUTF16$CharsSpliterator")] 4

def k8m0 : Method := { name := "<init>", desc := "()V", sig := { parameters := [], returnType := none }, accessFlags := 0, code := none }
def k8c1 : Code := { maxStack := 2, maxLocals := 2, code := jdk_52_method_15_code, exceptionTable := #[], attributes := #[] }
def k8m1 : Method := { name := "coderFromArrayLen", desc := "([BI)B", sig := { parameters := [(.array .byte), .int], returnType := some .byte }, accessFlags := 8, code := some k8c1 }
def k8c2 : Code := { maxStack := 5, maxLocals := 6, code := jdk_52_method_16_code, exceptionTable := #[], attributes := #[] }
def k8m2 : Method := { name := "compress", desc := "([CII)[B", sig := { parameters := [(.array .char), .int, .int], returnType := some (.array .byte) }, accessFlags := 9, code := some k8c2 }
def k8c3 : Code := { maxStack := 3, maxLocals := 7, code := jdk_52_method_21_code, exceptionTable := #[], attributes := #[] }
def k8m3 : Method := { name := "compress", desc := "([CI[BII)I", sig := { parameters := [(.array .char), .int, (.array .byte), .int, .int], returnType := some .int }, accessFlags := 9, code := some k8c3 }
/-- java/lang/StringUTF16 -/
def k8 : Class := { plain "java/lang/StringUTF16" (some 0) with
  accessFlags := 48
  interfaces := #[]
  cf := some (fileOf pool8 12 #[.nestMembers #[627, 629, 369]] #[{ accessFlags := 0, nameIndex := 9, descriptorIndex := 10, attributes := #[] }, { accessFlags := 8, nameIndex := 261, descriptorIndex := 262, attributes := #[] }, { accessFlags := 9, nameIndex := 117, descriptorIndex := 122, attributes := #[] }, { accessFlags := 9, nameIndex := 117, descriptorIndex := 118, attributes := #[] }] 48 6 #[] #[{ accessFlags := 26, nameIndex := 61, descriptorIndex := 62, attributes := #[] }, { accessFlags := 26, nameIndex := 65, descriptorIndex := 62, attributes := #[] }, { accessFlags := 24, nameIndex := 430, descriptorIndex := 62, attributes := #[] }, { accessFlags := 4120, nameIndex := 46, descriptorIndex := 47, attributes := #[] }])
  fields := #[{ name := "HI_BYTE_SHIFT", type := .int, accessFlags := 26, slot := 0, constantValue := 0 }, { name := "LO_BYTE_SHIFT", type := .int, accessFlags := 26, slot := 1, constantValue := 0 }, { name := "MAX_LENGTH", type := .int, accessFlags := 24, slot := 2, constantValue := 0 }, { name := "$assertionsDisabled", type := .boolean, accessFlags := 4120, slot := 3, constantValue := 0 }]
  methods := #[k8m0, k8m1, k8m2, k8m3]
  instanceTypes := #[]
  staticTypes := #[.int, .int, .int, .boolean]
  resolved := Array.replicate 635 none
  statics := none }

def pool9 : Array CpInfo := pool [(1, .methodref 2 3), (0, .class_ 4), (0, .nameAndType 5 6), (0, u "java/lang/Object"), (0, u "<init>"), (0, u "()V"), (0, .class_ 8), (0, u "java/lang/Record")] 13

def k9c0 : Code := { maxStack := 1, maxLocals := 1, code := jdk_30_method_1_code, exceptionTable := #[], attributes := #[] }
def k9m0 : Method := { name := "<init>", desc := "()V", sig := { parameters := [], returnType := none }, accessFlags := 4, code := some k9c0 }
/-- java/lang/Record -/
def k9 : Class := { plain "java/lang/Record" (some 0) with
  accessFlags := 1057
  interfaces := #[]
  cf := some (fileOf pool9 7 #[] #[{ accessFlags := 4, nameIndex := 5, descriptorIndex := 6, attributes := #[] }] 1057 2 #[] #[])
  fields := #[]
  methods := #[k9m0]
  instanceTypes := #[]
  staticTypes := #[]
  resolved := Array.replicate 22 none
  statics := none }

def pool10 : Array CpInfo := pool [(1, .methodref 2 3), (0, .class_ 4), (0, .nameAndType 5 6), (0, u "java/lang/Record"), (0, u "<init>"), (0, u "()V"), (0, .string 8), (0, u "id"), (0, .methodref 10 11), (0, .class_ 12), (0, .nameAndType 13 14), (0, u "java/util/Objects"), (0, u "requireNonNull"), (0, u "(Ljava/lang/Object;Ljava/lang/String;)Ljava/lang/Object;"), (0, .fieldref 16 17), (0, .class_ 18), (0, .nameAndType 8 19), (0, u "com/example/turnstone/turnstone/index/Verdict"), (0, u "Ljava/lang/String;"), (0, .fieldref 16 21), (0, .nameAndType 22 19), (0, u "originalId"), (2, u "(Ljava/lang/String;Ljava/lang/String;)V"), (5, u "isDuplicate"), (0, u "()Z")] 47

def k10c0 : Code := { maxStack := 2, maxLocals := 3, code := prog_13_method_1_code, exceptionTable := #[], attributes := #[] }
def k10m0 : Method := { name := "<init>", desc := "(Ljava/lang/String;Ljava/lang/String;)V", sig := { parameters := [(.object "java/lang/String"), (.object "java/lang/String")], returnType := none }, accessFlags := 1, code := some k10c0 }
def k10c1 : Code := { maxStack := 1, maxLocals := 1, code := prog_13_method_4_code, exceptionTable := #[], attributes := #[] }
def k10m1 : Method := { name := "isDuplicate", desc := "()Z", sig := { parameters := [], returnType := some .boolean }, accessFlags := 1, code := some k10c1 }
/-- com/example/turnstone/turnstone/index/Verdict -/
def k10 : Class := { plain "com/example/turnstone/turnstone/index/Verdict" (some 9) with
  accessFlags := 49
  interfaces := #[]
  cf := some (fileOf pool10 16 #[] #[{ accessFlags := 1, nameIndex := 5, descriptorIndex := 25, attributes := #[] }, { accessFlags := 1, nameIndex := 31, descriptorIndex := 32, attributes := #[] }] 49 2 #[] #[{ accessFlags := 18, nameIndex := 8, descriptorIndex := 19, attributes := #[] }, { accessFlags := 18, nameIndex := 22, descriptorIndex := 19, attributes := #[] }])
  fields := #[{ name := "id", type := (.object "java/lang/String"), accessFlags := 18, slot := 0, constantValue := 0 }, { name := "originalId", type := (.object "java/lang/String"), accessFlags := 18, slot := 1, constantValue := 0 }]
  methods := #[k10m0, k10m1]
  instanceTypes := #[(.object "java/lang/String"), (.object "java/lang/String")]
  staticTypes := #[]
  resolved := Array.replicate 80 none
  statics := none }

def pool11 : Array CpInfo := pool [(2, .class_ 4), (1, u "java/lang/Object"), (0, u "<init>"), (0, u "()V"), (35, .class_ 44), (1, u "java/util/Objects"), (0, u "requireNonNull"), (48, u "(Ljava/lang/Object;Ljava/lang/String;)Ljava/lang/Object;")] 89

def k11m0 : Method := { name := "<init>", desc := "()V", sig := { parameters := [], returnType := none }, accessFlags := 2, code := none }
def k11c1 : Code := { maxStack := 3, maxLocals := 2, code := jdk_31_method_11_code, exceptionTable := #[], attributes := #[] }
def k11m1 : Method := { name := "requireNonNull", desc := "(Ljava/lang/Object;Ljava/lang/String;)Ljava/lang/Object;", sig := { parameters := [(.object "java/lang/Object"), (.object "java/lang/String")], returnType := some (.object "java/lang/Object") }, accessFlags := 9, code := some k11c1 }
/-- java/util/Objects -/
def k11 : Class := { plain "java/util/Objects" (some 0) with
  accessFlags := 49
  interfaces := #[]
  cf := some (fileOf pool11 42 #[] #[{ accessFlags := 2, nameIndex := 5, descriptorIndex := 6, attributes := #[] }, { accessFlags := 9, nameIndex := 45, descriptorIndex := 94, attributes := #[] }] 49 2 #[] #[])
  fields := #[]
  methods := #[k11m0, k11m1]
  instanceTypes := #[]
  staticTypes := #[]
  resolved := Array.replicate 184 none
  statics := none }

def pool12 : Array CpInfo := pool [(4, .class_ 6), (1, u "java/lang/Object"), (0, u "<init>"), (0, u "()V"), (5, .class_ 16), (1, u "java/lang/StringLatin1"), (104, u "$assertionsDisabled"), (0, u "Z"), (98, .class_ 223), (1, u "java/lang/StringLatin1$LinesSpliterator"), (166, .class_ 391), (0, u "java/lang/StringLatin1$CharsSpliterator")] 3

def k12m0 : Method := { name := "<init>", desc := "()V", sig := { parameters := [], returnType := none }, accessFlags := 0, code := none }
/-- java/lang/StringLatin1 -/
def k12 : Class := { plain "java/lang/StringLatin1" (some 0) with
  accessFlags := 48
  interfaces := #[]
  cf := some (fileOf pool12 14 #[.nestMembers #[390, 221]] #[{ accessFlags := 0, nameIndex := 7, descriptorIndex := 8, attributes := #[] }] 48 4 #[] #[{ accessFlags := 4120, nameIndex := 121, descriptorIndex := 122, attributes := #[] }])
  fields := #[{ name := "$assertionsDisabled", type := .boolean, accessFlags := 4120, slot := 0, constantValue := 0 }]
  methods := #[k12m0]
  instanceTypes := #[]
  staticTypes := #[.boolean]
  resolved := Array.replicate 395 none
  statics := none }

def pool13 : Array CpInfo := pool [(2, .class_ 4), (1, u "java/lang/Object"), (0, u "<init>"), (0, u "()V"), (17, .class_ 26), (1, u "jdk/internal/util/Preconditions"), (28, .class_ 56), (0, u "jdk/internal/util/Preconditions$4"), (57, .class_ 115), (0, u "jdk/internal/util/Preconditions$1"), (7, u "SIOOBE_FORMATTER"), (0, u "Ljava/util/function/BiFunction;"), (0, .class_ 126), (0, u "jdk/internal/util/Preconditions$2"), (3, u "AIOOBE_FORMATTER"), (0, .class_ 132), (0, u "jdk/internal/util/Preconditions$3"), (3, u "IOOBE_FORMATTER")] 57

def k13m0 : Method := { name := "<init>", desc := "()V", sig := { parameters := [], returnType := none }, accessFlags := 1, code := none }
/-- jdk/internal/util/Preconditions -/
def k13 : Class := { plain "jdk/internal/util/Preconditions" (some 0) with
  accessFlags := 33
  interfaces := #[]
  cf := some (fileOf pool13 24 #[.nestMembers #[55, 131, 125, 114]] #[{ accessFlags := 1, nameIndex := 5, descriptorIndex := 6, attributes := #[] }] 33 2 #[] #[{ accessFlags := 25, nameIndex := 123, descriptorIndex := 124, attributes := #[] }, { accessFlags := 25, nameIndex := 130, descriptorIndex := 124, attributes := #[] }, { accessFlags := 25, nameIndex := 136, descriptorIndex := 124, attributes := #[] }])
  fields := #[{ name := "SIOOBE_FORMATTER", type := (.object "java/util/function/BiFunction"), accessFlags := 25, slot := 0, constantValue := 0 }, { name := "AIOOBE_FORMATTER", type := (.object "java/util/function/BiFunction"), accessFlags := 25, slot := 1, constantValue := 0 }, { name := "IOOBE_FORMATTER", type := (.object "java/util/function/BiFunction"), accessFlags := 25, slot := 2, constantValue := 0 }]
  methods := #[k13m0]
  instanceTypes := #[]
  staticTypes := #[(.object "java/util/function/BiFunction"), (.object "java/util/function/BiFunction"), (.object "java/util/function/BiFunction")]
  resolved := Array.replicate 194 none
  statics := some 1 }

def pool14 : Array CpInfo := pool [(9, u "<init>"), (6, .class_ 18), (1, u "java/lang/Object"), (0, u "()V"), (1, .class_ 23), (1, u "jdk/internal/util/ArraysSupport"), (0, u "LOG2_ARRAY_LONG_INDEX_SCALE"), (0, u "I"), (2, u "U"), (0, u "Ljdk/internal/misc/Unsafe;"), (8, u "BIG_ENDIAN"), (0, u "Z"), (8, u "LOG2_BYTE_BIT_SIZE"), (4, u "LOG2_ARRAY_INT_INDEX_SCALE"), (54, u "JLA"), (0, u "Ljdk/internal/access/JavaLangAccess;"), (11, u "LOG2_ARRAY_BOOLEAN_INDEX_SCALE"), (9, u "LOG2_ARRAY_BYTE_INDEX_SCALE"), (5, u "LOG2_ARRAY_CHAR_INDEX_SCALE"), (5, u "LOG2_ARRAY_SHORT_INDEX_SCALE"), (18, u "LOG2_ARRAY_FLOAT_INDEX_SCALE"), (24, u "LOG2_ARRAY_DOUBLE_INDEX_SCALE"), (89, u "T_BOOLEAN"), (2, u "T_CHAR"), (1, u "T_FLOAT"), (1, u "T_DOUBLE"), (1, u "T_BYTE"), (1, u "T_SHORT"), (1, u "T_INT"), (1, u "T_LONG"), (1, u "SOFT_MAX_ARRAY_LENGTH")] 83

def k14m0 : Method := { name := "<init>", desc := "()V", sig := { parameters := [], returnType := none }, accessFlags := 2, code := none }
/-- jdk/internal/util/ArraysSupport -/
def k14 : Class := { plain "jdk/internal/util/ArraysSupport" (some 0) with
  accessFlags := 33
  interfaces := #[]
  cf := some (fileOf pool14 21 #[] #[{ accessFlags := 2, nameIndex := 9, descriptorIndex := 19, attributes := #[] }] 33 16 #[] #[{ accessFlags := 24, nameIndex := 28, descriptorIndex := 29, attributes := #[] }, { accessFlags := 26, nameIndex := 38, descriptorIndex := 39, attributes := #[] }, { accessFlags := 25, nameIndex := 121, descriptorIndex := 25, attributes := #[] }, { accessFlags := 25, nameIndex := 131, descriptorIndex := 25, attributes := #[] }, { accessFlags := 25, nameIndex := 137, descriptorIndex := 25, attributes := #[] }, { accessFlags := 25, nameIndex := 143, descriptorIndex := 25, attributes := #[] }, { accessFlags := 25, nameIndex := 53, descriptorIndex := 25, attributes := #[] }, { accessFlags := 25, nameIndex := 24, descriptorIndex := 25, attributes := #[] }, { accessFlags := 25, nameIndex := 162, descriptorIndex := 25, attributes := #[] }, { accessFlags := 25, nameIndex := 187, descriptorIndex := 25, attributes := #[] }, { accessFlags := 26, nameIndex := 48, descriptorIndex := 25, attributes := #[] }, { accessFlags := 25, nameIndex := 277, descriptorIndex := 25, attributes := #[] }, { accessFlags := 25, nameIndex := 280, descriptorIndex := 25, attributes := #[] }, { accessFlags := 25, nameIndex := 282, descriptorIndex := 25, attributes := #[] }, { accessFlags := 25, nameIndex := 284, descriptorIndex := 25, attributes := #[] }, { accessFlags := 25, nameIndex := 286, descriptorIndex := 25, attributes := #[] }, { accessFlags := 25, nameIndex := 288, descriptorIndex := 25, attributes := #[] }, { accessFlags := 25, nameIndex := 290, descriptorIndex := 25, attributes := #[] }, { accessFlags := 25, nameIndex := 292, descriptorIndex := 25, attributes := #[] }, { accessFlags := 26, nameIndex := 108, descriptorIndex := 109, attributes := #[] }, { accessFlags := 25, nameIndex := 294, descriptorIndex := 25, attributes := #[] }])
  fields := #[{ name := "U", type := (.object "jdk/internal/misc/Unsafe"), accessFlags := 24, slot := 0, constantValue := 0 }, { name := "BIG_ENDIAN", type := .boolean, accessFlags := 26, slot := 1, constantValue := 0 }, { name := "LOG2_ARRAY_BOOLEAN_INDEX_SCALE", type := .int, accessFlags := 25, slot := 2, constantValue := 0 }, { name := "LOG2_ARRAY_BYTE_INDEX_SCALE", type := .int, accessFlags := 25, slot := 3, constantValue := 0 }, { name := "LOG2_ARRAY_CHAR_INDEX_SCALE", type := .int, accessFlags := 25, slot := 4, constantValue := 0 }, { name := "LOG2_ARRAY_SHORT_INDEX_SCALE", type := .int, accessFlags := 25, slot := 5, constantValue := 0 }, { name := "LOG2_ARRAY_INT_INDEX_SCALE", type := .int, accessFlags := 25, slot := 6, constantValue := 0 }, { name := "LOG2_ARRAY_LONG_INDEX_SCALE", type := .int, accessFlags := 25, slot := 7, constantValue := 0 }, { name := "LOG2_ARRAY_FLOAT_INDEX_SCALE", type := .int, accessFlags := 25, slot := 8, constantValue := 0 }, { name := "LOG2_ARRAY_DOUBLE_INDEX_SCALE", type := .int, accessFlags := 25, slot := 9, constantValue := 0 }, { name := "LOG2_BYTE_BIT_SIZE", type := .int, accessFlags := 26, slot := 10, constantValue := 0 }, { name := "T_BOOLEAN", type := .int, accessFlags := 25, slot := 11, constantValue := 0 }, { name := "T_CHAR", type := .int, accessFlags := 25, slot := 12, constantValue := 0 }, { name := "T_FLOAT", type := .int, accessFlags := 25, slot := 13, constantValue := 0 }, { name := "T_DOUBLE", type := .int, accessFlags := 25, slot := 14, constantValue := 0 }, { name := "T_BYTE", type := .int, accessFlags := 25, slot := 15, constantValue := 0 }, { name := "T_SHORT", type := .int, accessFlags := 25, slot := 16, constantValue := 0 }, { name := "T_INT", type := .int, accessFlags := 25, slot := 17, constantValue := 0 }, { name := "T_LONG", type := .int, accessFlags := 25, slot := 18, constantValue := 0 }, { name := "JLA", type := (.object "jdk/internal/access/JavaLangAccess"), accessFlags := 26, slot := 19, constantValue := 0 }, { name := "SOFT_MAX_ARRAY_LENGTH", type := .int, accessFlags := 25, slot := 20, constantValue := 0 }]
  methods := #[k14m0]
  instanceTypes := #[]
  staticTypes := #[(.object "jdk/internal/misc/Unsafe"), .boolean, .int, .int, .int, .int, .int, .int, .int, .int, .int, .int, .int, .int, .int, .int, .int, .int, .int, (.object "jdk/internal/access/JavaLangAccess"), .int]
  resolved := Array.replicate 378 none
  statics := none }

def pool15 : Array CpInfo := pool [(1, u "java/lang/Cloneable"), (0, .class_ 1), (0, u "java/lang/Object"), (0, .class_ 3)] 3

/-- java/lang/Cloneable -/
def k15 : Class := { plain "java/lang/Cloneable" (some 0) with
  accessFlags := 1537
  interfaces := #[]
  cf := some (fileOf pool15 2 #[] #[] 1537 4 #[] #[])
  fields := #[]
  methods := #[]
  instanceTypes := #[]
  staticTypes := #[]
  resolved := Array.replicate 8 none
  statics := none }

/-- the primitive byte -/
def k16 : Class := { plain "byte" none with kind := .primitive 'B', accessFlags := 0x411 }
/-- [B -/
def k17 : Class := { plain "[B" (some 0) with kind := .array 16 .byte, interfaces := #[15, 2], accessFlags := 1041 }

/-- the primitive char -/
def k18 : Class := { plain "char" none with kind := .primitive 'C', accessFlags := 0x411 }
/-- [C -/
def k19 : Class := { plain "[C" (some 0) with kind := .array 18 .char, interfaces := #[15, 2], accessFlags := 1041 }

/-- the primitive int -/
def k20 : Class := { plain "int" none with kind := .primitive 'I', accessFlags := 0x411 }
/-- [I -/
def k21 : Class := { plain "[I" (some 0) with kind := .array 20 .int, interfaces := #[15, 2], accessFlags := 1041 }

def heap : Heap := #[{ cls := 7, slots := #[.long 0, .int 1, .null, .int 0, .null, .int 0, .int 0], vm := .statics 7 },
  { cls := 13, slots := #[.null, .null, .null], vm := .statics 13 }]
def classes : Array Class := #[k0, k1, k2, k3, k4, k5, k6, k7, k8, k9, k10, k11, k12, k13, k14, k15, k16, k17, k18, k19, k20, k21]
def interned : List (Array UInt16 × Addr) := []
def slotsUsed : Nat := 10
def theMethod : MethodId := ⟨1, 1⟩
def args0 : Array Value := #[.int 5, .int 7, .int 1, .int 9]
def aboutOver (below : List Frame) : State where
  vm := { classes := classes, interned := interned.toArray }
  heap := heap
  slotsUsed := slotsUsed
  threads := #[{ frames := .invoking theMethod args0 :: below }]
def below0 : List Frame := [.native { method := ⟨0, 0⟩, args := #[] }]
def about1 : State := aboutOver below0
def p0 : Program := .bare "" "" ""
def e0 : Env := launch0.env 0 0 0
theorem w_frames : about1.frames = Frame.invoking theMethod args0 :: below0 := rfl
set_option maxRecDepth 65536 in
theorem w_args : argsFit about1.vm theMethod args0 = true := by decide +kernel
set_option maxRecDepth 65536 in
theorem w_heap : heapFits about1 = true := by decide +kernel
set_option maxRecDepth 65536 in
theorem w_runnable : about1.curStatus? = some .runnable := by decide +kernel
set_option maxRecDepth 65536 in
theorem w_alone : about1.alone = true := by decide +kernel
set_option maxRecDepth 65536 in
theorem w_named : about1.methodNamed? x = some theMethod := by decide +kernel
set_option maxRecDepth 65536 in
theorem w_hears : about1.hears theMethod below0 = true := by decide +kernel
set_option maxRecDepth 65536 in
theorem w_ripe : about1.ripe theMethod args0 below0 = true := by decide +kernel
theorem w_running : about1.status = .running := rfl
set_option maxRecDepth 65536 in
theorem w_room : about1.hasRoom e0.platform room_1 = true :=
  launch0.hasRoom_least _ room_1 (by decide +kernel) (by decide +kernel) (by decide +kernel) (by decide +kernel) (by decide +kernel) (by decide +kernel)
theorem allAtoms_all (ts : List Jvm.Cond) (a : Array Jvm.Value) (st : Jvm.State) : (allAtoms ts).before a st = ts.all (fun c => c.before a st) := by
  induction ts with
  | nil => rfl
  | cons c t ih =>
    show (Jvm.Cond.and c (allAtoms t)).before a st = _
    rw [Jvm.Cond.before_and, ih, List.all_cons]
def words1 : List Jvm.Cond := Jvm.Cond.code x code maxLocals ret :: tables_1
/-- a 'code' word, met by the world's own term for the bytes: nothing is compared byte by byte -/
theorem code_word {y : MethodName} {bytes : ByteArray} {mx : Nat} {rt : Option FieldType} {a : Array Value} {s : State} {m : MethodId} {meth : Method} {c : Code} (h1 : s.methodNamed? y = some m) (h2 : s.vm.method? m = some meth) (h3 : meth.code = some c) (h4 : c.code = bytes)
    (h5 : (c.maxLocals == mx && c.exceptionTable.isEmpty && decide (c.maxStack ≤ mostOperands) && decide (meth.sig.returnType = rt) && !meth.locks && decide (parseMethodDescriptor y.desc = some meth.sig)) = true) : (Jvm.Cond.code y bytes mx rt).before a s = true := by
  simp only [Bool.and_eq_true, beq_iff_eq, Bool.not_eq_true', decide_eq_true_eq] at h5
  obtain ⟨⟨⟨⟨⟨g1, g2⟩, g3⟩, g4⟩, g5⟩, g6⟩ := h5
  simp [Cond.before, Cond.holds, Cond.value, h1, h2, h3, h4, g1, g2, g3, g4, g5, g6]
def isCode : Jvm.Cond → Bool
  | .code _ _ _ _ => true
  | _ => false
theorem all_split {L : List Jvm.Cond} {P : Jvm.Cond → Bool} (h1 : L.all (fun c => isCode c || P c) = true) (h2 : ∀ c ∈ L.filter isCode, P c = true) : L.all P = true := by
  refine List.all_eq_true.mpr fun c hc => ?_
  have h := List.all_eq_true.mp h1 c hc
  rcases Bool.eq_false_or_eq_true (isCode c) with hi | hi
  · exact h2 c (List.mem_filter.mpr ⟨hc, hi⟩)
  · simpa [hi] using h
set_option maxRecDepth 65536 in
theorem w_c0 : (Jvm.Cond.code x code maxLocals ret).before args0 about1 = true := code_word (m := ⟨1, 1⟩) (meth := k1m1) (c := k1c1) (by decide +kernel) rfl rfl rfl (by decide +kernel)
set_option maxRecDepth 65536 in
theorem w_c1 : (Jvm.Cond.code ({ cls := "java/lang/String", name := "<init>", desc := "([C)V" } : Jvm.MethodName) jdk_42_method_3_code (2 : Nat) (Option.none : Option Jvm.ClassFile.FieldType)).before args0 about1 = true := code_word (m := ⟨7, 1⟩) (meth := k7m1) (c := k7c1) (by decide +kernel) rfl rfl rfl (by decide +kernel)
set_option maxRecDepth 65536 in
theorem w_c2 : (Jvm.Cond.code ({ cls := "java/lang/String", name := "<init>", desc := "([CIILjava/lang/Void;)V" } : Jvm.MethodName) jdk_42_method_149_code (6 : Nat) (Option.none : Option Jvm.ClassFile.FieldType)).before args0 about1 = true := code_word (m := ⟨7, 2⟩) (meth := k7m2) (c := k7c2) (by decide +kernel) rfl rfl rfl (by decide +kernel)
set_option maxRecDepth 65536 in
theorem w_c3 : (Jvm.Cond.code ({ cls := "java/lang/Object", name := "<init>", desc := "()V" } : Jvm.MethodName) object_method_1_code (1 : Nat) (Option.none : Option Jvm.ClassFile.FieldType)).before args0 about1 = true := code_word (m := ⟨0, 0⟩) (meth := k0m0) (c := k0c0) (by decide +kernel) rfl rfl rfl (by decide +kernel)
set_option maxRecDepth 65536 in
theorem w_c4 : (Jvm.Cond.code ({ cls := "java/lang/StringUTF16", name := "compress", desc := "([CII)[B" } : Jvm.MethodName) jdk_52_method_16_code (6 : Nat) (Option.some (Jvm.ClassFile.FieldType.array Jvm.ClassFile.FieldType.byte))).before args0 about1 = true := code_word (m := ⟨8, 2⟩) (meth := k8m2) (c := k8c2) (by decide +kernel) rfl rfl rfl (by decide +kernel)
set_option maxRecDepth 65536 in
theorem w_c5 : (Jvm.Cond.code ({ cls := "java/lang/StringUTF16", name := "compress", desc := "([CI[BII)I" } : Jvm.MethodName) jdk_52_method_21_code (7 : Nat) (Option.some Jvm.ClassFile.FieldType.int)).before args0 about1 = true := code_word (m := ⟨8, 3⟩) (meth := k8m3) (c := k8c3) (by decide +kernel) rfl rfl rfl (by decide +kernel)
set_option maxRecDepth 65536 in
theorem w_c6 : (Jvm.Cond.code ({ cls := "java/lang/StringUTF16", name := "coderFromArrayLen", desc := "([BI)B" } : Jvm.MethodName) jdk_52_method_15_code (2 : Nat) (Option.some Jvm.ClassFile.FieldType.byte)).before args0 about1 = true := code_word (m := ⟨8, 1⟩) (meth := k8m1) (c := k8c1) (by decide +kernel) rfl rfl rfl (by decide +kernel)
set_option maxRecDepth 65536 in
theorem w_c7 : (Jvm.Cond.code ({ cls := "com/example/turnstone/turnstone/index/Verdict", name := "<init>", desc := "(Ljava/lang/String;Ljava/lang/String;)V" } : Jvm.MethodName) prog_13_method_1_code (3 : Nat) (Option.none : Option Jvm.ClassFile.FieldType)).before args0 about1 = true := code_word (m := ⟨10, 0⟩) (meth := k10m0) (c := k10c0) (by decide +kernel) rfl rfl rfl (by decide +kernel)
set_option maxRecDepth 65536 in
theorem w_c8 : (Jvm.Cond.code ({ cls := "java/lang/Record", name := "<init>", desc := "()V" } : Jvm.MethodName) jdk_30_method_1_code (1 : Nat) (Option.none : Option Jvm.ClassFile.FieldType)).before args0 about1 = true := code_word (m := ⟨9, 0⟩) (meth := k9m0) (c := k9c0) (by decide +kernel) rfl rfl rfl (by decide +kernel)
set_option maxRecDepth 65536 in
theorem w_c9 : (Jvm.Cond.code ({ cls := "java/util/Objects", name := "requireNonNull", desc := "(Ljava/lang/Object;Ljava/lang/String;)Ljava/lang/Object;" } : Jvm.MethodName) jdk_31_method_11_code (2 : Nat) (Option.some (Jvm.ClassFile.FieldType.object "java/lang/Object"))).before args0 about1 = true := code_word (m := ⟨11, 1⟩) (meth := k11m1) (c := k11c1) (by decide +kernel) rfl rfl rfl (by decide +kernel)
set_option maxRecDepth 65536 in
theorem w_c10 : (Jvm.Cond.code ({ cls := "com/example/turnstone/turnstone/index/Verdict", name := "isDuplicate", desc := "()Z" } : Jvm.MethodName) prog_13_method_4_code (1 : Nat) (Option.some Jvm.ClassFile.FieldType.boolean)).before args0 about1 = true := code_word (m := ⟨10, 1⟩) (meth := k10m1) (c := k10c1) (by decide +kernel) rfl rfl rfl (by decide +kernel)
def codes1 : List Jvm.Cond := [Jvm.Cond.code x code maxLocals ret, Jvm.Cond.code ({ cls := "java/lang/String", name := "<init>", desc := "([C)V" } : Jvm.MethodName) jdk_42_method_3_code (2 : Nat) (Option.none : Option Jvm.ClassFile.FieldType), Jvm.Cond.code ({ cls := "java/lang/String", name := "<init>", desc := "([CIILjava/lang/Void;)V" } : Jvm.MethodName) jdk_42_method_149_code (6 : Nat) (Option.none : Option Jvm.ClassFile.FieldType), Jvm.Cond.code ({ cls := "java/lang/Object", name := "<init>", desc := "()V" } : Jvm.MethodName) object_method_1_code (1 : Nat) (Option.none : Option Jvm.ClassFile.FieldType), Jvm.Cond.code ({ cls := "java/lang/StringUTF16", name := "compress", desc := "([CII)[B" } : Jvm.MethodName) jdk_52_method_16_code (6 : Nat) (Option.some (Jvm.ClassFile.FieldType.array Jvm.ClassFile.FieldType.byte)), Jvm.Cond.code ({ cls := "java/lang/StringUTF16", name := "compress", desc := "([CI[BII)I" } : Jvm.MethodName) jdk_52_method_21_code (7 : Nat) (Option.some Jvm.ClassFile.FieldType.int), Jvm.Cond.code ({ cls := "java/lang/StringUTF16", name := "coderFromArrayLen", desc := "([BI)B" } : Jvm.MethodName) jdk_52_method_15_code (2 : Nat) (Option.some Jvm.ClassFile.FieldType.byte), Jvm.Cond.code ({ cls := "com/example/turnstone/turnstone/index/Verdict", name := "<init>", desc := "(Ljava/lang/String;Ljava/lang/String;)V" } : Jvm.MethodName) prog_13_method_1_code (3 : Nat) (Option.none : Option Jvm.ClassFile.FieldType), Jvm.Cond.code ({ cls := "java/lang/Record", name := "<init>", desc := "()V" } : Jvm.MethodName) jdk_30_method_1_code (1 : Nat) (Option.none : Option Jvm.ClassFile.FieldType), Jvm.Cond.code ({ cls := "java/util/Objects", name := "requireNonNull", desc := "(Ljava/lang/Object;Ljava/lang/String;)Ljava/lang/Object;" } : Jvm.MethodName) jdk_31_method_11_code (2 : Nat) (Option.some (Jvm.ClassFile.FieldType.object "java/lang/Object")), Jvm.Cond.code ({ cls := "com/example/turnstone/turnstone/index/Verdict", name := "isDuplicate", desc := "()Z" } : Jvm.MethodName) prog_13_method_4_code (1 : Nat) (Option.some Jvm.ClassFile.FieldType.boolean)]
set_option maxRecDepth 65536 in
theorem codes_eq : words1.filter isCode = codes1 := rfl
theorem w_codes : ∀ c ∈ words1.filter isCode, c.before args0 about1 = true := by
  rw [codes_eq]
  intro c hc
  simp only [codes1, List.mem_cons, List.not_mem_nil, or_false] at hc
  rcases hc with rfl | rfl | rfl | rfl | rfl | rfl | rfl | rfl | rfl | rfl | rfl
  · exact w_c0
  · exact w_c1
  · exact w_c2
  · exact w_c3
  · exact w_c4
  · exact w_c5
  · exact w_c6
  · exact w_c7
  · exact w_c8
  · exact w_c9
  · exact w_c10
set_option maxRecDepth 65536 in
theorem w_t1 : (words1.take 24).all (fun c => isCode c || c.before args0 about1) = true := by decide +kernel
set_option maxRecDepth 65536 in
theorem w_t2 : ((words1.drop 24).take 24).all (fun c => isCode c || c.before args0 about1) = true := by decide +kernel
set_option maxRecDepth 65536 in
theorem w_t3 : ((words1.drop 24).drop 24).all (fun c => isCode c || c.before args0 about1) = true := by decide +kernel
theorem w_tables : (allAtoms (Jvm.Cond.code x code maxLocals ret :: tables_1)).before args0 about1 = true := by
  rw [allAtoms_all]
  show words1.all (fun c => c.before args0 about1) = true
  refine all_split ?_ w_codes
  rw [← List.take_append_drop 24 words1, List.all_append, w_t1, ← List.take_append_drop 24 (words1.drop 24), List.all_append, w_t2, w_t3]
  rfl
set_option maxRecDepth 65536 in
theorem w_rest : rest_1_c.before args0 about1 = true := by decide +kernel
set_option maxRecDepth 65536 in
theorem w_case : (Jvm.Cond.and given_1 narrow_1).before args0 about1 = true := by decide +kernel
set_option maxRecDepth 65536 in
theorem w_consts : constsHeld consts_1 about1 := Jvm.Lit.constsHeldB_iff.mp (by decide +kernel)
theorem w_applies : (headSpec (Jvm.Cond.code x code maxLocals ret :: tables_1) room_1).applies x e0.platform about1 = true :=
  (Spec.applies_iff w_frames).mpr ⟨w_running, w_runnable, w_alone, w_named, w_hears, w_ripe, w_room, w_tables⟩
theorem atStart : AtStart classFile x code maxLocals ret World_1 tables_1 room_1 Calls_1 rest_1 Pre_1 launch0 p0 e0 about1 theMethod args0 below0 :=
  ⟨lists_1, trivial, launch0.admits_env _ _ _, launch0.least_env, fairChoices_fair.cas, fairChoices_fair.clock, w_frames, w_args, w_heap, w_applies, ⟨w_consts, trivial⟩, w_rest, w_case⟩
end start1
theorem witness_1 : WitnessClaimed_1 := ⟨start1.p0, start1.e0, start1.about1, start1.theMethod, start1.args0, start1.below0, start1.atStart⟩
end Jvm.Pilot.@@N@@
