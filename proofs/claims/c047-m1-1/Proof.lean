import JvmDerived
import JvmDerived.Pilot.@@N@@Statement
import JvmDerived.Pilot.@@N@@Code
set_option linter.unusedVariables false
set_option linter.unusedSimpArgs false
namespace Jvm.Pilot.@@N@@
open Jvm Jvm.ClassFile Sem Op Lib Jvm.Free Jvm.Stand Jvm.LawKit Jvm.RoadKit Bundle Jvm.Pilot.@@N@@.Jvm.D
section OwnKit
variable {p : Program} {l : Launch} {e : Env} {R : Room} {s : State} {m : MethodId} {args : Array Value} {below : List Frame} {meth : Method} {c : Code} {T : State} {locs : List Loc} {cells slots : Nat} {bc : ByteArray} {Q : Option Value → Heap → List Loc → Prop} {EF : Outcome → State → List Loc → Prop} {mc ms kk : Nat} {Z : State} {a0 : Array Value} {h : Heap} {pc pc' pt pf : Nat} {Ls : Array Slot} {st rest : List Value}
/-- from this frame over T the invocation comes to its end by returning, and Q holds there -/
def Go (p : Program) (e : Env) (below : List Frame) (EF : Outcome → State → List Loc → Prop) (Q : Option Value → Heap → List Loc → Prop) (m : MethodId) (T : State) (pc : Nat) (Ls : Array Slot) (st : List Value) : Prop :=
  ∃ s₂ o, Steps p.tables e below (T.setTop (mkF m pc Ls st)) s₂ ∧ s₂.status = .running ∧ Ended s₂ below o ∧ ∃ v L, o = .returned v ∧ Q v s₂.heap L ∧ EF o s₂ L
def EndOk (s : State) (EF : Outcome → State → List Loc → Prop) (mc ms kk : Nat) : Prop := ∀ v U L, FrameEnd s (.returned v) U L mc ms → kk ≤ U.heap.size → EF (.returned v) U L
theorem Go.of {T' : State} {Ls' : Array Slot} {st' : List Value} (k : ∀ t, Steps p.tables e below (T'.setTop (mkF m pc' Ls' st')) t → Steps p.tables e below (T.setTop (mkF m pc Ls st)) t) (g : Go p e below EF Q m T' pc' Ls' st') : Go p e below EF Q m T pc Ls st := by
  obtain ⟨s₂, o, h1, h2⟩ := g
  exact ⟨s₂, o, k _ h1, h2⟩
/-- a method's contract, as a caller takes it -/
def Ct (l : Launch) (Z : State) (y : MethodName) (bytes : ByteArray) (maxL : Nat) (ret : Option FieldType) (rm : Room) (as' : Array Value) (h : Heap) (Q : Option Value → Heap → List Loc → Prop) : Prop :=
  MetFree l y (head1 [Jvm.Cond.code y bytes maxL ret] rm) (fun a U => a = as' ∧ Z.Warmed39 U.vm ∧ U.heap = h) (fun _ _ _ _ _ => True) (fun _ U o U' => ∃ v L, o = .returned v ∧ Q v U'.heap L ∧ FrameEnd U o U' L rm.cells rm.slots)
theorem own_met {y : MethodName} {bytes : ByteArray} {maxL : Nat} {ret : Option FieldType} {ws : List Jvm.Cond} {rm : Room} {as' : Array Value}
    (hpl : plainFor y = true) (hef : ∀ m, entryFrame m as' maxL = mkF m 0 Ls [])
    (body : ∀ (p : Program) (e : Env) (s : State) (m : MethodId) (below : List Frame) (meth : Method) (c : Code) (T : State) (EF : Outcome → State → List Loc → Prop), Stand p l e rm s m as' below meth c T [] 0 0 → p.tables.exec = Jvm.exec → c.code = bytes → c.maxLocals = maxL →
      s.vm.findClass y.cls = some m.cls → meth.name = y.name → meth.sig.returnType = ret → meth.locks = false → Z.Warmed39 s.vm → EndOk s EF mc ms 0 → T.heap = h → Go p e below EF Q m T 0 Ls []) :
    MetFree l y (head1 (Jvm.Cond.code y bytes maxL ret :: ws) rm) (fun a U => a = as' ∧ Z.Warmed39 U.vm ∧ U.heap = h) (fun _ _ _ _ _ => True) (fun _ U o U' => ∃ v L, o = .returned v ∧ Q v U'.heap L ∧ FrameEnd U o U' L mc ms) := by
  refine MetFree.of_bodySF hpl hisR ?_
  intro p e s m args below meth c s₁ Bd hml0 hP hK
  obtain ⟨rfl, hZ, hh⟩ := hP
  obtain ⟨s₂, o, h1, h2, h3, v, L, h4, h5, h6⟩ := body p e s m below meth c s₁ (fun o U L => FrameEnd s o U L mc ms) (Stand.of_body Bd) Bd.exec Bd.bytes hml0 (findClass_of_methodNamed Bd.named) (name_of_methodNamed Bd.named Bd.method).1 Bd.returns Bd.notSynchronized hZ (fun _ _ _ f _ => f) (by rw [← hh, Bd.state]; rfl)
  exact ⟨s₂, o, castTop (hef m) h1, h2, h3, v, L, h4, h5, h6⟩
theorem g_nameI {x : Int32} (k : ∀ z : Int32, z = x → Go p e below EF Q m T pc Ls (.int z :: rest)) : Go p e below EF Q m T pc Ls (.int x :: rest) := k x rfl
theorem g_iloadN (X : Stand p l e R s m args below meth c T locs cells slots) (hx : p.tables.exec = Jvm.exec) (hby : c.code = bc) {n : Fin 4} {v : Int32} (hd : decode bc pc = .ok (.iload_n n, 1)) (hp : pc + 1 = pc') (hl : Ls[n.val]? = some (.val (.int v))) (k : Go p e below EF Q m T pc' Ls (.int v :: st)) : Go p e below EF Q m T pc Ls st := by
  subst hp; exact Go.of (fun _ q => XS.iloadN X.here hx rfl (hb hby hd) hl q) k
theorem g_iload (X : Stand p l e R s m args below meth c T locs cells slots) (hx : p.tables.exec = Jvm.exec) (hby : c.code = bc) {n : Nat} {v : Int32} (hd : decode bc pc = .ok (.iload n, 2)) (hp : pc + 2 = pc') (hl : Ls[n]? = some (.val (.int v))) (k : Go p e below EF Q m T pc' Ls (.int v :: st)) : Go p e below EF Q m T pc Ls st := by
  subst hp; exact Go.of (fun _ q => XS.iload X.here hx rfl (hb hby hd) hl q) k
theorem g_istoreN (X : Stand p l e R s m args below meth c T locs cells slots) (hx : p.tables.exec = Jvm.exec) (hby : c.code = bc) {n : Fin 4} {v : Int32} {Ls' : Array Slot} (hd : decode bc pc = .ok (.istore_n n, 1)) (hp : pc + 1 = pc') (hl : storeLocals Ls n.val (.int v) = some Ls') (k : Go p e below EF Q m T pc' Ls' rest) : Go p e below EF Q m T pc Ls (.int v :: rest) := by
  subst hp; exact Go.of (fun _ q => XS.istoreN X.here hx rfl (hb hby hd) rfl hl q) k
theorem g_istore (X : Stand p l e R s m args below meth c T locs cells slots) (hx : p.tables.exec = Jvm.exec) (hby : c.code = bc) {n : Nat} {v : Int32} {Ls' : Array Slot} (hd : decode bc pc = .ok (.istore n, 2)) (hp : pc + 2 = pc') (hl : storeLocals Ls n (.int v) = some Ls') (k : Go p e below EF Q m T pc' Ls' rest) : Go p e below EF Q m T pc Ls (.int v :: rest) := by
  subst hp; exact Go.of (fun _ q => XS.istore X.here hx rfl (hb hby hd) rfl hl q) k
theorem g_aloadN (X : Stand p l e R s m args below meth c T locs cells slots) (hx : p.tables.exec = Jvm.exec) (hby : c.code = bc) {n : Fin 4} {v : Value} (hd : decode bc pc = .ok (.aload_n n, 1)) (hp : pc + 1 = pc') (hl : Ls[n.val]? = some (.val v)) (hv : v.isRef = true) (k : Go p e below EF Q m T pc' Ls (v :: st)) : Go p e below EF Q m T pc Ls st := by
  subst hp; exact Go.of (fun _ q => XS.aloadN X.here hx rfl (hb hby hd) hl hv q) k
theorem g_aload (X : Stand p l e R s m args below meth c T locs cells slots) (hx : p.tables.exec = Jvm.exec) (hby : c.code = bc) {n : Nat} {v : Value} (hd : decode bc pc = .ok (.aload n, 2)) (hp : pc + 2 = pc') (hl : Ls[n]? = some (.val v)) (hv : v.isRef = true) (k : Go p e below EF Q m T pc' Ls (v :: st)) : Go p e below EF Q m T pc Ls st := by
  subst hp; exact Go.of (fun _ q => XS.aload X.here hx rfl (hb hby hd) hl hv q) k
theorem g_astore (X : Stand p l e R s m args below meth c T locs cells slots) (hx : p.tables.exec = Jvm.exec) (hby : c.code = bc) {n : Nat} {v : Value} {Ls' : Array Slot} (hd : decode bc pc = .ok (.astore n, 2)) (hp : pc + 2 = pc') (hv : v.isRef = true) (hl : storeLocals Ls n v = some Ls') (k : Go p e below EF Q m T pc' Ls' rest) : Go p e below EF Q m T pc Ls (v :: rest) := by
  subst hp; exact Go.of (fun _ q => XS.astore X.here hx rfl (hb hby hd) rfl hv hl q) k
theorem g_iconst (X : Stand p l e R s m args below meth c T locs cells slots) (hx : p.tables.exec = Jvm.exec) (hby : c.code = bc) {i : Int} {n : Int32} (hd : decode bc pc = .ok (.iconst i, 1)) (hp : pc + 1 = pc') (hn : Int32.ofInt i = n) (k : Go p e below EF Q m T pc' Ls (.int n :: st)) : Go p e below EF Q m T pc Ls st := by
  subst hp; exact Go.of (fun _ q => XS.iconst X.here hx rfl (hb hby hd) (by rw [hn]; exact q)) k
theorem g_bipush (X : Stand p l e R s m args below meth c T locs cells slots) (hx : p.tables.exec = Jvm.exec) (hby : c.code = bc) {i : Int} {n : Int32} (hd : decode bc pc = .ok (.bipush i, 2)) (hp : pc + 2 = pc') (hn : (Int8.ofInt i).toInt32 = n) (k : Go p e below EF Q m T pc' Ls (.int n :: st)) : Go p e below EF Q m T pc Ls st := by
  subst hp; exact Go.of (fun _ q => XS.bipush X.here hx rfl (hb hby hd) (by rw [hn]; exact q)) k
theorem g_iadd (X : Stand p l e R s m args below meth c T locs cells slots) (hx : p.tables.exec = Jvm.exec) (hby : c.code = bc) {x y : Int32} (hd : decode bc pc = .ok (.iadd, 1)) (hp : pc + 1 = pc')  (k : Go p e below EF Q m T pc' Ls (.int (x + y) :: rest)) : Go p e below EF Q m T pc Ls (.int y :: .int x :: rest) := by
  subst hp; exact Go.of (fun _ q => XS.iadd X.here hx rfl (hb hby hd) rfl q) k
theorem g_isub (X : Stand p l e R s m args below meth c T locs cells slots) (hx : p.tables.exec = Jvm.exec) (hby : c.code = bc) {x y : Int32} (hd : decode bc pc = .ok (.isub, 1)) (hp : pc + 1 = pc')  (k : Go p e below EF Q m T pc' Ls (.int (x - y) :: rest)) : Go p e below EF Q m T pc Ls (.int y :: .int x :: rest) := by
  subst hp; exact Go.of (fun _ q => XS.isub X.here hx rfl (hb hby hd) rfl q) k
theorem g_iand (X : Stand p l e R s m args below meth c T locs cells slots) (hx : p.tables.exec = Jvm.exec) (hby : c.code = bc) {x y : Int32} (hd : decode bc pc = .ok (.iand, 1)) (hp : pc + 1 = pc')  (k : Go p e below EF Q m T pc' Ls (.int (x &&& y) :: rest)) : Go p e below EF Q m T pc Ls (.int y :: .int x :: rest) := by
  subst hp; exact Go.of (fun _ q => XS.iand X.here hx rfl (hb hby hd) rfl q) k
theorem g_irem (X : Stand p l e R s m args below meth c T locs cells slots) (hx : p.tables.exec = Jvm.exec) (hby : c.code = bc) {x y : Int32} (hd : decode bc pc = .ok (.irem, 1)) (hp : pc + 1 = pc') (hy : y ≠ 0) (k : Go p e below EF Q m T pc' Ls (.int (x % y) :: rest)) : Go p e below EF Q m T pc Ls (.int y :: .int x :: rest) := by
  subst hp; exact Go.of (fun _ q => iremM X hx rfl (hb hby hd) rfl hy q) k
theorem g_ishr (X : Stand p l e R s m args below meth c T locs cells slots) (hx : p.tables.exec = Jvm.exec) (hby : c.code = bc) {x y : Int32} (hd : decode bc pc = .ok (.ishr, 1)) (hp : pc + 1 = pc')  (k : Go p e below EF Q m T pc' Ls (.int (x >>> (y &&& 31)) :: rest)) : Go p e below EF Q m T pc Ls (.int y :: .int x :: rest) := by
  subst hp; exact Go.of (fun _ q => XS.ishr X.here hx rfl (hb hby hd) rfl q) k
theorem g_dup (X : Stand p l e R s m args below meth c T locs cells slots) (hx : p.tables.exec = Jvm.exec) (hby : c.code = bc) {x : Value} (hd : decode bc pc = .ok (.dup, 1)) (hp : pc + 1 = pc') (hc : x.category = 1) (k : Go p e below EF Q m T pc' Ls (x :: x :: rest)) : Go p e below EF Q m T pc Ls (x :: rest) := by
  subst hp; exact Go.of (fun _ q => XS.dup X.here hx rfl (hb hby hd) rfl hc q) k
theorem g_dup_x1 (X : Stand p l e R s m args below meth c T locs cells slots) (hx : p.tables.exec = Jvm.exec) (hby : c.code = bc) {x y : Value} (hd : decode bc pc = .ok (.dup_x1, 1)) (hp : pc + 1 = pc') (hc : x.category = 1) (hc' : y.category = 1) (k : Go p e below EF Q m T pc' Ls (x :: y :: x :: rest)) : Go p e below EF Q m T pc Ls (x :: y :: rest) := by
  subst hp; exact Go.of (fun _ q => XS.dupX1 X.here hx rfl (hb hby hd) rfl hc hc' q) k
theorem g_dup2 (X : Stand p l e R s m args below meth c T locs cells slots) (hx : p.tables.exec = Jvm.exec) (hby : c.code = bc) {x y : Value} (hd : decode bc pc = .ok (.dup2, 1)) (hp : pc + 1 = pc') (hc : x.category = 1) (hc' : y.category = 1) (k : Go p e below EF Q m T pc' Ls (x :: y :: x :: y :: rest)) : Go p e below EF Q m T pc Ls (x :: y :: rest) := by
  subst hp; exact Go.of (fun _ q => XT.dup2 X.here hx rfl (hb hby hd) rfl hc hc' q) k
theorem g_iinc (X : Stand p l e R s m args below meth c T locs cells slots) (hx : p.tables.exec = Jvm.exec) (hby : c.code = bc) {n : Nat} {i : Int} {x : Int32} {Ls' : Array Slot} (hd : decode bc pc = .ok (.iinc n i, 3)) (hp : pc + 3 = pc') (hl : Ls[n]? = some (.val (.int x))) (hl' : storeLocals Ls n (.int (x + Int32.ofInt i)) = some Ls') (k : Go p e below EF Q m T pc' Ls' st) : Go p e below EF Q m T pc Ls st := by
  subst hp; exact Go.of (fun _ q => XS.iinc X.here hx rfl (hb hby hd) hl hl' q) k
theorem g_goto (X : Stand p l e R s m args below meth c T locs cells slots) (hx : p.tables.exec = Jvm.exec) (hby : c.code = bc) {i : Int} (hd : decode bc pc = .ok (.goto i, 3)) (ho : 0 ≤ (pc : Int) + i) (hp : ((pc : Int) + i).toNat = pc') (k : Go p e below EF Q m T pc' Ls st) : Go p e below EF Q m T pc Ls st := Go.of (fun _ q => XS.goto X.here hx rfl rfl (hb hby hd) ho hp q) k
theorem own_hlt (x y : Int32) : if_icmp.holds .lt x y = decide (x.toInt < y.toInt) := by simp [if_icmp.holds, Int32.lt_iff_toInt_lt]
theorem own_hge (x y : Int32) : if_icmp.holds .ge x y = decide (y.toInt ≤ x.toInt) := by simp [if_icmp.holds, Int32.le_iff_toInt_le]
theorem own_hle (x y : Int32) : if_icmp.holds .le x y = decide (x.toInt ≤ y.toInt) := by simp [if_icmp.holds, Int32.le_iff_toInt_le]
theorem own_heq (x y : Int32) : if_icmp.holds .eq x y = decide (x = y) := by by_cases q : x = y <;> simp [if_icmp.holds, q]
theorem own_hne (x y : Int32) : if_icmp.holds .ne x y = decide (¬ x = y) := by by_cases q : x = y <;> simp [if_icmp.holds, q]
theorem g_icmp (X : Stand p l e R s m args below meth c T locs cells slots) (hx : p.tables.exec = Jvm.exec) (hby : c.code = bc) {cd : ClassFile.Cond} {i : Int} {x y : Int32} {P : Prop} [Decidable P] (hP : if_icmp.holds cd x y = decide P) (hd : decode bc pc = .ok (.if_icmp cd i, 3)) (ho : 0 ≤ (pc : Int) + i) (hp : ((pc : Int) + i).toNat = pt) (hf : pc + 3 = pf) (ky : P → Go p e below EF Q m T pt Ls rest) (kn : ¬ P → Go p e below EF Q m T pf Ls rest) : Go p e below EF Q m T pc Ls (.int y :: .int x :: rest) := by
  subst hf
  by_cases q : P
  · exact Go.of (fun _ z => XS.icmpYes X.here hx rfl rfl (hb hby hd) rfl (by rw [hP]; exact decide_eq_true q) ho hp z) (ky q)
  · exact Go.of (fun _ z => XS.icmpNo X.here hx rfl (hb hby hd) rfl (by rw [hP]; exact decide_eq_false q) z) (kn q)
theorem g_ifc (X : Stand p l e R s m args below meth c T locs cells slots) (hx : p.tables.exec = Jvm.exec) (hby : c.code = bc) {cd : ClassFile.Cond} {i : Int} {x : Int32} {P : Prop} [Decidable P] (hP : if_icmp.holds cd x 0 = decide P) (hd : decode bc pc = .ok (.ifCond cd i, 3)) (ho : 0 ≤ (pc : Int) + i) (hp : ((pc : Int) + i).toNat = pt) (hf : pc + 3 = pf) (ky : P → Go p e below EF Q m T pt Ls rest) (kn : ¬ P → Go p e below EF Q m T pf Ls rest) : Go p e below EF Q m T pc Ls (.int x :: rest) := by
  subst hf
  by_cases q : P
  · exact Go.of (fun _ z => XS.ifYes X.here hx rfl rfl (hb hby hd) rfl (by rw [if0, hP]; exact decide_eq_true q) ho hp z) (ky q)
  · exact Go.of (fun _ z => XS.ifNo X.here hx rfl (hb hby hd) rfl (by rw [if0, hP]; exact decide_eq_false q) z) (kn q)
theorem g_icmplt (X : Stand p l e R s m args below meth c T locs cells slots) (hx : p.tables.exec = Jvm.exec) (hby : c.code = bc) {i : Int} {x y : Int32} (hd : decode bc pc = .ok (.if_icmp .lt i, 3)) (ho : 0 ≤ (pc : Int) + i) (hp : ((pc : Int) + i).toNat = pt) (hf : pc + 3 = pf) (ky : x.toInt < y.toInt → Go p e below EF Q m T pt Ls rest) (kn : y.toInt ≤ x.toInt → Go p e below EF Q m T pf Ls rest) : Go p e below EF Q m T pc Ls (.int y :: .int x :: rest) :=
  g_icmp X hx hby (own_hlt x y) hd ho hp hf ky (fun q => kn (Int.not_lt.mp q))
theorem g_iflt (X : Stand p l e R s m args below meth c T locs cells slots) (hx : p.tables.exec = Jvm.exec) (hby : c.code = bc) {i : Int} {x : Int32} (hd : decode bc pc = .ok (.ifCond .lt i, 3)) (ho : 0 ≤ (pc : Int) + i) (hp : ((pc : Int) + i).toNat = pt) (hf : pc + 3 = pf) (ky : x.toInt < 0 → Go p e below EF Q m T pt Ls rest) (kn : 0 ≤ x.toInt → Go p e below EF Q m T pf Ls rest) : Go p e below EF Q m T pc Ls (.int x :: rest) :=
  g_ifc X hx hby (own_hlt x 0) hd ho hp hf ky (fun q => kn (Int.not_lt.mp q))
theorem g_icmpge (X : Stand p l e R s m args below meth c T locs cells slots) (hx : p.tables.exec = Jvm.exec) (hby : c.code = bc) {i : Int} {x y : Int32} (hd : decode bc pc = .ok (.if_icmp .ge i, 3)) (ho : 0 ≤ (pc : Int) + i) (hp : ((pc : Int) + i).toNat = pt) (hf : pc + 3 = pf) (ky : y.toInt ≤ x.toInt → Go p e below EF Q m T pt Ls rest) (kn : x.toInt < y.toInt → Go p e below EF Q m T pf Ls rest) : Go p e below EF Q m T pc Ls (.int y :: .int x :: rest) :=
  g_icmp X hx hby (own_hge x y) hd ho hp hf ky (fun q => kn (Int.not_le.mp q))
theorem g_icmple (X : Stand p l e R s m args below meth c T locs cells slots) (hx : p.tables.exec = Jvm.exec) (hby : c.code = bc) {i : Int} {x y : Int32} (hd : decode bc pc = .ok (.if_icmp .le i, 3)) (ho : 0 ≤ (pc : Int) + i) (hp : ((pc : Int) + i).toNat = pt) (hf : pc + 3 = pf) (ky : x.toInt ≤ y.toInt → Go p e below EF Q m T pt Ls rest) (kn : y.toInt < x.toInt → Go p e below EF Q m T pf Ls rest) : Go p e below EF Q m T pc Ls (.int y :: .int x :: rest) :=
  g_icmp X hx hby (own_hle x y) hd ho hp hf ky (fun q => kn (Int.not_le.mp q))
theorem g_ifle (X : Stand p l e R s m args below meth c T locs cells slots) (hx : p.tables.exec = Jvm.exec) (hby : c.code = bc) {i : Int} {x : Int32} (hd : decode bc pc = .ok (.ifCond .le i, 3)) (ho : 0 ≤ (pc : Int) + i) (hp : ((pc : Int) + i).toNat = pt) (hf : pc + 3 = pf) (ky : x.toInt ≤ 0 → Go p e below EF Q m T pt Ls rest) (kn : 0 < x.toInt → Go p e below EF Q m T pf Ls rest) : Go p e below EF Q m T pc Ls (.int x :: rest) :=
  g_ifc X hx hby (own_hle x 0) hd ho hp hf ky (fun q => kn (Int.not_le.mp q))
theorem g_icmpeq (X : Stand p l e R s m args below meth c T locs cells slots) (hx : p.tables.exec = Jvm.exec) (hby : c.code = bc) {i : Int} {x y : Int32} (hd : decode bc pc = .ok (.if_icmp .eq i, 3)) (ho : 0 ≤ (pc : Int) + i) (hp : ((pc : Int) + i).toNat = pt) (hf : pc + 3 = pf) (ky : x = y → Go p e below EF Q m T pt Ls rest) (kn : ¬ x = y → Go p e below EF Q m T pf Ls rest) : Go p e below EF Q m T pc Ls (.int y :: .int x :: rest) :=
  g_icmp X hx hby (own_heq x y) hd ho hp hf ky (fun q => kn (id q))
theorem g_ifeq (X : Stand p l e R s m args below meth c T locs cells slots) (hx : p.tables.exec = Jvm.exec) (hby : c.code = bc) {i : Int} {x : Int32} (hd : decode bc pc = .ok (.ifCond .eq i, 3)) (ho : 0 ≤ (pc : Int) + i) (hp : ((pc : Int) + i).toNat = pt) (hf : pc + 3 = pf) (ky : x = 0 → Go p e below EF Q m T pt Ls rest) (kn : ¬ x = 0 → Go p e below EF Q m T pf Ls rest) : Go p e below EF Q m T pc Ls (.int x :: rest) :=
  g_ifc X hx hby (own_heq x 0) hd ho hp hf ky (fun q => kn (id q))
theorem g_icmpne (X : Stand p l e R s m args below meth c T locs cells slots) (hx : p.tables.exec = Jvm.exec) (hby : c.code = bc) {i : Int} {x y : Int32} (hd : decode bc pc = .ok (.if_icmp .ne i, 3)) (ho : 0 ≤ (pc : Int) + i) (hp : ((pc : Int) + i).toNat = pt) (hf : pc + 3 = pf) (ky : ¬ x = y → Go p e below EF Q m T pt Ls rest) (kn : x = y → Go p e below EF Q m T pf Ls rest) : Go p e below EF Q m T pc Ls (.int y :: .int x :: rest) :=
  g_icmp X hx hby (own_hne x y) hd ho hp hf ky (fun q => kn (Decidable.not_not.mp q))
theorem g_ifne (X : Stand p l e R s m args below meth c T locs cells slots) (hx : p.tables.exec = Jvm.exec) (hby : c.code = bc) {i : Int} {x : Int32} (hd : decode bc pc = .ok (.ifCond .ne i, 3)) (ho : 0 ≤ (pc : Int) + i) (hp : ((pc : Int) + i).toNat = pt) (hf : pc + 3 = pf) (ky : ¬ x = 0 → Go p e below EF Q m T pt Ls rest) (kn : x = 0 → Go p e below EF Q m T pf Ls rest) : Go p e below EF Q m T pc Ls (.int x :: rest) :=
  g_ifc X hx hby (own_hne x 0) hd ho hp hf ky (fun q => kn (Decidable.not_not.mp q))
theorem g_ret (X : Stand p l e R s m args below meth c T locs cells slots) (hx : p.tables.exec = Jvm.exec) (hby : c.code = bc) (hF : EndOk s EF mc ms kk) (hk : kk ≤ T.heap.size) (hlk : meth.locks = false) {t : FieldType} {w : Value} {i : Instr} (hret : meth.sig.returnType = some t) (hn : narrow t w = w) (hi : (i = .ireturn ∧ (t = .int ∨ t = .boolean ∨ t = .byte ∨ t = .char ∨ t = .short) ∧ ∃ z, w = .int z) ∨ (i = .lreturn ∧ t = .long ∧ ∃ z, w = .long z) ∨ (i = .dreturn ∧ t = .double ∧ ∃ z, w = .double z) ∨ (i = .freturn ∧ t = .float ∧ ∃ z, w = .float z) ∨ (i = .areturn ∧ t.isReference = true ∧ w.isRef = true)) (hd : decode bc pc = .ok (i, 1)) (hc : cells ≤ mc) (hs : slots ≤ ms) (hq : Q (some w) T.heap locs) : Go p e below EF Q m T pc Ls (w :: rest) := by
  obtain ⟨fs, hr, hrun, hended, hW, hsame⟩ := X.leave (v := some w) (fun h => by rw [hret] at h; cases h) hlk
  exact ⟨_, _, retOut X hx hret hn hi (hb hby hd) hr, hrun, hended, _, _, rfl, hq, hF _ _ _ ⟨⟨_, rfl⟩, hW, hsame.mono hc hs⟩ hk⟩
theorem g_retI (X : Stand p l e R s m args below meth c T locs cells slots) (hx : p.tables.exec = Jvm.exec) (hby : c.code = bc) (hF : EndOk s EF mc ms kk) (hk : kk ≤ T.heap.size) (hlk : meth.locks = false) {z : Int32} (hret : meth.sig.returnType = some .int) (hd : decode bc pc = .ok (.ireturn, 1)) (hc : cells ≤ mc) (hs : slots ≤ ms) (hq : Q (some (.int z)) T.heap locs) : Go p e below EF Q m T pc Ls (.int z :: rest) := g_ret X hx hby hF hk hlk hret rfl (Or.inl ⟨rfl, Or.inl rfl, _, rfl⟩) hd hc hs hq
theorem g_retZ (X : Stand p l e R s m args below meth c T locs cells slots) (hx : p.tables.exec = Jvm.exec) (hby : c.code = bc) (hF : EndOk s EF mc ms kk) (hk : kk ≤ T.heap.size) (hlk : meth.locks = false) {z : Int32} (hz : z = 0 ∨ z = 1) (hret : meth.sig.returnType = some .boolean) (hd : decode bc pc = .ok (.ireturn, 1)) (hc : cells ≤ mc) (hs : slots ≤ ms) (hq : Q (some (.int z)) T.heap locs) : Go p e below EF Q m T pc Ls (.int z :: rest) := g_ret X hx hby hF hk hlk hret (by rcases hz with rfl | rfl <;> rfl) (Or.inl ⟨rfl, Or.inr (Or.inl rfl), _, rfl⟩) hd hc hs hq
theorem g_retA (X : Stand p l e R s m args below meth c T locs cells slots) (hx : p.tables.exec = Jvm.exec) (hby : c.code = bc) (hF : EndOk s EF mc ms kk) (hk : kk ≤ T.heap.size) (hlk : meth.locks = false) {t : FieldType} {w : Value} (ht : t.isReference = true) (hw : w.isRef = true) (hret : meth.sig.returnType = some t) (hd : decode bc pc = .ok (.areturn, 1)) (hc : cells ≤ mc) (hs : slots ≤ ms) (hq : Q (some w) T.heap locs) : Go p e below EF Q m T pc Ls (w :: rest) := g_ret X hx hby hF hk hlk hret (by rcases ref_cases hw with rfl | ⟨b, rfl⟩ <;> cases t <;> first | rfl | cases ht) (Or.inr (Or.inr (Or.inr (Or.inr ⟨rfl, ht, hw⟩)))) hd hc hs hq
theorem g_retV (X : Stand p l e R s m args below meth c T locs cells slots) (hx : p.tables.exec = Jvm.exec) (hby : c.code = bc) (hF : EndOk s EF mc ms kk) (hk : kk ≤ T.heap.size) (hlk : meth.locks = false) (hret : meth.sig.returnType = none) (hd : decode bc pc = .ok (.return_, 1)) (hc : cells ≤ mc) (hs : slots ≤ ms) (hq : Q none T.heap locs) : Go p e below EF Q m T pc Ls [] := by
  obtain ⟨fs, hr, hrun, hended, hW, hsame⟩ := X.leave (v := none) (fun _ => rfl) hlk
  exact ⟨_, _, X.returnOut hx hret (hb hby hd) hr, hrun, hended, _, _, rfl, hq, hF _ _ _ ⟨⟨_, rfl⟩, hW, hsame.mono hc hs⟩ hk⟩
theorem g_ldcI (X : Stand p l e R s m args below meth c T locs cells slots) (hx : p.tables.exec = Jvm.exec) (hby : c.code = bc) (hZ : Z.Warmed39 s.vm) {own : String} (hown : s.vm.findClass own = some m.cls) {n : Nat} {v : Int32} (w : (Jvm.Cond.constant own n v).before a0 Z = true) (hd : decode bc pc = .ok (.ldc n, 2)) (hp : pc + 2 = pc') (k : Go p e below EF Q m T pc' Ls (.int v :: st)) : Go p e below EF Q m T pc Ls st := by
  subst hp; exact Go.of (X.ldcInt hx hown (mvT hZ w) (g := mkF m pc Ls st) rfl (hb hby hd)) k
theorem g_getF (X : Stand p l e R s m args below meth c T locs cells slots) (hx : p.tables.exec = Jvm.exec) (hby : c.code = bc) (hZ : Z.Warmed39 s.vm) {own : String} (hown : s.vm.findClass own = some m.cls) (eT : T.heap = h) {i : Nat} {O n d : String} {a : Addr} {v : Value} (w : (Jvm.Cond.fieldLink own i O n d).before a0 Z = true) (F : Fld Z h a O n d v) (hd : decode bc pc = .ok (.getfield i, 3)) (hp : pc + 3 = pc') (k : ∀ T', Stand p l e R s m args below meth c T' locs cells slots → T'.heap = h → Go p e below EF Q m T' pc' Ls (v :: rest)) : Go p e below EF Q m T pc Ls (.ref a :: rest) := by
  subst hp
  obtain ⟨T', X', e', st'⟩ := getF X hx hZ hown (host := "") (Or.inl w) Via.refl eT F (g := mkF m pc Ls (.ref a :: rest)) rfl rfl (hb hby hd)
  exact Go.of st' (k T' X' e')
theorem g_putF (X : Stand p l e R s m args below meth c T locs cells slots) (hx : p.tables.exec = Jvm.exec) (hby : c.code = bc) (hZ : Z.Warmed39 s.vm) {own : String} (hown : s.vm.findClass own = some m.cls) (eT : T.heap = h) {i kk : Nat} {O n d C : String} {a : Addr} {v old : Value} {ty : FieldType} (w : (Jvm.Cond.fieldLink own i O n d).before a0 Z = true) (F : Fld Z h a O n d old) (E : Exa Z h a C) (L : (Jvm.Cond.lays C O n d).before a0 Z = true ∨ ((Jvm.Cond.laysFinal C O n d).before a0 Z = true ∧ own = O ∧ meth.name = "<init>")) (wi : (Jvm.Cond.instantiable C kk).before a0 Z = true) (hty : parseFieldDescriptor d = some ty) (hn : narrow ty v = v) (hf : fits ty v = true) (hd : decode bc pc = .ok (.putfield i, 3)) (hp : pc + 3 = pc') (k : ∀ T' h', Stand p l e R s m args below meth c T' (locs ++ [⟨a, Jvm.RoadKit.slotOf Z O n d⟩]) cells slots → T'.heap = h' → Wr h h' a (Jvm.RoadKit.slotOf Z O n d) v → Go p e below EF Q m T' pc' Ls rest) : Go p e below EF Q m T pc Ls (v :: .ref a :: rest) := by
  subst hp
  obtain ⟨T', h', X', e', W', st'⟩ := putF X hx hZ hown (host := "") (Or.inl w) Via.refl eT F E L wi hty hn hf (g := mkF m pc Ls (v :: .ref a :: rest)) rfl rfl (hb hby hd)
  exact Go.of st' (k T' h' X' e' W')
theorem g_new (X : Stand p l e R s m args below meth c T locs cells slots) (hx : p.tables.exec = Jvm.exec) (hby : c.code = bc) (hZ : Z.Warmed39 s.vm) {own : String} (hown : s.vm.findClass own = some m.cls) (eT : T.heap = h) {i n : Nat} {C : String} (w : (Jvm.Cond.classLink own i C).before a0 Z = true) (wi : (Jvm.Cond.instantiable C n).before a0 Z = true) (wz : (Jvm.Cond.initialized C).before a0 Z = true) (hd : decode bc pc = .ok (.new i, 3)) (hp : pc + 3 = pc') (hc : cells + 1 ≤ R.cells) (hl : slots + n ≤ R.slots) (k : ∀ T' h' b, b = h.size → Stand p l e R s m args below meth c T' locs (cells + 1) (slots + n) → T'.heap = h' → Ext h h' → Exa Z h' b C → (∀ {O nm d : String} {ty : FieldType}, Laid Z a0 C O nm d → parseFieldDescriptor d = some ty → Fld Z h' b O nm d (defaultValue ty)) → Go p e below EF Q m T' pc' Ls (.ref b :: st)) : Go p e below EF Q m T pc Ls st := by
  subst hp
  obtain ⟨T', h', X', e', E', A', D', -, st'⟩ := newO X hx hZ hown w wi wz eT (g := mkF m pc Ls st) rfl (hb hby hd) hc hl
  exact Go.of st' (k T' h' _ rfl X' e' E' A' D')
theorem g_initO (X : Stand p l e R s m args below meth c T locs cells slots) (hx : p.tables.exec = Jvm.exec) (hby : c.code = bc) (hZ : Z.Warmed39 s.vm) {own : String} (hown : s.vm.findClass own = some m.cls) (eT : T.heap = h) {i ML : Nat} {a : Addr} (w1 : (Jvm.Cond.methodLink own i Lib.objectInit).before a0 Z = true) (w2 : (Jvm.Cond.instanceMethod Lib.objectInit).before a0 Z = true) (w3 : (Jvm.Cond.code Lib.objectInit ⟨#[0xb1]⟩ 1 none).before a0 Z = true) (hml : c.maxLocals = ML) (hls : Ls.size = ML) (hd : decode bc pc = .ok (.invokespecial i, 3)) (hp : pc + 3 = pc') (hf : 1 ≤ R.frames) (hl : (rest.map fun v => v.category).sum + 12 ≤ R.locals) (k : ∀ T', Stand p l e R s m args below meth c T' locs cells slots → T'.heap = h → Go p e below EF Q m T' pc' Ls rest) : Go p e below EF Q m T pc Ls (.ref a :: rest) := by
  subst hp
  obtain ⟨T', X', e', st'⟩ := initO X hx hZ hown w1 w2 w3 eT (g := mkF m pc Ls (.ref a :: rest)) rfl (by rw [hml]; exact hls) rfl (hb hby hd) hf (W := (rest.map fun v => v.category).sum) (by show 2 * 0 + _ ≤ _; omega) hl
  exact Go.of st' (k T' X' e')
theorem g_newP (X : Stand p l e R s m args below meth c T locs cells slots) (hx : p.tables.exec = Jvm.exec) (hby : c.code = bc) (hZ : Z.Warmed39 s.vm) (eT : T.heap = h) {aty : ArrayType} {n : Int32} (w : (Jvm.Cond.arrayClass (newarray.typeOf aty)).before a0 Z = true) (hd : decode bc pc = .ok (.newarray aty, 2)) (hp : pc + 2 = pc') (hn : ¬ n < 0) {cap : Nat} (hcap : n.toNatClampNeg ≤ cap) (hbig : cap * 8 ≤ 536870912) (hc : cells + 1 ≤ R.cells) (hl : slots + cap ≤ R.slots) (k : ∀ T' h' b cA, b = h.size → Stand p l e R s m args below meth c T' locs (cells + 1) (slots + cap) → T'.heap = h' → Ext h h' → Arv Z h' b cA (newarray.typeOf aty) n [] (defaultValue (newarray.typeOf aty)) → Go p e below EF Q m T' pc' Ls (.ref b :: rest)) : Go p e below EF Q m T pc Ls (.int n :: rest) := by
  subst hp
  obtain ⟨T', h', cA, X', e', E', A', st'⟩ := newP X hx hZ w eT (g := mkF m pc Ls (.int n :: rest)) rfl (hb hby hd) rfl hn hcap hbig hc hl
  exact Go.of st' (k T' h' _ cA rfl X' e' E' (Arv.new A' hn))
theorem g_iastore (X : Stand p l e R s m args below meth c T locs cells slots) (hx : p.tables.exec = Jvm.exec) (hby : c.code = bc) (hZ : Z.Warmed39 s.vm) (eT : T.heap = h) {a : Addr} {cl : Cell} (A : Arr Z h a cl .int) {j : Int32} {x : Int32} (hj : ¬ (j < 0 ∨ cl.slots.size ≤ j.toNatClampNeg)) (hd : decode bc pc = .ok (.iastore, 1)) (hp : pc + 1 = pc') (k : ∀ T' h', Stand p l e R s m args below meth c T' (locs ++ [⟨a, j.toNatClampNeg⟩]) cells slots → T'.heap = h' → Wr h h' a j.toNatClampNeg (.int x) → Go p e below EF Q m T' pc' Ls rest) : Go p e below EF Q m T pc Ls (.int x :: .int j :: .ref a :: rest) := by
  subst hp
  obtain ⟨T', h', X', e', W', st'⟩ := stI X hx hZ eT A (j := j) hj (g := mkF m pc Ls (.int x :: .int j :: .ref a :: rest)) rfl rfl (hb hby hd)
  exact Go.of st' (k T' h' X' e' W')
theorem g_iaload (X : Stand p l e R s m args below meth c T locs cells slots) (hx : p.tables.exec = Jvm.exec) (hby : c.code = bc) (hZ : Z.Warmed39 s.vm) (eT : T.heap = h) {a : Addr} {cl : Cell} (A : Arr Z h a cl .int) {j : Int32} {v : Value} (hj : ¬ (j < 0 ∨ cl.slots.size ≤ j.toNatClampNeg)) (hv : cl.slots[j.toNatClampNeg]? = some v) (hd : decode bc pc = .ok (.iaload, 1)) (hp : pc + 1 = pc') (k : Go p e below EF Q m T pc' Ls (v :: rest)) : Go p e below EF Q m T pc Ls (.int j :: .ref a :: rest) := by
  subst hp
  exact Go.of (fun _ q => X.iaload hx (j := j) (v := v) (by rw [eT]; exact A.1) (State.isArrayOf_alike hZ.alike A.2.1) A.2.2 hj hv (g := mkF m pc Ls (.int j :: .ref a :: rest)) rfl rfl (hb hby hd) _ q) k
theorem g_arraylength (X : Stand p l e R s m args below meth c T locs cells slots) (hx : p.tables.exec = Jvm.exec) (hby : c.code = bc) (hZ : Z.Warmed39 s.vm) (eT : T.heap = h) {a : Addr} {cl : Cell} {ty : FieldType} (A : Arr Z h a cl ty) {n : Int32} (S : cl.slots.size = n.toNatClampNeg) (hn : ¬ n < 0) (hd : decode bc pc = .ok (.arraylength, 1)) (hp : pc + 1 = pc') (k : Go p e below EF Q m T pc' Ls (.int n :: rest)) : Go p e below EF Q m T pc Ls (.ref a :: rest) := by
  subst hp
  exact Go.of (fun _ q => X.arraylength hx (by rw [eT]; exact A.1) (State.isArrayOf_alike hZ.alike A.2.1) (g := mkF m pc Ls (.ref a :: rest)) rfl rfl (hb hby hd) _ (by rw [len_of S hn]; exact q)) k
/-- in heap h the array at a (of kind ty) has n places; place j holds f j -/
def Ara (Z : State) (h : Heap) (a : Addr) (ty : FieldType) (n : Nat) (f : Nat → Value) : Prop := ∃ cl : Cell, Arr Z h a cl ty ∧ cl.slots.size = n ∧ n < 2147483648 ∧ ∀ j, j < n → cl.slots[j]? = some (f j)
def own_up (f : Nat → Value) (k : Nat) (v : Value) : Nat → Value := fun j => if j = k then v else f j
theorem own_up_self (f : Nat → Value) (k : Nat) (v : Value) : own_up f k v k = v := if_pos rfl
theorem own_up_ne (f : Nat → Value) {k j : Nat} (v : Value) (q : j ≠ k) : own_up f k v j = f j := if_neg q
theorem Ara.lt {h : Heap} {a : Addr} {ty : FieldType} {n : Nat} {f : Nat → Value} (V : Ara Z h a ty n f) : a < h.size := by obtain ⟨_, A, _⟩ := V; exact A.lt
theorem Ara.ext {h h' : Heap} {a : Addr} {ty : FieldType} {n : Nat} {f : Nat → Value} (V : Ara Z h a ty n f) (E : Ext h h') : Ara Z h' a ty n f := by obtain ⟨c, A, r⟩ := V; exact ⟨c, A.ext E, r⟩
theorem Ara.other {h h' : Heap} {a b : Addr} {ty : FieldType} {n : Nat} {f : Nat → Value} {sl : Nat} {v : Value} (V : Ara Z h a ty n f) (W : Wr h h' b sl v) (q : a ≠ b) : Ara Z h' a ty n f := by obtain ⟨c, A, r⟩ := V; exact ⟨c, A.other W q, r⟩
theorem Ara.keep {h h' : Heap} {a : Addr} {ty : FieldType} {n : Nat} {f : Nat → Value} {ws : List Addr} (V : Ara Z h a ty n f) (K : Keep h h' ws) (q : a ∉ ws) : Ara Z h' a ty n f := by obtain ⟨c, A, r⟩ := V; exact ⟨c, ⟨K.2.1 a c A.1 q, A.2⟩, r⟩
theorem Ara.set {h h' : Heap} {a : Addr} {ty : FieldType} {n k : Nat} {f : Nat → Value} {v : Value} (V : Ara Z h a ty n f) (W : Wr h h' a k v) : Ara Z h' a ty n (own_up f k v) := by
  obtain ⟨c, A, hs, hn, hf⟩ := V
  refine ⟨_, A.same W, by rw [sz_set]; exact hs, hn, fun j hj => ?_⟩
  by_cases q : k = j
  · subst q; rw [own_up_self]; simp [Cell.setSlot, hs, hj]
  · rw [own_up_ne f v (Ne.symm q), ← hf j hj]; exact Array.getElem?_setIfInBounds_ne q
theorem Ara.eq {h : Heap} {a : Addr} {ty : FieldType} {n : Nat} {f f' : Nat → Value} (V : Ara Z h a ty n f) (q : ∀ j, j < n → f j = f' j) : Ara Z h a ty n f' := by obtain ⟨c, A, hs, hn, hf⟩ := V; exact ⟨c, A, hs, hn, fun j hj => by rw [← q j hj]; exact hf j hj⟩
def own_ui (g : Nat → Int32) (k : Nat) (x : Int32) : Nat → Int32 := fun j => if j = k then x else g j
theorem Ara.setI {h h' : Heap} {a : Addr} {ty : FieldType} {n k : Nat} {g : Nat → Int32} {x : Int32} (V : Ara Z h a ty n (fun j => .int (g j))) (W : Wr h h' a k (.int x)) : Ara Z h' a ty n (fun j => .int (own_ui g k x j)) := (V.set W).eq fun j _ => by
  by_cases q : j = k <;> simp [own_up, own_ui, q]
theorem own_in {cl : Cell} {j : Int32} {n : Nat} (hs : cl.slots.size = n) (h0 : 0 ≤ j.toInt) (h1 : j.toInt < n) : ¬ (j < 0 ∨ cl.slots.size ≤ j.toNatClampNeg) := by
  rw [Int32.lt_iff_toInt_lt, hs]
  show ¬ (j.toInt < 0 ∨ n ≤ j.toInt.toNat)
  omega
theorem own_ofNat {n : Nat} (hn : n < 2147483648) : (Int32.ofNat n).toInt = n := by rw [Int32.toInt_ofNat_of_lt (by omega)]
theorem own_clamp {n : Nat} (hn : n < 2147483648) : (Int32.ofNat n).toNatClampNeg = n := by show (Int32.ofNat n).toInt.toNat = n; rw [own_ofNat hn]; rfl
theorem g_newA (X : Stand p l e R s m args below meth c T locs cells slots) (hx : p.tables.exec = Jvm.exec) (hby : c.code = bc) (hZ : Z.Warmed39 s.vm) (eT : T.heap = h) {aty : ArrayType} {n : Int32} {N : Nat} (w : (Jvm.Cond.arrayClass (newarray.typeOf aty)).before a0 Z = true) (hd : decode bc pc = .ok (.newarray aty, 2)) (hp : pc + 2 = pc') (hn : n.toInt = N) {cap : Nat} (hcap : N ≤ cap) (hbig : cap * 8 ≤ 536870912) (hc : cells + 1 ≤ R.cells) (hl : slots + cap ≤ R.slots) (k : ∀ T' h' b, b = h.size → Stand p l e R s m args below meth c T' locs (cells + 1) (slots + cap) → T'.heap = h' → Ext h h' → Ara Z h' b (newarray.typeOf aty) N (fun _ => defaultValue (newarray.typeOf aty)) → Go p e below EF Q m T' pc' Ls (.ref b :: rest)) : Go p e below EF Q m T pc Ls (.int n :: rest) := by
  have h1 : n.toNatClampNeg = N := by show n.toInt.toNat = N; omega
  have h2 : ¬ n < 0 := by rw [Int32.lt_iff_toInt_lt]; show ¬ n.toInt < 0; omega
  have h3 := rng32 n
  refine g_newP X hx hby hZ eT w hd hp h2 (cap := cap) (by omega) hbig hc hl (fun T' h' b cA hb' X' e' E' V => k T' h' b hb' X' e' E' ?_)
  obtain ⟨cl, A, -, hs, -, hH, -⟩ := V
  exact ⟨cl, A, by rw [hs, h1], by omega, fun j hj => by rw [hH j (by rw [hs, h1]; exact hj)]; simp⟩
theorem a_iastore (X : Stand p l e R s m args below meth c T locs cells slots) (hx : p.tables.exec = Jvm.exec) (hby : c.code = bc) (hZ : Z.Warmed39 s.vm) (eT : T.heap = h) {a : Addr} {n : Nat} {f : Nat → Value} (A : Ara Z h a .int n f) {j : Int32} {x : Int32} (h0 : 0 ≤ j.toInt) (h1 : j.toInt < n) (hd : decode bc pc = .ok (.iastore, 1)) (hp : pc + 1 = pc') (k : ∀ T' h', Stand p l e R s m args below meth c T' (locs ++ [⟨a, j.toInt.toNat⟩]) cells slots → T'.heap = h' → Wr h h' a j.toInt.toNat (.int x) → Go p e below EF Q m T' pc' Ls rest) : Go p e below EF Q m T pc Ls (.int x :: .int j :: .ref a :: rest) := by
  obtain ⟨cl, A, hs, hn, hf⟩ := A
  exact g_iastore X hx hby hZ eT A (own_in hs h0 h1) hd hp k
theorem a_iaload (X : Stand p l e R s m args below meth c T locs cells slots) (hx : p.tables.exec = Jvm.exec) (hby : c.code = bc) (hZ : Z.Warmed39 s.vm) (eT : T.heap = h) {a : Addr} {n : Nat} {f : Nat → Value} (A : Ara Z h a .int n f) {j : Int32} {v : Value} (h0 : 0 ≤ j.toInt) (h1 : j.toInt < n) (hv : f j.toInt.toNat = v) (hd : decode bc pc = .ok (.iaload, 1)) (hp : pc + 1 = pc') (k : Go p e below EF Q m T pc' Ls (v :: rest)) : Go p e below EF Q m T pc Ls (.int j :: .ref a :: rest) := by
  obtain ⟨cl, A, hs, hn, hf⟩ := A
  exact g_iaload X hx hby hZ eT A (own_in hs h0 h1) (by show cl.slots[j.toInt.toNat]? = some v; rw [hf _ (by omega), hv]) hd hp k
theorem a_arraylength (X : Stand p l e R s m args below meth c T locs cells slots) (hx : p.tables.exec = Jvm.exec) (hby : c.code = bc) (hZ : Z.Warmed39 s.vm) (eT : T.heap = h) {a : Addr} {n : Nat} {f : Nat → Value} {ty : FieldType} (A : Ara Z h a ty n f) {N : Int32} (hN : N.toInt = n) (hd : decode bc pc = .ok (.arraylength, 1)) (hp : pc + 1 = pc') (k : Go p e below EF Q m T pc' Ls (.int N :: rest)) : Go p e below EF Q m T pc Ls (.ref a :: rest) := by
  obtain ⟨cl, A, hs, hn, hf⟩ := A
  exact g_arraylength X hx hby hZ eT A (n := N) (by rw [hs]; show n = N.toInt.toNat; omega) (by rw [Int32.lt_iff_toInt_lt]; show ¬ N.toInt < 0; omega) hd hp k
/-- the array at a takes arrays of ints -/
def Ovi (Z : State) (h : Heap) (a : Addr) : Prop := ∃ cl : Cell, h[a]? = some cl ∧ OvrA Z cl.cls .int "[I"
theorem Ovi.ext {h h' : Heap} {a : Addr} (V : Ovi Z h a) (E : Ext h h') : Ovi Z h' a := by obtain ⟨c, q, r⟩ := V; exact ⟨c, E.2 _ _ q, r⟩
theorem Ovi.wr {h h' : Heap} {a b : Addr} {sl : Nat} {v : Value} (V : Ovi Z h a) (W : Wr h h' b sl v) : Ovi Z h' a := by obtain ⟨c, q, r⟩ := V; obtain ⟨c', q', e, -⟩ := wr_at W q; exact ⟨c', q', e ▸ r⟩
theorem Ovi.keep {h h' : Heap} {a : Addr} {ws : List Addr} (V : Ovi Z h a) (K : Keep h h' ws) : Ovi Z h' a := by obtain ⟨c, q, r⟩ := V; obtain ⟨c', q', e, -⟩ := K.2.2 _ _ q; exact ⟨c', q', e ▸ r⟩
theorem Ara.arv {h : Heap} {a : Addr} {n : Nat} {g : Nat → Int32} (V : Ara Z h a .int n (fun j => .int (g j))) : ∃ (k : ClassId) (z : Int32), z.toInt = n ∧ Arv Z h a k .int z ((List.range n).map fun j => .int (g j)) (.int 0) := by
  obtain ⟨c, A, hs, hn, hf⟩ := V
  refine ⟨c.cls, Int32.ofNat n, own_ofNat hn, c, A, rfl, by rw [hs, own_clamp hn], ?_, fun j hj => ?_, fun j hj => ?_⟩
  · rw [Int32.lt_iff_toInt_lt, own_ofNat hn]; show ¬ ((n : Int) < 0); omega
  · rw [hs] at hj; rw [hf j hj]; simp [List.getD_eq_getElem?_getD, hj]
  · rw [hs] at hj; simp [List.getD_eq_getElem?_getD, hj, fits]
theorem g_static (X : Stand p l e R s m args below meth c T locs cells slots) (hx : p.tables.exec = Jvm.exec) (hby : c.code = bc) (hZ : Z.Warmed39 s.vm) {own : String} (hown : s.vm.findClass own = some m.cls) {i ML : Nat} {y : MethodName} {bytes : ByteArray} {maxL : Nat} {ret : Option FieldType} {rm : Room} {as' : Array Value} {QC : Option Value → Heap → List Loc → Prop} (hml : c.maxLocals = ML) (hls : Ls.size = ML) (w1 : (Jvm.Cond.methodLink own i y).before a0 Z = true) (w2 : (Jvm.Cond.static y).before a0 Z = true) (w3 : (Jvm.Cond.initialized y.cls).before a0 Z = true) (w4 : (Jvm.Cond.code y bytes maxL ret).before a0 Z = true) (hy : y.cls ≠ "java/lang/invoke/MethodHandle" ∧ y.cls ≠ "java/lang/invoke/VarHandle") (eT : T.heap = h) (M : Ct l Z y bytes maxL ret rm as' h QC) {ps : List FieldType} {r : Option FieldType} (pd : parseMethodDescriptor y.desc = some ⟨ps, r⟩) {argsL : List Value} (hl : argsL.length = ps.length) (has : argsL.toArray = as') (hst : st = argsL.reverse ++ rest) (hd : decode bc pc = .ok (.invokestatic i, 3)) (hp : pc + 3 = pc') (hf : rm.frames + 1 ≤ R.frames) (hlo : (rest.map fun v => v.category).sum + (maxL + 11) + rm.locals ≤ R.locals) (hc : cells + rm.cells ≤ R.cells) (hs : slots + rm.slots ≤ R.slots)
    (k : ∀ (T' : State) (v : Option Value) (L : List Loc), Stand p l e R s m args below meth c T' (locs ++ L) (cells + rm.cells) (slots + rm.slots) → QC v T'.heap L → Go p e below EF Q m T' pc' Ls (v.toList ++ rest)) : Go p e below EF Q m T pc Ls st := by
  subst hp has hst
  obtain ⟨v, vm₁, ⟨U, L', c', s'⟩, -, X', ⟨L, hQ, l1, l2, l3⟩, st⟩ := Jvm.LawKit.callS X hx (y := y) hown (mvT hZ w1) (mvT hZ w2) (mvT hZ w3) (mvT hZ w4) hy (backOf (W := (rest.map fun v => v.category).sum) M hZ w4 w3 hf hlo) (g := mkF m pc Ls (argsL.reverse ++ rest)) rfl (by rw [hml]; exact hls) (argsL := argsL) (rest := rest) (lenOf pd hl) rfl (by show 2 * 0 + _ ≤ _; omega) (hb hby hd) (fun _ _ => ⟨rfl, eT, hc, hs⟩)
  dsimp only at X' l1 l2 l3 st hQ
  subst l1 l2 l3
  exact Go.of st (k _ _ _ X' hQ)
theorem g_special (X : Stand p l e R s m args below meth c T locs cells slots) (hx : p.tables.exec = Jvm.exec) (hby : c.code = bc) (hZ : Z.Warmed39 s.vm) {own : String} (hown : s.vm.findClass own = some m.cls) {i ML : Nat} {y : MethodName} {bytes : ByteArray} {maxL : Nat} {ret : Option FieldType} {rm : Room} {as' : Array Value} {QC : Option Value → Heap → List Loc → Prop} (hy1 : y.name = "<init>") (hml : c.maxLocals = ML) (hls : Ls.size = ML) (w1 : (Jvm.Cond.methodLink own i y).before a0 Z = true) (w2 : (Jvm.Cond.instanceMethod y).before a0 Z = true) (w3 : (Jvm.Cond.initialized y.cls).before a0 Z = true) (hrt : ret = none) (w4 : (Jvm.Cond.code y bytes maxL ret).before a0 Z = true) (hy : y.cls ≠ "java/lang/invoke/MethodHandle" ∧ y.cls ≠ "java/lang/invoke/VarHandle") (eT : T.heap = h) (M : Ct l Z y bytes maxL ret rm as' h QC) {ps : List FieldType} {r : Option FieldType} (pd : parseMethodDescriptor y.desc = some ⟨ps, r⟩) {a : Addr} {argsL : List Value} (hl : argsL.length = ps.length) (has : (.ref a :: argsL).toArray = as') (hst : st = argsL.reverse ++ .ref a :: rest) (hd : decode bc pc = .ok (.invokespecial i, 3)) (hp : pc + 3 = pc') (hf : rm.frames + 1 ≤ R.frames) (hlo : (rest.map fun v => v.category).sum + (maxL + 11) + rm.locals ≤ R.locals) (hc : cells + rm.cells ≤ R.cells) (hs : slots + rm.slots ≤ R.slots)
    (k : ∀ (T' : State) (v : Option Value) (L : List Loc), Stand p l e R s m args below meth c T' (locs ++ L) (cells + rm.cells) (slots + rm.slots) → QC v T'.heap L → Go p e below EF Q m T' pc' Ls (v.toList ++ rest)) : Go p e below EF Q m T pc Ls st := by
  subst hp has hst hrt
  obtain ⟨v, vm₁, ⟨U, L', c', s'⟩, -, X', ⟨L, hQ, l1, l2, l3⟩, st⟩ := X.specialBack hx (y := y) hy1 hown (mvT hZ w1) (mvT hZ w2) (mvT hZ w4) hy (backOf (W := (rest.map fun v => v.category).sum) M hZ w4 w3 hf hlo) (g := mkF m pc Ls (argsL.reverse ++ .ref a :: rest)) rfl (by rw [hml]; exact hls) (Steps.refl _) (a := a) (argsL := argsL) (rest := rest) (lenOf pd hl) rfl (by show 2 * 0 + _ ≤ _; omega) (hb hby hd) (fun _ _ => ⟨rfl, eT, hc, hs⟩)
  dsimp only at X' l1 l2 l3 st hQ
  subst l1 l2 l3
  exact Go.of (fun _ q => st.trans q) (k _ _ _ X' hQ)
theorem g_virtual (X : Stand p l e R s m args below meth c T locs cells slots) (hx : p.tables.exec = Jvm.exec) (hby : c.code = bc) (hZ : Z.Warmed39 s.vm) {own : String} (hown : s.vm.findClass own = some m.cls) {i ML : Nat} {y : MethodName} {bytes : ByteArray} {maxL : Nat} {ret : Option FieldType} {rm : Room} {as' : Array Value} {QC : Option Value → Heap → List Loc → Prop} (hml : c.maxLocals = ML) (hls : Ls.size = ML) {C : String} (w1 : (Jvm.Cond.methodLink own i y).before a0 Z = true) (w2 : (Jvm.Cond.declares y).before a0 Z = true) (w5 : (Jvm.Cond.selects C y y).before a0 Z = true) (w6 : (Jvm.Cond.instanceMethod y).before a0 Z = true) (w3 : (Jvm.Cond.initialized y.cls).before a0 Z = true) (w4 : (Jvm.Cond.code y bytes maxL ret).before a0 Z = true) (hy : y.cls ≠ "java/lang/invoke/MethodHandle" ∧ y.cls ≠ "java/lang/invoke/VarHandle") (eT : T.heap = h) (M : Ct l Z y bytes maxL ret rm as' h QC) {ps : List FieldType} {r : Option FieldType} (pd : parseMethodDescriptor y.desc = some ⟨ps, r⟩) {a : Addr} (E : Exa Z h a C) {argsL : List Value} (hl : argsL.length = ps.length) (has : (.ref a :: argsL).toArray = as') (hst : st = argsL.reverse ++ .ref a :: rest) (hd : decode bc pc = .ok (.invokevirtual i, 3)) (hp : pc + 3 = pc') (hf : rm.frames + 1 ≤ R.frames) (hlo : (rest.map fun v => v.category).sum + (maxL + 11) + rm.locals ≤ R.locals) (hc : cells + rm.cells ≤ R.cells) (hs : slots + rm.slots ≤ R.slots)
    (k : ∀ (T' : State) (v : Option Value) (L : List Loc), Stand p l e R s m args below meth c T' (locs ++ L) (cells + rm.cells) (slots + rm.slots) → QC v T'.heap L → Go p e below EF Q m T' pc' Ls (v.toList ++ rest)) : Go p e below EF Q m T pc Ls st := by
  subst hp has hst
  obtain ⟨cB, kB, qa, qb, qc⟩ := isOf hZ eT E
  obtain ⟨v, vm₁, ⟨U, L', c', s'⟩, -, X', ⟨L, hQ, l1, l2, l3⟩, st⟩ := X.virtualBack hx (y := y) (z := y) hown (mvT hZ w1) (mvT hZ w2) (notFace_of_selects (args := #[]) (mvT hZ w5)) (mvT hZ w5) (mvT hZ w6) hy (backOf (W := (rest.map fun v => v.category).sum) M hZ w4 w3 hf hlo) qa qc (g := mkF m pc Ls (argsL.reverse ++ .ref a :: rest)) rfl (by rw [hml]; exact hls) (Steps.refl _) (argsL := argsL) (rest := rest) (lenOf pd hl) rfl (by show 2 * 0 + _ ≤ _; omega) (hb hby hd) (fun _ _ => ⟨rfl, eT, hc, hs⟩)
  dsimp only at X' l1 l2 l3 st hQ
  subst l1 l2 l3
  exact Go.of (fun _ q => st.trans q) (k _ _ _ X' hQ)
theorem g_private (X : Stand p l e R s m args below meth c T locs cells slots) (hx : p.tables.exec = Jvm.exec) (hby : c.code = bc) (hZ : Z.Warmed39 s.vm) {own : String} (hown : s.vm.findClass own = some m.cls) {i ML : Nat} {y : MethodName} {bytes : ByteArray} {maxL : Nat} {ret : Option FieldType} {rm : Room} {as' : Array Value} {QC : Option Value → Heap → List Loc → Prop} (hml : c.maxLocals = ML) (hls : Ls.size = ML) (w1 : (Jvm.Cond.methodLink own i y).before a0 Z = true) (w6 : (Jvm.Cond.instanceMethod y).before a0 Z = true) (w5 : (Jvm.Cond.selects y.cls y y).before a0 Z = true) (w7 : (Jvm.Cond.privateMethod y).before a0 Z = true) (w3 : (Jvm.Cond.initialized y.cls).before a0 Z = true) (w4 : (Jvm.Cond.code y bytes maxL ret).before a0 Z = true) (hy : y.cls ≠ "java/lang/invoke/MethodHandle" ∧ y.cls ≠ "java/lang/invoke/VarHandle") (eT : T.heap = h) (M : Ct l Z y bytes maxL ret rm as' h QC) {ps : List FieldType} {r : Option FieldType} (pd : parseMethodDescriptor y.desc = some ⟨ps, r⟩) {a : Addr} {C : String} (E : Exa Z h a C) {argsL : List Value} (hl : argsL.length = ps.length) (has : (.ref a :: argsL).toArray = as') (hst : st = argsL.reverse ++ .ref a :: rest) (hd : decode bc pc = .ok (.invokevirtual i, 3)) (hp : pc + 3 = pc') (hf : rm.frames + 1 ≤ R.frames) (hlo : (rest.map fun v => v.category).sum + (maxL + 11) + rm.locals ≤ R.locals) (hc : cells + rm.cells ≤ R.cells) (hs : slots + rm.slots ≤ R.slots)
    (k : ∀ (T' : State) (v : Option Value) (L : List Loc), Stand p l e R s m args below meth c T' (locs ++ L) (cells + rm.cells) (slots + rm.slots) → QC v T'.heap L → Go p e below EF Q m T' pc' Ls (v.toList ++ rest)) : Go p e below EF Q m T pc Ls st := by
  subst hp has hst
  obtain ⟨cq, q1, q2⟩ := E.cell
  obtain ⟨v, vm₁, ⟨U, L', c', s'⟩, -, X', ⟨L, hQ, l1, l2, l3⟩, st⟩ := X.privateBack hx (y := y) hown (mvT hZ w1) (mvT hZ w6) (mvT hZ w5) (Cond.privateMethod_at (mvP hZ w7 (args := #[]))) (mvT hZ w4) hy (backOf (W := (rest.map fun v => v.category).sum) M hZ w4 w3 hf hlo) (g := mkF m pc Ls (argsL.reverse ++ .ref a :: rest)) rfl (by rw [hml]; exact hls) (Steps.refl _) (a := a) (by rw [eT]; exact q1) q2 (argsL := argsL) (rest := rest) (lenOf pd hl) rfl (by show 2 * 0 + _ ≤ _; omega) (hb hby hd) (fun _ _ => ⟨rfl, eT, hc, hs⟩)
  dsimp only at X' l1 l2 l3 st hQ
  subst l1 l2 l3
  exact Go.of (fun _ q => st.trans q) (k _ _ _ X' hQ)
theorem own_frReady (X : Stand p l e R s m args below meth c T locs cells slots) (hZ : Z.Warmed39 s.vm) {own : String} (hown : s.vm.findClass own = some m.cls) {i : Nat} {O n d : String} (w : (Jvm.Cond.fieldRef own i O n d).before a0 Z = true) {cf i' : Nat} {k : Class} {f : Field} (h2 : Z.fieldFound? O n d = some (cf, k, i', f)) : T.vm.fieldReady m.cls i cf f := by
  have hZT : Z.Warmed39 T.vm := wtrans hZ X.warmed
  have wT : (Jvm.Cond.fieldRef own i O n d).before a0 (Z.setVm T.vm) = true := Jvm.Cond.fieldRef_warmed39 hZT w
  have hc : (Z.setVm T.vm).vm.findClass own = some m.cls := by
    show T.vm.findClass own = _
    rw [X.warmed.alike.findClass]; exact hown
  obtain ⟨c2, k2, i2, f2, q1, q2⟩ := Jvm.Cond.fieldRef_spec hc wT
  obtain ⟨k', hi, -⟩ := State.fieldFound?_setVm (s := Z) hZT.alike h2
  have e1 := (show (Z.setVm T.vm).fieldFound? O n d = _ from hi).symm.trans q1
  simp only [Option.some.injEq, Prod.mk.injEq] at e1
  obtain ⟨rfl, -, -, rfl⟩ := e1
  exact q2
theorem own_getFR {tb : Tables} [Ours tb] {e : Env} {below : List Frame} {T target : State} {m : MethodId} {c : Code} {g : JFrame} (h : At T m c below) (hx : tb.exec = Jvm.exec) (hg : g.method = m) {i cf : Nat} {f : Field} (hr : T.vm.fieldReady m.cls i cf f) (hst : f.isStatic = false) {a : Addr} {cell : Cell} {v : Value} {rest : List Value} (hc : T.heap[a]? = some cell) (hk : cell.vm ≠ .unknown) (hv : cell.slots[f.slot]? = some v) (hs : g.stack = .ref a :: rest) (hd : decode c.code g.pc = .ok (.getfield i, 3))
    (hrest : Steps tb e below (T.setTop { g with pc := g.pc + 3, stack := v :: rest }) target) : Steps tb e below (T.setTop g) target := by
  subst hg
  jvm_step h [hx, hd, getfield.wp_ready (e := e) (s := T) (f := g) h.top hr hst hs hc hk hv]
  exact hrest
theorem own_initRef {tb : Tables} [Ours tb] {e : Env} {below : List Frame} {T target : State} {m : MethodId} {c : Code} {g : JFrame} (h : At T m c below) (hx : tb.exec = Jvm.exec) (hg : g.method = m) {i : Nat} {obj : MethodId} {kO : Class} {methO : Method} (q4 : namesResolved T.vm m.cls i obj.cls) (q2 : T.vm.methodReady m.cls i obj) (hk : T.vm.classes[obj.cls]? = some kO) (hm : T.vm.method? obj = some methO) (hn : methO.name = "<init>") (hst : methO.isStatic = false) (hab : methO.isAbstract = false) (hfound : lookupSpecial T.vm obj.cls "<init>" methO.desc = .method obj) {a : Addr} {argsL rest : List Value} (hlen : argsL.length = methO.sig.parameters.length) (hs : g.stack = argsL.reverse ++ .ref a :: rest) (hd : decode c.code g.pc = .ok (.invokespecial i, 3))
    (hrest : ∀ acts, Steps tb e below (doInvoke e (T.setTop { g with stack := rest }) acts obj (.ref a :: argsL).toArray).1 target) : Steps tb e below (T.setTop g) target := by
  subst hg
  jvm_step h [hx, hd, invokespecial.wp_init (e := e) (s := T) (k := kO) (meth := methO) (m := obj) (a := a) (args := argsL) (rest := rest) (f := g) h.top q4 q2 hk hm hn hst hab hfound hlen hs]
  exact hrest
theorem own_selP {y z : MethodName} (ws : (Jvm.Cond.selects z.cls z z).before a0 Z = true) (wi : (Jvm.Cond.instanceMethod z).before a0 Z = true) (hyz : y.cls = z.cls) (wp : (Jvm.Cond.privateMethod y).before a0 Z = true) (wy : (Jvm.Cond.instanceMethod y).before a0 Z = true) (hy : y.cls ≠ "java/lang/invoke/MethodHandle" ∧ y.cls ≠ "java/lang/invoke/VarHandle") : (Jvm.Cond.selects y.cls y y).before a0 Z = true := by
  obtain ⟨mz, _, hnz, -⟩ := Jvm.Cond.instanceMethod_spec wi
  obtain ⟨c2, r2, m2, -, -, q3, -, kP, hkP, hkPi⟩ := Jvm.Cond.selects_spec ws
  cases hnz.symm.trans q3
  exact selects_self_of_private (by rw [hyz]; exact findClass_of_methodNamed hnz) hkP hkPi (Jvm.Cond.privateMethod_at wp) wy hy
theorem g_getFR (X : Stand p l e R s m args below meth c T locs cells slots) (hx : p.tables.exec = Jvm.exec) (hby : c.code = bc) (hZ : Z.Warmed39 s.vm) {own : String} (hown : s.vm.findClass own = some m.cls) (eT : T.heap = h) {i : Nat} {O n d : String} {a : Addr} {v : Value} (w : (Jvm.Cond.fieldRef own i O n d).before a0 Z = true) (F : Fld Z h a O n d v) (hd : decode bc pc = .ok (.getfield i, 3)) (hp : pc + 3 = pc') (k : Go p e below EF Q m T pc' Ls (v :: rest)) : Go p e below EF Q m T pc Ls (.ref a :: rest) := by
  subst hp
  obtain ⟨cell, cf, k0, i0, f, h1, h2, h3, h4, -, -, h7⟩ := F
  exact Go.of (fun _ q => own_getFR X.here hx rfl (own_frReady X hZ hown w h2) h3 (by rw [eT]; exact h1) h4 h7 rfl (hb hby hd) q) k
theorem g_putFR (X : Stand p l e R s m args below meth c T locs cells slots) (hx : p.tables.exec = Jvm.exec) (hby : c.code = bc) (hZ : Z.Warmed39 s.vm) {own : String} (hown : s.vm.findClass own = some m.cls) (eT : T.heap = h) {i kk : Nat} {O n d C : String} {a : Addr} {v old : Value} {ty : FieldType} (w : (Jvm.Cond.fieldRef own i O n d).before a0 Z = true) (F : Fld Z h a O n d old) (E : Exa Z h a C) (L : (Jvm.Cond.lays C O n d).before a0 Z = true) (wi : (Jvm.Cond.instantiable C kk).before a0 Z = true) (hty : parseFieldDescriptor d = some ty) (hn : narrow ty v = v) (hf : fits ty v = true) (hd : decode bc pc = .ok (.putfield i, 3)) (hp : pc + 3 = pc') (k : ∀ T' h', Stand p l e R s m args below meth c T' (locs ++ [⟨a, Jvm.RoadKit.slotOf Z O n d⟩]) cells slots → T'.heap = h' → Wr h h' a (Jvm.RoadKit.slotOf Z O n d) v → Go p e below EF Q m T' pc' Ls rest) : Go p e below EF Q m T pc Ls (v :: .ref a :: rest) := by
  subst hp
  obtain ⟨cell, cf, k0, i0, f, h1, h2, h3, h4, h5, -, h7⟩ := F
  have hr := own_frReady X hZ hown w h2
  obtain ⟨cell', kc, e1, e2, e3, -⟩ := E
  cases h1.symm.trans e1
  obtain ⟨c1, k1, cf1, kf1, i1, f1, a1, a2, a3, -, a5, -, a6, -⟩ := Jvm.Cond.lays_spec L
  cases h2.symm.trans a3
  cases e2.symm.trans a1
  obtain ⟨c2, k2, j1, j2, j3, -⟩ := Jvm.Cond.instantiable_spec wi
  cases e2.symm.trans j1
  cases a2.symm.trans j2
  have ht := (State.fieldFound?_type h2 hty).2
  have hfit : Z.fitsSlot cell.cls cell.vm f.slot v = true := by
    have q : Z.slotType? cell.cls cell.vm f.slot = some ty := by
      simp only [State.slotType?, a2, Option.bind_eq_bind, Option.bind_some, j3]
      cases hq : cell.vm <;> first | (rw [hq] at h5; exact Bool.noConfusion h5) | (rw [a6, ht])
    simp [State.fitsSlot, q, hf]
  have hfitT : T.fitsSlot cell.cls cell.vm f.slot v = true := by
    show (Z.setVm T.vm).fitsSlot cell.cls cell.vm f.slot v = true
    rw [State.fitsSlot_setVm (wtrans hZ X.warmed).alike]; exact hfit
  have hlt := (Array.getElem?_eq_some_iff.mp h7).1
  have es : Jvm.RoadKit.slotOf Z O n d = f.slot := by simp [Jvm.RoadKit.slotOf, h2]
  rw [es] at k
  obtain ⟨X', st'⟩ := X.putfieldReady hx hr h3 (Or.inl a5) (by rw [eT]; exact h1) h4 hlt (by rw [ht]; exact hn) hfitT (g := mkF m pc Ls (v :: .ref a :: rest)) rfl rfl (hb hby hd)
  exact Go.of st' (k _ _ X' rfl ⟨cell, h1, h5, hlt, by rw [← eT]; rfl⟩)
theorem g_specialR (X : Stand p l e R s m args below meth c T locs cells slots) (hx : p.tables.exec = Jvm.exec) (hby : c.code = bc) (hZ : Z.Warmed39 s.vm) {own : String} (hown : s.vm.findClass own = some m.cls) {i ML : Nat} {y : MethodName} {bytes : ByteArray} {maxL : Nat} {ret : Option FieldType} {rm : Room} {as' : Array Value} {QC : Option Value → Heap → List Loc → Prop} (hy1 : y.name = "<init>") (hml : c.maxLocals = ML) (hls : Ls.size = ML) (w1 : (Jvm.Cond.methodRef own i y).before a0 Z = true) (w2 : (Jvm.Cond.instanceMethod y).before a0 Z = true) (w3 : (Jvm.Cond.initialized y.cls).before a0 Z = true) (hrt : ret = none) (w4 : (Jvm.Cond.code y bytes maxL ret).before a0 Z = true) (hy : y.cls ≠ "java/lang/invoke/MethodHandle" ∧ y.cls ≠ "java/lang/invoke/VarHandle") (eT : T.heap = h) (M : Ct l Z y bytes maxL ret rm as' h QC) {ps : List FieldType} {r : Option FieldType} (pd : parseMethodDescriptor y.desc = some ⟨ps, r⟩) {a : Addr} {argsL : List Value} (hl : argsL.length = ps.length) (has : (.ref a :: argsL).toArray = as') (hst : st = argsL.reverse ++ .ref a :: rest) (hd : decode bc pc = .ok (.invokespecial i, 3)) (hp : pc + 3 = pc') (hf : rm.frames + 1 ≤ R.frames) (hlo : (rest.map fun v => v.category).sum + (maxL + 11) + rm.locals ≤ R.locals) (hc : cells + rm.cells ≤ R.cells) (hs : slots + rm.slots ≤ R.slots)
    (k : ∀ (T' : State) (v : Option Value) (L : List Loc), Stand p l e R s m args below meth c T' (locs ++ L) (cells + rm.cells) (slots + rm.slots) → QC v T'.heap L → Go p e below EF Q m T' pc' Ls (v.toList ++ rest)) : Go p e below EF Q m T pc Ls st := by
  subst hp has hst hrt
  have hZT : Z.Warmed39 T.vm := wtrans hZ X.warmed
  have i1 : (Jvm.Cond.instanceMethod y).before a0 (Z.setVm T.vm) = true := mv (s := Z.setVm T.vm) hZT w2
  have c1 : (Jvm.Cond.code y bytes maxL none).before a0 (Z.setVm T.vm) = true := mv (s := Z.setVm T.vm) hZT w4
  obtain ⟨obj, methO, hnO, hmO, hstO, habO⟩ := Jvm.Cond.instanceMethod_spec i1
  obtain ⟨methO', cO, hmO', -, -, -, -, -, -, hsigO⟩ := Jvm.Cond.code_spec hnO c1
  cases hmO.symm.trans hmO'
  obtain ⟨kO, hkO, -⟩ := className_of_methodNamed hnO
  obtain ⟨hnm, hdesc⟩ := name_of_methodNamed hnO hmO
  obtain ⟨objZ, _, hnZ, -⟩ := Jvm.Cond.instanceMethod_spec w2
  have r1 := Jvm.Cond.methodRef_warmed39 hZT hnZ hy w1
  have hcu : (Z.setVm T.vm).vm.findClass own = some m.cls := by
    show T.vm.findClass own = _
    rw [X.warmed.alike.findClass]; exact hown
  obtain ⟨m', c', q1, q2, q3, q4⟩ := Jvm.Cond.methodRef_named e hcu r1
  cases (State.methodFound?_of_named hnO hy).symm.trans q1
  cases (findClass_of_methodNamed hnO).symm.trans q3
  have hfound : lookupSpecial (Z.setVm T.vm).vm obj.cls "<init>" methO.desc = .method obj := by rw [hdesc, ← hy1]; exact lookupSpecial_of_named hnO hmO hstO
  obtain ⟨v, ⟨U, L', c'', s'⟩, X', ⟨L, hQ, l1, l2, l3⟩, st⟩ := backOf (len := 3) (W := (rest.map fun v => v.category).sum) M hZ w4 w3 hf hlo m meth c ⟨T, locs, cells, slots⟩ { mkF m pc Ls (argsL.reverse ++ .ref a :: rest) with stack := rest } (.invokespecial i) obj (.ref a :: argsL).toArray X rfl (by rw [hml]; exact hls) (hb hby hd) (by show 2 * 0 + (rest.map fun v => v.category).sum ≤ _; omega) hnO ⟨rfl, eT, hc, hs⟩
  dsimp only at X' l1 l2 l3 st hQ
  subst l1 l2 l3
  have h9 := own_initRef (e := e) X.here hx (g := mkF m pc Ls (argsL.reverse ++ .ref a :: rest)) rfl q4 q2 hkO hmO (by rw [hnm]; exact hy1) hstO habO hfound (lenOf pd hl _ hsigO) rfl (hb hby hd) (fun acts => by rw [doInvoke_state]; exact Steps.refl _)
  exact Go.of (fun _ q => (h9.trans st).trans q) (k _ _ _ X' hQ)
theorem g_cpZ (X : Stand p l e R s m args below meth c T locs cells slots) (hx : p.tables.exec = Jvm.exec) (hby : c.code = bc) (hZ : Z.Warmed39 s.vm) {own : String} (hown : s.vm.findClass own = some m.cls) (eT : T.heap = h) {i ML : Nat} (hml : c.maxLocals = ML) (hls : Ls.size = ML) (w1 : (Jvm.Cond.methodLink own i Jvm.Stand.acN).before a0 Z = true) (w2 : (Jvm.Cond.native Jvm.Stand.acN).before a0 Z = true) (w3 : (Jvm.Cond.static Jvm.Stand.acN).before a0 Z = true) (w4 : (Jvm.Cond.initialized "java/lang/System").before a0 Z = true) {a : Addr} (A : Ara Z h a .int 4 (fun j => .int ((fun _ => (0 : Int32)) j))) {n0 : Nat} (N : Fr n0 locs) (ge : n0 ≤ a) (hd : decode bc pc = .ok (.invokestatic i, 3)) (hp : pc + 3 = pc') (hf : 1 ≤ R.frames) (hlo : (rest.map fun v => v.category).sum + (nativeFrameWords "java/lang/System" "arraycopy" 5 + 11) ≤ R.locals) (kk : ∀ T' h' L, Stand p l e R s m args below meth c T' L cells slots → T'.heap = h' → Fr n0 L → Keep h h' [a] → Ara Z h' a .int 4 (fun j => .int ((fun _ => (0 : Int32)) j)) → Go p e below EF Q m T' pc' Ls rest) : Go p e below EF Q m T pc Ls (.int 3 :: .int 1 :: .ref a :: .int 0 :: .ref a :: rest) := by
  subst hp
  obtain ⟨k1, z1, hz1, V1⟩ := A.arv
  have e0 : (0 : Int32).toNatClampNeg = 0 := rfl
  have e1 : (1 : Int32).toNatClampNeg = 1 := rfl
  have e3 : (3 : Int32).toNatClampNeg = 3 := rfl
  have ez1 : z1.toNatClampNeg = 4 := by show z1.toInt.toNat = 4; omega
  obtain ⟨T', h', L, X', e', N', K', V', st'⟩ := cpA X hx hZ hown w1 w2 w3 w4 eT V1 V1 (us := [.int 0, .int 0, .int 0]) (Or.inl ⟨rfl, rfl⟩) (sp := 0) (dp := 1) (nn := 3) (by decide) (by decide) (by decide) (by rw [e0, e3, ez1]; omega) (by rw [e1, e3, ez1]; omega) (by rw [e0, e3]; rfl) (by rw [e1, e3]; exact Nat.le_of_ble_eq_true rfl) N ge (g := mkF m pc Ls (.int 3 :: .int 1 :: .ref a :: .int 0 :: .ref a :: rest)) rfl (by rw [hml]; exact hls) (rest := rest) rfl (hb hby hd) hf (W := (rest.map fun v => v.category).sum) (by show 2 * 0 + _ ≤ _; omega) hlo
  refine Go.of st' (kk T' h' L X' e' N' K' ?_)
  obtain ⟨cl, A', -, hs, -, hH, -⟩ := V'
  refine ⟨cl, A', by rw [hs, ez1], by decide, fun j hj => ?_⟩
  rw [hH j (by rw [hs, ez1]; exact hj), e1, e3]
  match j, hj with
  | 0, _ => rfl
  | 1, _ => rfl
  | 2, _ => rfl
  | 3, _ => rfl
/-- of the object at a, exactly a C: every field that is laid and whose name isn't in ws holds its default -/
def Unw (Z : State) (a0 : Array Value) (h : Heap) (a : Addr) (C : String) (ws : List String) : Prop := ∀ (O nm d : String) (ty : FieldType), Laid Z a0 C O nm d → nm ∉ ws → parseFieldDescriptor d = some ty → Fld Z h a O nm d (defaultValue ty)
theorem Unw.get {a : Addr} {C O nm d : String} {ws : List String} {ty : FieldType} (U : Unw Z a0 h a C ws) (L : Laid Z a0 C O nm d) (q : nm ∉ ws) (p : parseFieldDescriptor d = some ty) : Fld Z h a O nm d (defaultValue ty) := U O nm d ty L q p
theorem Unw.ext {h' : Heap} {a : Addr} {C : String} {ws : List String} (U : Unw Z a0 h a C ws) (E : Ext h h') : Unw Z a0 h' a C ws := fun O nm d ty L q p => (U O nm d ty L q p).ext E
theorem Unw.other {h' : Heap} {a b : Addr} {C : String} {ws : List String} {sl : Nat} {v : Value} (U : Unw Z a0 h a C ws) (W : Wr h h' b sl v) (hne : a ≠ b) : Unw Z a0 h' a C ws := fun O nm d ty L q p => (U O nm d ty L q p).other W (Or.inl hne)
theorem Unw.keep {h' : Heap} {a : Addr} {C : String} {ws : List String} {zs : List Addr} (U : Unw Z a0 h a C ws) (K : Keep h h' zs) (hz : a ∉ zs) : Unw Z a0 h' a C ws := fun O nm d ty L q p => (U O nm d ty L q p).keep K hz
theorem Unw.put {h' : Heap} {a : Addr} {C O' g d' : String} {ws : List String} {ty' : FieldType} {v : Value} (U : Unw Z a0 h a C ws) (L' : Laid Z a0 C O' g d') (hp' : parseFieldDescriptor d' = some ty') (W : Wr h h' a (Jvm.RoadKit.slotOf Z O' g d') v) : Unw Z a0 h' a C (g :: ws) := fun O nm d ty L q p => (U O nm d ty L (fun z => q (List.mem_cons_of_mem _ z)) p).other W (Or.inr (slot_ne L L' (fun z => q (List.mem_cons.mpr (Or.inl z))) p hp'))
end OwnKit
section OwnLib
/-- b is 1 where P holds, 0 where it doesn't -/
def own_bool (b : Int32) (P : Prop) : Prop := (b = 1 ∧ P) ∨ (b = 0 ∧ ¬ P)
theorem own_bool_01 {b : Int32} {P : Prop} (h : own_bool b P) : b = 0 ∨ b = 1 := h.elim (fun q => Or.inr q.1) (fun q => Or.inl q.1)
theorem own_bool_iff {b : Int32} {P : Prop} (h : own_bool b P) : b = 1 ↔ P := h.elim (fun q => ⟨fun _ => q.2, fun _ => q.1⟩) (fun q => ⟨fun z => absurd (q.1.symm.trans z) (by decide), fun z => absurd z q.2⟩)
theorem own_bool_zero {b : Int32} {P : Prop} (h : own_bool b P) : b = 0 ↔ ¬ P := h.elim (fun q => ⟨fun z => absurd (q.1.symm.trans z) (by decide), fun z => absurd q.2 z⟩) (fun q => ⟨fun _ => q.2, fun _ => q.1⟩)
theorem own_bool_eq {a b : Int32} {P P' : Prop} (h : own_bool a P) (h' : own_bool b P') (i : P ↔ P') : a = b := by
  rcases h with ⟨rfl, q⟩ | ⟨rfl, q⟩ <;> rcases h' with ⟨rfl, q'⟩ | ⟨rfl, q'⟩ <;> first | rfl | exact absurd (i.mp q) q' | exact absurd (i.mpr q') q
theorem own_inc (i : Int32) (h : i.toInt < 2147483647) : (i + 1).toInt = i.toInt + 1 := by
  have a := c_iadd i 1
  have e : (1 : Int32).toInt = 1 := rfl
  rw [e] at a
  have b := rng32 i
  have b' := rng32 (i + 1)
  omega
theorem own_dec (i : Int32) (h : -2147483648 < i.toInt) : (i - 1).toInt = i.toInt - 1 := by
  have a := c_isub i 1
  have e : (1 : Int32).toInt = 1 := rfl
  rw [e] at a
  have b := rng32 i
  have b' := rng32 (i - 1)
  omega
theorem own_add (x y : Int32) (h1 : -2147483648 ≤ x.toInt + y.toInt) (h2 : x.toInt + y.toInt < 2147483648) : (x + y).toInt = x.toInt + y.toInt := by
  have a := c_iadd x y
  have b := rng32 (x + y)
  omega
theorem own_sub (x y : Int32) (h1 : -2147483648 ≤ x.toInt - y.toInt) (h2 : x.toInt - y.toInt < 2147483648) : (x - y).toInt = x.toInt - y.toInt := by
  have a := c_isub x y
  have b := rng32 (x - y)
  omega
/-- (u & 0x7fffffff) % n lies from 0 up to n - 1 -/
theorem own_modr (u n : Int32) (hn : 0 < n.toInt) : 0 ≤ ((u &&& 2147483647) % n).toInt ∧ ((u &&& 2147483647) % n).toInt < n.toInt := by
  have a1 := c_mask u 2147483647 31 (by decide) (by decide)
  have a2 := (c_iremV (u &&& 2147483647) n).1 (by omega) hn
  omega
def QI (h0 : Heap) (P : Int32 → Prop) : Option Value → Heap → List Loc → Prop := fun v h L => (∃ r, v = some (.int r) ∧ P r) ∧ h = h0 ∧ L = []
def QL (h0 : Heap) (P : Int64 → Prop) : Option Value → Heap → List Loc → Prop := fun v h L => (∃ r, v = some (.long r) ∧ P r) ∧ h = h0 ∧ L = []
def QV (h0 : Heap) : Option Value → Heap → List Loc → Prop := fun v h L => v = none ∧ h = h0 ∧ L = []
/-- what the law leaves -/
def Q0 (n0 : Nat) : Option Value → Heap → List Loc → Prop := fun v h L => v = some (.int 1) ∧ Fr n0 L
end OwnLib
def own_fr (c : Int32) : Int32 := if c = 2 then 1 else 0
def own_to (c : Int32) : Int32 := if c = 0 then 1 else 2
def own_id : Nat → Int32 := fun j => Int32.ofNat j
theorem own_i32 (n : Nat) (h : n < 2147483648) : (Int32.ofNat n).toInt = n := by rw [Int32.toInt_ofNat_of_lt (by omega)]
theorem own_idn (u : Int32) (h : 0 ≤ u.toInt) : Int32.ofNat u.toInt.toNat = u := Int32.toInt_inj.mp (by
  have r := rng32 u
  rw [own_i32 _ (by omega)]; omega)
theorem own_idv (u : Int32) (h : 0 ≤ u.toInt) : Value.int (own_id u.toInt.toNat) = Value.int u := congrArg Value.int (own_idn u h)
theorem own_uis (g : Nat → Int32) (k : Nat) (x : Int32) : own_ui g k x k = x := if_pos rfl
theorem own_uin (g : Nat → Int32) {k j : Nat} (x : Int32) (q : j ≠ k) : own_ui g k x j = g j := if_neg q
theorem own_c3 (c : Int32) (h : 0 ≤ c.toInt ∧ c.toInt ≤ 2) : c = 0 ∨ c = 1 ∨ c = 2 := by
  have b : c.toInt = 0 ∨ c.toInt = 1 ∨ c.toInt = 2 := by omega
  rcases b with b | b | b
  · exact Or.inl (Int32.toInt_inj.mp b)
  · exact Or.inr (Or.inl (Int32.toInt_inj.mp b))
  · exact Or.inr (Or.inr (Int32.toInt_inj.mp b))
theorem own_ftb (c : Int32) (h : 0 ≤ c.toInt ∧ c.toInt ≤ 2) : 0 ≤ (own_fr c).toInt ∧ (own_fr c).toInt < (own_to c).toInt ∧ (own_to c).toInt ≤ 2 := by
  rcases own_c3 c h with rfl | rfl | rfl <;> decide
theorem own_code (c : Int32) (h : 0 ≤ c.toInt ∧ c.toInt ≤ 2) : ((own_fr c = 0 ∧ own_to c = 1) ↔ c = 0) ∧ ((own_fr c = 0 ∧ own_to c = 2) ↔ c = 1) ∧ ((own_fr c = 1 ∧ own_to c = 2) ↔ c = 2) := by
  rcases own_c3 c h with rfl | rfl | rfl <;> decide
theorem own_int_lt {a b : Int32} (h : a.toInt < b.toInt) : a ≠ b := fun q => by rw [q] at h; omega
/-- y is the last place below k at which g says n, or -1 -/
def own_prev (g : Nat → Int32) (n : Int32) (k : Nat) (y : Int32) : Prop := -1 ≤ y.toInt ∧ y.toInt < k ∧ (0 ≤ y.toInt → g y.toInt.toNat = n) ∧ ∀ i : Nat, y.toInt < i → i < k → g i ≠ n
theorem own_prev_nil (g : Nat → Int32) (n : Int32) : own_prev g n 0 (-1) := ⟨by decide, by decide, fun q => absurd q (by decide), fun i _ q => absurd q (Nat.not_lt_zero i)⟩
theorem own_prev_self (g : Nat → Int32) (n : Int32) (k : Nat) (y : Int32) (hy : y.toInt = k) : own_prev (own_ui g k n) n (k + 1) y := by
  have e : y.toInt.toNat = k := by omega
  refine ⟨by omega, by omega, fun _ => by rw [e]; exact own_uis _ _ _, fun i h1 h2 => ?_⟩
  exfalso; omega
theorem own_prev_other {g : Nat → Int32} {n : Int32} {k : Nat} {y f : Int32} (h : own_prev g n k y) (hne : f ≠ n) : own_prev (own_ui g k f) n (k + 1) y := by
  obtain ⟨h1, h2, h3, h4⟩ := h
  refine ⟨h1, by omega, fun q => ?_, fun i q1 q2 => ?_⟩
  · rw [own_uin (k := k) (j := y.toInt.toNat) g f (by omega)]; exact h3 q
  · by_cases e : i = k
    · subst e; rw [own_uis]; exact hne
    · rw [own_uin (k := k) (j := i) g f e]; exact h4 i q1 (by omega)
theorem own_prev_stay {g : Nat → Int32} {n : Int32} {j k : Nat} {y f : Int32} (h : own_prev g n j y) (hj : j ≤ k) : own_prev (own_ui g k f) n j y := by
  obtain ⟨h1, h2, h3, h4⟩ := h
  refine ⟨h1, h2, fun q => ?_, fun i q1 q2 => ?_⟩
  · rw [own_uin (k := k) (j := y.toInt.toNat) g f (by omega)]; exact h3 q
  · rw [own_uin (k := k) (j := i) g f (by omega)]; exact h4 i q1 q2
theorem own_prev_pop {g : Nat → Int32} {n : Int32} {k : Nat} {y : Int32} (h : own_prev g n (k + 1) y) (hne : g k ≠ n) : own_prev g n k y := by
  obtain ⟨h1, h2, h3, h4⟩ := h
  have hy : y.toInt ≠ k := fun q => hne (by
    have z := h3 (by omega)
    rw [show y.toInt.toNat = k by omega] at z; exact z)
  exact ⟨h1, by omega, h3, fun i q1 q2 => h4 i q1 (by omega)⟩
theorem own_prev_upd {g lo : Nat → Int32} {k : Nat} {uk uf : Int32} (hlo : ∀ n, n < 3 → own_prev g (Int32.ofNat n) k (lo n)) (hk : uk.toInt = k) (hu : 0 ≤ uf.toInt ∧ uf.toInt < 3) : ∀ n, n < 3 → own_prev (own_ui g k uf) (Int32.ofNat n) (k + 1) (own_ui lo uf.toInt.toNat uk n) := by
  intro n hn
  by_cases e : n = uf.toInt.toNat
  · subst e
    rw [own_idn uf hu.1, own_uis]; exact own_prev_self g uf k uk hk
  · rw [own_uin (k := uf.toInt.toNat) (j := n) lo uk e]
    refine own_prev_other (hlo n hn) (fun q => e ?_)
    have z := congrArg Int32.toInt q
    rw [own_i32 n (by omega)] at z; omega
theorem own_prev_upe {g lo eo : Nat → Int32} {k : Nat} {uf : Int32} (hlo : ∀ n, n < 3 → own_prev g (Int32.ofNat n) k (lo n)) (heo : ∀ j, j < k → own_prev g (g j) j (eo j)) (hu : 0 ≤ uf.toInt ∧ uf.toInt < 3) : ∀ j, j < k + 1 → own_prev (own_ui g k uf) (own_ui g k uf j) j (own_ui eo k (lo uf.toInt.toNat) j) := by
  intro j hj
  by_cases e : j = k
  · subst e
    rw [own_uis g j uf, own_uis eo j _]
    have z := hlo uf.toInt.toNat (by omega)
    rw [own_idn uf hu.1] at z
    exact own_prev_stay z (Nat.le_refl _)
  · rw [own_uin (k := k) (j := j) g uf e, own_uin (k := k) (j := j) eo _ e]
    exact own_prev_stay (heo j (by omega)) (by omega)
theorem own_prev_back {g lo eo : Nat → Int32} {k : Nat} (hlo : ∀ n, n < 3 → own_prev g (Int32.ofNat n) (k + 1) (lo n)) (he : own_prev g (g k) k (eo k)) (hb : 0 ≤ (g k).toInt) : ∀ n, n < 3 → own_prev g (Int32.ofNat n) k (own_ui lo (g k).toInt.toNat (eo k) n) := by
  intro n hn
  by_cases e : n = (g k).toInt.toNat
  · rw [show Int32.ofNat n = g k by rw [e]; exact own_idn _ hb, show own_ui lo (g k).toInt.toNat (eo k) n = eo k by rw [e]; exact own_uis _ _ _]
    exact he
  · rw [own_uin (k := (g k).toInt.toNat) (j := n) lo (eo k) e]
    refine own_prev_pop (hlo n hn) (fun q => e ?_)
    have z := congrArg Int32.toInt q
    rw [own_i32 n (by omega)] at z; omega
def own_inv (k q : Nat) (sc : Int32) (cd fr tt eo ei lo li mi mb : Nat → Int32) : Prop :=
  k ≤ 4 ∧ sc.toInt = 2 * (q : Int) ∧ (∀ j, j < k → (0 ≤ (cd j).toInt ∧ (cd j).toInt ≤ 2) ∧ fr j = own_fr (cd j) ∧ tt j = own_to (cd j)) ∧
  (∀ n, n < 3 → own_prev fr (Int32.ofNat n) k (lo n)) ∧ (∀ j, j < k → own_prev fr (fr j) j (eo j)) ∧
  (∀ n, n < 3 → own_prev tt (Int32.ofNat n) k (li n)) ∧ (∀ j, j < k → own_prev tt (tt j) j (ei j)) ∧
  (∀ n, n < 3 → (mi n).toInt ≤ sc.toInt ∧ (mb n).toInt ≤ sc.toInt)
theorem own_inv_nil (cd fr tt eo ei : Nat → Int32) : own_inv 0 0 0 cd fr tt eo ei (fun _ => (-1 : Int32)) (fun _ => (-1 : Int32)) (fun _ => (0 : Int32)) (fun _ => (0 : Int32)) :=
  ⟨by decide, by decide, fun j q => absurd q (Nat.not_lt_zero j), fun _ _ => own_prev_nil _ _, fun j q => absurd q (Nat.not_lt_zero j), fun _ _ => own_prev_nil _ _, fun j q => absurd q (Nat.not_lt_zero j), fun _ _ => ⟨Int.le_refl _, Int.le_refl _⟩⟩
theorem own_inv_ft {k q : Nat} {sc : Int32} {cd fr tt eo ei lo li mi mb : Nat → Int32} (I : own_inv k q sc cd fr tt eo ei lo li mi mb) (j : Nat) (hj : j < k) : 0 ≤ (fr j).toInt ∧ (fr j).toInt < (tt j).toInt ∧ (tt j).toInt ≤ 2 := by
  obtain ⟨-, -, i3, -⟩ := I
  obtain ⟨b, e1, e2⟩ := i3 j hj
  rw [e1, e2]; exact own_ftb _ b
theorem own_inv_add {k q : Nat} {sc uk uf ut uc : Int32} {cd fr tt eo ei lo li mi mb : Nat → Int32} (I : own_inv k q sc cd fr tt eo ei lo li mi mb) (hk : uk.toInt = k) (hk3 : k ≤ 3) (hc : 0 ≤ uc.toInt ∧ uc.toInt ≤ 2) (hf : uf = own_fr uc) (ht : ut = own_to uc) :
    own_inv (k + 1) q sc (own_ui cd k uc) (own_ui fr k uf) (own_ui tt k ut) (own_ui eo k (lo uf.toInt.toNat)) (own_ui ei k (li ut.toInt.toNat)) (own_ui lo uf.toInt.toNat uk) (own_ui li ut.toInt.toNat uk) mi mb := by
  obtain ⟨i1, i2, i3, i4, i5, i6, i7, i8⟩ := I
  have b := own_ftb uc hc
  rw [← hf, ← ht] at b
  refine ⟨by omega, i2, fun j hj => ?_, own_prev_upd i4 hk ⟨b.1, by omega⟩, own_prev_upe i4 i5 ⟨b.1, by omega⟩, own_prev_upd i6 hk ⟨by omega, by omega⟩, own_prev_upe i6 i7 ⟨by omega, by omega⟩, i8⟩
  by_cases e : j = k
  · subst e; rw [own_uis cd, own_uis fr, own_uis tt]; exact ⟨hc, hf, ht⟩
  · rw [own_uin (k := k) (j := j) cd _ e, own_uin (k := k) (j := j) fr _ e, own_uin (k := k) (j := j) tt _ e]; exact i3 j (by omega)
theorem own_inv_undo {k q : Nat} {sc : Int32} {cd fr tt eo ei lo li mi mb : Nat → Int32} (I : own_inv (k + 1) q sc cd fr tt eo ei lo li mi mb) : own_inv k q sc cd fr tt eo ei (own_ui lo (fr k).toInt.toNat (eo k)) (own_ui li (tt k).toInt.toNat (ei k)) mi mb := by
  have b := own_inv_ft I k (by omega)
  obtain ⟨i1, i2, i3, i4, i5, i6, i7, i8⟩ := I
  exact ⟨by omega, i2, fun j hj => i3 j (by omega), own_prev_back i4 (i5 k (by omega)) b.1, fun j hj => i5 j (by omega), own_prev_back i6 (i7 k (by omega)) (by omega), fun j hj => i7 j (by omega), i8⟩
theorem own_inv_s {k q : Nat} {sc sd : Int32} {cd fr tt eo ei lo li mi mb mj mk : Nat → Int32} (I : own_inv k q sc cd fr tt eo ei lo li mi mb) (hs : sd.toInt = 2 * ((q + 1 : Nat) : Int)) (hm : ∀ n, n < 3 → (mj n).toInt ≤ sd.toInt ∧ (mk n).toInt ≤ sd.toInt) : own_inv k (q + 1) sd cd fr tt eo ei lo li mj mk := by
  obtain ⟨i1, i2, i3, i4, i5, i6, i7, i8⟩ := I
  exact ⟨i1, hs, i3, i4, i5, i6, i7, hm⟩
/-- a path of edges from f to t (0, 1, 2 alone) -/
def own_PRg (f t : Int32) (k : Nat) (fr tt : Nat → Int32) : Prop := (∃ i, i < k ∧ fr i = f ∧ tt i = t) ∨ (f = 0 ∧ t = 2 ∧ (∃ i, i < k ∧ fr i = 0 ∧ tt i = 1) ∧ ∃ j, j < k ∧ fr j = 1 ∧ tt j = 2)
theorem own_PRg_cd {k q : Nat} {sc f t : Int32} {cd fr tt eo ei lo li mi mb : Nat → Int32} (I : own_inv k q sc cd fr tt eo ei lo li mi mb) : own_PRg f t k fr tt ↔ own_PRg f t k (fun j => own_fr (cd j)) (fun j => own_to (cd j)) := by
  obtain ⟨-, -, i3, -⟩ := I
  have key : ∀ a b : Int32, (∃ i, i < k ∧ fr i = a ∧ tt i = b) ↔ ∃ i, i < k ∧ own_fr (cd i) = a ∧ own_to (cd i) = b := fun a b =>
    ⟨fun ⟨i, h1, h2, h3⟩ => ⟨i, h1, (i3 i h1).2.1 ▸ h2, (i3 i h1).2.2 ▸ h3⟩, fun ⟨i, h1, h2, h3⟩ => ⟨i, h1, (i3 i h1).2.1.trans h2, (i3 i h1).2.2.trans h3⟩⟩
  unfold own_PRg
  rw [key f t, key 0 1, key 1 2]
/-- the loop over the edges that leave -/
def own_H1 (uf ut on : Int32) (k : Nat) (fr tt mj : Nat → Int32) (cj ed : Int32) : Prop :=
  (-1 ≤ ed.toInt ∧ ed.toInt < k ∧ (0 ≤ ed.toInt → fr ed.toInt.toNat = uf)) ∧ (∀ i : Nat, ed.toInt < i → i < k → fr i = uf → tt i ≠ ut) ∧ (mj 0 = on → uf.toInt = 0) ∧ (mj 1 = on → uf.toInt = 1 ∨ ∃ i, i < k ∧ fr i = uf ∧ tt i = 1) ∧
  (∀ i : Nat, ed.toInt < i → i < k → fr i = uf → tt i = 1 → mj 1 = on) ∧ (∀ n, n < 3 → (mj n).toInt ≤ on.toInt) ∧ (cj.toInt = 0 ∨ (cj.toInt = 1 ∧ mj 1 = on))
theorem own_H1_start {k q : Nat} {sc uf ut on : Int32} {cd fr tt eo ei lo li mi mb : Nat → Int32} (I : own_inv k q sc cd fr tt eo ei lo li mi mb) (hu : 0 ≤ uf.toInt ∧ uf.toInt < 3) (ho : sc.toInt < on.toInt) : own_H1 uf ut on k fr tt (own_ui mi uf.toInt.toNat on) 0 (lo uf.toInt.toNat) := by
  obtain ⟨i1, i2, i3, i4, i5, i6, i7, i8⟩ := I
  have z := i4 uf.toInt.toNat (by omega)
  rw [own_idn uf hu.1] at z
  obtain ⟨z1, z2, z3, z4⟩ := z
  have low : ∀ n, n < 3 → n ≠ uf.toInt.toNat → own_ui mi uf.toInt.toNat on n ≠ on := fun n hn q => by
    rw [own_uin (k := uf.toInt.toNat) (j := n) mi on q]
    exact own_int_lt (Int.lt_of_le_of_lt (i8 n hn).1 ho)
  refine ⟨⟨z1, z2, z3⟩, fun i q1 q2 q3 => absurd q3 (z4 i q1 q2), fun q => ?_, fun q => Or.inl ?_, fun i q1 q2 q3 => absurd q3 (z4 i q1 q2), fun n hn => ?_, Or.inl rfl⟩
  · have : uf.toInt.toNat = 0 := Decidable.byContradiction fun w => low 0 (by omega) (fun v => w v.symm) q
    omega
  · have : uf.toInt.toNat = 1 := Decidable.byContradiction fun w => low 1 (by omega) (fun v => w v.symm) q
    omega
  · by_cases e : n = uf.toInt.toNat
    · subst e; rw [own_uis]; omega
    · rw [own_uin (k := uf.toInt.toNat) (j := n) mi on e]; have := (i8 n hn).1; omega
theorem own_mark {mb : Nat → Int32} {ut bk : Int32} {b : Int} (hb : ∀ n, n < 3 → (mb n).toInt ≤ b) (hl : b < bk.toInt) (hu : 0 ≤ ut.toInt ∧ ut.toInt ≤ 2) (v : Int32) (hv : 0 ≤ v.toInt ∧ v.toInt ≤ 2) : own_ui mb ut.toInt.toNat bk v.toInt.toNat = bk ↔ v = ut := by
  constructor
  · intro q
    have : v.toInt.toNat = ut.toInt.toNat := Decidable.byContradiction fun w => by
      rw [own_uin (k := ut.toInt.toNat) (j := v.toInt.toNat) mb bk w] at q
      exact own_int_lt (Int.lt_of_le_of_lt (hb _ (by omega)) hl) q
    exact Int32.toInt_inj.mp (by omega)
  · intro q; subst q; exact own_uis _ _ _
theorem own_H1_step {k q : Nat} {sc uf ut on cj ck ed : Int32} {cd fr tt eo ei lo li mi mb mj mk : Nat → Int32} (I : own_inv k q sc cd fr tt eo ei lo li mi mb) (H : own_H1 uf ut on k fr tt mj cj ed) (h0 : 0 ≤ ed.toInt) (hut : 1 ≤ ut.toInt ∧ ut.toInt ≤ 2) (hne : tt ed.toInt.toNat ≠ ut)
    (hc : ((mj (tt ed.toInt.toNat).toInt.toNat = on ∨ ut.toInt ≤ (tt ed.toInt.toNat).toInt) ∧ mk = mj ∧ ck = cj) ∨ (mj (tt ed.toInt.toNat).toInt.toNat ≠ on ∧ (tt ed.toInt.toNat).toInt < ut.toInt ∧ mk = own_ui mj (tt ed.toInt.toNat).toInt.toNat on ∧ ck = cj + 1)) : own_H1 uf ut on k fr tt mk ck (eo ed.toInt.toNat) := by
  obtain ⟨⟨a1, a2, a3⟩, b1, b2, b3, b4, b5, b6⟩ := H
  have hj : ed.toInt.toNat < k := by omega
  have hft := own_inv_ft I _ hj
  obtain ⟨i1, i2, i3, i4, i5, i6, i7, i8⟩ := I
  obtain ⟨p1, p2, p3, p4⟩ := i5 _ hj
  rw [a3 h0] at p3 p4
  have hA : ∀ i : Nat, (eo ed.toInt.toNat).toInt < i → i < k → fr i = uf → (i = ed.toInt.toNat ∨ ed.toInt < i) := fun i q1 q2 q3 => by
    by_cases e : i = ed.toInt.toNat
    · exact Or.inl e
    · by_cases e2 : i < ed.toInt.toNat
      · exact absurd q3 (p4 i q1 e2)
      · exact Or.inr (by omega)
  have hB : ∀ i : Nat, (eo ed.toInt.toNat).toInt < i → i < k → fr i = uf → tt i ≠ ut := fun i q1 q2 q3 => by
    rcases hA i q1 q2 q3 with e | e
    · subst e; exact hne
    · exact b1 i e q2 q3
  rcases hc with ⟨c1, rfl, rfl⟩ | ⟨c0, c1, rfl, rfl⟩
  · refine ⟨⟨p1, by omega, p3⟩, hB, b2, b3, fun i q1 q2 q3 q4 => ?_, b5, b6⟩
    rcases hA i q1 q2 q3 with e | e
    · subst e
      have e1 : (tt ed.toInt.toNat).toInt = 1 := congrArg Int32.toInt q4
      have e2 : ut.toInt ≠ 1 := fun z => hne (Int32.toInt_inj.mp (by omega))
      rcases c1 with c1 | c1
      · rw [show (tt ed.toInt.toNat).toInt.toNat = 1 by omega] at c1; exact c1
      · omega
    · exact b4 i e q2 q3 q4
  · have e1 : (tt ed.toInt.toNat).toInt.toNat = 1 := by omega
    rw [e1] at c0
    rw [e1]
    have ec : cj.toInt = 0 := by
      rcases b6 with z | ⟨-, z⟩
      · exact z
      · exact absurd z c0
    have et : tt ed.toInt.toNat = 1 := Int32.toInt_inj.mp (show _ = (1 : Int) by omega)
    refine ⟨⟨p1, by omega, p3⟩, hB, fun z => b2 ?_, fun _ => Or.inr ⟨_, hj, a3 h0, et⟩, fun i q1 q2 q3 q4 => own_uis _ _ _, fun n hn => ?_, Or.inr ⟨?_, own_uis _ _ _⟩⟩
    · rw [own_uin (k := 1) (j := 0) mj on (by decide)] at z; exact z
    · by_cases e : n = 1
      · subst e; rw [own_uis]; exact Int.le_refl _
      · rw [own_uin (k := 1) (j := n) mj on e]; exact b5 n hn
    · rw [own_inc cj (by omega)]; omega
/-- the loop over the edges that enter -/
def own_H2 (ut on bk : Int32) (k : Nat) (fr tt mj mk : Nat → Int32) (ck ed : Int32) : Prop :=
  (-1 ≤ ed.toInt ∧ ed.toInt < k ∧ (0 ≤ ed.toInt → tt ed.toInt.toNat = ut)) ∧ (∀ i : Nat, ed.toInt < i → i < k → tt i = ut → mj (fr i).toInt.toNat ≠ on) ∧ (∀ n, n < 3 → (mk n).toInt ≤ bk.toInt) ∧ (ck.toInt = 0 ∨ (ck.toInt = 1 ∧ mk 1 = bk ∧ mj 1 ≠ on))
theorem own_H2_start {k q : Nat} {sc ut on bk : Int32} {cd fr tt eo ei lo li mi mb mj : Nat → Int32} (I : own_inv k q sc cd fr tt eo ei lo li mi mb) (hu : 0 ≤ ut.toInt ∧ ut.toInt ≤ 2) (hb : sc.toInt < bk.toInt) : own_H2 ut on bk k fr tt mj (own_ui mb ut.toInt.toNat bk) 0 (li ut.toInt.toNat) := by
  obtain ⟨i1, i2, i3, i4, i5, i6, i7, i8⟩ := I
  have z := i6 ut.toInt.toNat (by omega)
  rw [own_idn ut hu.1] at z
  obtain ⟨z1, z2, z3, z4⟩ := z
  refine ⟨⟨z1, z2, z3⟩, fun i q1 q2 q3 => absurd q3 (z4 i q1 q2), fun n hn => ?_, Or.inl rfl⟩
  by_cases e : n = ut.toInt.toNat
  · subst e; rw [own_uis]; exact Int.le_refl _
  · rw [own_uin (k := ut.toInt.toNat) (j := n) mb bk e]; have := (i8 n hn).2; omega
theorem own_H2_step {k q : Nat} {sc uf ut on bk ck cl ed : Int32} {cd fr tt eo ei lo li mi mb mj mk mn : Nat → Int32} (I : own_inv k q sc cd fr tt eo ei lo li mi mb) (H : own_H2 ut on bk k fr tt mj mk ck ed) (h0 : 0 ≤ ed.toInt) (huf : 0 ≤ uf.toInt) (hno : mj (fr ed.toInt.toNat).toInt.toNat ≠ on)
    (hc : (mn = mk ∧ cl = ck) ∨ (mk (fr ed.toInt.toNat).toInt.toNat ≠ bk ∧ uf.toInt < (fr ed.toInt.toNat).toInt ∧ mn = own_ui mk (fr ed.toInt.toNat).toInt.toNat bk ∧ cl = ck + 1)) : own_H2 ut on bk k fr tt mj mn cl (ei ed.toInt.toNat) := by
  obtain ⟨⟨a1, a2, a3⟩, b1, b2, b3⟩ := H
  have hj : ed.toInt.toNat < k := by omega
  have hft := own_inv_ft I _ hj
  obtain ⟨i1, i2, i3, i4, i5, i6, i7, i8⟩ := I
  obtain ⟨p1, p2, p3, p4⟩ := i7 _ hj
  rw [a3 h0] at p3 p4
  have hB : ∀ i : Nat, (ei ed.toInt.toNat).toInt < i → i < k → tt i = ut → mj (fr i).toInt.toNat ≠ on := fun i q1 q2 q3 => by
    by_cases e : i = ed.toInt.toNat
    · subst e; exact hno
    · by_cases e2 : i < ed.toInt.toNat
      · exact absurd q3 (p4 i q1 e2)
      · exact b1 i (by omega) q2 q3
  rcases hc with ⟨rfl, rfl⟩ | ⟨c0, c1, rfl, rfl⟩
  · exact ⟨⟨p1, by omega, p3⟩, hB, b2, b3⟩
  · have e1 : (fr ed.toInt.toNat).toInt.toNat = 1 := by omega
    rw [e1] at c0 hno
    rw [e1]
    have ec : ck.toInt = 0 := by
      rcases b3 with z | ⟨-, z, -⟩
      · exact z
      · exact absurd z c0
    refine ⟨⟨p1, by omega, p3⟩, hB, fun n hn => ?_, Or.inr ⟨?_, own_uis _ _ _, hno⟩⟩
    · by_cases e : n = 1
      · subst e; rw [own_uis]; exact Int.le_refl _
      · rw [own_uin (k := 1) (j := n) mk bk e]; exact b2 n hn
    · rw [own_inc ck (by omega)]; omega
theorem own_ret2 {k q : Nat} {sc uf ut on cj ea ed : Int32} {cd fr tt eo ei lo li mi mb mj : Nat → Int32} (I : own_inv k q sc cd fr tt eo ei lo li mi mb) (H : own_H1 uf ut on k fr tt mj cj ea) (h0 : 0 ≤ ed.toInt ∧ ed.toInt < k) (ht : tt ed.toInt.toNat = ut) (hm : mj (fr ed.toInt.toNat).toInt.toNat = on) : own_PRg uf ut k fr tt := by
  obtain ⟨-, -, b2, b3, -, -, -⟩ := H
  have hj : ed.toInt.toNat < k := by omega
  have hft := own_inv_ft I _ hj
  rcases (show (fr ed.toInt.toNat).toInt.toNat = 0 ∨ (fr ed.toInt.toNat).toInt.toNat = 1 by omega) with e | e
  · rw [e] at hm
    exact Or.inl ⟨_, hj, Int32.toInt_inj.mp (by have := b2 hm; omega), ht⟩
  · rw [e] at hm
    rcases b3 hm with z | ⟨i, z1, z2, z3⟩
    · exact Or.inl ⟨_, hj, Int32.toInt_inj.mp (by omega), ht⟩
    · have f2 := own_inv_ft I i z1
      have y1 : (tt i).toInt = 1 := congrArg Int32.toInt z3
      have y2 : (fr i).toInt = uf.toInt := congrArg Int32.toInt z2
      have y3 : (tt ed.toInt.toNat).toInt = ut.toInt := congrArg Int32.toInt ht
      have e0 : uf = 0 := Int32.toInt_inj.mp (show _ = (0 : Int) by omega)
      have e2 : ut = 2 := Int32.toInt_inj.mp (show _ = (2 : Int) by omega)
      have e3 : fr ed.toInt.toNat = 1 := Int32.toInt_inj.mp (show _ = (1 : Int) by omega)
      exact Or.inr ⟨e0, e2, ⟨i, z1, z2.trans e0, z3⟩, ⟨_, hj, e3, ht.trans e2⟩⟩
theorem own_ret0 {k : Nat} {uf ut on bk cj ck ea eb : Int32} {fr tt mj mk : Nat → Int32} (H : own_H1 uf ut on k fr tt mj cj ea) (G : own_H2 ut on bk k fr tt mj mk ck eb) (ha : ea.toInt < 0) (hb : eb.toInt < 0) : ¬ own_PRg uf ut k fr tt := by
  obtain ⟨-, b1, b2, b3, b4, -, -⟩ := H
  obtain ⟨-, g1, -, -⟩ := G
  rintro (⟨i, h1, h2, h3⟩ | ⟨rfl, rfl, ⟨i, h1, h2, h3⟩, j, h4, h5, h6⟩)
  · exact b1 i (by omega) h1 h2 h3
  · have z := g1 j (by omega) h4 h6
    rw [h5] at z
    exact z (b4 i (by omega) h1 h2 h3)
def own_kp (c a0' a1' a2' m' : Int32) : Prop := (0 < m'.toInt ∧ a0' = c) ∨ (1 < m'.toInt ∧ a1' = c) ∨ (2 < m'.toInt ∧ a2' = c)
theorem own_x01 {cd : Nat → Int32} {k : Nat} (hb : ∀ j, j < k → 0 ≤ (cd j).toInt ∧ (cd j).toInt ≤ 2) : own_PRg 0 1 k (fun j => own_fr (cd j)) (fun j => own_to (cd j)) ↔ ∃ j, j < k ∧ cd j = 0 := by
  constructor
  · rintro (⟨i, h1, h2, h3⟩ | ⟨-, h, -⟩)
    · exact ⟨i, h1, (own_code _ (hb i h1)).1.mp ⟨h2, h3⟩⟩
    · exact absurd h (by decide)
  · rintro ⟨i, h1, h2⟩
    exact Or.inl ⟨i, h1, (own_code _ (hb i h1)).1.mpr h2⟩
theorem own_x12 {cd : Nat → Int32} {k : Nat} (hb : ∀ j, j < k → 0 ≤ (cd j).toInt ∧ (cd j).toInt ≤ 2) : own_PRg 1 2 k (fun j => own_fr (cd j)) (fun j => own_to (cd j)) ↔ ∃ j, j < k ∧ cd j = 2 := by
  constructor
  · rintro (⟨i, h1, h2, h3⟩ | ⟨h, -⟩)
    · exact ⟨i, h1, (own_code _ (hb i h1)).2.2.mp ⟨h2, h3⟩⟩
    · exact absurd h (by decide)
  · rintro ⟨i, h1, h2⟩
    exact Or.inl ⟨i, h1, (own_code _ (hb i h1)).2.2.mpr h2⟩
theorem own_x02 {cd : Nat → Int32} {k : Nat} (hb : ∀ j, j < k → 0 ≤ (cd j).toInt ∧ (cd j).toInt ≤ 2) : own_PRg 0 2 k (fun j => own_fr (cd j)) (fun j => own_to (cd j)) ↔ (∃ j, j < k ∧ cd j = 1) ∨ ((∃ j, j < k ∧ cd j = 0) ∧ ∃ j, j < k ∧ cd j = 2) := by
  constructor
  · rintro (⟨i, h1, h2, h3⟩ | ⟨-, -, ⟨i, h1, h2, h3⟩, j, h4, h5, h6⟩)
    · exact Or.inl ⟨i, h1, (own_code _ (hb i h1)).2.1.mp ⟨h2, h3⟩⟩
    · exact Or.inr ⟨⟨i, h1, (own_code _ (hb i h1)).1.mp ⟨h2, h3⟩⟩, ⟨j, h4, (own_code _ (hb j h4)).2.2.mp ⟨h5, h6⟩⟩⟩
  · rintro (⟨i, h1, h2⟩ | ⟨⟨i, h1, h2⟩, j, h3, h4⟩)
    · exact Or.inl ⟨i, h1, (own_code _ (hb i h1)).2.1.mpr h2⟩
    · exact Or.inr ⟨rfl, rfl, ⟨i, h1, (own_code _ (hb i h1)).1.mpr h2⟩, ⟨j, h3, (own_code _ (hb j h3)).2.2.mpr h4⟩⟩
theorem own_k3 {g : Nat → Int32} {ua ub uc um c : Int32} (hm : 0 ≤ um.toInt ∧ um.toInt ≤ 3) : (∃ j, j < um.toInt.toNat ∧ own_ui (own_ui (own_ui g (0 : Int32).toInt.toNat ua) (1 : Int32).toInt.toNat ub) (2 : Int32).toInt.toNat uc j = c) ↔ own_kp c ua ub uc um := by
  have e0 : (0 : Int32).toInt.toNat = 0 := rfl
  have e1 : (1 : Int32).toInt.toNat = 1 := rfl
  have e2 : (2 : Int32).toInt.toNat = 2 := rfl
  rw [e0, e1, e2]
  constructor
  · rintro ⟨j, h1, h2⟩
    rcases (show j = 0 ∨ j = 1 ∨ j = 2 by omega) with rfl | rfl | rfl
    · exact Or.inl ⟨by omega, h2⟩
    · exact Or.inr (Or.inl ⟨by omega, h2⟩)
    · exact Or.inr (Or.inr ⟨by omega, h2⟩)
  · rintro (⟨h1, h2⟩ | ⟨h1, h2⟩ | ⟨h1, h2⟩)
    · exact ⟨0, by omega, h2⟩
    · exact ⟨1, by omega, h2⟩
    · exact ⟨2, by omega, h2⟩
theorem own_k4 {g : Nat → Int32} {um un uc c : Int32} {P : Prop} (hn : un.toInt = um.toInt + 1) (h0 : 0 ≤ um.toInt) (h : (∃ j, j < um.toInt.toNat ∧ g j = c) ↔ P) : (∃ j, j < un.toInt.toNat ∧ own_ui g um.toInt.toNat uc j = c) ↔ P ∨ uc = c := by
  rw [← h]
  constructor
  · rintro ⟨j, h1, h2⟩
    by_cases e : j = um.toInt.toNat
    · subst e; rw [own_uis] at h2; exact Or.inr h2
    · rw [own_uin (k := um.toInt.toNat) (j := j) g uc e] at h2; exact Or.inl ⟨j, by omega, h2⟩
  · rintro (⟨j, h1, h2⟩ | h2)
    · exact ⟨j, by omega, by rw [own_uin (k := um.toInt.toNat) (j := j) g uc (by omega)]; exact h2⟩
    · exact ⟨um.toInt.toNat, by omega, by rw [own_uis]; exact h2⟩
theorem own_mod3 (u y : Int32) (h : y = ((u &&& (2147483647 : Int32)) % (3 : Int32))) : 0 ≤ y.toInt ∧ y.toInt ≤ 2 := by
  have a := own_modr u 3 (by decide)
  have e : (3 : Int32).toInt = 3 := rfl
  rw [← h] at a; omega
theorem own_mod4 (u y : Int32) (h : y = ((u &&& (2147483647 : Int32)) % (4 : Int32))) : 0 ≤ y.toInt ∧ y.toInt ≤ 3 := by
  have a := own_modr u 4 (by decide)
  have e : (4 : Int32).toInt = 4 := rfl
  rw [← h] at a; omega
def DOL (Z : State) (n0 : Nat) (h : Heap) (o : Addr) (q : Nat) (uk : Int32) (cd : Nat → Int32) : Prop := ∃ (sc cp cb : Int32) (fr tt eo ei lo li mi mb pn pq : Nat → Int32) (xa xb xc xd pe xn pb xm fo fi pl yo yi ym yb : Addr), own_inv uk.toInt.toNat q sc cd fr tt eo ei lo li mi mb ∧ 0 ≤ uk.toInt ∧ n0 ≤ o ∧ o < xa ∧ xa < xb ∧ xb < xc ∧ xc < xd ∧ xd < pe ∧ pe < xn ∧ xn < pb ∧ pb < xm ∧ xm < fo ∧ fo < fi ∧ fi < pl ∧ pl < yo ∧ yo < yi ∧ yi < ym ∧ ym < yb ∧ Exa Z h o "com/example/isolens/isolens/checker/DynamicOrder" ∧ Exa Z h pe "com/example/isolens/isolens/checker/DynamicOrder$Found" ∧ Exa Z h pb "com/example/isolens/isolens/checker/DynamicOrder$Found" ∧ Fld Z h o "com/example/isolens/isolens/checker/DynamicOrder" "addedFrom" "[I" (.ref xa) ∧ Fld Z h o "com/example/isolens/isolens/checker/DynamicOrder" "addedTo" "[I" (.ref xb) ∧ Fld Z h o "com/example/isolens/isolens/checker/DynamicOrder" "earlierOut" "[I" (.ref xc) ∧ Fld Z h o "com/example/isolens/isolens/checker/DynamicOrder" "earlierIn" "[I" (.ref xd) ∧ Fld Z h o "com/example/isolens/isolens/checker/DynamicOrder" "pending" "Lcom/example/isolens/isolens/checker/DynamicOrder$Found;" (.ref pe) ∧ Fld Z h o "com/example/isolens/isolens/checker/DynamicOrder" "pendingBack" "Lcom/example/isolens/isolens/checker/DynamicOrder$Found;" (.ref pb) ∧ Fld Z h o "com/example/isolens/isolens/checker/DynamicOrder" "firstOut" "[I" (.ref fo) ∧ Fld Z h o "com/example/isolens/isolens/checker/DynamicOrder" "firstIn" "[I" (.ref fi) ∧ Fld Z h o "com/example/isolens/isolens/checker/DynamicOrder" "place" "[I" (.ref pl) ∧ Fld Z h o "com/example/isolens/isolens/checker/DynamicOrder" "latestOut" "[I" (.ref yo) ∧ Fld Z h o "com/example/isolens/isolens/checker/DynamicOrder" "latestIn" "[I" (.ref yi) ∧ Fld Z h o "com/example/isolens/isolens/checker/DynamicOrder" "metIn" "[I" (.ref ym) ∧ Fld Z h o "com/example/isolens/isolens/checker/DynamicOrder" "metBack" "[I" (.ref yb) ∧ Fld Z h o "com/example/isolens/isolens/checker/DynamicOrder" "added" "I" (.int uk) ∧ Fld Z h o "com/example/isolens/isolens/checker/DynamicOrder" "searches" "I" (.int sc) ∧ Fld Z h pe "com/example/isolens/isolens/checker/DynamicOrder$Found" "count" "I" (.int cp) ∧ Fld Z h pe "com/example/isolens/isolens/checker/DynamicOrder$Found" "nodes" "[I" (.ref xn) ∧ Fld Z h pb "com/example/isolens/isolens/checker/DynamicOrder$Found" "count" "I" (.int cb) ∧ Fld Z h pb "com/example/isolens/isolens/checker/DynamicOrder$Found" "nodes" "[I" (.ref xm) ∧ Ara Z h xa .int 16 (fun jz => .int (fr jz)) ∧ Ara Z h xb .int 16 (fun jz => .int (tt jz)) ∧ Ara Z h xc .int 16 (fun jz => .int (eo jz)) ∧ Ara Z h xd .int 16 (fun jz => .int (ei jz)) ∧ Ara Z h xn .int 16 (fun jz => .int (pn jz)) ∧ Ara Z h xm .int 16 (fun jz => .int (pq jz)) ∧ Ara Z h fo .int 4 (fun jz => .int ((fun _ => (0 : Int32)) jz)) ∧ Ara Z h fi .int 4 (fun jz => .int ((fun _ => (0 : Int32)) jz)) ∧ Ara Z h pl .int 3 (fun jz => .int (own_id jz)) ∧ Ara Z h yo .int 3 (fun jz => .int (lo jz)) ∧ Ara Z h yi .int 3 (fun jz => .int (li jz)) ∧ Ara Z h ym .int 3 (fun jz => .int (mi jz)) ∧ Ara Z h yb .int 3 (fun jz => .int (mb jz))
theorem own_D_exa {Z : State} {n0 q : Nat} {h : Heap} {o : Addr} {uk : Int32} {cd : Nat → Int32} (D : DOL Z n0 h o q uk cd) : Exa Z h o "com/example/isolens/isolens/checker/DynamicOrder" := by
  obtain ⟨sc, cp, cb, fr, tt, eo, ei, lo, li, mi, mb, pn, pq, xa, xb, xc, xd, pe, xn, pb, xm, fo, fi, pl, yo, yi, ym, yb, I, hk0, g_o, k1, k2, k3, k4, k5, k6, k7, k8, k9, k10, k11, k12, k13, k14, k15, E_o, E_pe, E_pb, F_o_addedFrom, F_o_addedTo, F_o_earlierOut, F_o_earlierIn, F_o_pending, F_o_pendingBack, F_o_firstOut, F_o_firstIn, F_o_place, F_o_latestOut, F_o_latestIn, F_o_metIn, F_o_metBack, F_o_added, F_o_searches, F_pe_count, F_pe_nodes, F_pb_count, F_pb_nodes, A_xa, A_xb, A_xc, A_xd, A_xn, A_xm, A_fo, A_fi, A_pl, A_yo, A_yi, A_ym, A_yb⟩ := D
  exact E_o
theorem own_D_added {Z : State} {n0 q : Nat} {h : Heap} {o : Addr} {uk : Int32} {cd : Nat → Int32} (D : DOL Z n0 h o q uk cd) : Fld Z h o "com/example/isolens/isolens/checker/DynamicOrder" "added" "I" (.int uk) := by
  obtain ⟨sc, cp, cb, fr, tt, eo, ei, lo, li, mi, mb, pn, pq, xa, xb, xc, xd, pe, xn, pb, xm, fo, fi, pl, yo, yi, ym, yb, I, hk0, g_o, k1, k2, k3, k4, k5, k6, k7, k8, k9, k10, k11, k12, k13, k14, k15, E_o, E_pe, E_pb, F_o_addedFrom, F_o_addedTo, F_o_earlierOut, F_o_earlierIn, F_o_pending, F_o_pendingBack, F_o_firstOut, F_o_firstIn, F_o_place, F_o_latestOut, F_o_latestIn, F_o_metIn, F_o_metBack, F_o_added, F_o_searches, F_pe_count, F_pe_nodes, F_pb_count, F_pb_nodes, A_xa, A_xb, A_xc, A_xd, A_xn, A_xm, A_fo, A_fi, A_pl, A_yo, A_yi, A_ym, A_yb⟩ := D
  exact F_o_added
theorem own_D_sz {Z : State} {n0 q : Nat} {h : Heap} {o : Addr} {uk : Int32} {cd : Nat → Int32} (D : DOL Z n0 h o q uk cd) : n0 ≤ h.size := by
  obtain ⟨sc, cp, cb, fr, tt, eo, ei, lo, li, mi, mb, pn, pq, xa, xb, xc, xd, pe, xn, pb, xm, fo, fi, pl, yo, yi, ym, yb, I, hk0, g_o, k1, k2, k3, k4, k5, k6, k7, k8, k9, k10, k11, k12, k13, k14, k15, E_o, E_pe, E_pb, F_o_addedFrom, F_o_addedTo, F_o_earlierOut, F_o_earlierIn, F_o_pending, F_o_pendingBack, F_o_firstOut, F_o_firstIn, F_o_place, F_o_latestOut, F_o_latestIn, F_o_metIn, F_o_metBack, F_o_added, F_o_searches, F_pe_count, F_pe_nodes, F_pb_count, F_pb_nodes, A_xa, A_xb, A_xc, A_xd, A_xn, A_xm, A_fo, A_fi, A_pl, A_yo, A_yi, A_ym, A_yb⟩ := D
  exact Nat.le_trans g_o (Nat.le_of_lt E_o.lt)
theorem own_D_cd {Z : State} {n0 q : Nat} {h : Heap} {o : Addr} {uk : Int32} {cd : Nat → Int32} (D : DOL Z n0 h o q uk cd) : ∀ j, j < uk.toInt.toNat → 0 ≤ (cd j).toInt ∧ (cd j).toInt ≤ 2 := by
  obtain ⟨sc, cp, cb, fr, tt, eo, ei, lo, li, mi, mb, pn, pq, xa, xb, xc, xd, pe, xn, pb, xm, fo, fi, pl, yo, yi, ym, yb, I, hk0, g_o, k1, k2, k3, k4, k5, k6, k7, k8, k9, k10, k11, k12, k13, k14, k15, E_o, E_pe, E_pb, F_o_addedFrom, F_o_addedTo, F_o_earlierOut, F_o_earlierIn, F_o_pending, F_o_pendingBack, F_o_firstOut, F_o_firstIn, F_o_place, F_o_latestOut, F_o_latestIn, F_o_metIn, F_o_metBack, F_o_added, F_o_searches, F_pe_count, F_pe_nodes, F_pb_count, F_pb_nodes, A_xa, A_xb, A_xc, A_xd, A_xn, A_xm, A_fo, A_fi, A_pl, A_yo, A_yi, A_ym, A_yb⟩ := D
  exact fun j hj => (I.2.2.1 j hj).1
theorem own_bool_nz {b : Int32} {P : Prop} (h : own_bool b P) (q : ¬ b = 0) : P := h.elim (fun z => z.2) (fun z => absurd z.1 q)
theorem own_bool_z {b : Int32} {P : Prop} (h : own_bool b P) (q : b = 0) : ¬ P := h.elim (fun z => absurd (z.1.symm.trans q) (by decide)) (fun z => z.2)
def QK (h0 : Heap) (z : Int32) : Option Value → Heap → List Loc → Prop := fun v h L => v = some (.int z) ∧ h = h0 ∧ L = []
def QFi (Z : State) (n0 : Nat) (h0 : Heap) (o : Addr) : Option Value → Heap → List Loc → Prop := fun v h L => v = none ∧ Fr n0 L ∧ ∃ xn, h0.size ≤ xn ∧ Exa Z h o "com/example/isolens/isolens/checker/DynamicOrder$Found" ∧ Fld Z h o "com/example/isolens/isolens/checker/DynamicOrder$Found" "count" "I" (.int 0) ∧ Fld Z h o "com/example/isolens/isolens/checker/DynamicOrder$Found" "nodes" "[I" (.ref xn) ∧ Ara Z h xn .int 16 (fun jz => .int ((fun _ => (0 : Int32)) jz)) ∧ Keep h0 h [o]
def QBw (Z : State) (n0 : Nat) (h0 : Heap) (o : Addr) : Option Value → Heap → List Loc → Prop := fun v h L => v = none ∧ Fr n0 L ∧ Exa Z h o "java/util/BitSet" ∧ Fld Z h o "java/util/BitSet" "sizeIsSticky" "Z" (.int 0) ∧ Keep h0 h [o]
def QKp (n0 : Nat) (h0 : Heap) (o : Addr) : Option Value → Heap → List Loc → Prop := fun v h L => v = none ∧ Fr n0 L ∧ Keep h0 h [o]
def QOE (Z : State) (n0 : Nat) (h0 : Heap) (fi : Addr) : Option Value → Heap → List Loc → Prop := fun v h L => ∃ b, v = some (.ref b) ∧ Fr n0 L ∧ Ara Z h fi .int 4 (fun jz => .int ((fun _ => (0 : Int32)) jz)) ∧ Keep h0 h [fi]
def QFl (Z : State) (n0 : Nat) (h0 : Heap) (ar : Addr) : Option Value → Heap → List Loc → Prop := fun v h L => v = none ∧ Fr n0 L ∧ Ara Z h ar .int 3 (fun jz => .int ((fun _ => (-1 : Int32)) jz)) ∧ Keep h0 h [ar]
def QDn (Z : State) (n0 : Nat) (o : Addr) (q : Nat) (uk : Int32) (cd : Nat → Int32) : Option Value → Heap → List Loc → Prop := fun v h L => v = none ∧ Fr n0 L ∧ DOL Z n0 h o q uk cd
def QD1 (Z : State) (n0 : Nat) (o : Addr) (q : Nat) (uk : Int32) (cd : Nat → Int32) : Option Value → Heap → List Loc → Prop := fun v h L => v = some (.int 1) ∧ Fr n0 L ∧ DOL Z n0 h o q uk cd
def QDr (Z : State) (n0 : Nat) (o : Addr) (q : Nat) (uk : Int32) (cd : Nat → Int32) (P : Prop) : Option Value → Heap → List Loc → Prop := fun v h L => ∃ r, v = some (.int r) ∧ own_bool r P ∧ Fr n0 L ∧ DOL Z n0 h o q uk cd
def QNs (Z : State) (n0 : Nat) (h0 : Heap) (o : Addr) (sc : Int32) : Option Value → Heap → List Loc → Prop := fun v h L => ∃ r, v = some (.int r) ∧ r.toInt = sc.toInt + 1 ∧ Fr n0 L ∧ Wr h0 h o (Jvm.RoadKit.slotOf Z "com/example/isolens/isolens/checker/DynamicOrder" "searches" "I") (.int r)
def QFa (Z : State) (n0 : Nat) (h0 : Heap) (o xn : Addr) (cn uv : Int32) (g : Nat → Int32) : Option Value → Heap → List Loc → Prop := fun v h L => v = none ∧ Fr n0 L ∧ Fld Z h o "com/example/isolens/isolens/checker/DynamicOrder$Found" "count" "I" (.int (cn + 1)) ∧ Fld Z h o "com/example/isolens/isolens/checker/DynamicOrder$Found" "nodes" "[I" (.ref xn) ∧ Ara Z h xn .int 16 (fun jz => .int (own_ui g cn.toInt.toNat uv jz)) ∧ Keep h0 h [o, xn]
def QMt (Z : State) (n0 : Nat) (h0 : Heap) (ob xn ya : Addr) (uv cp : Int32) (mi : Nat → Int32) (A1 A2 A3 : Prop) (on : Int32) : Option Value → Heap → List Loc → Prop := fun v h L => ∃ (r : Int32) (mj pj : Nat → Int32) (cj : Int32), v = some (.int r) ∧ Fr n0 L ∧ Fld Z h ob "com/example/isolens/isolens/checker/DynamicOrder$Found" "count" "I" (.int cj) ∧ Fld Z h ob "com/example/isolens/isolens/checker/DynamicOrder$Found" "nodes" "[I" (.ref xn) ∧ Ara Z h ya .int 3 (fun jz => .int (mj jz)) ∧ Ara Z h xn .int 16 (fun jz => .int (pj jz)) ∧ Keep h0 h [ya, ob, xn] ∧ ((r = 1 ∧ A1 ∧ mj = mi ∧ cj = cp) ∨ (r = 0 ∧ ¬ A1 ∧ ((A2 ∧ mj = mi ∧ cj = cp) ∨ (A3 ∧ mj = own_ui mi uv.toInt.toNat on ∧ cj = cp + 1))))
theorem ef_3_rm_fi (m : MethodId) (o : Addr) : entryFrame m #[(.ref o)] 1 = mkF m 0 #[.val (.ref o)] [] := by first | (simp [entryFrame, mkF, argsToLocals, Value.category]; done) | rfl
theorem pn_3 : plainName "com/example/isolens/isolens/checker/DynamicOrder$Found" = true := by first | (simp [plainName, overriddenIn]; done) | decide +kernel
theorem d3_0 : decode prog_18_method_1_code 0 = .ok (.aload_n 0, 1) := by decide +kernel
theorem d3_1 : decode prog_18_method_1_code 1 = .ok (.invokespecial 1, 3) := by decide +kernel
theorem d3_4 : decode prog_18_method_1_code 4 = .ok (.aload_n 0, 1) := by decide +kernel
theorem d3_5 : decode prog_18_method_1_code 5 = .ok (.bipush 16, 2) := by decide +kernel
theorem d3_7 : decode prog_18_method_1_code 7 = .ok (.newarray .int, 2) := by decide +kernel
theorem d3_9 : decode prog_18_method_1_code 9 = .ok (.putfield 7, 3) := by decide +kernel
theorem sn_0 {a0 : Array Value} {Z : State} (hw : ∀ d ∈ tables_1, d.before a0 Z = true) : Jvm.RoadKit.slotOf Z "com/example/isolens/isolens/checker/DynamicOrder$Found" "count" "I" ≠ Jvm.RoadKit.slotOf Z "com/example/isolens/isolens/checker/DynamicOrder$Found" "nodes" "[I" := slot_ne (Or.inl (hw _ (List.mem_of_getElem? (i := 149) rfl))) (Or.inl (hw _ (List.mem_of_getElem? (i := 27) rfl))) (by decide) (t := .int) (t' := (.array .int)) (by decide) (by decide)
theorem d3_12 : decode prog_18_method_1_code 12 = .ok (.return_, 1) := by decide +kernel
set_option maxRecDepth 65536 in
set_option maxHeartbeats 40000000 in
theorem rm_fi (l : Launch) (Z : State) (a0 : Array Value) (hw : ∀ d ∈ tables_1, d.before a0 Z = true) (o : Addr) (n0 : Nat) (h0 : Heap) (Z0 : n0 ≤ h0.size) (g_o : n0 ≤ o) (E_o : Exa Z h0 o "com/example/isolens/isolens/checker/DynamicOrder$Found") (F_c : Fld Z h0 o "com/example/isolens/isolens/checker/DynamicOrder$Found" "count" "I" (.int 0)) (F_n : Fld Z h0 o "com/example/isolens/isolens/checker/DynamicOrder$Found" "nodes" "[I" .null) :
    Ct l Z (⟨"com/example/isolens/isolens/checker/DynamicOrder$Found", "<init>", "()V"⟩ : MethodName) prog_18_method_1_code 1 none ({ frames := 1, cells := 1, slots := 16, locals := 12 } : Room) #[(.ref o)] h0 (QFi Z n0 h0 o) := by
  refine own_met (plainFor_of_name pn_3) (fun m => ef_3_rm_fi m o) ?_
  intro p e s m below meth c T0 EF X0 hx hby hml hown hnm hret hlk hZ hF e0
  have N0 := Fr.nil n0
  refine g_aloadN X0 hx hby d3_0 (pc' := 1) rfl rfl rfl ?_
  refine g_initO X0 hx hby hZ hown e0 (hw _ (List.mem_of_getElem? (i := 25) rfl)) (hw _ (List.mem_of_getElem? (i := 9) rfl)) (hw _ (List.mem_of_getElem? (i := 10) rfl)) hml rfl d3_1 (pc' := 4) rfl (by decide) (Nat.le_of_ble_eq_true rfl) (fun Tp1 Xp1 ep1 => ?_)
  refine g_aloadN Xp1 hx hby d3_4 (pc' := 5) rfl rfl rfl ?_
  refine g_bipush Xp1 hx hby d3_5 (pc' := 7) rfl (n := (16 : Int32)) (by first | rfl | decide) ?_
  refine g_newA Xp1 hx hby hZ ep1 (N := 16) (hw _ (List.mem_of_getElem? (i := 4) rfl)) d3_7 (pc' := 9) rfl rfl (cap := 16) (Nat.le_refl _) (by decide) (by decide) (by decide) (fun T1 h1 xn g1 X1 e1 E1 A_xn => ?_)
  have lne2 : o < xn := by rw [g1]; exact E_o.lt
  have ne2 : o ≠ xn := Nat.ne_of_lt lne2
  have g3 : n0 ≤ xn := by rw [g1]; exact Z0
  have o4 : h0.size ≤ xn := by rw [g1]; exact (Keep.refl h0 [o]).1
  replace E_o := E_o.ext E1
  replace F_c := F_c.ext E1
  replace F_n := F_n.ext E1
  have Z5 : n0 ≤ h1.size := Nat.le_trans Z0 E1.1
  have K6 := (Keep.refl h0 [o]).ext E1
  replace X1 : Stand p l e ({ frames := 1, cells := 1, slots := 16, locals := 12 } : Room) s m _ below meth c T1 _ 1 16 := X1
  replace A_xn : Ara Z h1 xn .int 16 (fun jz => .int ((fun _ => (0 : Int32)) jz)) := A_xn
  refine g_putF X1 hx hby hZ hown e1 (hw _ (List.mem_of_getElem? (i := 26) rfl)) F_n E_o (Or.inl (hw _ (List.mem_of_getElem? (i := 27) rfl))) (hw _ (List.mem_of_getElem? (i := 20) rfl)) (ty := (.array .int)) (by decide) rfl rfl d3_9 (pc' := 12) rfl (fun T7 h7 X7 e7 W7 => ?_)
  replace E_o := E_o.wr W7
  replace F_c := F_c.other W7 (Or.inr (sn_0 hw))
  replace F_n := F_n.same W7
  replace A_xn := A_xn.other W7 (Ne.symm ne2)
  have Z8 : n0 ≤ h7.size := by rw [W7.size]; exact Z5
  have K9 := K6.wr W7 (Or.inl (List.mem_of_getElem? (i := 0) rfl))
  have N10 := Fr.snoc X7 N0 g_o
  exact g_retV X7 hx hby hF (Nat.zero_le _) hlk hret d3_12 (by decide) (by decide) (by rw [e7]; exact ⟨rfl, N10, xn, o4, E_o, F_c, F_n, A_xn, K9⟩)
theorem ef_6_rm_wi (m : MethodId)  : entryFrame m #[(.int (63 : Int32))] 1 = mkF m 0 #[.val (.int (63 : Int32))] [] := by first | (simp [entryFrame, mkF, argsToLocals, Value.category]; done) | rfl
theorem pn_6 : plainName "java/util/BitSet" = true := by first | (simp [plainName, overriddenIn]; done) | decide +kernel
theorem d6_0 : decode jdk_92_method_1_code 0 = .ok (.iload_n 0, 1) := by decide +kernel
theorem d6_1 : decode jdk_92_method_1_code 1 = .ok (.bipush 6, 2) := by decide +kernel
theorem d6_3 : decode jdk_92_method_1_code 3 = .ok (.ishr, 1) := by decide +kernel
theorem d6_4 : decode jdk_92_method_1_code 4 = .ok (.ireturn, 1) := by decide +kernel
set_option maxRecDepth 65536 in
set_option maxHeartbeats 40000000 in
theorem rm_wi (l : Launch) (Z : State) (a0 : Array Value) (hw : ∀ d ∈ tables_1, d.before a0 Z = true)  (h0 : Heap)  :
    Ct l Z (⟨"java/util/BitSet", "wordIndex", "(I)I"⟩ : MethodName) jdk_92_method_1_code 1 (some .int) ({ frames := 0, cells := 0, slots := 0, locals := 0 } : Room) #[(.int (63 : Int32))] h0 (QK h0 0) := by
  refine own_met (plainFor_of_name pn_6) (fun m => ef_6_rm_wi m ) ?_
  intro p e s m below meth c T0 EF X0 hx hby hml hown hnm hret hlk hZ hF e0
  refine g_iloadN X0 hx hby d6_0 (pc' := 1) rfl rfl ?_
  refine g_bipush X0 hx hby d6_1 (pc' := 3) rfl (n := (6 : Int32)) (by first | rfl | decide) ?_
  refine g_ishr X0 hx hby d6_3 (pc' := 4) rfl ?_
  show Go p e below EF (QK h0 0) m T0 4 #[.val (.int (63 : Int32))] [(.int (0 : Int32))]
  exact g_retI X0 hx hby hF (Nat.zero_le _) hlk hret d6_4 (by decide) (by decide) (⟨rfl, e0, rfl⟩)
theorem ef_5_rm_iw (m : MethodId) (o : Addr) : entryFrame m #[(.ref o), (.int (64 : Int32))] 2 = mkF m 0 #[.val (.ref o), .val (.int (64 : Int32))] [] := by first | (simp [entryFrame, mkF, argsToLocals, Value.category]; done) | rfl
theorem pn_5 : plainName "java/util/BitSet" = true := by first | (simp [plainName, overriddenIn]; done) | decide +kernel
theorem d5_0 : decode jdk_92_method_6_code 0 = .ok (.aload_n 0, 1) := by decide +kernel
theorem d5_1 : decode jdk_92_method_6_code 1 = .ok (.iload_n 1, 1) := by decide +kernel
theorem d5_2 : decode jdk_92_method_6_code 2 = .ok (.iconst 1, 1) := by decide +kernel
theorem d5_3 : decode jdk_92_method_6_code 3 = .ok (.isub, 1) := by decide +kernel
theorem d5_4 : decode jdk_92_method_6_code 4 = .ok (.invokestatic 52, 3) := by decide +kernel
theorem pd__I_I_227 : parseMethodDescriptor "(I)I" = some ⟨[.int], some .int⟩ := by decide +kernel
theorem d5_7 : decode jdk_92_method_6_code 7 = .ok (.iconst 1, 1) := by decide +kernel
theorem d5_8 : decode jdk_92_method_6_code 8 = .ok (.iadd, 1) := by decide +kernel
theorem d5_9 : decode jdk_92_method_6_code 9 = .ok (.newarray .long, 2) := by decide +kernel
theorem d5_11 : decode jdk_92_method_6_code 11 = .ok (.putfield 11, 3) := by decide +kernel
theorem sn_1 {a0 : Array Value} {Z : State} (hw : ∀ d ∈ tables_1, d.before a0 Z = true) : Jvm.RoadKit.slotOf Z "java/util/BitSet" "sizeIsSticky" "Z" ≠ Jvm.RoadKit.slotOf Z "java/util/BitSet" "words" "[J" := slot_ne (Or.inl (hw _ (List.mem_of_getElem? (i := 54) rfl))) (Or.inl (hw _ (List.mem_of_getElem? (i := 65) rfl))) (by decide) (t := .boolean) (t' := (.array .long)) (by decide) (by decide)
theorem d5_14 : decode jdk_92_method_6_code 14 = .ok (.return_, 1) := by decide +kernel
set_option maxRecDepth 65536 in
set_option maxHeartbeats 40000000 in
theorem rm_iw (l : Launch) (Z : State) (a0 : Array Value) (hw : ∀ d ∈ tables_1, d.before a0 Z = true) (o : Addr) (n0 : Nat) (h0 : Heap) (Z0 : n0 ≤ h0.size) (g_o : n0 ≤ o) (E_o : Exa Z h0 o "java/util/BitSet") (F_w : Fld Z h0 o "java/util/BitSet" "words" "[J" .null) (F_s : Fld Z h0 o "java/util/BitSet" "sizeIsSticky" "Z" (.int 0)) :
    Ct l Z (⟨"java/util/BitSet", "initWords", "(I)V"⟩ : MethodName) jdk_92_method_6_code 2 none ({ frames := 1, cells := 1, slots := 1, locals := 14 } : Room) #[(.ref o), (.int (64 : Int32))] h0 (QBw Z n0 h0 o) := by
  refine own_met (plainFor_of_name pn_5) (fun m => ef_5_rm_iw m o) ?_
  intro p e s m below meth c T0 EF X0 hx hby hml hown hnm hret hlk hZ hF e0
  have N0 := Fr.nil n0
  refine g_aloadN X0 hx hby d5_0 (pc' := 1) rfl rfl rfl ?_
  refine g_iloadN X0 hx hby d5_1 (pc' := 2) rfl rfl ?_
  refine g_iconst X0 hx hby d5_2 (pc' := 3) rfl (n := (1 : Int32)) (by first | rfl | decide) ?_
  refine g_isub X0 hx hby d5_3 (pc' := 4) rfl ?_
  show Go p e below EF (QBw Z n0 h0 o) m T0 4 #[.val (.ref o), .val (.int (64 : Int32))] [(.int (63 : Int32)), (.ref o)]
  refine g_static X0 hx hby hZ hown hml rfl (hw _ (List.mem_of_getElem? (i := 60) rfl)) (hw _ (List.mem_of_getElem? (i := 61) rfl)) (hw _ (List.mem_of_getElem? (i := 46) rfl)) (hw _ (List.mem_of_getElem? (i := 62) rfl)) (by decide) e0 (rm_wi l Z a0 hw h0) pd__I_I_227 (argsL := [(.int (63 : Int32))]) (rest := [(.ref o)]) rfl rfl rfl d5_4 (pc' := 7) rfl (by decide) (Nat.le_of_ble_eq_true rfl) (by decide) (by decide) ?_
  intro Tp4 vp4 Lp4 Xp4 qp4
  obtain ⟨rfl, ep4, rfl⟩ := qp4
  rw [List.append_nil] at Xp4
  replace Xp4 : Stand p l e ({ frames := 1, cells := 1, slots := 1, locals := 14 } : Room) s m _ below meth c Tp4 _ 0 0 := Xp4
  show Go p e below EF (QBw Z n0 h0 o) m Tp4 7 #[.val (.ref o), .val (.int (64 : Int32))] [(.int (0 : Int32)), (.ref o)]
  refine g_iconst Xp4 hx hby d5_7 (pc' := 8) rfl (n := (1 : Int32)) (by first | rfl | decide) ?_
  refine g_iadd Xp4 hx hby d5_8 (pc' := 9) rfl ?_
  show Go p e below EF (QBw Z n0 h0 o) m Tp4 9 #[.val (.ref o), .val (.int (64 : Int32))] [(.int (1 : Int32)), (.ref o)]
  refine g_newA Xp4 hx hby hZ ep4 (N := 1) (hw _ (List.mem_of_getElem? (i := 63) rfl)) d5_9 (pc' := 11) rfl rfl (cap := 1) (Nat.le_refl _) (by decide) (by decide) (by decide) (fun T1 h1 xw g1 X1 e1 E1 A_xw => ?_)
  have lne2 : o < xw := by rw [g1]; exact E_o.lt
  have ne2 : o ≠ xw := Nat.ne_of_lt lne2
  have g3 : n0 ≤ xw := by rw [g1]; exact Z0
  have o4 : h0.size ≤ xw := by rw [g1]; exact (Keep.refl h0 [o]).1
  replace E_o := E_o.ext E1
  replace F_w := F_w.ext E1
  replace F_s := F_s.ext E1
  have Z5 : n0 ≤ h1.size := Nat.le_trans Z0 E1.1
  have K6 := (Keep.refl h0 [o]).ext E1
  replace X1 : Stand p l e ({ frames := 1, cells := 1, slots := 1, locals := 14 } : Room) s m _ below meth c T1 _ 1 1 := X1
  replace A_xw : Ara Z h1 xw .long 1 (fun jz => .long ((fun _ => (0 : Int64)) jz)) := A_xw
  refine g_putF X1 hx hby hZ hown e1 (hw _ (List.mem_of_getElem? (i := 64) rfl)) F_w E_o (Or.inl (hw _ (List.mem_of_getElem? (i := 65) rfl))) (hw _ (List.mem_of_getElem? (i := 45) rfl)) (ty := (.array .long)) (by decide) rfl rfl d5_11 (pc' := 14) rfl (fun T7 h7 X7 e7 W7 => ?_)
  replace E_o := E_o.wr W7
  replace F_w := F_w.same W7
  replace F_s := F_s.other W7 (Or.inr (sn_1 hw))
  replace A_xw := A_xw.other W7 (Ne.symm ne2)
  have Z8 : n0 ≤ h7.size := by rw [W7.size]; exact Z5
  have K9 := K6.wr W7 (Or.inl (List.mem_of_getElem? (i := 0) rfl))
  have N10 := Fr.snoc X7 N0 g_o
  exact g_retV X7 hx hby hF (Nat.zero_le _) hlk hret d5_14 (by decide) (by decide) (by rw [e7]; exact ⟨rfl, N10, E_o, F_s, K9⟩)
theorem ef_4_rm_bs (m : MethodId) (o : Addr) : entryFrame m #[(.ref o)] 1 = mkF m 0 #[.val (.ref o)] [] := by first | (simp [entryFrame, mkF, argsToLocals, Value.category]; done) | rfl
theorem pn_4 : plainName "java/util/BitSet" = true := by first | (simp [plainName, overriddenIn]; done) | decide +kernel
theorem d4_0 : decode jdk_92_method_4_code 0 = .ok (.aload_n 0, 1) := by decide +kernel
theorem d4_1 : decode jdk_92_method_4_code 1 = .ok (.invokespecial 21, 3) := by decide +kernel
theorem d4_4 : decode jdk_92_method_4_code 4 = .ok (.aload_n 0, 1) := by decide +kernel
theorem d4_5 : decode jdk_92_method_4_code 5 = .ok (.iconst 0, 1) := by decide +kernel
theorem d4_6 : decode jdk_92_method_4_code 6 = .ok (.putfield 7, 3) := by decide +kernel
theorem sn_2 {a0 : Array Value} {Z : State} (hw : ∀ d ∈ tables_1, d.before a0 Z = true) : Jvm.RoadKit.slotOf Z "java/util/BitSet" "sizeIsSticky" "Z" ≠ Jvm.RoadKit.slotOf Z "java/util/BitSet" "wordsInUse" "I" := slot_ne (Or.inl (hw _ (List.mem_of_getElem? (i := 54) rfl))) (Or.inl (hw _ (List.mem_of_getElem? (i := 52) rfl))) (by decide) (t := .boolean) (t' := .int) (by decide) (by decide)
theorem sn_3 {a0 : Array Value} {Z : State} (hw : ∀ d ∈ tables_1, d.before a0 Z = true) : Jvm.RoadKit.slotOf Z "java/util/BitSet" "words" "[J" ≠ Jvm.RoadKit.slotOf Z "java/util/BitSet" "wordsInUse" "I" := slot_ne (Or.inl (hw _ (List.mem_of_getElem? (i := 65) rfl))) (Or.inl (hw _ (List.mem_of_getElem? (i := 52) rfl))) (by decide) (t := (.array .long)) (t' := .int) (by decide) (by decide)
theorem d4_9 : decode jdk_92_method_4_code 9 = .ok (.aload_n 0, 1) := by decide +kernel
theorem d4_10 : decode jdk_92_method_4_code 10 = .ok (.iconst 0, 1) := by decide +kernel
theorem d4_11 : decode jdk_92_method_4_code 11 = .ok (.putfield 24, 3) := by decide +kernel
theorem sn_4 {a0 : Array Value} {Z : State} (hw : ∀ d ∈ tables_1, d.before a0 Z = true) : Jvm.RoadKit.slotOf Z "java/util/BitSet" "wordsInUse" "I" ≠ Jvm.RoadKit.slotOf Z "java/util/BitSet" "sizeIsSticky" "Z" := slot_ne (Or.inl (hw _ (List.mem_of_getElem? (i := 52) rfl))) (Or.inl (hw _ (List.mem_of_getElem? (i := 54) rfl))) (by decide) (t := .int) (t' := .boolean) (by decide) (by decide)
theorem sn_5 {a0 : Array Value} {Z : State} (hw : ∀ d ∈ tables_1, d.before a0 Z = true) : Jvm.RoadKit.slotOf Z "java/util/BitSet" "words" "[J" ≠ Jvm.RoadKit.slotOf Z "java/util/BitSet" "sizeIsSticky" "Z" := slot_ne (Or.inl (hw _ (List.mem_of_getElem? (i := 65) rfl))) (Or.inl (hw _ (List.mem_of_getElem? (i := 54) rfl))) (by decide) (t := (.array .long)) (t' := .boolean) (by decide) (by decide)
theorem d4_14 : decode jdk_92_method_4_code 14 = .ok (.aload_n 0, 1) := by decide +kernel
theorem d4_15 : decode jdk_92_method_4_code 15 = .ok (.bipush 64, 2) := by decide +kernel
theorem d4_17 : decode jdk_92_method_4_code 17 = .ok (.invokevirtual 27, 3) := by decide +kernel
theorem pd__I_V_240 : parseMethodDescriptor "(I)V" = some ⟨[.int], none⟩ := by decide +kernel
theorem d4_20 : decode jdk_92_method_4_code 20 = .ok (.aload_n 0, 1) := by decide +kernel
theorem d4_21 : decode jdk_92_method_4_code 21 = .ok (.iconst 0, 1) := by decide +kernel
theorem d4_22 : decode jdk_92_method_4_code 22 = .ok (.putfield 24, 3) := by decide +kernel
theorem d4_25 : decode jdk_92_method_4_code 25 = .ok (.return_, 1) := by decide +kernel
set_option maxRecDepth 65536 in
set_option maxHeartbeats 40000000 in
theorem rm_bs (l : Launch) (Z : State) (a0 : Array Value) (hw : ∀ d ∈ tables_1, d.before a0 Z = true) (o : Addr) (n0 : Nat) (h0 : Heap) (Z0 : n0 ≤ h0.size) (g_o : n0 ≤ o) (E_o : Exa Z h0 o "java/util/BitSet") (F_u : Fld Z h0 o "java/util/BitSet" "wordsInUse" "I" (.int 0)) (F_s : Fld Z h0 o "java/util/BitSet" "sizeIsSticky" "Z" (.int 0)) (F_w : Fld Z h0 o "java/util/BitSet" "words" "[J" .null) :
    Ct l Z (⟨"java/util/BitSet", "<init>", "()V"⟩ : MethodName) jdk_92_method_4_code 1 none ({ frames := 2, cells := 1, slots := 1, locals := 30 } : Room) #[(.ref o)] h0 (QKp n0 h0 o) := by
  refine own_met (plainFor_of_name pn_4) (fun m => ef_4_rm_bs m o) ?_
  intro p e s m below meth c T0 EF X0 hx hby hml hown hnm hret hlk hZ hF e0
  have N0 := Fr.nil n0
  refine g_aloadN X0 hx hby d4_0 (pc' := 1) rfl rfl rfl ?_
  refine g_initO X0 hx hby hZ hown e0 (hw _ (List.mem_of_getElem? (i := 50) rfl)) (hw _ (List.mem_of_getElem? (i := 9) rfl)) (hw _ (List.mem_of_getElem? (i := 10) rfl)) hml rfl d4_1 (pc' := 4) rfl (by decide) (Nat.le_of_ble_eq_true rfl) (fun Tp1 Xp1 ep1 => ?_)
  refine g_aloadN Xp1 hx hby d4_4 (pc' := 5) rfl rfl rfl ?_
  refine g_iconst Xp1 hx hby d4_5 (pc' := 6) rfl (n := (0 : Int32)) (by first | rfl | decide) ?_
  refine g_putF Xp1 hx hby hZ hown ep1 (hw _ (List.mem_of_getElem? (i := 51) rfl)) F_u E_o (Or.inl (hw _ (List.mem_of_getElem? (i := 52) rfl))) (hw _ (List.mem_of_getElem? (i := 45) rfl)) (ty := .int) (by decide) rfl rfl d4_6 (pc' := 9) rfl (fun T1 h1 X1 e1 W1 => ?_)
  replace E_o := E_o.wr W1
  replace F_u := F_u.same W1
  replace F_s := F_s.other W1 (Or.inr (sn_2 hw))
  replace F_w := F_w.other W1 (Or.inr (sn_3 hw))
  have Z2 : n0 ≤ h1.size := by rw [W1.size]; exact Z0
  have K3 := (Keep.refl h0 [o]).wr W1 (Or.inl (List.mem_of_getElem? (i := 0) rfl))
  have N4 := Fr.snoc X1 N0 g_o
  refine g_aloadN X1 hx hby d4_9 (pc' := 10) rfl rfl rfl ?_
  refine g_iconst X1 hx hby d4_10 (pc' := 11) rfl (n := (0 : Int32)) (by first | rfl | decide) ?_
  refine g_putF X1 hx hby hZ hown e1 (hw _ (List.mem_of_getElem? (i := 53) rfl)) F_s E_o (Or.inl (hw _ (List.mem_of_getElem? (i := 54) rfl))) (hw _ (List.mem_of_getElem? (i := 45) rfl)) (ty := .boolean) (by decide) rfl rfl d4_11 (pc' := 14) rfl (fun T5 h5 X5 e5 W5 => ?_)
  replace E_o := E_o.wr W5
  replace F_u := F_u.other W5 (Or.inr (sn_4 hw))
  replace F_s := F_s.same W5
  replace F_w := F_w.other W5 (Or.inr (sn_5 hw))
  have Z6 : n0 ≤ h5.size := by rw [W5.size]; exact Z2
  have K7 := K3.wr W5 (Or.inl (List.mem_of_getElem? (i := 0) rfl))
  have N8 := Fr.snoc X5 N4 g_o
  refine g_aloadN X5 hx hby d4_14 (pc' := 15) rfl rfl rfl ?_
  refine g_bipush X5 hx hby d4_15 (pc' := 17) rfl (n := (64 : Int32)) (by first | rfl | decide) ?_
  refine g_private X5 hx hby hZ hown hml rfl (hw _ (List.mem_of_getElem? (i := 55) rfl)) (hw _ (List.mem_of_getElem? (i := 56) rfl)) (hw _ (List.mem_of_getElem? (i := 58) rfl)) (hw _ (List.mem_of_getElem? (i := 57) rfl)) (hw _ (List.mem_of_getElem? (i := 46) rfl)) (hw _ (List.mem_of_getElem? (i := 59) rfl)) (by decide) e5 (rm_iw l Z a0 hw o n0 h5 Z6 g_o E_o F_w F_s) pd__I_V_240 E_o (argsL := [(.int (64 : Int32))]) (rest := []) rfl rfl rfl d4_17 (pc' := 20) rfl (by decide) (Nat.le_of_ble_eq_true rfl) (by decide) (by decide) ?_
  intro Tp17 vp17 Lp17 Xp17 qp17
  obtain ⟨rfl, Nqp17, Eqp17, Fqp17, Kqp17⟩ := qp17
  replace Xp17 : Stand p l e ({ frames := 2, cells := 1, slots := 1, locals := 30 } : Room) s m _ below meth c Tp17 _ 1 1 := Xp17
  replace E_o := E_o.keep Kqp17
  have Z9 : n0 ≤ Tp17.heap.size := Nat.le_trans Z6 Kqp17.1
  have K10 := K7.trans Kqp17 (allS (Or.inl (List.mem_of_getElem? (i := 0) rfl)) all0)
  have Np17 := Fr.app N8 Nqp17
  show Go p e below EF (QKp n0 h0 o) m Tp17 20 #[.val (.ref o)] []
  refine g_aloadN Xp17 hx hby d4_20 (pc' := 21) rfl rfl rfl ?_
  refine g_iconst Xp17 hx hby d4_21 (pc' := 22) rfl (n := (0 : Int32)) (by first | rfl | decide) ?_
  refine g_putF Xp17 hx hby hZ hown rfl (hw _ (List.mem_of_getElem? (i := 53) rfl)) Fqp17 Eqp17 (Or.inl (hw _ (List.mem_of_getElem? (i := 54) rfl))) (hw _ (List.mem_of_getElem? (i := 45) rfl)) (ty := .boolean) (by decide) rfl rfl d4_22 (pc' := 25) rfl (fun T11 h11 X11 e11 W11 => ?_)
  replace Eqp17 := Eqp17.wr W11
  replace Fqp17 := Fqp17.same W11
  have Z12 : n0 ≤ h11.size := by rw [W11.size]; exact Z9
  have K13 := K10.wr W11 (Or.inl (List.mem_of_getElem? (i := 0) rfl))
  have N14 := Fr.snoc X11 Np17 g_o
  exact g_retV X11 hx hby hF (Nat.zero_le _) hlk hret d4_25 (by decide) (by decide) (by rw [e11]; exact ⟨rfl, N14, K13⟩)
theorem ef_8_rm_pl (m : MethodId) (sa : Addr) (fi : Addr) : entryFrame m #[(.ref sa), (.int (0 : Int32)), (.ref fi)] 6 = mkF m 0 #[.val (.ref sa), .val (.int (0 : Int32)), .val (.ref fi), .unset, .unset, .unset] [] := by first | (simp [entryFrame, mkF, argsToLocals, Value.category]; done) | rfl
theorem pn_8 : plainName "com/example/isolens/isolens/checker/EdgeLists" = true := by first | (simp [plainName, overriddenIn]; done) | decide +kernel
theorem d8_0 : decode prog_22_method_2_code 0 = .ok (.aload_n 2, 1) := by decide +kernel
theorem d8_1 : decode prog_22_method_2_code 1 = .ok (.arraylength, 1) := by decide +kernel
theorem d8_2 : decode prog_22_method_2_code 2 = .ok (.iconst 1, 1) := by decide +kernel
theorem d8_3 : decode prog_22_method_2_code 3 = .ok (.isub, 1) := by decide +kernel
theorem d8_4 : decode prog_22_method_2_code 4 = .ok (.istore_n 3, 1) := by decide +kernel
theorem d8_5 : decode prog_22_method_2_code 5 = .ok (.iconst 0, 1) := by decide +kernel
theorem d8_6 : decode prog_22_method_2_code 6 = .ok (.istore 4, 2) := by decide +kernel
theorem d8_8 : decode prog_22_method_2_code 8 = .ok (.iload 4, 2) := by decide +kernel
theorem d8_10 : decode prog_22_method_2_code 10 = .ok (.iload_n 1, 1) := by decide +kernel
theorem d8_11 : decode prog_22_method_2_code 11 = .ok (.if_icmp .ge 21, 3) := by decide +kernel
theorem d8_32 : decode prog_22_method_2_code 32 = .ok (.iconst 0, 1) := by decide +kernel
theorem d8_33 : decode prog_22_method_2_code 33 = .ok (.istore 4, 2) := by decide +kernel
theorem d8_35 : decode prog_22_method_2_code 35 = .ok (.iload 4, 2) := by decide +kernel
theorem d8_37 : decode prog_22_method_2_code 37 = .ok (.iload_n 3, 1) := by decide +kernel
theorem d8_38 : decode prog_22_method_2_code 38 = .ok (.if_icmp .ge 22, 3) := by decide +kernel
theorem d8_41 : decode prog_22_method_2_code 41 = .ok (.aload_n 2, 1) := by decide +kernel
theorem d8_42 : decode prog_22_method_2_code 42 = .ok (.iload 4, 2) := by decide +kernel
theorem d8_44 : decode prog_22_method_2_code 44 = .ok (.iconst 1, 1) := by decide +kernel
theorem d8_45 : decode prog_22_method_2_code 45 = .ok (.iadd, 1) := by decide +kernel
theorem d8_46 : decode prog_22_method_2_code 46 = .ok (.dup2, 1) := by decide +kernel
theorem d8_47 : decode prog_22_method_2_code 47 = .ok (.iaload, 1) := by decide +kernel
theorem d8_48 : decode prog_22_method_2_code 48 = .ok (.aload_n 2, 1) := by decide +kernel
theorem d8_49 : decode prog_22_method_2_code 49 = .ok (.iload 4, 2) := by decide +kernel
theorem d8_51 : decode prog_22_method_2_code 51 = .ok (.iaload, 1) := by decide +kernel
theorem d8_52 : decode prog_22_method_2_code 52 = .ok (.iadd, 1) := by decide +kernel
theorem d8_53 : decode prog_22_method_2_code 53 = .ok (.iastore, 1) := by decide +kernel
theorem d8_54 : decode prog_22_method_2_code 54 = .ok (.iinc 4 1, 3) := by decide +kernel
theorem d8_57 : decode prog_22_method_2_code 57 = .ok (.goto (-22), 3) := by decide +kernel
theorem d8_60 : decode prog_22_method_2_code 60 = .ok (.iload_n 1, 1) := by decide +kernel
theorem d8_61 : decode prog_22_method_2_code 61 = .ok (.newarray .int, 2) := by decide +kernel
theorem d8_63 : decode prog_22_method_2_code 63 = .ok (.astore 4, 2) := by decide +kernel
theorem d8_65 : decode prog_22_method_2_code 65 = .ok (.iconst 0, 1) := by decide +kernel
theorem d8_66 : decode prog_22_method_2_code 66 = .ok (.istore 5, 2) := by decide +kernel
theorem d8_68 : decode prog_22_method_2_code 68 = .ok (.iload 5, 2) := by decide +kernel
theorem d8_70 : decode prog_22_method_2_code 70 = .ok (.iload_n 1, 1) := by decide +kernel
theorem d8_71 : decode prog_22_method_2_code 71 = .ok (.if_icmp .ge 25, 3) := by decide +kernel
theorem d8_96 : decode prog_22_method_2_code 96 = .ok (.aload_n 2, 1) := by decide +kernel
theorem d8_97 : decode prog_22_method_2_code 97 = .ok (.iconst 0, 1) := by decide +kernel
theorem d8_98 : decode prog_22_method_2_code 98 = .ok (.aload_n 2, 1) := by decide +kernel
theorem d8_99 : decode prog_22_method_2_code 99 = .ok (.iconst 1, 1) := by decide +kernel
theorem d8_100 : decode prog_22_method_2_code 100 = .ok (.iload_n 3, 1) := by decide +kernel
theorem d8_101 : decode prog_22_method_2_code 101 = .ok (.invokestatic 7, 3) := by decide +kernel
theorem d8_104 : decode prog_22_method_2_code 104 = .ok (.aload_n 2, 1) := by decide +kernel
theorem d8_105 : decode prog_22_method_2_code 105 = .ok (.iconst 0, 1) := by decide +kernel
theorem d8_106 : decode prog_22_method_2_code 106 = .ok (.iconst 0, 1) := by decide +kernel
theorem d8_107 : decode prog_22_method_2_code 107 = .ok (.iastore, 1) := by decide +kernel
theorem d8_108 : decode prog_22_method_2_code 108 = .ok (.aload 4, 2) := by decide +kernel
theorem d8_110 : decode prog_22_method_2_code 110 = .ok (.areturn, 1) := by decide +kernel
set_option maxRecDepth 65536 in
set_option maxHeartbeats 40000000 in
theorem rm_pl (l : Launch) (Z : State) (a0 : Array Value) (hw : ∀ d ∈ tables_1, d.before a0 Z = true) (sa : Addr) (fi : Addr) (n0 : Nat) (h0 : Heap) (Z0 : n0 ≤ h0.size) (g_f : n0 ≤ fi) (A_fi : Ara Z h0 fi .int 4 (fun jz => .int ((fun _ => (0 : Int32)) jz))) :
    Ct l Z (⟨"com/example/isolens/isolens/checker/EdgeLists", "places", "([II[I)[I"⟩ : MethodName) prog_22_method_2_code 6 (some (.array .int)) ({ frames := 1, cells := 1, slots := 0, locals := 40 } : Room) #[(.ref sa), (.int (0 : Int32)), (.ref fi)] h0 (QOE Z n0 h0 fi) := by
  refine own_met (plainFor_of_name pn_8) (fun m => ef_8_rm_pl m sa fi) ?_
  intro p e s m below meth c T0 EF X0 hx hby hml hown hnm hret hlk hZ hF e0
  have N0 := Fr.nil n0
  refine g_aloadN X0 hx hby d8_0 (pc' := 1) rfl rfl rfl ?_
  refine a_arraylength X0 hx hby hZ e0 A_fi (N := (4 : Int32)) rfl d8_1 (pc' := 2) rfl ?_
  refine g_iconst X0 hx hby d8_2 (pc' := 3) rfl (n := (1 : Int32)) (by first | rfl | decide) ?_
  refine g_isub X0 hx hby d8_3 (pc' := 4) rfl ?_
  show Go p e below EF (QOE Z n0 h0 fi) m T0 4 #[.val (.ref sa), .val (.int (0 : Int32)), .val (.ref fi), .unset, .unset, .unset] [(.int (3 : Int32))]
  refine g_istoreN X0 hx hby d8_4 (pc' := 5) rfl (Ls' := #[.val (.ref sa), .val (.int (0 : Int32)), .val (.ref fi), .val (.int (3 : Int32)), .unset, .unset]) rfl ?_
  refine g_iconst X0 hx hby d8_5 (pc' := 6) rfl (n := (0 : Int32)) (by first | rfl | decide) ?_
  refine g_istore X0 hx hby d8_6 (pc' := 8) rfl (Ls' := #[.val (.ref sa), .val (.int (0 : Int32)), .val (.ref fi), .val (.int (3 : Int32)), .val (.int (0 : Int32)), .unset]) rfl ?_
  refine g_iload X0 hx hby d8_8 (pc' := 10) rfl rfl ?_
  refine g_iloadN X0 hx hby d8_10 (pc' := 11) rfl rfl ?_
  refine g_icmpge X0 hx hby d8_11 (pt := 32) (pf := 14) (by decide) (by decide) rfl (fun (h11 : 0 ≤ 0) => ?_) (fun (h11 : 0 < 0) => (by exfalso; revert h11; decide))
  refine g_iconst X0 hx hby d8_32 (pc' := 33) rfl (n := (0 : Int32)) (by first | rfl | decide) ?_
  refine g_istore X0 hx hby d8_33 (pc' := 35) rfl (Ls' := #[.val (.ref sa), .val (.int (0 : Int32)), .val (.ref fi), .val (.int (3 : Int32)), .val (.int (0 : Int32)), .unset]) rfl ?_
  refine g_iload X0 hx hby d8_35 (pc' := 37) rfl rfl ?_
  refine g_iloadN X0 hx hby d8_37 (pc' := 38) rfl rfl ?_
  refine g_icmpge X0 hx hby d8_38 (pt := 60) (pf := 41) (by decide) (by decide) rfl (fun (h38 : 3 ≤ 0) => (by exfalso; revert h38; decide)) (fun (h38 : 0 < 3) => ?_)
  refine g_aloadN X0 hx hby d8_41 (pc' := 42) rfl rfl rfl ?_
  refine g_iload X0 hx hby d8_42 (pc' := 44) rfl rfl ?_
  refine g_iconst X0 hx hby d8_44 (pc' := 45) rfl (n := (1 : Int32)) (by first | rfl | decide) ?_
  refine g_iadd X0 hx hby d8_45 (pc' := 46) rfl ?_
  show Go p e below EF (QOE Z n0 h0 fi) m T0 46 #[.val (.ref sa), .val (.int (0 : Int32)), .val (.ref fi), .val (.int (3 : Int32)), .val (.int (0 : Int32)), .unset] [(.int (1 : Int32)), (.ref fi)]
  refine g_dup2 X0 hx hby d8_46 (pc' := 47) rfl rfl rfl ?_
  refine a_iaload X0 hx hby hZ e0 A_fi (by decide) (by decide) (v := (.int (0 : Int32))) (rfl) d8_47 (pc' := 48) rfl ?_
  refine g_aloadN X0 hx hby d8_48 (pc' := 49) rfl rfl rfl ?_
  refine g_iload X0 hx hby d8_49 (pc' := 51) rfl rfl ?_
  refine a_iaload X0 hx hby hZ e0 A_fi (by decide) (by decide) (v := (.int (0 : Int32))) (rfl) d8_51 (pc' := 52) rfl ?_
  refine g_iadd X0 hx hby d8_52 (pc' := 53) rfl ?_
  show Go p e below EF (QOE Z n0 h0 fi) m T0 53 #[.val (.ref sa), .val (.int (0 : Int32)), .val (.ref fi), .val (.int (3 : Int32)), .val (.int (0 : Int32)), .unset] [(.int (0 : Int32)), (.int (1 : Int32)), (.ref fi)]
  refine a_iastore X0 hx hby hZ e0 A_fi (by decide) (by decide) d8_53 (pc' := 54) rfl (fun T1 h1 X1 e1 W1 => ?_)
  have Z2 : n0 ≤ h1.size := by rw [W1.size]; exact Z0
  have K3 := (Keep.refl h0 [fi]).wr W1 (Or.inl (List.mem_of_getElem? (i := 0) rfl))
  have N4 := Fr.snoc X1 N0 g_f
  replace A_fi : Ara Z h1 fi .int 4 (fun jz => .int ((own_ui (fun _ => (0 : Int32)) 1 (0 : Int32)) jz)) := A_fi.setI W1
  refine g_iinc X1 hx hby d8_54 (pc' := 57) rfl rfl (Ls' := #[.val (.ref sa), .val (.int (0 : Int32)), .val (.ref fi), .val (.int (3 : Int32)), .val (.int (1 : Int32)), .unset]) rfl ?_
  refine g_goto X1 hx hby d8_57 (pc' := 35) (by decide) (by decide) ?_
  refine g_iload X1 hx hby d8_35 (pc' := 37) rfl rfl ?_
  refine g_iloadN X1 hx hby d8_37 (pc' := 38) rfl rfl ?_
  refine g_icmpge X1 hx hby d8_38 (pt := 60) (pf := 41) (by decide) (by decide) rfl (fun (h38 : 3 ≤ 1) => (by exfalso; revert h38; decide)) (fun (h38 : 1 < 3) => ?_)
  refine g_aloadN X1 hx hby d8_41 (pc' := 42) rfl rfl rfl ?_
  refine g_iload X1 hx hby d8_42 (pc' := 44) rfl rfl ?_
  refine g_iconst X1 hx hby d8_44 (pc' := 45) rfl (n := (1 : Int32)) (by first | rfl | decide) ?_
  refine g_iadd X1 hx hby d8_45 (pc' := 46) rfl ?_
  show Go p e below EF (QOE Z n0 h0 fi) m T1 46 #[.val (.ref sa), .val (.int (0 : Int32)), .val (.ref fi), .val (.int (3 : Int32)), .val (.int (1 : Int32)), .unset] [(.int (2 : Int32)), (.ref fi)]
  refine g_dup2 X1 hx hby d8_46 (pc' := 47) rfl rfl rfl ?_
  refine a_iaload X1 hx hby hZ e1 A_fi (by decide) (by decide) (v := (.int (0 : Int32))) (rfl) d8_47 (pc' := 48) rfl ?_
  refine g_aloadN X1 hx hby d8_48 (pc' := 49) rfl rfl rfl ?_
  refine g_iload X1 hx hby d8_49 (pc' := 51) rfl rfl ?_
  refine a_iaload X1 hx hby hZ e1 A_fi (by decide) (by decide) (v := (.int (0 : Int32))) (rfl) d8_51 (pc' := 52) rfl ?_
  refine g_iadd X1 hx hby d8_52 (pc' := 53) rfl ?_
  show Go p e below EF (QOE Z n0 h0 fi) m T1 53 #[.val (.ref sa), .val (.int (0 : Int32)), .val (.ref fi), .val (.int (3 : Int32)), .val (.int (1 : Int32)), .unset] [(.int (0 : Int32)), (.int (2 : Int32)), (.ref fi)]
  refine a_iastore X1 hx hby hZ e1 A_fi (by decide) (by decide) d8_53 (pc' := 54) rfl (fun T5 h5 X5 e5 W5 => ?_)
  have Z6 : n0 ≤ h5.size := by rw [W5.size]; exact Z2
  have K7 := K3.wr W5 (Or.inl (List.mem_of_getElem? (i := 0) rfl))
  have N8 := Fr.snoc X5 N4 g_f
  replace A_fi : Ara Z h5 fi .int 4 (fun jz => .int ((own_ui (own_ui (fun _ => (0 : Int32)) 1 (0 : Int32)) 2 (0 : Int32)) jz)) := A_fi.setI W5
  refine g_iinc X5 hx hby d8_54 (pc' := 57) rfl rfl (Ls' := #[.val (.ref sa), .val (.int (0 : Int32)), .val (.ref fi), .val (.int (3 : Int32)), .val (.int (2 : Int32)), .unset]) rfl ?_
  refine g_goto X5 hx hby d8_57 (pc' := 35) (by decide) (by decide) ?_
  refine g_iload X5 hx hby d8_35 (pc' := 37) rfl rfl ?_
  refine g_iloadN X5 hx hby d8_37 (pc' := 38) rfl rfl ?_
  refine g_icmpge X5 hx hby d8_38 (pt := 60) (pf := 41) (by decide) (by decide) rfl (fun (h38 : 3 ≤ 2) => (by exfalso; revert h38; decide)) (fun (h38 : 2 < 3) => ?_)
  refine g_aloadN X5 hx hby d8_41 (pc' := 42) rfl rfl rfl ?_
  refine g_iload X5 hx hby d8_42 (pc' := 44) rfl rfl ?_
  refine g_iconst X5 hx hby d8_44 (pc' := 45) rfl (n := (1 : Int32)) (by first | rfl | decide) ?_
  refine g_iadd X5 hx hby d8_45 (pc' := 46) rfl ?_
  show Go p e below EF (QOE Z n0 h0 fi) m T5 46 #[.val (.ref sa), .val (.int (0 : Int32)), .val (.ref fi), .val (.int (3 : Int32)), .val (.int (2 : Int32)), .unset] [(.int (3 : Int32)), (.ref fi)]
  refine g_dup2 X5 hx hby d8_46 (pc' := 47) rfl rfl rfl ?_
  refine a_iaload X5 hx hby hZ e5 A_fi (by decide) (by decide) (v := (.int (0 : Int32))) (rfl) d8_47 (pc' := 48) rfl ?_
  refine g_aloadN X5 hx hby d8_48 (pc' := 49) rfl rfl rfl ?_
  refine g_iload X5 hx hby d8_49 (pc' := 51) rfl rfl ?_
  refine a_iaload X5 hx hby hZ e5 A_fi (by decide) (by decide) (v := (.int (0 : Int32))) (rfl) d8_51 (pc' := 52) rfl ?_
  refine g_iadd X5 hx hby d8_52 (pc' := 53) rfl ?_
  show Go p e below EF (QOE Z n0 h0 fi) m T5 53 #[.val (.ref sa), .val (.int (0 : Int32)), .val (.ref fi), .val (.int (3 : Int32)), .val (.int (2 : Int32)), .unset] [(.int (0 : Int32)), (.int (3 : Int32)), (.ref fi)]
  refine a_iastore X5 hx hby hZ e5 A_fi (by decide) (by decide) d8_53 (pc' := 54) rfl (fun T9 h9 X9 e9 W9 => ?_)
  have Z10 : n0 ≤ h9.size := by rw [W9.size]; exact Z6
  have K11 := K7.wr W9 (Or.inl (List.mem_of_getElem? (i := 0) rfl))
  have N12 := Fr.snoc X9 N8 g_f
  replace A_fi : Ara Z h9 fi .int 4 (fun jz => .int ((own_ui (own_ui (own_ui (fun _ => (0 : Int32)) 1 (0 : Int32)) 2 (0 : Int32)) 3 (0 : Int32)) jz)) := A_fi.setI W9
  refine g_iinc X9 hx hby d8_54 (pc' := 57) rfl rfl (Ls' := #[.val (.ref sa), .val (.int (0 : Int32)), .val (.ref fi), .val (.int (3 : Int32)), .val (.int (3 : Int32)), .unset]) rfl ?_
  refine g_goto X9 hx hby d8_57 (pc' := 35) (by decide) (by decide) ?_
  refine g_iload X9 hx hby d8_35 (pc' := 37) rfl rfl ?_
  refine g_iloadN X9 hx hby d8_37 (pc' := 38) rfl rfl ?_
  refine g_icmpge X9 hx hby d8_38 (pt := 60) (pf := 41) (by decide) (by decide) rfl (fun (h38 : 3 ≤ 3) => ?_) (fun (h38 : 3 < 3) => (by exfalso; revert h38; decide))
  replace A_fi : Ara Z h9 fi .int 4 (fun jz => .int ((fun _ => (0 : Int32)) jz)) := A_fi.eq (fun j hj => by simp [own_ui])
  refine g_iloadN X9 hx hby d8_60 (pc' := 61) rfl rfl ?_
  refine g_newA X9 hx hby hZ e9 (N := 0) (hw _ (List.mem_of_getElem? (i := 4) rfl)) d8_61 (pc' := 63) rfl rfl (cap := 0) (Nat.le_refl _) (by decide) (by decide) (by decide) (fun T13 h13 pa g13 X13 e13 E13 A_pa => ?_)
  have lne14 : fi < pa := by rw [g13]; exact A_fi.lt
  have ne14 : fi ≠ pa := Nat.ne_of_lt lne14
  have g15 : n0 ≤ pa := by rw [g13]; exact Z10
  have o16 : h0.size ≤ pa := by rw [g13]; exact K11.1
  replace A_fi := A_fi.ext E13
  have Z17 : n0 ≤ h13.size := Nat.le_trans Z10 E13.1
  have K18 := K11.ext E13
  replace X13 : Stand p l e ({ frames := 1, cells := 1, slots := 0, locals := 40 } : Room) s m _ below meth c T13 _ 1 0 := X13
  replace A_pa : Ara Z h13 pa .int 0 (fun jz => .int ((fun _ => (0 : Int32)) jz)) := A_pa
  refine g_astore X13 hx hby d8_63 (pc' := 65) rfl rfl (Ls' := #[.val (.ref sa), .val (.int (0 : Int32)), .val (.ref fi), .val (.int (3 : Int32)), .val (.ref pa), .unset]) rfl ?_
  refine g_iconst X13 hx hby d8_65 (pc' := 66) rfl (n := (0 : Int32)) (by first | rfl | decide) ?_
  refine g_istore X13 hx hby d8_66 (pc' := 68) rfl (Ls' := #[.val (.ref sa), .val (.int (0 : Int32)), .val (.ref fi), .val (.int (3 : Int32)), .val (.ref pa), .val (.int (0 : Int32))]) rfl ?_
  refine g_iload X13 hx hby d8_68 (pc' := 70) rfl rfl ?_
  refine g_iloadN X13 hx hby d8_70 (pc' := 71) rfl rfl ?_
  refine g_icmpge X13 hx hby d8_71 (pt := 96) (pf := 74) (by decide) (by decide) rfl (fun (h71 : 0 ≤ 0) => ?_) (fun (h71 : 0 < 0) => (by exfalso; revert h71; decide))
  refine g_aloadN X13 hx hby d8_96 (pc' := 97) rfl rfl rfl ?_
  refine g_iconst X13 hx hby d8_97 (pc' := 98) rfl (n := (0 : Int32)) (by first | rfl | decide) ?_
  refine g_aloadN X13 hx hby d8_98 (pc' := 99) rfl rfl rfl ?_
  refine g_iconst X13 hx hby d8_99 (pc' := 100) rfl (n := (1 : Int32)) (by first | rfl | decide) ?_
  refine g_iloadN X13 hx hby d8_100 (pc' := 101) rfl rfl ?_
  refine g_cpZ X13 hx hby hZ hown e13 hml rfl (hw _ (List.mem_of_getElem? (i := 81) rfl)) (hw _ (List.mem_of_getElem? (i := 84) rfl)) (hw _ (List.mem_of_getElem? (i := 82) rfl)) (hw _ (List.mem_of_getElem? (i := 83) rfl)) A_fi N12 g_f (rest := []) d8_101 (pc' := 104) rfl (by decide) (Nat.le_of_ble_eq_true rfl) (fun Tp101 hp101 Lp101 Xp101 ep101 Np101 Kp101 Ap101 => ?_)
  replace A_pa := A_pa.keep Kp101 (ninS (Ne.symm ne14) nin0)
  have Z19 : n0 ≤ hp101.size := Nat.le_trans Z17 Kp101.1
  have K20 := K18.trans Kp101 (allS (Or.inl (List.mem_of_getElem? (i := 0) rfl)) all0)
  have A_fi := Ap101
  refine g_aloadN Xp101 hx hby d8_104 (pc' := 105) rfl rfl rfl ?_
  refine g_iconst Xp101 hx hby d8_105 (pc' := 106) rfl (n := (0 : Int32)) (by first | rfl | decide) ?_
  refine g_iconst Xp101 hx hby d8_106 (pc' := 107) rfl (n := (0 : Int32)) (by first | rfl | decide) ?_
  refine a_iastore Xp101 hx hby hZ ep101 A_fi (by decide) (by decide) d8_107 (pc' := 108) rfl (fun T21 h21 X21 e21 W21 => ?_)
  replace A_pa := A_pa.other W21 (Ne.symm ne14)
  have Z22 : n0 ≤ h21.size := by rw [W21.size]; exact Z19
  have K23 := K20.wr W21 (Or.inl (List.mem_of_getElem? (i := 0) rfl))
  have N24 := Fr.snoc X21 Np101 g_f
  replace A_fi : Ara Z h21 fi .int 4 (fun jz => .int ((own_ui (fun _ => (0 : Int32)) 0 (0 : Int32)) jz)) := A_fi.setI W21
  refine g_aload X21 hx hby d8_108 (pc' := 110) rfl rfl rfl ?_
  exact g_retA X21 hx hby hF (Nat.zero_le _) hlk rfl rfl hret d8_110 (by decide) (by decide) (by rw [e21]; exact ⟨_, rfl, N24, A_fi.eq (fun j hj => by simp [own_ui]), K23⟩)
theorem ef_7_rm_oe (m : MethodId) (sa : Addr) (sb : Addr) (fi : Addr) : entryFrame m #[(.ref sa), (.ref sb), (.int (0 : Int32)), (.ref fi)] 6 = mkF m 0 #[.val (.ref sa), .val (.ref sb), .val (.int (0 : Int32)), .val (.ref fi), .unset, .unset] [] := by first | (simp [entryFrame, mkF, argsToLocals, Value.category]; done) | rfl
theorem pn_7 : plainName "com/example/isolens/isolens/checker/EdgeLists" = true := by first | (simp [plainName, overriddenIn]; done) | decide +kernel
theorem d7_0 : decode prog_22_method_3_code 0 = .ok (.aload_n 0, 1) := by decide +kernel
theorem d7_1 : decode prog_22_method_3_code 1 = .ok (.iload_n 2, 1) := by decide +kernel
theorem d7_2 : decode prog_22_method_3_code 2 = .ok (.aload_n 3, 1) := by decide +kernel
theorem d7_3 : decode prog_22_method_3_code 3 = .ok (.invokestatic 13, 3) := by decide +kernel
theorem pd___II_I__I_646 : parseMethodDescriptor "([II[I)[I" = some ⟨[(.array .int), .int, (.array .int)], some (.array .int)⟩ := by decide +kernel
theorem d7_6 : decode prog_22_method_3_code 6 = .ok (.astore 4, 2) := by decide +kernel
theorem d7_8 : decode prog_22_method_3_code 8 = .ok (.iconst 0, 1) := by decide +kernel
theorem d7_9 : decode prog_22_method_3_code 9 = .ok (.istore 5, 2) := by decide +kernel
theorem d7_11 : decode prog_22_method_3_code 11 = .ok (.iload 5, 2) := by decide +kernel
theorem d7_13 : decode prog_22_method_3_code 13 = .ok (.iload_n 2, 1) := by decide +kernel
theorem d7_14 : decode prog_22_method_3_code 14 = .ok (.if_icmp .ge 21, 3) := by decide +kernel
theorem d7_35 : decode prog_22_method_3_code 35 = .ok (.aload 4, 2) := by decide +kernel
theorem d7_37 : decode prog_22_method_3_code 37 = .ok (.areturn, 1) := by decide +kernel
set_option maxRecDepth 65536 in
set_option maxHeartbeats 40000000 in
theorem rm_oe (l : Launch) (Z : State) (a0 : Array Value) (hw : ∀ d ∈ tables_1, d.before a0 Z = true) (sa : Addr) (sb : Addr) (fi : Addr) (n0 : Nat) (h0 : Heap) (Z0 : n0 ≤ h0.size) (g_f : n0 ≤ fi) (A_fi : Ara Z h0 fi .int 4 (fun jz => .int ((fun _ => (0 : Int32)) jz))) :
    Ct l Z (⟨"com/example/isolens/isolens/checker/EdgeLists", "otherEnds", "([I[II[I)[I"⟩ : MethodName) prog_22_method_3_code 6 (some (.array .int)) ({ frames := 2, cells := 1, slots := 0, locals := 60 } : Room) #[(.ref sa), (.ref sb), (.int (0 : Int32)), (.ref fi)] h0 (QOE Z n0 h0 fi) := by
  refine own_met (plainFor_of_name pn_7) (fun m => ef_7_rm_oe m sa sb fi) ?_
  intro p e s m below meth c T0 EF X0 hx hby hml hown hnm hret hlk hZ hF e0
  have N0 := Fr.nil n0
  refine g_aloadN X0 hx hby d7_0 (pc' := 1) rfl rfl rfl ?_
  refine g_iloadN X0 hx hby d7_1 (pc' := 2) rfl rfl ?_
  refine g_aloadN X0 hx hby d7_2 (pc' := 3) rfl rfl rfl ?_
  refine g_static X0 hx hby hZ hown hml rfl (hw _ (List.mem_of_getElem? (i := 78) rfl)) (hw _ (List.mem_of_getElem? (i := 79) rfl)) (hw _ (List.mem_of_getElem? (i := 76) rfl)) (hw _ (List.mem_of_getElem? (i := 80) rfl)) (by decide) e0 (rm_pl l Z a0 hw sa fi n0 h0 Z0 g_f A_fi) pd___II_I__I_646 (argsL := [(.ref sa), (.int (0 : Int32)), (.ref fi)]) (rest := []) rfl rfl rfl d7_3 (pc' := 6) rfl (by decide) (Nat.le_of_ble_eq_true rfl) (by decide) (by decide) ?_
  intro Tp3 vp3 Lp3 Xp3 qp3
  obtain ⟨bp3, rfl, Nqp3, Aqp3, Kqp3⟩ := qp3
  replace Xp3 : Stand p l e ({ frames := 2, cells := 1, slots := 0, locals := 60 } : Room) s m _ below meth c Tp3 _ 1 0 := Xp3
  have Z1 : n0 ≤ Tp3.heap.size := Nat.le_trans Z0 Kqp3.1
  have K2 := (Keep.refl h0 [fi]).trans Kqp3 (allS (Or.inl (List.mem_of_getElem? (i := 0) rfl)) all0)
  have Np3 := Fr.app N0 Nqp3
  show Go p e below EF (QOE Z n0 h0 fi) m Tp3 6 #[.val (.ref sa), .val (.ref sb), .val (.int (0 : Int32)), .val (.ref fi), .unset, .unset] [(.ref bp3)]
  refine g_astore Xp3 hx hby d7_6 (pc' := 8) rfl rfl (Ls' := #[.val (.ref sa), .val (.ref sb), .val (.int (0 : Int32)), .val (.ref fi), .val (.ref bp3), .unset]) rfl ?_
  refine g_iconst Xp3 hx hby d7_8 (pc' := 9) rfl (n := (0 : Int32)) (by first | rfl | decide) ?_
  refine g_istore Xp3 hx hby d7_9 (pc' := 11) rfl (Ls' := #[.val (.ref sa), .val (.ref sb), .val (.int (0 : Int32)), .val (.ref fi), .val (.ref bp3), .val (.int (0 : Int32))]) rfl ?_
  refine g_iload Xp3 hx hby d7_11 (pc' := 13) rfl rfl ?_
  refine g_iloadN Xp3 hx hby d7_13 (pc' := 14) rfl rfl ?_
  refine g_icmpge Xp3 hx hby d7_14 (pt := 35) (pf := 17) (by decide) (by decide) rfl (fun (h14 : 0 ≤ 0) => ?_) (fun (h14 : 0 < 0) => (by exfalso; revert h14; decide))
  refine g_aload Xp3 hx hby d7_35 (pc' := 37) rfl rfl rfl ?_
  exact g_retA Xp3 hx hby hF (Nat.zero_le _) hlk rfl rfl hret d7_37 (by decide) (by decide) (⟨_, rfl, Np3, Aqp3, K2⟩)
theorem ef_9_rm_af (m : MethodId) (ar : Addr) : entryFrame m #[(.ref ar), (.int (-1 : Int32))] 4 = mkF m 0 #[.val (.ref ar), .val (.int (-1 : Int32)), .unset, .unset] [] := by first | (simp [entryFrame, mkF, argsToLocals, Value.category]; done) | rfl
theorem pn_9 : plainName "java/util/Arrays" = true := by first | (simp [plainName, overriddenIn]; done) | decide +kernel
theorem d9_0 : decode jdk_65_method_103_code 0 = .ok (.iconst 0, 1) := by decide +kernel
theorem d9_1 : decode jdk_65_method_103_code 1 = .ok (.istore_n 2, 1) := by decide +kernel
theorem d9_2 : decode jdk_65_method_103_code 2 = .ok (.aload_n 0, 1) := by decide +kernel
theorem d9_3 : decode jdk_65_method_103_code 3 = .ok (.arraylength, 1) := by decide +kernel
theorem d9_4 : decode jdk_65_method_103_code 4 = .ok (.istore_n 3, 1) := by decide +kernel
theorem d9_5 : decode jdk_65_method_103_code 5 = .ok (.iload_n 2, 1) := by decide +kernel
theorem d9_6 : decode jdk_65_method_103_code 6 = .ok (.iload_n 3, 1) := by decide +kernel
theorem d9_7 : decode jdk_65_method_103_code 7 = .ok (.if_icmp .ge 13, 3) := by decide +kernel
theorem d9_10 : decode jdk_65_method_103_code 10 = .ok (.aload_n 0, 1) := by decide +kernel
theorem d9_11 : decode jdk_65_method_103_code 11 = .ok (.iload_n 2, 1) := by decide +kernel
theorem d9_12 : decode jdk_65_method_103_code 12 = .ok (.iload_n 1, 1) := by decide +kernel
theorem d9_13 : decode jdk_65_method_103_code 13 = .ok (.iastore, 1) := by decide +kernel
theorem d9_14 : decode jdk_65_method_103_code 14 = .ok (.iinc 2 1, 3) := by decide +kernel
theorem d9_17 : decode jdk_65_method_103_code 17 = .ok (.goto (-12), 3) := by decide +kernel
theorem d9_20 : decode jdk_65_method_103_code 20 = .ok (.return_, 1) := by decide +kernel
set_option maxRecDepth 65536 in
set_option maxHeartbeats 40000000 in
theorem rm_af (l : Launch) (Z : State) (a0 : Array Value) (hw : ∀ d ∈ tables_1, d.before a0 Z = true) (ar : Addr) (n0 : Nat) (g : Nat → Int32) (h0 : Heap) (Z0 : n0 ≤ h0.size) (g_a : n0 ≤ ar) (A_ar : Ara Z h0 ar .int 3 (fun jz => .int (g jz))) :
    Ct l Z (⟨"java/util/Arrays", "fill", "([II)V"⟩ : MethodName) jdk_65_method_103_code 4 none ({ frames := 0, cells := 0, slots := 0, locals := 0 } : Room) #[(.ref ar), (.int (-1 : Int32))] h0 (QFl Z n0 h0 ar) := by
  refine own_met (plainFor_of_name pn_9) (fun m => ef_9_rm_af m ar) ?_
  intro p e s m below meth c T0 EF X0 hx hby hml hown hnm hret hlk hZ hF e0
  have N0 := Fr.nil n0
  refine g_iconst X0 hx hby d9_0 (pc' := 1) rfl (n := (0 : Int32)) (by first | rfl | decide) ?_
  refine g_istoreN X0 hx hby d9_1 (pc' := 2) rfl (Ls' := #[.val (.ref ar), .val (.int (-1 : Int32)), .val (.int (0 : Int32)), .unset]) rfl ?_
  refine g_aloadN X0 hx hby d9_2 (pc' := 3) rfl rfl rfl ?_
  refine a_arraylength X0 hx hby hZ e0 A_ar (N := (3 : Int32)) rfl d9_3 (pc' := 4) rfl ?_
  refine g_istoreN X0 hx hby d9_4 (pc' := 5) rfl (Ls' := #[.val (.ref ar), .val (.int (-1 : Int32)), .val (.int (0 : Int32)), .val (.int (3 : Int32))]) rfl ?_
  refine g_iloadN X0 hx hby d9_5 (pc' := 6) rfl rfl ?_
  refine g_iloadN X0 hx hby d9_6 (pc' := 7) rfl rfl ?_
  refine g_icmpge X0 hx hby d9_7 (pt := 20) (pf := 10) (by decide) (by decide) rfl (fun (h7 : 3 ≤ 0) => (by exfalso; revert h7; decide)) (fun (h7 : 0 < 3) => ?_)
  refine g_aloadN X0 hx hby d9_10 (pc' := 11) rfl rfl rfl ?_
  refine g_iloadN X0 hx hby d9_11 (pc' := 12) rfl rfl ?_
  refine g_iloadN X0 hx hby d9_12 (pc' := 13) rfl rfl ?_
  refine a_iastore X0 hx hby hZ e0 A_ar (by decide) (by decide) d9_13 (pc' := 14) rfl (fun T1 h1 X1 e1 W1 => ?_)
  have Z2 : n0 ≤ h1.size := by rw [W1.size]; exact Z0
  have K3 := (Keep.refl h0 [ar]).wr W1 (Or.inl (List.mem_of_getElem? (i := 0) rfl))
  have N4 := Fr.snoc X1 N0 g_a
  replace A_ar : Ara Z h1 ar .int 3 (fun jz => .int ((own_ui g 0 (-1 : Int32)) jz)) := A_ar.setI W1
  refine g_iinc X1 hx hby d9_14 (pc' := 17) rfl rfl (Ls' := #[.val (.ref ar), .val (.int (-1 : Int32)), .val (.int (1 : Int32)), .val (.int (3 : Int32))]) rfl ?_
  refine g_goto X1 hx hby d9_17 (pc' := 5) (by decide) (by decide) ?_
  refine g_iloadN X1 hx hby d9_5 (pc' := 6) rfl rfl ?_
  refine g_iloadN X1 hx hby d9_6 (pc' := 7) rfl rfl ?_
  refine g_icmpge X1 hx hby d9_7 (pt := 20) (pf := 10) (by decide) (by decide) rfl (fun (h7 : 3 ≤ 1) => (by exfalso; revert h7; decide)) (fun (h7 : 1 < 3) => ?_)
  refine g_aloadN X1 hx hby d9_10 (pc' := 11) rfl rfl rfl ?_
  refine g_iloadN X1 hx hby d9_11 (pc' := 12) rfl rfl ?_
  refine g_iloadN X1 hx hby d9_12 (pc' := 13) rfl rfl ?_
  refine a_iastore X1 hx hby hZ e1 A_ar (by decide) (by decide) d9_13 (pc' := 14) rfl (fun T5 h5 X5 e5 W5 => ?_)
  have Z6 : n0 ≤ h5.size := by rw [W5.size]; exact Z2
  have K7 := K3.wr W5 (Or.inl (List.mem_of_getElem? (i := 0) rfl))
  have N8 := Fr.snoc X5 N4 g_a
  replace A_ar : Ara Z h5 ar .int 3 (fun jz => .int ((own_ui (own_ui g 0 (-1 : Int32)) 1 (-1 : Int32)) jz)) := A_ar.setI W5
  refine g_iinc X5 hx hby d9_14 (pc' := 17) rfl rfl (Ls' := #[.val (.ref ar), .val (.int (-1 : Int32)), .val (.int (2 : Int32)), .val (.int (3 : Int32))]) rfl ?_
  refine g_goto X5 hx hby d9_17 (pc' := 5) (by decide) (by decide) ?_
  refine g_iloadN X5 hx hby d9_5 (pc' := 6) rfl rfl ?_
  refine g_iloadN X5 hx hby d9_6 (pc' := 7) rfl rfl ?_
  refine g_icmpge X5 hx hby d9_7 (pt := 20) (pf := 10) (by decide) (by decide) rfl (fun (h7 : 3 ≤ 2) => (by exfalso; revert h7; decide)) (fun (h7 : 2 < 3) => ?_)
  refine g_aloadN X5 hx hby d9_10 (pc' := 11) rfl rfl rfl ?_
  refine g_iloadN X5 hx hby d9_11 (pc' := 12) rfl rfl ?_
  refine g_iloadN X5 hx hby d9_12 (pc' := 13) rfl rfl ?_
  refine a_iastore X5 hx hby hZ e5 A_ar (by decide) (by decide) d9_13 (pc' := 14) rfl (fun T9 h9 X9 e9 W9 => ?_)
  have Z10 : n0 ≤ h9.size := by rw [W9.size]; exact Z6
  have K11 := K7.wr W9 (Or.inl (List.mem_of_getElem? (i := 0) rfl))
  have N12 := Fr.snoc X9 N8 g_a
  replace A_ar : Ara Z h9 ar .int 3 (fun jz => .int ((own_ui (own_ui (own_ui g 0 (-1 : Int32)) 1 (-1 : Int32)) 2 (-1 : Int32)) jz)) := A_ar.setI W9
  refine g_iinc X9 hx hby d9_14 (pc' := 17) rfl rfl (Ls' := #[.val (.ref ar), .val (.int (-1 : Int32)), .val (.int (3 : Int32)), .val (.int (3 : Int32))]) rfl ?_
  refine g_goto X9 hx hby d9_17 (pc' := 5) (by decide) (by decide) ?_
  refine g_iloadN X9 hx hby d9_5 (pc' := 6) rfl rfl ?_
  refine g_iloadN X9 hx hby d9_6 (pc' := 7) rfl rfl ?_
  refine g_icmpge X9 hx hby d9_7 (pt := 20) (pf := 10) (by decide) (by decide) rfl (fun (h7 : 3 ≤ 3) => ?_) (fun (h7 : 3 < 3) => (by exfalso; revert h7; decide))
  exact g_retV X9 hx hby hF (Nat.zero_le _) hlk hret d9_20 (by decide) (by decide) (by rw [e9]; exact ⟨rfl, N12, A_ar.eq (fun j hj => by match j, hj with | 0, _ => rfl | 1, _ => rfl | 2, _ => rfl), K11⟩)
theorem ef_1_rm_ctor (m : MethodId) (o : Addr) (sa : Addr) (sb : Addr) (ar : Addr) : entryFrame m #[(.ref o), (.ref sa), (.ref sb), (.int (0 : Int32)), (.ref ar)] 7 = mkF m 0 #[.val (.ref o), .val (.ref sa), .val (.ref sb), .val (.int (0 : Int32)), .val (.ref ar), .unset, .unset] [] := by first | (simp [entryFrame, mkF, argsToLocals, Value.category]; done) | rfl
theorem pn_1 : plainName "com/example/isolens/isolens/checker/DynamicOrder" = true := by first | (simp [plainName, overriddenIn]; done) | decide +kernel
theorem d1_0 : decode prog_17_method_1_code 0 = .ok (.aload_n 0, 1) := by decide +kernel
theorem d1_1 : decode prog_17_method_1_code 1 = .ok (.invokespecial 1, 3) := by decide +kernel
theorem d1_4 : decode prog_17_method_1_code 4 = .ok (.aload_n 0, 1) := by decide +kernel
theorem d1_5 : decode prog_17_method_1_code 5 = .ok (.bipush 16, 2) := by decide +kernel
theorem d1_7 : decode prog_17_method_1_code 7 = .ok (.newarray .int, 2) := by decide +kernel
theorem d1_9 : decode prog_17_method_1_code 9 = .ok (.putfield 7, 3) := by decide +kernel
theorem d1_12 : decode prog_17_method_1_code 12 = .ok (.aload_n 0, 1) := by decide +kernel
theorem d1_13 : decode prog_17_method_1_code 13 = .ok (.bipush 16, 2) := by decide +kernel
theorem d1_15 : decode prog_17_method_1_code 15 = .ok (.newarray .int, 2) := by decide +kernel
theorem d1_17 : decode prog_17_method_1_code 17 = .ok (.putfield 13, 3) := by decide +kernel
theorem sn_6 {a0 : Array Value} {Z : State} (hw : ∀ d ∈ tables_1, d.before a0 Z = true) : Jvm.RoadKit.slotOf Z "com/example/isolens/isolens/checker/DynamicOrder" "addedFrom" "[I" ≠ Jvm.RoadKit.slotOf Z "com/example/isolens/isolens/checker/DynamicOrder" "addedTo" "[I" := slot_ne (Or.inl (hw _ (List.mem_of_getElem? (i := 12) rfl))) (Or.inl (hw _ (List.mem_of_getElem? (i := 14) rfl))) (by decide) (t := (.array .int)) (t' := (.array .int)) (by decide) (by decide)
theorem d1_20 : decode prog_17_method_1_code 20 = .ok (.aload_n 0, 1) := by decide +kernel
theorem d1_21 : decode prog_17_method_1_code 21 = .ok (.bipush 16, 2) := by decide +kernel
theorem d1_23 : decode prog_17_method_1_code 23 = .ok (.newarray .int, 2) := by decide +kernel
theorem d1_25 : decode prog_17_method_1_code 25 = .ok (.putfield 16, 3) := by decide +kernel
theorem sn_7 {a0 : Array Value} {Z : State} (hw : ∀ d ∈ tables_1, d.before a0 Z = true) : Jvm.RoadKit.slotOf Z "com/example/isolens/isolens/checker/DynamicOrder" "addedFrom" "[I" ≠ Jvm.RoadKit.slotOf Z "com/example/isolens/isolens/checker/DynamicOrder" "earlierOut" "[I" := slot_ne (Or.inl (hw _ (List.mem_of_getElem? (i := 12) rfl))) (Or.inl (hw _ (List.mem_of_getElem? (i := 16) rfl))) (by decide) (t := (.array .int)) (t' := (.array .int)) (by decide) (by decide)
theorem sn_8 {a0 : Array Value} {Z : State} (hw : ∀ d ∈ tables_1, d.before a0 Z = true) : Jvm.RoadKit.slotOf Z "com/example/isolens/isolens/checker/DynamicOrder" "addedTo" "[I" ≠ Jvm.RoadKit.slotOf Z "com/example/isolens/isolens/checker/DynamicOrder" "earlierOut" "[I" := slot_ne (Or.inl (hw _ (List.mem_of_getElem? (i := 14) rfl))) (Or.inl (hw _ (List.mem_of_getElem? (i := 16) rfl))) (by decide) (t := (.array .int)) (t' := (.array .int)) (by decide) (by decide)
theorem d1_28 : decode prog_17_method_1_code 28 = .ok (.aload_n 0, 1) := by decide +kernel
theorem d1_29 : decode prog_17_method_1_code 29 = .ok (.bipush 16, 2) := by decide +kernel
theorem d1_31 : decode prog_17_method_1_code 31 = .ok (.newarray .int, 2) := by decide +kernel
theorem d1_33 : decode prog_17_method_1_code 33 = .ok (.putfield 19, 3) := by decide +kernel
theorem sn_9 {a0 : Array Value} {Z : State} (hw : ∀ d ∈ tables_1, d.before a0 Z = true) : Jvm.RoadKit.slotOf Z "com/example/isolens/isolens/checker/DynamicOrder" "addedFrom" "[I" ≠ Jvm.RoadKit.slotOf Z "com/example/isolens/isolens/checker/DynamicOrder" "earlierIn" "[I" := slot_ne (Or.inl (hw _ (List.mem_of_getElem? (i := 12) rfl))) (Or.inl (hw _ (List.mem_of_getElem? (i := 18) rfl))) (by decide) (t := (.array .int)) (t' := (.array .int)) (by decide) (by decide)
theorem sn_10 {a0 : Array Value} {Z : State} (hw : ∀ d ∈ tables_1, d.before a0 Z = true) : Jvm.RoadKit.slotOf Z "com/example/isolens/isolens/checker/DynamicOrder" "addedTo" "[I" ≠ Jvm.RoadKit.slotOf Z "com/example/isolens/isolens/checker/DynamicOrder" "earlierIn" "[I" := slot_ne (Or.inl (hw _ (List.mem_of_getElem? (i := 14) rfl))) (Or.inl (hw _ (List.mem_of_getElem? (i := 18) rfl))) (by decide) (t := (.array .int)) (t' := (.array .int)) (by decide) (by decide)
theorem sn_11 {a0 : Array Value} {Z : State} (hw : ∀ d ∈ tables_1, d.before a0 Z = true) : Jvm.RoadKit.slotOf Z "com/example/isolens/isolens/checker/DynamicOrder" "earlierOut" "[I" ≠ Jvm.RoadKit.slotOf Z "com/example/isolens/isolens/checker/DynamicOrder" "earlierIn" "[I" := slot_ne (Or.inl (hw _ (List.mem_of_getElem? (i := 16) rfl))) (Or.inl (hw _ (List.mem_of_getElem? (i := 18) rfl))) (by decide) (t := (.array .int)) (t' := (.array .int)) (by decide) (by decide)
theorem d1_36 : decode prog_17_method_1_code 36 = .ok (.aload_n 0, 1) := by decide +kernel
theorem d1_37 : decode prog_17_method_1_code 37 = .ok (.new 22, 3) := by decide +kernel
theorem d1_40 : decode prog_17_method_1_code 40 = .ok (.dup, 1) := by decide +kernel
theorem d1_41 : decode prog_17_method_1_code 41 = .ok (.invokespecial 24, 3) := by decide +kernel
theorem pd___V_167 : parseMethodDescriptor "()V" = some ⟨[], none⟩ := by decide +kernel
theorem d1_44 : decode prog_17_method_1_code 44 = .ok (.putfield 25, 3) := by decide +kernel
theorem sn_12 {a0 : Array Value} {Z : State} (hw : ∀ d ∈ tables_1, d.before a0 Z = true) : Jvm.RoadKit.slotOf Z "com/example/isolens/isolens/checker/DynamicOrder" "addedFrom" "[I" ≠ Jvm.RoadKit.slotOf Z "com/example/isolens/isolens/checker/DynamicOrder" "ahead" "Lcom/example/isolens/isolens/checker/DynamicOrder$Found;" := slot_ne (Or.inl (hw _ (List.mem_of_getElem? (i := 12) rfl))) (Or.inr (hw _ (List.mem_of_getElem? (i := 29) rfl))) (by decide) (t := (.array .int)) (t' := (.object "com/example/isolens/isolens/checker/DynamicOrder$Found")) (by decide) (by decide)
theorem sn_13 {a0 : Array Value} {Z : State} (hw : ∀ d ∈ tables_1, d.before a0 Z = true) : Jvm.RoadKit.slotOf Z "com/example/isolens/isolens/checker/DynamicOrder" "addedTo" "[I" ≠ Jvm.RoadKit.slotOf Z "com/example/isolens/isolens/checker/DynamicOrder" "ahead" "Lcom/example/isolens/isolens/checker/DynamicOrder$Found;" := slot_ne (Or.inl (hw _ (List.mem_of_getElem? (i := 14) rfl))) (Or.inr (hw _ (List.mem_of_getElem? (i := 29) rfl))) (by decide) (t := (.array .int)) (t' := (.object "com/example/isolens/isolens/checker/DynamicOrder$Found")) (by decide) (by decide)
theorem sn_14 {a0 : Array Value} {Z : State} (hw : ∀ d ∈ tables_1, d.before a0 Z = true) : Jvm.RoadKit.slotOf Z "com/example/isolens/isolens/checker/DynamicOrder" "earlierOut" "[I" ≠ Jvm.RoadKit.slotOf Z "com/example/isolens/isolens/checker/DynamicOrder" "ahead" "Lcom/example/isolens/isolens/checker/DynamicOrder$Found;" := slot_ne (Or.inl (hw _ (List.mem_of_getElem? (i := 16) rfl))) (Or.inr (hw _ (List.mem_of_getElem? (i := 29) rfl))) (by decide) (t := (.array .int)) (t' := (.object "com/example/isolens/isolens/checker/DynamicOrder$Found")) (by decide) (by decide)
theorem sn_15 {a0 : Array Value} {Z : State} (hw : ∀ d ∈ tables_1, d.before a0 Z = true) : Jvm.RoadKit.slotOf Z "com/example/isolens/isolens/checker/DynamicOrder" "earlierIn" "[I" ≠ Jvm.RoadKit.slotOf Z "com/example/isolens/isolens/checker/DynamicOrder" "ahead" "Lcom/example/isolens/isolens/checker/DynamicOrder$Found;" := slot_ne (Or.inl (hw _ (List.mem_of_getElem? (i := 18) rfl))) (Or.inr (hw _ (List.mem_of_getElem? (i := 29) rfl))) (by decide) (t := (.array .int)) (t' := (.object "com/example/isolens/isolens/checker/DynamicOrder$Found")) (by decide) (by decide)
theorem d1_47 : decode prog_17_method_1_code 47 = .ok (.aload_n 0, 1) := by decide +kernel
theorem d1_48 : decode prog_17_method_1_code 48 = .ok (.new 22, 3) := by decide +kernel
theorem d1_51 : decode prog_17_method_1_code 51 = .ok (.dup, 1) := by decide +kernel
theorem d1_52 : decode prog_17_method_1_code 52 = .ok (.invokespecial 24, 3) := by decide +kernel
theorem d1_55 : decode prog_17_method_1_code 55 = .ok (.putfield 29, 3) := by decide +kernel
theorem sn_16 {a0 : Array Value} {Z : State} (hw : ∀ d ∈ tables_1, d.before a0 Z = true) : Jvm.RoadKit.slotOf Z "com/example/isolens/isolens/checker/DynamicOrder" "addedFrom" "[I" ≠ Jvm.RoadKit.slotOf Z "com/example/isolens/isolens/checker/DynamicOrder" "behind" "Lcom/example/isolens/isolens/checker/DynamicOrder$Found;" := slot_ne (Or.inl (hw _ (List.mem_of_getElem? (i := 12) rfl))) (Or.inr (hw _ (List.mem_of_getElem? (i := 31) rfl))) (by decide) (t := (.array .int)) (t' := (.object "com/example/isolens/isolens/checker/DynamicOrder$Found")) (by decide) (by decide)
theorem sn_17 {a0 : Array Value} {Z : State} (hw : ∀ d ∈ tables_1, d.before a0 Z = true) : Jvm.RoadKit.slotOf Z "com/example/isolens/isolens/checker/DynamicOrder" "addedTo" "[I" ≠ Jvm.RoadKit.slotOf Z "com/example/isolens/isolens/checker/DynamicOrder" "behind" "Lcom/example/isolens/isolens/checker/DynamicOrder$Found;" := slot_ne (Or.inl (hw _ (List.mem_of_getElem? (i := 14) rfl))) (Or.inr (hw _ (List.mem_of_getElem? (i := 31) rfl))) (by decide) (t := (.array .int)) (t' := (.object "com/example/isolens/isolens/checker/DynamicOrder$Found")) (by decide) (by decide)
theorem sn_18 {a0 : Array Value} {Z : State} (hw : ∀ d ∈ tables_1, d.before a0 Z = true) : Jvm.RoadKit.slotOf Z "com/example/isolens/isolens/checker/DynamicOrder" "earlierOut" "[I" ≠ Jvm.RoadKit.slotOf Z "com/example/isolens/isolens/checker/DynamicOrder" "behind" "Lcom/example/isolens/isolens/checker/DynamicOrder$Found;" := slot_ne (Or.inl (hw _ (List.mem_of_getElem? (i := 16) rfl))) (Or.inr (hw _ (List.mem_of_getElem? (i := 31) rfl))) (by decide) (t := (.array .int)) (t' := (.object "com/example/isolens/isolens/checker/DynamicOrder$Found")) (by decide) (by decide)
theorem sn_19 {a0 : Array Value} {Z : State} (hw : ∀ d ∈ tables_1, d.before a0 Z = true) : Jvm.RoadKit.slotOf Z "com/example/isolens/isolens/checker/DynamicOrder" "earlierIn" "[I" ≠ Jvm.RoadKit.slotOf Z "com/example/isolens/isolens/checker/DynamicOrder" "behind" "Lcom/example/isolens/isolens/checker/DynamicOrder$Found;" := slot_ne (Or.inl (hw _ (List.mem_of_getElem? (i := 18) rfl))) (Or.inr (hw _ (List.mem_of_getElem? (i := 31) rfl))) (by decide) (t := (.array .int)) (t' := (.object "com/example/isolens/isolens/checker/DynamicOrder$Found")) (by decide) (by decide)
theorem d1_58 : decode prog_17_method_1_code 58 = .ok (.aload_n 0, 1) := by decide +kernel
theorem d1_59 : decode prog_17_method_1_code 59 = .ok (.new 22, 3) := by decide +kernel
theorem d1_62 : decode prog_17_method_1_code 62 = .ok (.dup, 1) := by decide +kernel
theorem d1_63 : decode prog_17_method_1_code 63 = .ok (.invokespecial 24, 3) := by decide +kernel
theorem d1_66 : decode prog_17_method_1_code 66 = .ok (.putfield 32, 3) := by decide +kernel
theorem sn_20 {a0 : Array Value} {Z : State} (hw : ∀ d ∈ tables_1, d.before a0 Z = true) : Jvm.RoadKit.slotOf Z "com/example/isolens/isolens/checker/DynamicOrder" "addedFrom" "[I" ≠ Jvm.RoadKit.slotOf Z "com/example/isolens/isolens/checker/DynamicOrder" "pending" "Lcom/example/isolens/isolens/checker/DynamicOrder$Found;" := slot_ne (Or.inl (hw _ (List.mem_of_getElem? (i := 12) rfl))) (Or.inr (hw _ (List.mem_of_getElem? (i := 33) rfl))) (by decide) (t := (.array .int)) (t' := (.object "com/example/isolens/isolens/checker/DynamicOrder$Found")) (by decide) (by decide)
theorem sn_21 {a0 : Array Value} {Z : State} (hw : ∀ d ∈ tables_1, d.before a0 Z = true) : Jvm.RoadKit.slotOf Z "com/example/isolens/isolens/checker/DynamicOrder" "addedTo" "[I" ≠ Jvm.RoadKit.slotOf Z "com/example/isolens/isolens/checker/DynamicOrder" "pending" "Lcom/example/isolens/isolens/checker/DynamicOrder$Found;" := slot_ne (Or.inl (hw _ (List.mem_of_getElem? (i := 14) rfl))) (Or.inr (hw _ (List.mem_of_getElem? (i := 33) rfl))) (by decide) (t := (.array .int)) (t' := (.object "com/example/isolens/isolens/checker/DynamicOrder$Found")) (by decide) (by decide)
theorem sn_22 {a0 : Array Value} {Z : State} (hw : ∀ d ∈ tables_1, d.before a0 Z = true) : Jvm.RoadKit.slotOf Z "com/example/isolens/isolens/checker/DynamicOrder" "earlierOut" "[I" ≠ Jvm.RoadKit.slotOf Z "com/example/isolens/isolens/checker/DynamicOrder" "pending" "Lcom/example/isolens/isolens/checker/DynamicOrder$Found;" := slot_ne (Or.inl (hw _ (List.mem_of_getElem? (i := 16) rfl))) (Or.inr (hw _ (List.mem_of_getElem? (i := 33) rfl))) (by decide) (t := (.array .int)) (t' := (.object "com/example/isolens/isolens/checker/DynamicOrder$Found")) (by decide) (by decide)
theorem sn_23 {a0 : Array Value} {Z : State} (hw : ∀ d ∈ tables_1, d.before a0 Z = true) : Jvm.RoadKit.slotOf Z "com/example/isolens/isolens/checker/DynamicOrder" "earlierIn" "[I" ≠ Jvm.RoadKit.slotOf Z "com/example/isolens/isolens/checker/DynamicOrder" "pending" "Lcom/example/isolens/isolens/checker/DynamicOrder$Found;" := slot_ne (Or.inl (hw _ (List.mem_of_getElem? (i := 18) rfl))) (Or.inr (hw _ (List.mem_of_getElem? (i := 33) rfl))) (by decide) (t := (.array .int)) (t' := (.object "com/example/isolens/isolens/checker/DynamicOrder$Found")) (by decide) (by decide)
theorem d1_69 : decode prog_17_method_1_code 69 = .ok (.aload_n 0, 1) := by decide +kernel
theorem d1_70 : decode prog_17_method_1_code 70 = .ok (.new 22, 3) := by decide +kernel
theorem d1_73 : decode prog_17_method_1_code 73 = .ok (.dup, 1) := by decide +kernel
theorem d1_74 : decode prog_17_method_1_code 74 = .ok (.invokespecial 24, 3) := by decide +kernel
theorem d1_77 : decode prog_17_method_1_code 77 = .ok (.putfield 35, 3) := by decide +kernel
theorem sn_24 {a0 : Array Value} {Z : State} (hw : ∀ d ∈ tables_1, d.before a0 Z = true) : Jvm.RoadKit.slotOf Z "com/example/isolens/isolens/checker/DynamicOrder" "addedFrom" "[I" ≠ Jvm.RoadKit.slotOf Z "com/example/isolens/isolens/checker/DynamicOrder" "pendingBack" "Lcom/example/isolens/isolens/checker/DynamicOrder$Found;" := slot_ne (Or.inl (hw _ (List.mem_of_getElem? (i := 12) rfl))) (Or.inr (hw _ (List.mem_of_getElem? (i := 35) rfl))) (by decide) (t := (.array .int)) (t' := (.object "com/example/isolens/isolens/checker/DynamicOrder$Found")) (by decide) (by decide)
theorem sn_25 {a0 : Array Value} {Z : State} (hw : ∀ d ∈ tables_1, d.before a0 Z = true) : Jvm.RoadKit.slotOf Z "com/example/isolens/isolens/checker/DynamicOrder" "addedTo" "[I" ≠ Jvm.RoadKit.slotOf Z "com/example/isolens/isolens/checker/DynamicOrder" "pendingBack" "Lcom/example/isolens/isolens/checker/DynamicOrder$Found;" := slot_ne (Or.inl (hw _ (List.mem_of_getElem? (i := 14) rfl))) (Or.inr (hw _ (List.mem_of_getElem? (i := 35) rfl))) (by decide) (t := (.array .int)) (t' := (.object "com/example/isolens/isolens/checker/DynamicOrder$Found")) (by decide) (by decide)
theorem sn_26 {a0 : Array Value} {Z : State} (hw : ∀ d ∈ tables_1, d.before a0 Z = true) : Jvm.RoadKit.slotOf Z "com/example/isolens/isolens/checker/DynamicOrder" "earlierOut" "[I" ≠ Jvm.RoadKit.slotOf Z "com/example/isolens/isolens/checker/DynamicOrder" "pendingBack" "Lcom/example/isolens/isolens/checker/DynamicOrder$Found;" := slot_ne (Or.inl (hw _ (List.mem_of_getElem? (i := 16) rfl))) (Or.inr (hw _ (List.mem_of_getElem? (i := 35) rfl))) (by decide) (t := (.array .int)) (t' := (.object "com/example/isolens/isolens/checker/DynamicOrder$Found")) (by decide) (by decide)
theorem sn_27 {a0 : Array Value} {Z : State} (hw : ∀ d ∈ tables_1, d.before a0 Z = true) : Jvm.RoadKit.slotOf Z "com/example/isolens/isolens/checker/DynamicOrder" "earlierIn" "[I" ≠ Jvm.RoadKit.slotOf Z "com/example/isolens/isolens/checker/DynamicOrder" "pendingBack" "Lcom/example/isolens/isolens/checker/DynamicOrder$Found;" := slot_ne (Or.inl (hw _ (List.mem_of_getElem? (i := 18) rfl))) (Or.inr (hw _ (List.mem_of_getElem? (i := 35) rfl))) (by decide) (t := (.array .int)) (t' := (.object "com/example/isolens/isolens/checker/DynamicOrder$Found")) (by decide) (by decide)
theorem sn_28 {a0 : Array Value} {Z : State} (hw : ∀ d ∈ tables_1, d.before a0 Z = true) : Jvm.RoadKit.slotOf Z "com/example/isolens/isolens/checker/DynamicOrder" "pending" "Lcom/example/isolens/isolens/checker/DynamicOrder$Found;" ≠ Jvm.RoadKit.slotOf Z "com/example/isolens/isolens/checker/DynamicOrder" "pendingBack" "Lcom/example/isolens/isolens/checker/DynamicOrder$Found;" := slot_ne (Or.inr (hw _ (List.mem_of_getElem? (i := 33) rfl))) (Or.inr (hw _ (List.mem_of_getElem? (i := 35) rfl))) (by decide) (t := (.object "com/example/isolens/isolens/checker/DynamicOrder$Found")) (t' := (.object "com/example/isolens/isolens/checker/DynamicOrder$Found")) (by decide) (by decide)
theorem d1_80 : decode prog_17_method_1_code 80 = .ok (.aload_n 0, 1) := by decide +kernel
theorem d1_81 : decode prog_17_method_1_code 81 = .ok (.bipush 16, 2) := by decide +kernel
theorem d1_83 : decode prog_17_method_1_code 83 = .ok (.newarray .int, 2) := by decide +kernel
theorem d1_85 : decode prog_17_method_1_code 85 = .ok (.putfield 38, 3) := by decide +kernel
theorem sn_29 {a0 : Array Value} {Z : State} (hw : ∀ d ∈ tables_1, d.before a0 Z = true) : Jvm.RoadKit.slotOf Z "com/example/isolens/isolens/checker/DynamicOrder" "addedFrom" "[I" ≠ Jvm.RoadKit.slotOf Z "com/example/isolens/isolens/checker/DynamicOrder" "watchedFrom" "[I" := slot_ne (Or.inl (hw _ (List.mem_of_getElem? (i := 12) rfl))) (Or.inl (hw _ (List.mem_of_getElem? (i := 37) rfl))) (by decide) (t := (.array .int)) (t' := (.array .int)) (by decide) (by decide)
theorem sn_30 {a0 : Array Value} {Z : State} (hw : ∀ d ∈ tables_1, d.before a0 Z = true) : Jvm.RoadKit.slotOf Z "com/example/isolens/isolens/checker/DynamicOrder" "addedTo" "[I" ≠ Jvm.RoadKit.slotOf Z "com/example/isolens/isolens/checker/DynamicOrder" "watchedFrom" "[I" := slot_ne (Or.inl (hw _ (List.mem_of_getElem? (i := 14) rfl))) (Or.inl (hw _ (List.mem_of_getElem? (i := 37) rfl))) (by decide) (t := (.array .int)) (t' := (.array .int)) (by decide) (by decide)
theorem sn_31 {a0 : Array Value} {Z : State} (hw : ∀ d ∈ tables_1, d.before a0 Z = true) : Jvm.RoadKit.slotOf Z "com/example/isolens/isolens/checker/DynamicOrder" "earlierOut" "[I" ≠ Jvm.RoadKit.slotOf Z "com/example/isolens/isolens/checker/DynamicOrder" "watchedFrom" "[I" := slot_ne (Or.inl (hw _ (List.mem_of_getElem? (i := 16) rfl))) (Or.inl (hw _ (List.mem_of_getElem? (i := 37) rfl))) (by decide) (t := (.array .int)) (t' := (.array .int)) (by decide) (by decide)
theorem sn_32 {a0 : Array Value} {Z : State} (hw : ∀ d ∈ tables_1, d.before a0 Z = true) : Jvm.RoadKit.slotOf Z "com/example/isolens/isolens/checker/DynamicOrder" "earlierIn" "[I" ≠ Jvm.RoadKit.slotOf Z "com/example/isolens/isolens/checker/DynamicOrder" "watchedFrom" "[I" := slot_ne (Or.inl (hw _ (List.mem_of_getElem? (i := 18) rfl))) (Or.inl (hw _ (List.mem_of_getElem? (i := 37) rfl))) (by decide) (t := (.array .int)) (t' := (.array .int)) (by decide) (by decide)
theorem sn_33 {a0 : Array Value} {Z : State} (hw : ∀ d ∈ tables_1, d.before a0 Z = true) : Jvm.RoadKit.slotOf Z "com/example/isolens/isolens/checker/DynamicOrder" "pending" "Lcom/example/isolens/isolens/checker/DynamicOrder$Found;" ≠ Jvm.RoadKit.slotOf Z "com/example/isolens/isolens/checker/DynamicOrder" "watchedFrom" "[I" := slot_ne (Or.inr (hw _ (List.mem_of_getElem? (i := 33) rfl))) (Or.inl (hw _ (List.mem_of_getElem? (i := 37) rfl))) (by decide) (t := (.object "com/example/isolens/isolens/checker/DynamicOrder$Found")) (t' := (.array .int)) (by decide) (by decide)
theorem sn_34 {a0 : Array Value} {Z : State} (hw : ∀ d ∈ tables_1, d.before a0 Z = true) : Jvm.RoadKit.slotOf Z "com/example/isolens/isolens/checker/DynamicOrder" "pendingBack" "Lcom/example/isolens/isolens/checker/DynamicOrder$Found;" ≠ Jvm.RoadKit.slotOf Z "com/example/isolens/isolens/checker/DynamicOrder" "watchedFrom" "[I" := slot_ne (Or.inr (hw _ (List.mem_of_getElem? (i := 35) rfl))) (Or.inl (hw _ (List.mem_of_getElem? (i := 37) rfl))) (by decide) (t := (.object "com/example/isolens/isolens/checker/DynamicOrder$Found")) (t' := (.array .int)) (by decide) (by decide)
theorem d1_88 : decode prog_17_method_1_code 88 = .ok (.aload_n 0, 1) := by decide +kernel
theorem d1_89 : decode prog_17_method_1_code 89 = .ok (.bipush 16, 2) := by decide +kernel
theorem d1_91 : decode prog_17_method_1_code 91 = .ok (.newarray .int, 2) := by decide +kernel
theorem d1_93 : decode prog_17_method_1_code 93 = .ok (.putfield 41, 3) := by decide +kernel
theorem sn_35 {a0 : Array Value} {Z : State} (hw : ∀ d ∈ tables_1, d.before a0 Z = true) : Jvm.RoadKit.slotOf Z "com/example/isolens/isolens/checker/DynamicOrder" "addedFrom" "[I" ≠ Jvm.RoadKit.slotOf Z "com/example/isolens/isolens/checker/DynamicOrder" "watchedTo" "[I" := slot_ne (Or.inl (hw _ (List.mem_of_getElem? (i := 12) rfl))) (Or.inl (hw _ (List.mem_of_getElem? (i := 39) rfl))) (by decide) (t := (.array .int)) (t' := (.array .int)) (by decide) (by decide)
theorem sn_36 {a0 : Array Value} {Z : State} (hw : ∀ d ∈ tables_1, d.before a0 Z = true) : Jvm.RoadKit.slotOf Z "com/example/isolens/isolens/checker/DynamicOrder" "addedTo" "[I" ≠ Jvm.RoadKit.slotOf Z "com/example/isolens/isolens/checker/DynamicOrder" "watchedTo" "[I" := slot_ne (Or.inl (hw _ (List.mem_of_getElem? (i := 14) rfl))) (Or.inl (hw _ (List.mem_of_getElem? (i := 39) rfl))) (by decide) (t := (.array .int)) (t' := (.array .int)) (by decide) (by decide)
theorem sn_37 {a0 : Array Value} {Z : State} (hw : ∀ d ∈ tables_1, d.before a0 Z = true) : Jvm.RoadKit.slotOf Z "com/example/isolens/isolens/checker/DynamicOrder" "earlierOut" "[I" ≠ Jvm.RoadKit.slotOf Z "com/example/isolens/isolens/checker/DynamicOrder" "watchedTo" "[I" := slot_ne (Or.inl (hw _ (List.mem_of_getElem? (i := 16) rfl))) (Or.inl (hw _ (List.mem_of_getElem? (i := 39) rfl))) (by decide) (t := (.array .int)) (t' := (.array .int)) (by decide) (by decide)
theorem sn_38 {a0 : Array Value} {Z : State} (hw : ∀ d ∈ tables_1, d.before a0 Z = true) : Jvm.RoadKit.slotOf Z "com/example/isolens/isolens/checker/DynamicOrder" "earlierIn" "[I" ≠ Jvm.RoadKit.slotOf Z "com/example/isolens/isolens/checker/DynamicOrder" "watchedTo" "[I" := slot_ne (Or.inl (hw _ (List.mem_of_getElem? (i := 18) rfl))) (Or.inl (hw _ (List.mem_of_getElem? (i := 39) rfl))) (by decide) (t := (.array .int)) (t' := (.array .int)) (by decide) (by decide)
theorem sn_39 {a0 : Array Value} {Z : State} (hw : ∀ d ∈ tables_1, d.before a0 Z = true) : Jvm.RoadKit.slotOf Z "com/example/isolens/isolens/checker/DynamicOrder" "pending" "Lcom/example/isolens/isolens/checker/DynamicOrder$Found;" ≠ Jvm.RoadKit.slotOf Z "com/example/isolens/isolens/checker/DynamicOrder" "watchedTo" "[I" := slot_ne (Or.inr (hw _ (List.mem_of_getElem? (i := 33) rfl))) (Or.inl (hw _ (List.mem_of_getElem? (i := 39) rfl))) (by decide) (t := (.object "com/example/isolens/isolens/checker/DynamicOrder$Found")) (t' := (.array .int)) (by decide) (by decide)
theorem sn_40 {a0 : Array Value} {Z : State} (hw : ∀ d ∈ tables_1, d.before a0 Z = true) : Jvm.RoadKit.slotOf Z "com/example/isolens/isolens/checker/DynamicOrder" "pendingBack" "Lcom/example/isolens/isolens/checker/DynamicOrder$Found;" ≠ Jvm.RoadKit.slotOf Z "com/example/isolens/isolens/checker/DynamicOrder" "watchedTo" "[I" := slot_ne (Or.inr (hw _ (List.mem_of_getElem? (i := 35) rfl))) (Or.inl (hw _ (List.mem_of_getElem? (i := 39) rfl))) (by decide) (t := (.object "com/example/isolens/isolens/checker/DynamicOrder$Found")) (t' := (.array .int)) (by decide) (by decide)
theorem d1_96 : decode prog_17_method_1_code 96 = .ok (.aload_n 0, 1) := by decide +kernel
theorem d1_97 : decode prog_17_method_1_code 97 = .ok (.bipush 16, 2) := by decide +kernel
theorem d1_99 : decode prog_17_method_1_code 99 = .ok (.newarray .int, 2) := by decide +kernel
theorem d1_101 : decode prog_17_method_1_code 101 = .ok (.putfield 44, 3) := by decide +kernel
theorem sn_41 {a0 : Array Value} {Z : State} (hw : ∀ d ∈ tables_1, d.before a0 Z = true) : Jvm.RoadKit.slotOf Z "com/example/isolens/isolens/checker/DynamicOrder" "addedFrom" "[I" ≠ Jvm.RoadKit.slotOf Z "com/example/isolens/isolens/checker/DynamicOrder" "earlierWatchedIn" "[I" := slot_ne (Or.inl (hw _ (List.mem_of_getElem? (i := 12) rfl))) (Or.inl (hw _ (List.mem_of_getElem? (i := 41) rfl))) (by decide) (t := (.array .int)) (t' := (.array .int)) (by decide) (by decide)
theorem sn_42 {a0 : Array Value} {Z : State} (hw : ∀ d ∈ tables_1, d.before a0 Z = true) : Jvm.RoadKit.slotOf Z "com/example/isolens/isolens/checker/DynamicOrder" "addedTo" "[I" ≠ Jvm.RoadKit.slotOf Z "com/example/isolens/isolens/checker/DynamicOrder" "earlierWatchedIn" "[I" := slot_ne (Or.inl (hw _ (List.mem_of_getElem? (i := 14) rfl))) (Or.inl (hw _ (List.mem_of_getElem? (i := 41) rfl))) (by decide) (t := (.array .int)) (t' := (.array .int)) (by decide) (by decide)
theorem sn_43 {a0 : Array Value} {Z : State} (hw : ∀ d ∈ tables_1, d.before a0 Z = true) : Jvm.RoadKit.slotOf Z "com/example/isolens/isolens/checker/DynamicOrder" "earlierOut" "[I" ≠ Jvm.RoadKit.slotOf Z "com/example/isolens/isolens/checker/DynamicOrder" "earlierWatchedIn" "[I" := slot_ne (Or.inl (hw _ (List.mem_of_getElem? (i := 16) rfl))) (Or.inl (hw _ (List.mem_of_getElem? (i := 41) rfl))) (by decide) (t := (.array .int)) (t' := (.array .int)) (by decide) (by decide)
theorem sn_44 {a0 : Array Value} {Z : State} (hw : ∀ d ∈ tables_1, d.before a0 Z = true) : Jvm.RoadKit.slotOf Z "com/example/isolens/isolens/checker/DynamicOrder" "earlierIn" "[I" ≠ Jvm.RoadKit.slotOf Z "com/example/isolens/isolens/checker/DynamicOrder" "earlierWatchedIn" "[I" := slot_ne (Or.inl (hw _ (List.mem_of_getElem? (i := 18) rfl))) (Or.inl (hw _ (List.mem_of_getElem? (i := 41) rfl))) (by decide) (t := (.array .int)) (t' := (.array .int)) (by decide) (by decide)
theorem sn_45 {a0 : Array Value} {Z : State} (hw : ∀ d ∈ tables_1, d.before a0 Z = true) : Jvm.RoadKit.slotOf Z "com/example/isolens/isolens/checker/DynamicOrder" "pending" "Lcom/example/isolens/isolens/checker/DynamicOrder$Found;" ≠ Jvm.RoadKit.slotOf Z "com/example/isolens/isolens/checker/DynamicOrder" "earlierWatchedIn" "[I" := slot_ne (Or.inr (hw _ (List.mem_of_getElem? (i := 33) rfl))) (Or.inl (hw _ (List.mem_of_getElem? (i := 41) rfl))) (by decide) (t := (.object "com/example/isolens/isolens/checker/DynamicOrder$Found")) (t' := (.array .int)) (by decide) (by decide)
theorem sn_46 {a0 : Array Value} {Z : State} (hw : ∀ d ∈ tables_1, d.before a0 Z = true) : Jvm.RoadKit.slotOf Z "com/example/isolens/isolens/checker/DynamicOrder" "pendingBack" "Lcom/example/isolens/isolens/checker/DynamicOrder$Found;" ≠ Jvm.RoadKit.slotOf Z "com/example/isolens/isolens/checker/DynamicOrder" "earlierWatchedIn" "[I" := slot_ne (Or.inr (hw _ (List.mem_of_getElem? (i := 35) rfl))) (Or.inl (hw _ (List.mem_of_getElem? (i := 41) rfl))) (by decide) (t := (.object "com/example/isolens/isolens/checker/DynamicOrder$Found")) (t' := (.array .int)) (by decide) (by decide)
theorem d1_104 : decode prog_17_method_1_code 104 = .ok (.aload_n 0, 1) := by decide +kernel
theorem d1_105 : decode prog_17_method_1_code 105 = .ok (.bipush 16, 2) := by decide +kernel
theorem d1_107 : decode prog_17_method_1_code 107 = .ok (.newarray .int, 2) := by decide +kernel
theorem d1_109 : decode prog_17_method_1_code 109 = .ok (.putfield 47, 3) := by decide +kernel
theorem sn_47 {a0 : Array Value} {Z : State} (hw : ∀ d ∈ tables_1, d.before a0 Z = true) : Jvm.RoadKit.slotOf Z "com/example/isolens/isolens/checker/DynamicOrder" "addedFrom" "[I" ≠ Jvm.RoadKit.slotOf Z "com/example/isolens/isolens/checker/DynamicOrder" "earlierWatchedOut" "[I" := slot_ne (Or.inl (hw _ (List.mem_of_getElem? (i := 12) rfl))) (Or.inl (hw _ (List.mem_of_getElem? (i := 43) rfl))) (by decide) (t := (.array .int)) (t' := (.array .int)) (by decide) (by decide)
theorem sn_48 {a0 : Array Value} {Z : State} (hw : ∀ d ∈ tables_1, d.before a0 Z = true) : Jvm.RoadKit.slotOf Z "com/example/isolens/isolens/checker/DynamicOrder" "addedTo" "[I" ≠ Jvm.RoadKit.slotOf Z "com/example/isolens/isolens/checker/DynamicOrder" "earlierWatchedOut" "[I" := slot_ne (Or.inl (hw _ (List.mem_of_getElem? (i := 14) rfl))) (Or.inl (hw _ (List.mem_of_getElem? (i := 43) rfl))) (by decide) (t := (.array .int)) (t' := (.array .int)) (by decide) (by decide)
theorem sn_49 {a0 : Array Value} {Z : State} (hw : ∀ d ∈ tables_1, d.before a0 Z = true) : Jvm.RoadKit.slotOf Z "com/example/isolens/isolens/checker/DynamicOrder" "earlierOut" "[I" ≠ Jvm.RoadKit.slotOf Z "com/example/isolens/isolens/checker/DynamicOrder" "earlierWatchedOut" "[I" := slot_ne (Or.inl (hw _ (List.mem_of_getElem? (i := 16) rfl))) (Or.inl (hw _ (List.mem_of_getElem? (i := 43) rfl))) (by decide) (t := (.array .int)) (t' := (.array .int)) (by decide) (by decide)
theorem sn_50 {a0 : Array Value} {Z : State} (hw : ∀ d ∈ tables_1, d.before a0 Z = true) : Jvm.RoadKit.slotOf Z "com/example/isolens/isolens/checker/DynamicOrder" "earlierIn" "[I" ≠ Jvm.RoadKit.slotOf Z "com/example/isolens/isolens/checker/DynamicOrder" "earlierWatchedOut" "[I" := slot_ne (Or.inl (hw _ (List.mem_of_getElem? (i := 18) rfl))) (Or.inl (hw _ (List.mem_of_getElem? (i := 43) rfl))) (by decide) (t := (.array .int)) (t' := (.array .int)) (by decide) (by decide)
theorem sn_51 {a0 : Array Value} {Z : State} (hw : ∀ d ∈ tables_1, d.before a0 Z = true) : Jvm.RoadKit.slotOf Z "com/example/isolens/isolens/checker/DynamicOrder" "pending" "Lcom/example/isolens/isolens/checker/DynamicOrder$Found;" ≠ Jvm.RoadKit.slotOf Z "com/example/isolens/isolens/checker/DynamicOrder" "earlierWatchedOut" "[I" := slot_ne (Or.inr (hw _ (List.mem_of_getElem? (i := 33) rfl))) (Or.inl (hw _ (List.mem_of_getElem? (i := 43) rfl))) (by decide) (t := (.object "com/example/isolens/isolens/checker/DynamicOrder$Found")) (t' := (.array .int)) (by decide) (by decide)
theorem sn_52 {a0 : Array Value} {Z : State} (hw : ∀ d ∈ tables_1, d.before a0 Z = true) : Jvm.RoadKit.slotOf Z "com/example/isolens/isolens/checker/DynamicOrder" "pendingBack" "Lcom/example/isolens/isolens/checker/DynamicOrder$Found;" ≠ Jvm.RoadKit.slotOf Z "com/example/isolens/isolens/checker/DynamicOrder" "earlierWatchedOut" "[I" := slot_ne (Or.inr (hw _ (List.mem_of_getElem? (i := 35) rfl))) (Or.inl (hw _ (List.mem_of_getElem? (i := 43) rfl))) (by decide) (t := (.object "com/example/isolens/isolens/checker/DynamicOrder$Found")) (t' := (.array .int)) (by decide) (by decide)
theorem d1_112 : decode prog_17_method_1_code 112 = .ok (.aload_n 0, 1) := by decide +kernel
theorem d1_113 : decode prog_17_method_1_code 113 = .ok (.new 50, 3) := by decide +kernel
theorem d1_116 : decode prog_17_method_1_code 116 = .ok (.dup, 1) := by decide +kernel
theorem d1_117 : decode prog_17_method_1_code 117 = .ok (.invokespecial 52, 3) := by decide +kernel
theorem d1_120 : decode prog_17_method_1_code 120 = .ok (.putfield 53, 3) := by decide +kernel
theorem sn_53 {a0 : Array Value} {Z : State} (hw : ∀ d ∈ tables_1, d.before a0 Z = true) : Jvm.RoadKit.slotOf Z "com/example/isolens/isolens/checker/DynamicOrder" "addedFrom" "[I" ≠ Jvm.RoadKit.slotOf Z "com/example/isolens/isolens/checker/DynamicOrder" "watchedNow" "Ljava/util/BitSet;" := slot_ne (Or.inl (hw _ (List.mem_of_getElem? (i := 12) rfl))) (Or.inr (hw _ (List.mem_of_getElem? (i := 67) rfl))) (by decide) (t := (.array .int)) (t' := (.object "java/util/BitSet")) (by decide) (by decide)
theorem sn_54 {a0 : Array Value} {Z : State} (hw : ∀ d ∈ tables_1, d.before a0 Z = true) : Jvm.RoadKit.slotOf Z "com/example/isolens/isolens/checker/DynamicOrder" "addedTo" "[I" ≠ Jvm.RoadKit.slotOf Z "com/example/isolens/isolens/checker/DynamicOrder" "watchedNow" "Ljava/util/BitSet;" := slot_ne (Or.inl (hw _ (List.mem_of_getElem? (i := 14) rfl))) (Or.inr (hw _ (List.mem_of_getElem? (i := 67) rfl))) (by decide) (t := (.array .int)) (t' := (.object "java/util/BitSet")) (by decide) (by decide)
theorem sn_55 {a0 : Array Value} {Z : State} (hw : ∀ d ∈ tables_1, d.before a0 Z = true) : Jvm.RoadKit.slotOf Z "com/example/isolens/isolens/checker/DynamicOrder" "earlierOut" "[I" ≠ Jvm.RoadKit.slotOf Z "com/example/isolens/isolens/checker/DynamicOrder" "watchedNow" "Ljava/util/BitSet;" := slot_ne (Or.inl (hw _ (List.mem_of_getElem? (i := 16) rfl))) (Or.inr (hw _ (List.mem_of_getElem? (i := 67) rfl))) (by decide) (t := (.array .int)) (t' := (.object "java/util/BitSet")) (by decide) (by decide)
theorem sn_56 {a0 : Array Value} {Z : State} (hw : ∀ d ∈ tables_1, d.before a0 Z = true) : Jvm.RoadKit.slotOf Z "com/example/isolens/isolens/checker/DynamicOrder" "earlierIn" "[I" ≠ Jvm.RoadKit.slotOf Z "com/example/isolens/isolens/checker/DynamicOrder" "watchedNow" "Ljava/util/BitSet;" := slot_ne (Or.inl (hw _ (List.mem_of_getElem? (i := 18) rfl))) (Or.inr (hw _ (List.mem_of_getElem? (i := 67) rfl))) (by decide) (t := (.array .int)) (t' := (.object "java/util/BitSet")) (by decide) (by decide)
theorem sn_57 {a0 : Array Value} {Z : State} (hw : ∀ d ∈ tables_1, d.before a0 Z = true) : Jvm.RoadKit.slotOf Z "com/example/isolens/isolens/checker/DynamicOrder" "pending" "Lcom/example/isolens/isolens/checker/DynamicOrder$Found;" ≠ Jvm.RoadKit.slotOf Z "com/example/isolens/isolens/checker/DynamicOrder" "watchedNow" "Ljava/util/BitSet;" := slot_ne (Or.inr (hw _ (List.mem_of_getElem? (i := 33) rfl))) (Or.inr (hw _ (List.mem_of_getElem? (i := 67) rfl))) (by decide) (t := (.object "com/example/isolens/isolens/checker/DynamicOrder$Found")) (t' := (.object "java/util/BitSet")) (by decide) (by decide)
theorem sn_58 {a0 : Array Value} {Z : State} (hw : ∀ d ∈ tables_1, d.before a0 Z = true) : Jvm.RoadKit.slotOf Z "com/example/isolens/isolens/checker/DynamicOrder" "pendingBack" "Lcom/example/isolens/isolens/checker/DynamicOrder$Found;" ≠ Jvm.RoadKit.slotOf Z "com/example/isolens/isolens/checker/DynamicOrder" "watchedNow" "Ljava/util/BitSet;" := slot_ne (Or.inr (hw _ (List.mem_of_getElem? (i := 35) rfl))) (Or.inr (hw _ (List.mem_of_getElem? (i := 67) rfl))) (by decide) (t := (.object "com/example/isolens/isolens/checker/DynamicOrder$Found")) (t' := (.object "java/util/BitSet")) (by decide) (by decide)
theorem d1_123 : decode prog_17_method_1_code 123 = .ok (.aload_n 0, 1) := by decide +kernel
theorem d1_124 : decode prog_17_method_1_code 124 = .ok (.new 22, 3) := by decide +kernel
theorem d1_127 : decode prog_17_method_1_code 127 = .ok (.dup, 1) := by decide +kernel
theorem d1_128 : decode prog_17_method_1_code 128 = .ok (.invokespecial 24, 3) := by decide +kernel
theorem d1_131 : decode prog_17_method_1_code 131 = .ok (.putfield 57, 3) := by decide +kernel
theorem sn_59 {a0 : Array Value} {Z : State} (hw : ∀ d ∈ tables_1, d.before a0 Z = true) : Jvm.RoadKit.slotOf Z "com/example/isolens/isolens/checker/DynamicOrder" "addedFrom" "[I" ≠ Jvm.RoadKit.slotOf Z "com/example/isolens/isolens/checker/DynamicOrder" "unsettled" "Lcom/example/isolens/isolens/checker/DynamicOrder$Found;" := slot_ne (Or.inl (hw _ (List.mem_of_getElem? (i := 12) rfl))) (Or.inr (hw _ (List.mem_of_getElem? (i := 69) rfl))) (by decide) (t := (.array .int)) (t' := (.object "com/example/isolens/isolens/checker/DynamicOrder$Found")) (by decide) (by decide)
theorem sn_60 {a0 : Array Value} {Z : State} (hw : ∀ d ∈ tables_1, d.before a0 Z = true) : Jvm.RoadKit.slotOf Z "com/example/isolens/isolens/checker/DynamicOrder" "addedTo" "[I" ≠ Jvm.RoadKit.slotOf Z "com/example/isolens/isolens/checker/DynamicOrder" "unsettled" "Lcom/example/isolens/isolens/checker/DynamicOrder$Found;" := slot_ne (Or.inl (hw _ (List.mem_of_getElem? (i := 14) rfl))) (Or.inr (hw _ (List.mem_of_getElem? (i := 69) rfl))) (by decide) (t := (.array .int)) (t' := (.object "com/example/isolens/isolens/checker/DynamicOrder$Found")) (by decide) (by decide)
theorem sn_61 {a0 : Array Value} {Z : State} (hw : ∀ d ∈ tables_1, d.before a0 Z = true) : Jvm.RoadKit.slotOf Z "com/example/isolens/isolens/checker/DynamicOrder" "earlierOut" "[I" ≠ Jvm.RoadKit.slotOf Z "com/example/isolens/isolens/checker/DynamicOrder" "unsettled" "Lcom/example/isolens/isolens/checker/DynamicOrder$Found;" := slot_ne (Or.inl (hw _ (List.mem_of_getElem? (i := 16) rfl))) (Or.inr (hw _ (List.mem_of_getElem? (i := 69) rfl))) (by decide) (t := (.array .int)) (t' := (.object "com/example/isolens/isolens/checker/DynamicOrder$Found")) (by decide) (by decide)
theorem sn_62 {a0 : Array Value} {Z : State} (hw : ∀ d ∈ tables_1, d.before a0 Z = true) : Jvm.RoadKit.slotOf Z "com/example/isolens/isolens/checker/DynamicOrder" "earlierIn" "[I" ≠ Jvm.RoadKit.slotOf Z "com/example/isolens/isolens/checker/DynamicOrder" "unsettled" "Lcom/example/isolens/isolens/checker/DynamicOrder$Found;" := slot_ne (Or.inl (hw _ (List.mem_of_getElem? (i := 18) rfl))) (Or.inr (hw _ (List.mem_of_getElem? (i := 69) rfl))) (by decide) (t := (.array .int)) (t' := (.object "com/example/isolens/isolens/checker/DynamicOrder$Found")) (by decide) (by decide)
theorem sn_63 {a0 : Array Value} {Z : State} (hw : ∀ d ∈ tables_1, d.before a0 Z = true) : Jvm.RoadKit.slotOf Z "com/example/isolens/isolens/checker/DynamicOrder" "pending" "Lcom/example/isolens/isolens/checker/DynamicOrder$Found;" ≠ Jvm.RoadKit.slotOf Z "com/example/isolens/isolens/checker/DynamicOrder" "unsettled" "Lcom/example/isolens/isolens/checker/DynamicOrder$Found;" := slot_ne (Or.inr (hw _ (List.mem_of_getElem? (i := 33) rfl))) (Or.inr (hw _ (List.mem_of_getElem? (i := 69) rfl))) (by decide) (t := (.object "com/example/isolens/isolens/checker/DynamicOrder$Found")) (t' := (.object "com/example/isolens/isolens/checker/DynamicOrder$Found")) (by decide) (by decide)
theorem sn_64 {a0 : Array Value} {Z : State} (hw : ∀ d ∈ tables_1, d.before a0 Z = true) : Jvm.RoadKit.slotOf Z "com/example/isolens/isolens/checker/DynamicOrder" "pendingBack" "Lcom/example/isolens/isolens/checker/DynamicOrder$Found;" ≠ Jvm.RoadKit.slotOf Z "com/example/isolens/isolens/checker/DynamicOrder" "unsettled" "Lcom/example/isolens/isolens/checker/DynamicOrder$Found;" := slot_ne (Or.inr (hw _ (List.mem_of_getElem? (i := 35) rfl))) (Or.inr (hw _ (List.mem_of_getElem? (i := 69) rfl))) (by decide) (t := (.object "com/example/isolens/isolens/checker/DynamicOrder$Found")) (t' := (.object "com/example/isolens/isolens/checker/DynamicOrder$Found")) (by decide) (by decide)
theorem d1_134 : decode prog_17_method_1_code 134 = .ok (.aload_n 0, 1) := by decide +kernel
theorem d1_135 : decode prog_17_method_1_code 135 = .ok (.new 22, 3) := by decide +kernel
theorem d1_138 : decode prog_17_method_1_code 138 = .ok (.dup, 1) := by decide +kernel
theorem d1_139 : decode prog_17_method_1_code 139 = .ok (.invokespecial 24, 3) := by decide +kernel
theorem d1_142 : decode prog_17_method_1_code 142 = .ok (.putfield 60, 3) := by decide +kernel
theorem sn_65 {a0 : Array Value} {Z : State} (hw : ∀ d ∈ tables_1, d.before a0 Z = true) : Jvm.RoadKit.slotOf Z "com/example/isolens/isolens/checker/DynamicOrder" "addedFrom" "[I" ≠ Jvm.RoadKit.slotOf Z "com/example/isolens/isolens/checker/DynamicOrder" "closing" "Lcom/example/isolens/isolens/checker/DynamicOrder$Found;" := slot_ne (Or.inl (hw _ (List.mem_of_getElem? (i := 12) rfl))) (Or.inr (hw _ (List.mem_of_getElem? (i := 71) rfl))) (by decide) (t := (.array .int)) (t' := (.object "com/example/isolens/isolens/checker/DynamicOrder$Found")) (by decide) (by decide)
theorem sn_66 {a0 : Array Value} {Z : State} (hw : ∀ d ∈ tables_1, d.before a0 Z = true) : Jvm.RoadKit.slotOf Z "com/example/isolens/isolens/checker/DynamicOrder" "addedTo" "[I" ≠ Jvm.RoadKit.slotOf Z "com/example/isolens/isolens/checker/DynamicOrder" "closing" "Lcom/example/isolens/isolens/checker/DynamicOrder$Found;" := slot_ne (Or.inl (hw _ (List.mem_of_getElem? (i := 14) rfl))) (Or.inr (hw _ (List.mem_of_getElem? (i := 71) rfl))) (by decide) (t := (.array .int)) (t' := (.object "com/example/isolens/isolens/checker/DynamicOrder$Found")) (by decide) (by decide)
theorem sn_67 {a0 : Array Value} {Z : State} (hw : ∀ d ∈ tables_1, d.before a0 Z = true) : Jvm.RoadKit.slotOf Z "com/example/isolens/isolens/checker/DynamicOrder" "earlierOut" "[I" ≠ Jvm.RoadKit.slotOf Z "com/example/isolens/isolens/checker/DynamicOrder" "closing" "Lcom/example/isolens/isolens/checker/DynamicOrder$Found;" := slot_ne (Or.inl (hw _ (List.mem_of_getElem? (i := 16) rfl))) (Or.inr (hw _ (List.mem_of_getElem? (i := 71) rfl))) (by decide) (t := (.array .int)) (t' := (.object "com/example/isolens/isolens/checker/DynamicOrder$Found")) (by decide) (by decide)
theorem sn_68 {a0 : Array Value} {Z : State} (hw : ∀ d ∈ tables_1, d.before a0 Z = true) : Jvm.RoadKit.slotOf Z "com/example/isolens/isolens/checker/DynamicOrder" "earlierIn" "[I" ≠ Jvm.RoadKit.slotOf Z "com/example/isolens/isolens/checker/DynamicOrder" "closing" "Lcom/example/isolens/isolens/checker/DynamicOrder$Found;" := slot_ne (Or.inl (hw _ (List.mem_of_getElem? (i := 18) rfl))) (Or.inr (hw _ (List.mem_of_getElem? (i := 71) rfl))) (by decide) (t := (.array .int)) (t' := (.object "com/example/isolens/isolens/checker/DynamicOrder$Found")) (by decide) (by decide)
theorem sn_69 {a0 : Array Value} {Z : State} (hw : ∀ d ∈ tables_1, d.before a0 Z = true) : Jvm.RoadKit.slotOf Z "com/example/isolens/isolens/checker/DynamicOrder" "pending" "Lcom/example/isolens/isolens/checker/DynamicOrder$Found;" ≠ Jvm.RoadKit.slotOf Z "com/example/isolens/isolens/checker/DynamicOrder" "closing" "Lcom/example/isolens/isolens/checker/DynamicOrder$Found;" := slot_ne (Or.inr (hw _ (List.mem_of_getElem? (i := 33) rfl))) (Or.inr (hw _ (List.mem_of_getElem? (i := 71) rfl))) (by decide) (t := (.object "com/example/isolens/isolens/checker/DynamicOrder$Found")) (t' := (.object "com/example/isolens/isolens/checker/DynamicOrder$Found")) (by decide) (by decide)
theorem sn_70 {a0 : Array Value} {Z : State} (hw : ∀ d ∈ tables_1, d.before a0 Z = true) : Jvm.RoadKit.slotOf Z "com/example/isolens/isolens/checker/DynamicOrder" "pendingBack" "Lcom/example/isolens/isolens/checker/DynamicOrder$Found;" ≠ Jvm.RoadKit.slotOf Z "com/example/isolens/isolens/checker/DynamicOrder" "closing" "Lcom/example/isolens/isolens/checker/DynamicOrder$Found;" := slot_ne (Or.inr (hw _ (List.mem_of_getElem? (i := 35) rfl))) (Or.inr (hw _ (List.mem_of_getElem? (i := 71) rfl))) (by decide) (t := (.object "com/example/isolens/isolens/checker/DynamicOrder$Found")) (t' := (.object "com/example/isolens/isolens/checker/DynamicOrder$Found")) (by decide) (by decide)
theorem d1_145 : decode prog_17_method_1_code 145 = .ok (.aload 4, 2) := by decide +kernel
theorem d1_147 : decode prog_17_method_1_code 147 = .ok (.arraylength, 1) := by decide +kernel
theorem d1_148 : decode prog_17_method_1_code 148 = .ok (.istore 5, 2) := by decide +kernel
theorem d1_150 : decode prog_17_method_1_code 150 = .ok (.aload_n 0, 1) := by decide +kernel
theorem d1_151 : decode prog_17_method_1_code 151 = .ok (.iload 5, 2) := by decide +kernel
theorem d1_153 : decode prog_17_method_1_code 153 = .ok (.iconst 1, 1) := by decide +kernel
theorem d1_154 : decode prog_17_method_1_code 154 = .ok (.iadd, 1) := by decide +kernel
theorem d1_155 : decode prog_17_method_1_code 155 = .ok (.newarray .int, 2) := by decide +kernel
theorem d1_157 : decode prog_17_method_1_code 157 = .ok (.putfield 63, 3) := by decide +kernel
theorem sn_71 {a0 : Array Value} {Z : State} (hw : ∀ d ∈ tables_1, d.before a0 Z = true) : Jvm.RoadKit.slotOf Z "com/example/isolens/isolens/checker/DynamicOrder" "addedFrom" "[I" ≠ Jvm.RoadKit.slotOf Z "com/example/isolens/isolens/checker/DynamicOrder" "firstOut" "[I" := slot_ne (Or.inl (hw _ (List.mem_of_getElem? (i := 12) rfl))) (Or.inr (hw _ (List.mem_of_getElem? (i := 73) rfl))) (by decide) (t := (.array .int)) (t' := (.array .int)) (by decide) (by decide)
theorem sn_72 {a0 : Array Value} {Z : State} (hw : ∀ d ∈ tables_1, d.before a0 Z = true) : Jvm.RoadKit.slotOf Z "com/example/isolens/isolens/checker/DynamicOrder" "addedTo" "[I" ≠ Jvm.RoadKit.slotOf Z "com/example/isolens/isolens/checker/DynamicOrder" "firstOut" "[I" := slot_ne (Or.inl (hw _ (List.mem_of_getElem? (i := 14) rfl))) (Or.inr (hw _ (List.mem_of_getElem? (i := 73) rfl))) (by decide) (t := (.array .int)) (t' := (.array .int)) (by decide) (by decide)
theorem sn_73 {a0 : Array Value} {Z : State} (hw : ∀ d ∈ tables_1, d.before a0 Z = true) : Jvm.RoadKit.slotOf Z "com/example/isolens/isolens/checker/DynamicOrder" "earlierOut" "[I" ≠ Jvm.RoadKit.slotOf Z "com/example/isolens/isolens/checker/DynamicOrder" "firstOut" "[I" := slot_ne (Or.inl (hw _ (List.mem_of_getElem? (i := 16) rfl))) (Or.inr (hw _ (List.mem_of_getElem? (i := 73) rfl))) (by decide) (t := (.array .int)) (t' := (.array .int)) (by decide) (by decide)
theorem sn_74 {a0 : Array Value} {Z : State} (hw : ∀ d ∈ tables_1, d.before a0 Z = true) : Jvm.RoadKit.slotOf Z "com/example/isolens/isolens/checker/DynamicOrder" "earlierIn" "[I" ≠ Jvm.RoadKit.slotOf Z "com/example/isolens/isolens/checker/DynamicOrder" "firstOut" "[I" := slot_ne (Or.inl (hw _ (List.mem_of_getElem? (i := 18) rfl))) (Or.inr (hw _ (List.mem_of_getElem? (i := 73) rfl))) (by decide) (t := (.array .int)) (t' := (.array .int)) (by decide) (by decide)
theorem sn_75 {a0 : Array Value} {Z : State} (hw : ∀ d ∈ tables_1, d.before a0 Z = true) : Jvm.RoadKit.slotOf Z "com/example/isolens/isolens/checker/DynamicOrder" "pending" "Lcom/example/isolens/isolens/checker/DynamicOrder$Found;" ≠ Jvm.RoadKit.slotOf Z "com/example/isolens/isolens/checker/DynamicOrder" "firstOut" "[I" := slot_ne (Or.inr (hw _ (List.mem_of_getElem? (i := 33) rfl))) (Or.inr (hw _ (List.mem_of_getElem? (i := 73) rfl))) (by decide) (t := (.object "com/example/isolens/isolens/checker/DynamicOrder$Found")) (t' := (.array .int)) (by decide) (by decide)
theorem sn_76 {a0 : Array Value} {Z : State} (hw : ∀ d ∈ tables_1, d.before a0 Z = true) : Jvm.RoadKit.slotOf Z "com/example/isolens/isolens/checker/DynamicOrder" "pendingBack" "Lcom/example/isolens/isolens/checker/DynamicOrder$Found;" ≠ Jvm.RoadKit.slotOf Z "com/example/isolens/isolens/checker/DynamicOrder" "firstOut" "[I" := slot_ne (Or.inr (hw _ (List.mem_of_getElem? (i := 35) rfl))) (Or.inr (hw _ (List.mem_of_getElem? (i := 73) rfl))) (by decide) (t := (.object "com/example/isolens/isolens/checker/DynamicOrder$Found")) (t' := (.array .int)) (by decide) (by decide)
theorem d1_160 : decode prog_17_method_1_code 160 = .ok (.aload_n 0, 1) := by decide +kernel
theorem d1_161 : decode prog_17_method_1_code 161 = .ok (.aload_n 1, 1) := by decide +kernel
theorem d1_162 : decode prog_17_method_1_code 162 = .ok (.aload_n 2, 1) := by decide +kernel
theorem d1_163 : decode prog_17_method_1_code 163 = .ok (.iload_n 3, 1) := by decide +kernel
theorem d1_164 : decode prog_17_method_1_code 164 = .ok (.aload_n 0, 1) := by decide +kernel
theorem d1_165 : decode prog_17_method_1_code 165 = .ok (.getfield 63, 3) := by decide +kernel
theorem d1_168 : decode prog_17_method_1_code 168 = .ok (.invokestatic 66, 3) := by decide +kernel
theorem pd___I_II_I__I_810 : parseMethodDescriptor "([I[II[I)[I" = some ⟨[(.array .int), (.array .int), .int, (.array .int)], some (.array .int)⟩ := by decide +kernel
theorem d1_171 : decode prog_17_method_1_code 171 = .ok (.putfield 72, 3) := by decide +kernel
theorem sn_77 {a0 : Array Value} {Z : State} (hw : ∀ d ∈ tables_1, d.before a0 Z = true) : Jvm.RoadKit.slotOf Z "com/example/isolens/isolens/checker/DynamicOrder" "addedFrom" "[I" ≠ Jvm.RoadKit.slotOf Z "com/example/isolens/isolens/checker/DynamicOrder" "out" "[I" := slot_ne (Or.inl (hw _ (List.mem_of_getElem? (i := 12) rfl))) (Or.inr (hw _ (List.mem_of_getElem? (i := 86) rfl))) (by decide) (t := (.array .int)) (t' := (.array .int)) (by decide) (by decide)
theorem sn_78 {a0 : Array Value} {Z : State} (hw : ∀ d ∈ tables_1, d.before a0 Z = true) : Jvm.RoadKit.slotOf Z "com/example/isolens/isolens/checker/DynamicOrder" "addedTo" "[I" ≠ Jvm.RoadKit.slotOf Z "com/example/isolens/isolens/checker/DynamicOrder" "out" "[I" := slot_ne (Or.inl (hw _ (List.mem_of_getElem? (i := 14) rfl))) (Or.inr (hw _ (List.mem_of_getElem? (i := 86) rfl))) (by decide) (t := (.array .int)) (t' := (.array .int)) (by decide) (by decide)
theorem sn_79 {a0 : Array Value} {Z : State} (hw : ∀ d ∈ tables_1, d.before a0 Z = true) : Jvm.RoadKit.slotOf Z "com/example/isolens/isolens/checker/DynamicOrder" "earlierOut" "[I" ≠ Jvm.RoadKit.slotOf Z "com/example/isolens/isolens/checker/DynamicOrder" "out" "[I" := slot_ne (Or.inl (hw _ (List.mem_of_getElem? (i := 16) rfl))) (Or.inr (hw _ (List.mem_of_getElem? (i := 86) rfl))) (by decide) (t := (.array .int)) (t' := (.array .int)) (by decide) (by decide)
theorem sn_80 {a0 : Array Value} {Z : State} (hw : ∀ d ∈ tables_1, d.before a0 Z = true) : Jvm.RoadKit.slotOf Z "com/example/isolens/isolens/checker/DynamicOrder" "earlierIn" "[I" ≠ Jvm.RoadKit.slotOf Z "com/example/isolens/isolens/checker/DynamicOrder" "out" "[I" := slot_ne (Or.inl (hw _ (List.mem_of_getElem? (i := 18) rfl))) (Or.inr (hw _ (List.mem_of_getElem? (i := 86) rfl))) (by decide) (t := (.array .int)) (t' := (.array .int)) (by decide) (by decide)
theorem sn_81 {a0 : Array Value} {Z : State} (hw : ∀ d ∈ tables_1, d.before a0 Z = true) : Jvm.RoadKit.slotOf Z "com/example/isolens/isolens/checker/DynamicOrder" "pending" "Lcom/example/isolens/isolens/checker/DynamicOrder$Found;" ≠ Jvm.RoadKit.slotOf Z "com/example/isolens/isolens/checker/DynamicOrder" "out" "[I" := slot_ne (Or.inr (hw _ (List.mem_of_getElem? (i := 33) rfl))) (Or.inr (hw _ (List.mem_of_getElem? (i := 86) rfl))) (by decide) (t := (.object "com/example/isolens/isolens/checker/DynamicOrder$Found")) (t' := (.array .int)) (by decide) (by decide)
theorem sn_82 {a0 : Array Value} {Z : State} (hw : ∀ d ∈ tables_1, d.before a0 Z = true) : Jvm.RoadKit.slotOf Z "com/example/isolens/isolens/checker/DynamicOrder" "pendingBack" "Lcom/example/isolens/isolens/checker/DynamicOrder$Found;" ≠ Jvm.RoadKit.slotOf Z "com/example/isolens/isolens/checker/DynamicOrder" "out" "[I" := slot_ne (Or.inr (hw _ (List.mem_of_getElem? (i := 35) rfl))) (Or.inr (hw _ (List.mem_of_getElem? (i := 86) rfl))) (by decide) (t := (.object "com/example/isolens/isolens/checker/DynamicOrder$Found")) (t' := (.array .int)) (by decide) (by decide)
theorem sn_83 {a0 : Array Value} {Z : State} (hw : ∀ d ∈ tables_1, d.before a0 Z = true) : Jvm.RoadKit.slotOf Z "com/example/isolens/isolens/checker/DynamicOrder" "firstOut" "[I" ≠ Jvm.RoadKit.slotOf Z "com/example/isolens/isolens/checker/DynamicOrder" "out" "[I" := slot_ne (Or.inr (hw _ (List.mem_of_getElem? (i := 73) rfl))) (Or.inr (hw _ (List.mem_of_getElem? (i := 86) rfl))) (by decide) (t := (.array .int)) (t' := (.array .int)) (by decide) (by decide)
theorem d1_174 : decode prog_17_method_1_code 174 = .ok (.aload_n 0, 1) := by decide +kernel
theorem d1_175 : decode prog_17_method_1_code 175 = .ok (.iload 5, 2) := by decide +kernel
theorem d1_177 : decode prog_17_method_1_code 177 = .ok (.iconst 1, 1) := by decide +kernel
theorem d1_178 : decode prog_17_method_1_code 178 = .ok (.iadd, 1) := by decide +kernel
theorem d1_179 : decode prog_17_method_1_code 179 = .ok (.newarray .int, 2) := by decide +kernel
theorem d1_181 : decode prog_17_method_1_code 181 = .ok (.putfield 75, 3) := by decide +kernel
theorem sn_84 {a0 : Array Value} {Z : State} (hw : ∀ d ∈ tables_1, d.before a0 Z = true) : Jvm.RoadKit.slotOf Z "com/example/isolens/isolens/checker/DynamicOrder" "addedFrom" "[I" ≠ Jvm.RoadKit.slotOf Z "com/example/isolens/isolens/checker/DynamicOrder" "firstIn" "[I" := slot_ne (Or.inl (hw _ (List.mem_of_getElem? (i := 12) rfl))) (Or.inr (hw _ (List.mem_of_getElem? (i := 88) rfl))) (by decide) (t := (.array .int)) (t' := (.array .int)) (by decide) (by decide)
theorem sn_85 {a0 : Array Value} {Z : State} (hw : ∀ d ∈ tables_1, d.before a0 Z = true) : Jvm.RoadKit.slotOf Z "com/example/isolens/isolens/checker/DynamicOrder" "addedTo" "[I" ≠ Jvm.RoadKit.slotOf Z "com/example/isolens/isolens/checker/DynamicOrder" "firstIn" "[I" := slot_ne (Or.inl (hw _ (List.mem_of_getElem? (i := 14) rfl))) (Or.inr (hw _ (List.mem_of_getElem? (i := 88) rfl))) (by decide) (t := (.array .int)) (t' := (.array .int)) (by decide) (by decide)
theorem sn_86 {a0 : Array Value} {Z : State} (hw : ∀ d ∈ tables_1, d.before a0 Z = true) : Jvm.RoadKit.slotOf Z "com/example/isolens/isolens/checker/DynamicOrder" "earlierOut" "[I" ≠ Jvm.RoadKit.slotOf Z "com/example/isolens/isolens/checker/DynamicOrder" "firstIn" "[I" := slot_ne (Or.inl (hw _ (List.mem_of_getElem? (i := 16) rfl))) (Or.inr (hw _ (List.mem_of_getElem? (i := 88) rfl))) (by decide) (t := (.array .int)) (t' := (.array .int)) (by decide) (by decide)
theorem sn_87 {a0 : Array Value} {Z : State} (hw : ∀ d ∈ tables_1, d.before a0 Z = true) : Jvm.RoadKit.slotOf Z "com/example/isolens/isolens/checker/DynamicOrder" "earlierIn" "[I" ≠ Jvm.RoadKit.slotOf Z "com/example/isolens/isolens/checker/DynamicOrder" "firstIn" "[I" := slot_ne (Or.inl (hw _ (List.mem_of_getElem? (i := 18) rfl))) (Or.inr (hw _ (List.mem_of_getElem? (i := 88) rfl))) (by decide) (t := (.array .int)) (t' := (.array .int)) (by decide) (by decide)
theorem sn_88 {a0 : Array Value} {Z : State} (hw : ∀ d ∈ tables_1, d.before a0 Z = true) : Jvm.RoadKit.slotOf Z "com/example/isolens/isolens/checker/DynamicOrder" "pending" "Lcom/example/isolens/isolens/checker/DynamicOrder$Found;" ≠ Jvm.RoadKit.slotOf Z "com/example/isolens/isolens/checker/DynamicOrder" "firstIn" "[I" := slot_ne (Or.inr (hw _ (List.mem_of_getElem? (i := 33) rfl))) (Or.inr (hw _ (List.mem_of_getElem? (i := 88) rfl))) (by decide) (t := (.object "com/example/isolens/isolens/checker/DynamicOrder$Found")) (t' := (.array .int)) (by decide) (by decide)
theorem sn_89 {a0 : Array Value} {Z : State} (hw : ∀ d ∈ tables_1, d.before a0 Z = true) : Jvm.RoadKit.slotOf Z "com/example/isolens/isolens/checker/DynamicOrder" "pendingBack" "Lcom/example/isolens/isolens/checker/DynamicOrder$Found;" ≠ Jvm.RoadKit.slotOf Z "com/example/isolens/isolens/checker/DynamicOrder" "firstIn" "[I" := slot_ne (Or.inr (hw _ (List.mem_of_getElem? (i := 35) rfl))) (Or.inr (hw _ (List.mem_of_getElem? (i := 88) rfl))) (by decide) (t := (.object "com/example/isolens/isolens/checker/DynamicOrder$Found")) (t' := (.array .int)) (by decide) (by decide)
theorem sn_90 {a0 : Array Value} {Z : State} (hw : ∀ d ∈ tables_1, d.before a0 Z = true) : Jvm.RoadKit.slotOf Z "com/example/isolens/isolens/checker/DynamicOrder" "firstOut" "[I" ≠ Jvm.RoadKit.slotOf Z "com/example/isolens/isolens/checker/DynamicOrder" "firstIn" "[I" := slot_ne (Or.inr (hw _ (List.mem_of_getElem? (i := 73) rfl))) (Or.inr (hw _ (List.mem_of_getElem? (i := 88) rfl))) (by decide) (t := (.array .int)) (t' := (.array .int)) (by decide) (by decide)
theorem d1_184 : decode prog_17_method_1_code 184 = .ok (.aload_n 0, 1) := by decide +kernel
theorem d1_185 : decode prog_17_method_1_code 185 = .ok (.aload_n 2, 1) := by decide +kernel
theorem d1_186 : decode prog_17_method_1_code 186 = .ok (.aload_n 1, 1) := by decide +kernel
theorem d1_187 : decode prog_17_method_1_code 187 = .ok (.iload_n 3, 1) := by decide +kernel
theorem d1_188 : decode prog_17_method_1_code 188 = .ok (.aload_n 0, 1) := by decide +kernel
theorem d1_189 : decode prog_17_method_1_code 189 = .ok (.getfield 75, 3) := by decide +kernel
theorem d1_192 : decode prog_17_method_1_code 192 = .ok (.invokestatic 66, 3) := by decide +kernel
theorem d1_195 : decode prog_17_method_1_code 195 = .ok (.putfield 78, 3) := by decide +kernel
theorem sn_91 {a0 : Array Value} {Z : State} (hw : ∀ d ∈ tables_1, d.before a0 Z = true) : Jvm.RoadKit.slotOf Z "com/example/isolens/isolens/checker/DynamicOrder" "addedFrom" "[I" ≠ Jvm.RoadKit.slotOf Z "com/example/isolens/isolens/checker/DynamicOrder" "in" "[I" := slot_ne (Or.inl (hw _ (List.mem_of_getElem? (i := 12) rfl))) (Or.inr (hw _ (List.mem_of_getElem? (i := 90) rfl))) (by decide) (t := (.array .int)) (t' := (.array .int)) (by decide) (by decide)
theorem sn_92 {a0 : Array Value} {Z : State} (hw : ∀ d ∈ tables_1, d.before a0 Z = true) : Jvm.RoadKit.slotOf Z "com/example/isolens/isolens/checker/DynamicOrder" "addedTo" "[I" ≠ Jvm.RoadKit.slotOf Z "com/example/isolens/isolens/checker/DynamicOrder" "in" "[I" := slot_ne (Or.inl (hw _ (List.mem_of_getElem? (i := 14) rfl))) (Or.inr (hw _ (List.mem_of_getElem? (i := 90) rfl))) (by decide) (t := (.array .int)) (t' := (.array .int)) (by decide) (by decide)
theorem sn_93 {a0 : Array Value} {Z : State} (hw : ∀ d ∈ tables_1, d.before a0 Z = true) : Jvm.RoadKit.slotOf Z "com/example/isolens/isolens/checker/DynamicOrder" "earlierOut" "[I" ≠ Jvm.RoadKit.slotOf Z "com/example/isolens/isolens/checker/DynamicOrder" "in" "[I" := slot_ne (Or.inl (hw _ (List.mem_of_getElem? (i := 16) rfl))) (Or.inr (hw _ (List.mem_of_getElem? (i := 90) rfl))) (by decide) (t := (.array .int)) (t' := (.array .int)) (by decide) (by decide)
theorem sn_94 {a0 : Array Value} {Z : State} (hw : ∀ d ∈ tables_1, d.before a0 Z = true) : Jvm.RoadKit.slotOf Z "com/example/isolens/isolens/checker/DynamicOrder" "earlierIn" "[I" ≠ Jvm.RoadKit.slotOf Z "com/example/isolens/isolens/checker/DynamicOrder" "in" "[I" := slot_ne (Or.inl (hw _ (List.mem_of_getElem? (i := 18) rfl))) (Or.inr (hw _ (List.mem_of_getElem? (i := 90) rfl))) (by decide) (t := (.array .int)) (t' := (.array .int)) (by decide) (by decide)
theorem sn_95 {a0 : Array Value} {Z : State} (hw : ∀ d ∈ tables_1, d.before a0 Z = true) : Jvm.RoadKit.slotOf Z "com/example/isolens/isolens/checker/DynamicOrder" "pending" "Lcom/example/isolens/isolens/checker/DynamicOrder$Found;" ≠ Jvm.RoadKit.slotOf Z "com/example/isolens/isolens/checker/DynamicOrder" "in" "[I" := slot_ne (Or.inr (hw _ (List.mem_of_getElem? (i := 33) rfl))) (Or.inr (hw _ (List.mem_of_getElem? (i := 90) rfl))) (by decide) (t := (.object "com/example/isolens/isolens/checker/DynamicOrder$Found")) (t' := (.array .int)) (by decide) (by decide)
theorem sn_96 {a0 : Array Value} {Z : State} (hw : ∀ d ∈ tables_1, d.before a0 Z = true) : Jvm.RoadKit.slotOf Z "com/example/isolens/isolens/checker/DynamicOrder" "pendingBack" "Lcom/example/isolens/isolens/checker/DynamicOrder$Found;" ≠ Jvm.RoadKit.slotOf Z "com/example/isolens/isolens/checker/DynamicOrder" "in" "[I" := slot_ne (Or.inr (hw _ (List.mem_of_getElem? (i := 35) rfl))) (Or.inr (hw _ (List.mem_of_getElem? (i := 90) rfl))) (by decide) (t := (.object "com/example/isolens/isolens/checker/DynamicOrder$Found")) (t' := (.array .int)) (by decide) (by decide)
theorem sn_97 {a0 : Array Value} {Z : State} (hw : ∀ d ∈ tables_1, d.before a0 Z = true) : Jvm.RoadKit.slotOf Z "com/example/isolens/isolens/checker/DynamicOrder" "firstOut" "[I" ≠ Jvm.RoadKit.slotOf Z "com/example/isolens/isolens/checker/DynamicOrder" "in" "[I" := slot_ne (Or.inr (hw _ (List.mem_of_getElem? (i := 73) rfl))) (Or.inr (hw _ (List.mem_of_getElem? (i := 90) rfl))) (by decide) (t := (.array .int)) (t' := (.array .int)) (by decide) (by decide)
theorem sn_98 {a0 : Array Value} {Z : State} (hw : ∀ d ∈ tables_1, d.before a0 Z = true) : Jvm.RoadKit.slotOf Z "com/example/isolens/isolens/checker/DynamicOrder" "firstIn" "[I" ≠ Jvm.RoadKit.slotOf Z "com/example/isolens/isolens/checker/DynamicOrder" "in" "[I" := slot_ne (Or.inr (hw _ (List.mem_of_getElem? (i := 88) rfl))) (Or.inr (hw _ (List.mem_of_getElem? (i := 90) rfl))) (by decide) (t := (.array .int)) (t' := (.array .int)) (by decide) (by decide)
theorem d1_198 : decode prog_17_method_1_code 198 = .ok (.aload_n 0, 1) := by decide +kernel
theorem d1_199 : decode prog_17_method_1_code 199 = .ok (.iload 5, 2) := by decide +kernel
theorem d1_201 : decode prog_17_method_1_code 201 = .ok (.newarray .int, 2) := by decide +kernel
theorem d1_203 : decode prog_17_method_1_code 203 = .ok (.putfield 81, 3) := by decide +kernel
theorem sn_99 {a0 : Array Value} {Z : State} (hw : ∀ d ∈ tables_1, d.before a0 Z = true) : Jvm.RoadKit.slotOf Z "com/example/isolens/isolens/checker/DynamicOrder" "addedFrom" "[I" ≠ Jvm.RoadKit.slotOf Z "com/example/isolens/isolens/checker/DynamicOrder" "place" "[I" := slot_ne (Or.inl (hw _ (List.mem_of_getElem? (i := 12) rfl))) (Or.inr (hw _ (List.mem_of_getElem? (i := 92) rfl))) (by decide) (t := (.array .int)) (t' := (.array .int)) (by decide) (by decide)
theorem sn_100 {a0 : Array Value} {Z : State} (hw : ∀ d ∈ tables_1, d.before a0 Z = true) : Jvm.RoadKit.slotOf Z "com/example/isolens/isolens/checker/DynamicOrder" "addedTo" "[I" ≠ Jvm.RoadKit.slotOf Z "com/example/isolens/isolens/checker/DynamicOrder" "place" "[I" := slot_ne (Or.inl (hw _ (List.mem_of_getElem? (i := 14) rfl))) (Or.inr (hw _ (List.mem_of_getElem? (i := 92) rfl))) (by decide) (t := (.array .int)) (t' := (.array .int)) (by decide) (by decide)
theorem sn_101 {a0 : Array Value} {Z : State} (hw : ∀ d ∈ tables_1, d.before a0 Z = true) : Jvm.RoadKit.slotOf Z "com/example/isolens/isolens/checker/DynamicOrder" "earlierOut" "[I" ≠ Jvm.RoadKit.slotOf Z "com/example/isolens/isolens/checker/DynamicOrder" "place" "[I" := slot_ne (Or.inl (hw _ (List.mem_of_getElem? (i := 16) rfl))) (Or.inr (hw _ (List.mem_of_getElem? (i := 92) rfl))) (by decide) (t := (.array .int)) (t' := (.array .int)) (by decide) (by decide)
theorem sn_102 {a0 : Array Value} {Z : State} (hw : ∀ d ∈ tables_1, d.before a0 Z = true) : Jvm.RoadKit.slotOf Z "com/example/isolens/isolens/checker/DynamicOrder" "earlierIn" "[I" ≠ Jvm.RoadKit.slotOf Z "com/example/isolens/isolens/checker/DynamicOrder" "place" "[I" := slot_ne (Or.inl (hw _ (List.mem_of_getElem? (i := 18) rfl))) (Or.inr (hw _ (List.mem_of_getElem? (i := 92) rfl))) (by decide) (t := (.array .int)) (t' := (.array .int)) (by decide) (by decide)
theorem sn_103 {a0 : Array Value} {Z : State} (hw : ∀ d ∈ tables_1, d.before a0 Z = true) : Jvm.RoadKit.slotOf Z "com/example/isolens/isolens/checker/DynamicOrder" "pending" "Lcom/example/isolens/isolens/checker/DynamicOrder$Found;" ≠ Jvm.RoadKit.slotOf Z "com/example/isolens/isolens/checker/DynamicOrder" "place" "[I" := slot_ne (Or.inr (hw _ (List.mem_of_getElem? (i := 33) rfl))) (Or.inr (hw _ (List.mem_of_getElem? (i := 92) rfl))) (by decide) (t := (.object "com/example/isolens/isolens/checker/DynamicOrder$Found")) (t' := (.array .int)) (by decide) (by decide)
theorem sn_104 {a0 : Array Value} {Z : State} (hw : ∀ d ∈ tables_1, d.before a0 Z = true) : Jvm.RoadKit.slotOf Z "com/example/isolens/isolens/checker/DynamicOrder" "pendingBack" "Lcom/example/isolens/isolens/checker/DynamicOrder$Found;" ≠ Jvm.RoadKit.slotOf Z "com/example/isolens/isolens/checker/DynamicOrder" "place" "[I" := slot_ne (Or.inr (hw _ (List.mem_of_getElem? (i := 35) rfl))) (Or.inr (hw _ (List.mem_of_getElem? (i := 92) rfl))) (by decide) (t := (.object "com/example/isolens/isolens/checker/DynamicOrder$Found")) (t' := (.array .int)) (by decide) (by decide)
theorem sn_105 {a0 : Array Value} {Z : State} (hw : ∀ d ∈ tables_1, d.before a0 Z = true) : Jvm.RoadKit.slotOf Z "com/example/isolens/isolens/checker/DynamicOrder" "firstOut" "[I" ≠ Jvm.RoadKit.slotOf Z "com/example/isolens/isolens/checker/DynamicOrder" "place" "[I" := slot_ne (Or.inr (hw _ (List.mem_of_getElem? (i := 73) rfl))) (Or.inr (hw _ (List.mem_of_getElem? (i := 92) rfl))) (by decide) (t := (.array .int)) (t' := (.array .int)) (by decide) (by decide)
theorem sn_106 {a0 : Array Value} {Z : State} (hw : ∀ d ∈ tables_1, d.before a0 Z = true) : Jvm.RoadKit.slotOf Z "com/example/isolens/isolens/checker/DynamicOrder" "firstIn" "[I" ≠ Jvm.RoadKit.slotOf Z "com/example/isolens/isolens/checker/DynamicOrder" "place" "[I" := slot_ne (Or.inr (hw _ (List.mem_of_getElem? (i := 88) rfl))) (Or.inr (hw _ (List.mem_of_getElem? (i := 92) rfl))) (by decide) (t := (.array .int)) (t' := (.array .int)) (by decide) (by decide)
theorem d1_206 : decode prog_17_method_1_code 206 = .ok (.iconst 0, 1) := by decide +kernel
theorem d1_207 : decode prog_17_method_1_code 207 = .ok (.istore 6, 2) := by decide +kernel
theorem d1_209 : decode prog_17_method_1_code 209 = .ok (.iload 6, 2) := by decide +kernel
theorem d1_211 : decode prog_17_method_1_code 211 = .ok (.iload 5, 2) := by decide +kernel
theorem d1_213 : decode prog_17_method_1_code 213 = .ok (.if_icmp .ge 21, 3) := by decide +kernel
theorem d1_216 : decode prog_17_method_1_code 216 = .ok (.aload_n 0, 1) := by decide +kernel
theorem d1_217 : decode prog_17_method_1_code 217 = .ok (.getfield 81, 3) := by decide +kernel
theorem d1_220 : decode prog_17_method_1_code 220 = .ok (.aload 4, 2) := by decide +kernel
theorem d1_222 : decode prog_17_method_1_code 222 = .ok (.iload 6, 2) := by decide +kernel
theorem d1_224 : decode prog_17_method_1_code 224 = .ok (.iaload, 1) := by decide +kernel
theorem d1_225 : decode prog_17_method_1_code 225 = .ok (.iload 6, 2) := by decide +kernel
theorem d1_227 : decode prog_17_method_1_code 227 = .ok (.iastore, 1) := by decide +kernel
theorem d1_228 : decode prog_17_method_1_code 228 = .ok (.iinc 6 1, 3) := by decide +kernel
theorem d1_231 : decode prog_17_method_1_code 231 = .ok (.goto (-22), 3) := by decide +kernel
theorem d1_234 : decode prog_17_method_1_code 234 = .ok (.aload_n 0, 1) := by decide +kernel
theorem d1_235 : decode prog_17_method_1_code 235 = .ok (.iload 5, 2) := by decide +kernel
theorem d1_237 : decode prog_17_method_1_code 237 = .ok (.newarray .int, 2) := by decide +kernel
theorem d1_239 : decode prog_17_method_1_code 239 = .ok (.putfield 84, 3) := by decide +kernel
theorem sn_107 {a0 : Array Value} {Z : State} (hw : ∀ d ∈ tables_1, d.before a0 Z = true) : Jvm.RoadKit.slotOf Z "com/example/isolens/isolens/checker/DynamicOrder" "addedFrom" "[I" ≠ Jvm.RoadKit.slotOf Z "com/example/isolens/isolens/checker/DynamicOrder" "latestOut" "[I" := slot_ne (Or.inl (hw _ (List.mem_of_getElem? (i := 12) rfl))) (Or.inr (hw _ (List.mem_of_getElem? (i := 94) rfl))) (by decide) (t := (.array .int)) (t' := (.array .int)) (by decide) (by decide)
theorem sn_108 {a0 : Array Value} {Z : State} (hw : ∀ d ∈ tables_1, d.before a0 Z = true) : Jvm.RoadKit.slotOf Z "com/example/isolens/isolens/checker/DynamicOrder" "addedTo" "[I" ≠ Jvm.RoadKit.slotOf Z "com/example/isolens/isolens/checker/DynamicOrder" "latestOut" "[I" := slot_ne (Or.inl (hw _ (List.mem_of_getElem? (i := 14) rfl))) (Or.inr (hw _ (List.mem_of_getElem? (i := 94) rfl))) (by decide) (t := (.array .int)) (t' := (.array .int)) (by decide) (by decide)
theorem sn_109 {a0 : Array Value} {Z : State} (hw : ∀ d ∈ tables_1, d.before a0 Z = true) : Jvm.RoadKit.slotOf Z "com/example/isolens/isolens/checker/DynamicOrder" "earlierOut" "[I" ≠ Jvm.RoadKit.slotOf Z "com/example/isolens/isolens/checker/DynamicOrder" "latestOut" "[I" := slot_ne (Or.inl (hw _ (List.mem_of_getElem? (i := 16) rfl))) (Or.inr (hw _ (List.mem_of_getElem? (i := 94) rfl))) (by decide) (t := (.array .int)) (t' := (.array .int)) (by decide) (by decide)
theorem sn_110 {a0 : Array Value} {Z : State} (hw : ∀ d ∈ tables_1, d.before a0 Z = true) : Jvm.RoadKit.slotOf Z "com/example/isolens/isolens/checker/DynamicOrder" "earlierIn" "[I" ≠ Jvm.RoadKit.slotOf Z "com/example/isolens/isolens/checker/DynamicOrder" "latestOut" "[I" := slot_ne (Or.inl (hw _ (List.mem_of_getElem? (i := 18) rfl))) (Or.inr (hw _ (List.mem_of_getElem? (i := 94) rfl))) (by decide) (t := (.array .int)) (t' := (.array .int)) (by decide) (by decide)
theorem sn_111 {a0 : Array Value} {Z : State} (hw : ∀ d ∈ tables_1, d.before a0 Z = true) : Jvm.RoadKit.slotOf Z "com/example/isolens/isolens/checker/DynamicOrder" "pending" "Lcom/example/isolens/isolens/checker/DynamicOrder$Found;" ≠ Jvm.RoadKit.slotOf Z "com/example/isolens/isolens/checker/DynamicOrder" "latestOut" "[I" := slot_ne (Or.inr (hw _ (List.mem_of_getElem? (i := 33) rfl))) (Or.inr (hw _ (List.mem_of_getElem? (i := 94) rfl))) (by decide) (t := (.object "com/example/isolens/isolens/checker/DynamicOrder$Found")) (t' := (.array .int)) (by decide) (by decide)
theorem sn_112 {a0 : Array Value} {Z : State} (hw : ∀ d ∈ tables_1, d.before a0 Z = true) : Jvm.RoadKit.slotOf Z "com/example/isolens/isolens/checker/DynamicOrder" "pendingBack" "Lcom/example/isolens/isolens/checker/DynamicOrder$Found;" ≠ Jvm.RoadKit.slotOf Z "com/example/isolens/isolens/checker/DynamicOrder" "latestOut" "[I" := slot_ne (Or.inr (hw _ (List.mem_of_getElem? (i := 35) rfl))) (Or.inr (hw _ (List.mem_of_getElem? (i := 94) rfl))) (by decide) (t := (.object "com/example/isolens/isolens/checker/DynamicOrder$Found")) (t' := (.array .int)) (by decide) (by decide)
theorem sn_113 {a0 : Array Value} {Z : State} (hw : ∀ d ∈ tables_1, d.before a0 Z = true) : Jvm.RoadKit.slotOf Z "com/example/isolens/isolens/checker/DynamicOrder" "firstOut" "[I" ≠ Jvm.RoadKit.slotOf Z "com/example/isolens/isolens/checker/DynamicOrder" "latestOut" "[I" := slot_ne (Or.inr (hw _ (List.mem_of_getElem? (i := 73) rfl))) (Or.inr (hw _ (List.mem_of_getElem? (i := 94) rfl))) (by decide) (t := (.array .int)) (t' := (.array .int)) (by decide) (by decide)
theorem sn_114 {a0 : Array Value} {Z : State} (hw : ∀ d ∈ tables_1, d.before a0 Z = true) : Jvm.RoadKit.slotOf Z "com/example/isolens/isolens/checker/DynamicOrder" "firstIn" "[I" ≠ Jvm.RoadKit.slotOf Z "com/example/isolens/isolens/checker/DynamicOrder" "latestOut" "[I" := slot_ne (Or.inr (hw _ (List.mem_of_getElem? (i := 88) rfl))) (Or.inr (hw _ (List.mem_of_getElem? (i := 94) rfl))) (by decide) (t := (.array .int)) (t' := (.array .int)) (by decide) (by decide)
theorem sn_115 {a0 : Array Value} {Z : State} (hw : ∀ d ∈ tables_1, d.before a0 Z = true) : Jvm.RoadKit.slotOf Z "com/example/isolens/isolens/checker/DynamicOrder" "place" "[I" ≠ Jvm.RoadKit.slotOf Z "com/example/isolens/isolens/checker/DynamicOrder" "latestOut" "[I" := slot_ne (Or.inr (hw _ (List.mem_of_getElem? (i := 92) rfl))) (Or.inr (hw _ (List.mem_of_getElem? (i := 94) rfl))) (by decide) (t := (.array .int)) (t' := (.array .int)) (by decide) (by decide)
theorem d1_242 : decode prog_17_method_1_code 242 = .ok (.aload_n 0, 1) := by decide +kernel
theorem d1_243 : decode prog_17_method_1_code 243 = .ok (.iload 5, 2) := by decide +kernel
theorem d1_245 : decode prog_17_method_1_code 245 = .ok (.newarray .int, 2) := by decide +kernel
theorem d1_247 : decode prog_17_method_1_code 247 = .ok (.putfield 87, 3) := by decide +kernel
theorem sn_116 {a0 : Array Value} {Z : State} (hw : ∀ d ∈ tables_1, d.before a0 Z = true) : Jvm.RoadKit.slotOf Z "com/example/isolens/isolens/checker/DynamicOrder" "addedFrom" "[I" ≠ Jvm.RoadKit.slotOf Z "com/example/isolens/isolens/checker/DynamicOrder" "latestIn" "[I" := slot_ne (Or.inl (hw _ (List.mem_of_getElem? (i := 12) rfl))) (Or.inr (hw _ (List.mem_of_getElem? (i := 96) rfl))) (by decide) (t := (.array .int)) (t' := (.array .int)) (by decide) (by decide)
theorem sn_117 {a0 : Array Value} {Z : State} (hw : ∀ d ∈ tables_1, d.before a0 Z = true) : Jvm.RoadKit.slotOf Z "com/example/isolens/isolens/checker/DynamicOrder" "addedTo" "[I" ≠ Jvm.RoadKit.slotOf Z "com/example/isolens/isolens/checker/DynamicOrder" "latestIn" "[I" := slot_ne (Or.inl (hw _ (List.mem_of_getElem? (i := 14) rfl))) (Or.inr (hw _ (List.mem_of_getElem? (i := 96) rfl))) (by decide) (t := (.array .int)) (t' := (.array .int)) (by decide) (by decide)
theorem sn_118 {a0 : Array Value} {Z : State} (hw : ∀ d ∈ tables_1, d.before a0 Z = true) : Jvm.RoadKit.slotOf Z "com/example/isolens/isolens/checker/DynamicOrder" "earlierOut" "[I" ≠ Jvm.RoadKit.slotOf Z "com/example/isolens/isolens/checker/DynamicOrder" "latestIn" "[I" := slot_ne (Or.inl (hw _ (List.mem_of_getElem? (i := 16) rfl))) (Or.inr (hw _ (List.mem_of_getElem? (i := 96) rfl))) (by decide) (t := (.array .int)) (t' := (.array .int)) (by decide) (by decide)
theorem sn_119 {a0 : Array Value} {Z : State} (hw : ∀ d ∈ tables_1, d.before a0 Z = true) : Jvm.RoadKit.slotOf Z "com/example/isolens/isolens/checker/DynamicOrder" "earlierIn" "[I" ≠ Jvm.RoadKit.slotOf Z "com/example/isolens/isolens/checker/DynamicOrder" "latestIn" "[I" := slot_ne (Or.inl (hw _ (List.mem_of_getElem? (i := 18) rfl))) (Or.inr (hw _ (List.mem_of_getElem? (i := 96) rfl))) (by decide) (t := (.array .int)) (t' := (.array .int)) (by decide) (by decide)
theorem sn_120 {a0 : Array Value} {Z : State} (hw : ∀ d ∈ tables_1, d.before a0 Z = true) : Jvm.RoadKit.slotOf Z "com/example/isolens/isolens/checker/DynamicOrder" "pending" "Lcom/example/isolens/isolens/checker/DynamicOrder$Found;" ≠ Jvm.RoadKit.slotOf Z "com/example/isolens/isolens/checker/DynamicOrder" "latestIn" "[I" := slot_ne (Or.inr (hw _ (List.mem_of_getElem? (i := 33) rfl))) (Or.inr (hw _ (List.mem_of_getElem? (i := 96) rfl))) (by decide) (t := (.object "com/example/isolens/isolens/checker/DynamicOrder$Found")) (t' := (.array .int)) (by decide) (by decide)
theorem sn_121 {a0 : Array Value} {Z : State} (hw : ∀ d ∈ tables_1, d.before a0 Z = true) : Jvm.RoadKit.slotOf Z "com/example/isolens/isolens/checker/DynamicOrder" "pendingBack" "Lcom/example/isolens/isolens/checker/DynamicOrder$Found;" ≠ Jvm.RoadKit.slotOf Z "com/example/isolens/isolens/checker/DynamicOrder" "latestIn" "[I" := slot_ne (Or.inr (hw _ (List.mem_of_getElem? (i := 35) rfl))) (Or.inr (hw _ (List.mem_of_getElem? (i := 96) rfl))) (by decide) (t := (.object "com/example/isolens/isolens/checker/DynamicOrder$Found")) (t' := (.array .int)) (by decide) (by decide)
theorem sn_122 {a0 : Array Value} {Z : State} (hw : ∀ d ∈ tables_1, d.before a0 Z = true) : Jvm.RoadKit.slotOf Z "com/example/isolens/isolens/checker/DynamicOrder" "firstOut" "[I" ≠ Jvm.RoadKit.slotOf Z "com/example/isolens/isolens/checker/DynamicOrder" "latestIn" "[I" := slot_ne (Or.inr (hw _ (List.mem_of_getElem? (i := 73) rfl))) (Or.inr (hw _ (List.mem_of_getElem? (i := 96) rfl))) (by decide) (t := (.array .int)) (t' := (.array .int)) (by decide) (by decide)
theorem sn_123 {a0 : Array Value} {Z : State} (hw : ∀ d ∈ tables_1, d.before a0 Z = true) : Jvm.RoadKit.slotOf Z "com/example/isolens/isolens/checker/DynamicOrder" "firstIn" "[I" ≠ Jvm.RoadKit.slotOf Z "com/example/isolens/isolens/checker/DynamicOrder" "latestIn" "[I" := slot_ne (Or.inr (hw _ (List.mem_of_getElem? (i := 88) rfl))) (Or.inr (hw _ (List.mem_of_getElem? (i := 96) rfl))) (by decide) (t := (.array .int)) (t' := (.array .int)) (by decide) (by decide)
theorem sn_124 {a0 : Array Value} {Z : State} (hw : ∀ d ∈ tables_1, d.before a0 Z = true) : Jvm.RoadKit.slotOf Z "com/example/isolens/isolens/checker/DynamicOrder" "place" "[I" ≠ Jvm.RoadKit.slotOf Z "com/example/isolens/isolens/checker/DynamicOrder" "latestIn" "[I" := slot_ne (Or.inr (hw _ (List.mem_of_getElem? (i := 92) rfl))) (Or.inr (hw _ (List.mem_of_getElem? (i := 96) rfl))) (by decide) (t := (.array .int)) (t' := (.array .int)) (by decide) (by decide)
theorem sn_125 {a0 : Array Value} {Z : State} (hw : ∀ d ∈ tables_1, d.before a0 Z = true) : Jvm.RoadKit.slotOf Z "com/example/isolens/isolens/checker/DynamicOrder" "latestOut" "[I" ≠ Jvm.RoadKit.slotOf Z "com/example/isolens/isolens/checker/DynamicOrder" "latestIn" "[I" := slot_ne (Or.inr (hw _ (List.mem_of_getElem? (i := 94) rfl))) (Or.inr (hw _ (List.mem_of_getElem? (i := 96) rfl))) (by decide) (t := (.array .int)) (t' := (.array .int)) (by decide) (by decide)
theorem d1_250 : decode prog_17_method_1_code 250 = .ok (.aload_n 0, 1) := by decide +kernel
theorem d1_251 : decode prog_17_method_1_code 251 = .ok (.getfield 84, 3) := by decide +kernel
theorem d1_254 : decode prog_17_method_1_code 254 = .ok (.iconst (-1), 1) := by decide +kernel
theorem d1_255 : decode prog_17_method_1_code 255 = .ok (.invokestatic 90, 3) := by decide +kernel
theorem pd___II_V_404 : parseMethodDescriptor "([II)V" = some ⟨[(.array .int), .int], none⟩ := by decide +kernel
theorem d1_258 : decode prog_17_method_1_code 258 = .ok (.aload_n 0, 1) := by decide +kernel
theorem d1_259 : decode prog_17_method_1_code 259 = .ok (.getfield 87, 3) := by decide +kernel
theorem d1_262 : decode prog_17_method_1_code 262 = .ok (.iconst (-1), 1) := by decide +kernel
theorem d1_263 : decode prog_17_method_1_code 263 = .ok (.invokestatic 90, 3) := by decide +kernel
theorem d1_266 : decode prog_17_method_1_code 266 = .ok (.aload_n 0, 1) := by decide +kernel
theorem d1_267 : decode prog_17_method_1_code 267 = .ok (.iload 5, 2) := by decide +kernel
theorem d1_269 : decode prog_17_method_1_code 269 = .ok (.newarray .int, 2) := by decide +kernel
theorem d1_271 : decode prog_17_method_1_code 271 = .ok (.putfield 96, 3) := by decide +kernel
theorem sn_126 {a0 : Array Value} {Z : State} (hw : ∀ d ∈ tables_1, d.before a0 Z = true) : Jvm.RoadKit.slotOf Z "com/example/isolens/isolens/checker/DynamicOrder" "addedFrom" "[I" ≠ Jvm.RoadKit.slotOf Z "com/example/isolens/isolens/checker/DynamicOrder" "metIn" "[I" := slot_ne (Or.inl (hw _ (List.mem_of_getElem? (i := 12) rfl))) (Or.inr (hw _ (List.mem_of_getElem? (i := 102) rfl))) (by decide) (t := (.array .int)) (t' := (.array .int)) (by decide) (by decide)
theorem sn_127 {a0 : Array Value} {Z : State} (hw : ∀ d ∈ tables_1, d.before a0 Z = true) : Jvm.RoadKit.slotOf Z "com/example/isolens/isolens/checker/DynamicOrder" "addedTo" "[I" ≠ Jvm.RoadKit.slotOf Z "com/example/isolens/isolens/checker/DynamicOrder" "metIn" "[I" := slot_ne (Or.inl (hw _ (List.mem_of_getElem? (i := 14) rfl))) (Or.inr (hw _ (List.mem_of_getElem? (i := 102) rfl))) (by decide) (t := (.array .int)) (t' := (.array .int)) (by decide) (by decide)
theorem sn_128 {a0 : Array Value} {Z : State} (hw : ∀ d ∈ tables_1, d.before a0 Z = true) : Jvm.RoadKit.slotOf Z "com/example/isolens/isolens/checker/DynamicOrder" "earlierOut" "[I" ≠ Jvm.RoadKit.slotOf Z "com/example/isolens/isolens/checker/DynamicOrder" "metIn" "[I" := slot_ne (Or.inl (hw _ (List.mem_of_getElem? (i := 16) rfl))) (Or.inr (hw _ (List.mem_of_getElem? (i := 102) rfl))) (by decide) (t := (.array .int)) (t' := (.array .int)) (by decide) (by decide)
theorem sn_129 {a0 : Array Value} {Z : State} (hw : ∀ d ∈ tables_1, d.before a0 Z = true) : Jvm.RoadKit.slotOf Z "com/example/isolens/isolens/checker/DynamicOrder" "earlierIn" "[I" ≠ Jvm.RoadKit.slotOf Z "com/example/isolens/isolens/checker/DynamicOrder" "metIn" "[I" := slot_ne (Or.inl (hw _ (List.mem_of_getElem? (i := 18) rfl))) (Or.inr (hw _ (List.mem_of_getElem? (i := 102) rfl))) (by decide) (t := (.array .int)) (t' := (.array .int)) (by decide) (by decide)
theorem sn_130 {a0 : Array Value} {Z : State} (hw : ∀ d ∈ tables_1, d.before a0 Z = true) : Jvm.RoadKit.slotOf Z "com/example/isolens/isolens/checker/DynamicOrder" "pending" "Lcom/example/isolens/isolens/checker/DynamicOrder$Found;" ≠ Jvm.RoadKit.slotOf Z "com/example/isolens/isolens/checker/DynamicOrder" "metIn" "[I" := slot_ne (Or.inr (hw _ (List.mem_of_getElem? (i := 33) rfl))) (Or.inr (hw _ (List.mem_of_getElem? (i := 102) rfl))) (by decide) (t := (.object "com/example/isolens/isolens/checker/DynamicOrder$Found")) (t' := (.array .int)) (by decide) (by decide)
theorem sn_131 {a0 : Array Value} {Z : State} (hw : ∀ d ∈ tables_1, d.before a0 Z = true) : Jvm.RoadKit.slotOf Z "com/example/isolens/isolens/checker/DynamicOrder" "pendingBack" "Lcom/example/isolens/isolens/checker/DynamicOrder$Found;" ≠ Jvm.RoadKit.slotOf Z "com/example/isolens/isolens/checker/DynamicOrder" "metIn" "[I" := slot_ne (Or.inr (hw _ (List.mem_of_getElem? (i := 35) rfl))) (Or.inr (hw _ (List.mem_of_getElem? (i := 102) rfl))) (by decide) (t := (.object "com/example/isolens/isolens/checker/DynamicOrder$Found")) (t' := (.array .int)) (by decide) (by decide)
theorem sn_132 {a0 : Array Value} {Z : State} (hw : ∀ d ∈ tables_1, d.before a0 Z = true) : Jvm.RoadKit.slotOf Z "com/example/isolens/isolens/checker/DynamicOrder" "firstOut" "[I" ≠ Jvm.RoadKit.slotOf Z "com/example/isolens/isolens/checker/DynamicOrder" "metIn" "[I" := slot_ne (Or.inr (hw _ (List.mem_of_getElem? (i := 73) rfl))) (Or.inr (hw _ (List.mem_of_getElem? (i := 102) rfl))) (by decide) (t := (.array .int)) (t' := (.array .int)) (by decide) (by decide)
theorem sn_133 {a0 : Array Value} {Z : State} (hw : ∀ d ∈ tables_1, d.before a0 Z = true) : Jvm.RoadKit.slotOf Z "com/example/isolens/isolens/checker/DynamicOrder" "firstIn" "[I" ≠ Jvm.RoadKit.slotOf Z "com/example/isolens/isolens/checker/DynamicOrder" "metIn" "[I" := slot_ne (Or.inr (hw _ (List.mem_of_getElem? (i := 88) rfl))) (Or.inr (hw _ (List.mem_of_getElem? (i := 102) rfl))) (by decide) (t := (.array .int)) (t' := (.array .int)) (by decide) (by decide)
theorem sn_134 {a0 : Array Value} {Z : State} (hw : ∀ d ∈ tables_1, d.before a0 Z = true) : Jvm.RoadKit.slotOf Z "com/example/isolens/isolens/checker/DynamicOrder" "place" "[I" ≠ Jvm.RoadKit.slotOf Z "com/example/isolens/isolens/checker/DynamicOrder" "metIn" "[I" := slot_ne (Or.inr (hw _ (List.mem_of_getElem? (i := 92) rfl))) (Or.inr (hw _ (List.mem_of_getElem? (i := 102) rfl))) (by decide) (t := (.array .int)) (t' := (.array .int)) (by decide) (by decide)
theorem sn_135 {a0 : Array Value} {Z : State} (hw : ∀ d ∈ tables_1, d.before a0 Z = true) : Jvm.RoadKit.slotOf Z "com/example/isolens/isolens/checker/DynamicOrder" "latestOut" "[I" ≠ Jvm.RoadKit.slotOf Z "com/example/isolens/isolens/checker/DynamicOrder" "metIn" "[I" := slot_ne (Or.inr (hw _ (List.mem_of_getElem? (i := 94) rfl))) (Or.inr (hw _ (List.mem_of_getElem? (i := 102) rfl))) (by decide) (t := (.array .int)) (t' := (.array .int)) (by decide) (by decide)
theorem sn_136 {a0 : Array Value} {Z : State} (hw : ∀ d ∈ tables_1, d.before a0 Z = true) : Jvm.RoadKit.slotOf Z "com/example/isolens/isolens/checker/DynamicOrder" "latestIn" "[I" ≠ Jvm.RoadKit.slotOf Z "com/example/isolens/isolens/checker/DynamicOrder" "metIn" "[I" := slot_ne (Or.inr (hw _ (List.mem_of_getElem? (i := 96) rfl))) (Or.inr (hw _ (List.mem_of_getElem? (i := 102) rfl))) (by decide) (t := (.array .int)) (t' := (.array .int)) (by decide) (by decide)
theorem d1_274 : decode prog_17_method_1_code 274 = .ok (.aload_n 0, 1) := by decide +kernel
theorem d1_275 : decode prog_17_method_1_code 275 = .ok (.iload 5, 2) := by decide +kernel
theorem d1_277 : decode prog_17_method_1_code 277 = .ok (.newarray .int, 2) := by decide +kernel
theorem d1_279 : decode prog_17_method_1_code 279 = .ok (.putfield 99, 3) := by decide +kernel
theorem sn_137 {a0 : Array Value} {Z : State} (hw : ∀ d ∈ tables_1, d.before a0 Z = true) : Jvm.RoadKit.slotOf Z "com/example/isolens/isolens/checker/DynamicOrder" "addedFrom" "[I" ≠ Jvm.RoadKit.slotOf Z "com/example/isolens/isolens/checker/DynamicOrder" "metBack" "[I" := slot_ne (Or.inl (hw _ (List.mem_of_getElem? (i := 12) rfl))) (Or.inr (hw _ (List.mem_of_getElem? (i := 104) rfl))) (by decide) (t := (.array .int)) (t' := (.array .int)) (by decide) (by decide)
theorem sn_138 {a0 : Array Value} {Z : State} (hw : ∀ d ∈ tables_1, d.before a0 Z = true) : Jvm.RoadKit.slotOf Z "com/example/isolens/isolens/checker/DynamicOrder" "addedTo" "[I" ≠ Jvm.RoadKit.slotOf Z "com/example/isolens/isolens/checker/DynamicOrder" "metBack" "[I" := slot_ne (Or.inl (hw _ (List.mem_of_getElem? (i := 14) rfl))) (Or.inr (hw _ (List.mem_of_getElem? (i := 104) rfl))) (by decide) (t := (.array .int)) (t' := (.array .int)) (by decide) (by decide)
theorem sn_139 {a0 : Array Value} {Z : State} (hw : ∀ d ∈ tables_1, d.before a0 Z = true) : Jvm.RoadKit.slotOf Z "com/example/isolens/isolens/checker/DynamicOrder" "earlierOut" "[I" ≠ Jvm.RoadKit.slotOf Z "com/example/isolens/isolens/checker/DynamicOrder" "metBack" "[I" := slot_ne (Or.inl (hw _ (List.mem_of_getElem? (i := 16) rfl))) (Or.inr (hw _ (List.mem_of_getElem? (i := 104) rfl))) (by decide) (t := (.array .int)) (t' := (.array .int)) (by decide) (by decide)
theorem sn_140 {a0 : Array Value} {Z : State} (hw : ∀ d ∈ tables_1, d.before a0 Z = true) : Jvm.RoadKit.slotOf Z "com/example/isolens/isolens/checker/DynamicOrder" "earlierIn" "[I" ≠ Jvm.RoadKit.slotOf Z "com/example/isolens/isolens/checker/DynamicOrder" "metBack" "[I" := slot_ne (Or.inl (hw _ (List.mem_of_getElem? (i := 18) rfl))) (Or.inr (hw _ (List.mem_of_getElem? (i := 104) rfl))) (by decide) (t := (.array .int)) (t' := (.array .int)) (by decide) (by decide)
theorem sn_141 {a0 : Array Value} {Z : State} (hw : ∀ d ∈ tables_1, d.before a0 Z = true) : Jvm.RoadKit.slotOf Z "com/example/isolens/isolens/checker/DynamicOrder" "pending" "Lcom/example/isolens/isolens/checker/DynamicOrder$Found;" ≠ Jvm.RoadKit.slotOf Z "com/example/isolens/isolens/checker/DynamicOrder" "metBack" "[I" := slot_ne (Or.inr (hw _ (List.mem_of_getElem? (i := 33) rfl))) (Or.inr (hw _ (List.mem_of_getElem? (i := 104) rfl))) (by decide) (t := (.object "com/example/isolens/isolens/checker/DynamicOrder$Found")) (t' := (.array .int)) (by decide) (by decide)
theorem sn_142 {a0 : Array Value} {Z : State} (hw : ∀ d ∈ tables_1, d.before a0 Z = true) : Jvm.RoadKit.slotOf Z "com/example/isolens/isolens/checker/DynamicOrder" "pendingBack" "Lcom/example/isolens/isolens/checker/DynamicOrder$Found;" ≠ Jvm.RoadKit.slotOf Z "com/example/isolens/isolens/checker/DynamicOrder" "metBack" "[I" := slot_ne (Or.inr (hw _ (List.mem_of_getElem? (i := 35) rfl))) (Or.inr (hw _ (List.mem_of_getElem? (i := 104) rfl))) (by decide) (t := (.object "com/example/isolens/isolens/checker/DynamicOrder$Found")) (t' := (.array .int)) (by decide) (by decide)
theorem sn_143 {a0 : Array Value} {Z : State} (hw : ∀ d ∈ tables_1, d.before a0 Z = true) : Jvm.RoadKit.slotOf Z "com/example/isolens/isolens/checker/DynamicOrder" "firstOut" "[I" ≠ Jvm.RoadKit.slotOf Z "com/example/isolens/isolens/checker/DynamicOrder" "metBack" "[I" := slot_ne (Or.inr (hw _ (List.mem_of_getElem? (i := 73) rfl))) (Or.inr (hw _ (List.mem_of_getElem? (i := 104) rfl))) (by decide) (t := (.array .int)) (t' := (.array .int)) (by decide) (by decide)
theorem sn_144 {a0 : Array Value} {Z : State} (hw : ∀ d ∈ tables_1, d.before a0 Z = true) : Jvm.RoadKit.slotOf Z "com/example/isolens/isolens/checker/DynamicOrder" "firstIn" "[I" ≠ Jvm.RoadKit.slotOf Z "com/example/isolens/isolens/checker/DynamicOrder" "metBack" "[I" := slot_ne (Or.inr (hw _ (List.mem_of_getElem? (i := 88) rfl))) (Or.inr (hw _ (List.mem_of_getElem? (i := 104) rfl))) (by decide) (t := (.array .int)) (t' := (.array .int)) (by decide) (by decide)
theorem sn_145 {a0 : Array Value} {Z : State} (hw : ∀ d ∈ tables_1, d.before a0 Z = true) : Jvm.RoadKit.slotOf Z "com/example/isolens/isolens/checker/DynamicOrder" "place" "[I" ≠ Jvm.RoadKit.slotOf Z "com/example/isolens/isolens/checker/DynamicOrder" "metBack" "[I" := slot_ne (Or.inr (hw _ (List.mem_of_getElem? (i := 92) rfl))) (Or.inr (hw _ (List.mem_of_getElem? (i := 104) rfl))) (by decide) (t := (.array .int)) (t' := (.array .int)) (by decide) (by decide)
theorem sn_146 {a0 : Array Value} {Z : State} (hw : ∀ d ∈ tables_1, d.before a0 Z = true) : Jvm.RoadKit.slotOf Z "com/example/isolens/isolens/checker/DynamicOrder" "latestOut" "[I" ≠ Jvm.RoadKit.slotOf Z "com/example/isolens/isolens/checker/DynamicOrder" "metBack" "[I" := slot_ne (Or.inr (hw _ (List.mem_of_getElem? (i := 94) rfl))) (Or.inr (hw _ (List.mem_of_getElem? (i := 104) rfl))) (by decide) (t := (.array .int)) (t' := (.array .int)) (by decide) (by decide)
theorem sn_147 {a0 : Array Value} {Z : State} (hw : ∀ d ∈ tables_1, d.before a0 Z = true) : Jvm.RoadKit.slotOf Z "com/example/isolens/isolens/checker/DynamicOrder" "latestIn" "[I" ≠ Jvm.RoadKit.slotOf Z "com/example/isolens/isolens/checker/DynamicOrder" "metBack" "[I" := slot_ne (Or.inr (hw _ (List.mem_of_getElem? (i := 96) rfl))) (Or.inr (hw _ (List.mem_of_getElem? (i := 104) rfl))) (by decide) (t := (.array .int)) (t' := (.array .int)) (by decide) (by decide)
theorem sn_148 {a0 : Array Value} {Z : State} (hw : ∀ d ∈ tables_1, d.before a0 Z = true) : Jvm.RoadKit.slotOf Z "com/example/isolens/isolens/checker/DynamicOrder" "metIn" "[I" ≠ Jvm.RoadKit.slotOf Z "com/example/isolens/isolens/checker/DynamicOrder" "metBack" "[I" := slot_ne (Or.inr (hw _ (List.mem_of_getElem? (i := 102) rfl))) (Or.inr (hw _ (List.mem_of_getElem? (i := 104) rfl))) (by decide) (t := (.array .int)) (t' := (.array .int)) (by decide) (by decide)
theorem d1_282 : decode prog_17_method_1_code 282 = .ok (.return_, 1) := by decide +kernel
set_option maxRecDepth 65536 in
set_option maxHeartbeats 40000000 in
theorem rm_ctor (l : Launch) (Z : State) (a0 : Array Value) (hw : ∀ d ∈ tables_1, d.before a0 Z = true) (o : Addr) (sa : Addr) (sb : Addr) (ar : Addr) (n0 : Nat) (h0 : Heap) (Z0 : n0 ≤ h0.size) (g_o : n0 ≤ o) (E_o : Exa Z h0 o "com/example/isolens/isolens/checker/DynamicOrder") (U_o : Unw Z a0 h0 o "com/example/isolens/isolens/checker/DynamicOrder" []) (A_ar : Ara Z h0 ar .int 3 (fun jz => .int ((own_ui (own_ui (own_ui (fun _ => (0 : Int32)) 0 (0 : Int32)) 1 (1 : Int32)) 2 (2 : Int32)) jz))) (hne : o ≠ ar) :
    Ct l Z (⟨"com/example/isolens/isolens/checker/DynamicOrder", "<init>", "([I[II[I)V"⟩ : MethodName) prog_17_method_1_code 7 none ({ frames := 3, cells := 31, slots := 263, locals := 80 } : Room) #[(.ref o), (.ref sa), (.ref sb), (.int (0 : Int32)), (.ref ar)] h0 (QDn Z n0 o 0 0 (fun _ => (0 : Int32))) := by
  refine own_met (plainFor_of_name pn_1) (fun m => ef_1_rm_ctor m o sa sb ar) ?_
  intro p e s m below meth c T0 EF X0 hx hby hml hown hnm hret hlk hZ hF e0
  have N0 := Fr.nil n0
  refine g_aloadN X0 hx hby d1_0 (pc' := 1) rfl rfl rfl ?_
  refine g_initO X0 hx hby hZ hown e0 (hw _ (List.mem_of_getElem? (i := 8) rfl)) (hw _ (List.mem_of_getElem? (i := 9) rfl)) (hw _ (List.mem_of_getElem? (i := 10) rfl)) hml rfl d1_1 (pc' := 4) rfl (by decide) (Nat.le_of_ble_eq_true rfl) (fun Tp1 Xp1 ep1 => ?_)
  refine g_aloadN Xp1 hx hby d1_4 (pc' := 5) rfl rfl rfl ?_
  refine g_bipush Xp1 hx hby d1_5 (pc' := 7) rfl (n := (16 : Int32)) (by first | rfl | decide) ?_
  refine g_newA Xp1 hx hby hZ ep1 (N := 16) (hw _ (List.mem_of_getElem? (i := 4) rfl)) d1_7 (pc' := 9) rfl rfl (cap := 16) (Nat.le_refl _) (by decide) (by decide) (by decide) (fun T1 h1 xa g1 X1 e1 E1 A_xa => ?_)
  have lne2 : o < xa := by rw [g1]; exact E_o.lt
  have ne2 : o ≠ xa := Nat.ne_of_lt lne2
  have lne3 : ar < xa := by rw [g1]; exact A_ar.lt
  have ne3 : ar ≠ xa := Nat.ne_of_lt lne3
  have g4 : n0 ≤ xa := by rw [g1]; exact Z0
  replace E_o := E_o.ext E1
  replace A_ar := A_ar.ext E1
  replace U_o := U_o.ext E1
  have Z5 : n0 ≤ h1.size := Nat.le_trans Z0 E1.1
  replace X1 : Stand p l e ({ frames := 3, cells := 31, slots := 263, locals := 80 } : Room) s m _ below meth c T1 _ 1 16 := X1
  replace A_xa : Ara Z h1 xa .int 16 (fun jz => .int ((fun _ => (0 : Int32)) jz)) := A_xa
  have F_o_addedFrom : Fld Z h1 o "com/example/isolens/isolens/checker/DynamicOrder" "addedFrom" "[I" .null := U_o.get (Or.inl (hw _ (List.mem_of_getElem? (i := 12) rfl))) (by decide) (ty := (.array .int)) (by decide)
  refine g_putF X1 hx hby hZ hown e1 (hw _ (List.mem_of_getElem? (i := 11) rfl)) F_o_addedFrom E_o (Or.inl (hw _ (List.mem_of_getElem? (i := 12) rfl))) (hw _ (List.mem_of_getElem? (i := 2) rfl)) (ty := (.array .int)) (by decide) rfl rfl d1_9 (pc' := 12) rfl (fun T6 h6 X6 e6 W6 => ?_)
  replace E_o := E_o.wr W6
  replace A_ar := A_ar.other W6 (Ne.symm hne)
  replace U_o := U_o.put (Or.inl (hw _ (List.mem_of_getElem? (i := 12) rfl))) (ty' := (.array .int)) (by decide) W6
  replace A_xa := A_xa.other W6 (Ne.symm ne2)
  replace F_o_addedFrom := F_o_addedFrom.same W6
  have Z7 : n0 ≤ h6.size := by rw [W6.size]; exact Z5
  have N8 := Fr.snoc X6 N0 g_o
  refine g_aloadN X6 hx hby d1_12 (pc' := 13) rfl rfl rfl ?_
  refine g_bipush X6 hx hby d1_13 (pc' := 15) rfl (n := (16 : Int32)) (by first | rfl | decide) ?_
  refine g_newA X6 hx hby hZ e6 (N := 16) (hw _ (List.mem_of_getElem? (i := 4) rfl)) d1_15 (pc' := 17) rfl rfl (cap := 16) (Nat.le_refl _) (by decide) (by decide) (by decide) (fun T9 h9 xb g9 X9 e9 E9 A_xb => ?_)
  have lne10 : o < xb := by rw [g9]; exact E_o.lt
  have ne10 : o ≠ xb := Nat.ne_of_lt lne10
  have lne11 : ar < xb := by rw [g9]; exact A_ar.lt
  have ne11 : ar ≠ xb := Nat.ne_of_lt lne11
  have lne12 : xa < xb := by rw [g9]; exact A_xa.lt
  have ne12 : xa ≠ xb := Nat.ne_of_lt lne12
  have g13 : n0 ≤ xb := by rw [g9]; exact Z7
  replace E_o := E_o.ext E9
  replace A_ar := A_ar.ext E9
  replace U_o := U_o.ext E9
  replace A_xa := A_xa.ext E9
  replace F_o_addedFrom := F_o_addedFrom.ext E9
  have Z14 : n0 ≤ h9.size := Nat.le_trans Z7 E9.1
  replace X9 : Stand p l e ({ frames := 3, cells := 31, slots := 263, locals := 80 } : Room) s m _ below meth c T9 _ 2 32 := X9
  replace A_xb : Ara Z h9 xb .int 16 (fun jz => .int ((fun _ => (0 : Int32)) jz)) := A_xb
  have F_o_addedTo : Fld Z h9 o "com/example/isolens/isolens/checker/DynamicOrder" "addedTo" "[I" .null := U_o.get (Or.inl (hw _ (List.mem_of_getElem? (i := 14) rfl))) (by decide) (ty := (.array .int)) (by decide)
  refine g_putF X9 hx hby hZ hown e9 (hw _ (List.mem_of_getElem? (i := 13) rfl)) F_o_addedTo E_o (Or.inl (hw _ (List.mem_of_getElem? (i := 14) rfl))) (hw _ (List.mem_of_getElem? (i := 2) rfl)) (ty := (.array .int)) (by decide) rfl rfl d1_17 (pc' := 20) rfl (fun T15 h15 X15 e15 W15 => ?_)
  replace E_o := E_o.wr W15
  replace A_ar := A_ar.other W15 (Ne.symm hne)
  replace U_o := U_o.put (Or.inl (hw _ (List.mem_of_getElem? (i := 14) rfl))) (ty' := (.array .int)) (by decide) W15
  replace A_xa := A_xa.other W15 (Ne.symm ne2)
  replace F_o_addedFrom := F_o_addedFrom.other W15 (Or.inr (sn_6 hw))
  replace A_xb := A_xb.other W15 (Ne.symm ne10)
  replace F_o_addedTo := F_o_addedTo.same W15
  have Z16 : n0 ≤ h15.size := by rw [W15.size]; exact Z14
  have N17 := Fr.snoc X15 N8 g_o
  refine g_aloadN X15 hx hby d1_20 (pc' := 21) rfl rfl rfl ?_
  refine g_bipush X15 hx hby d1_21 (pc' := 23) rfl (n := (16 : Int32)) (by first | rfl | decide) ?_
  refine g_newA X15 hx hby hZ e15 (N := 16) (hw _ (List.mem_of_getElem? (i := 4) rfl)) d1_23 (pc' := 25) rfl rfl (cap := 16) (Nat.le_refl _) (by decide) (by decide) (by decide) (fun T18 h18 xc g18 X18 e18 E18 A_xc => ?_)
  have lne19 : o < xc := by rw [g18]; exact E_o.lt
  have ne19 : o ≠ xc := Nat.ne_of_lt lne19
  have lne20 : ar < xc := by rw [g18]; exact A_ar.lt
  have ne20 : ar ≠ xc := Nat.ne_of_lt lne20
  have lne21 : xa < xc := by rw [g18]; exact A_xa.lt
  have ne21 : xa ≠ xc := Nat.ne_of_lt lne21
  have lne22 : xb < xc := by rw [g18]; exact A_xb.lt
  have ne22 : xb ≠ xc := Nat.ne_of_lt lne22
  have g23 : n0 ≤ xc := by rw [g18]; exact Z16
  replace E_o := E_o.ext E18
  replace A_ar := A_ar.ext E18
  replace U_o := U_o.ext E18
  replace A_xa := A_xa.ext E18
  replace F_o_addedFrom := F_o_addedFrom.ext E18
  replace A_xb := A_xb.ext E18
  replace F_o_addedTo := F_o_addedTo.ext E18
  have Z24 : n0 ≤ h18.size := Nat.le_trans Z16 E18.1
  replace X18 : Stand p l e ({ frames := 3, cells := 31, slots := 263, locals := 80 } : Room) s m _ below meth c T18 _ 3 48 := X18
  replace A_xc : Ara Z h18 xc .int 16 (fun jz => .int ((fun _ => (0 : Int32)) jz)) := A_xc
  have F_o_earlierOut : Fld Z h18 o "com/example/isolens/isolens/checker/DynamicOrder" "earlierOut" "[I" .null := U_o.get (Or.inl (hw _ (List.mem_of_getElem? (i := 16) rfl))) (by decide) (ty := (.array .int)) (by decide)
  refine g_putF X18 hx hby hZ hown e18 (hw _ (List.mem_of_getElem? (i := 15) rfl)) F_o_earlierOut E_o (Or.inl (hw _ (List.mem_of_getElem? (i := 16) rfl))) (hw _ (List.mem_of_getElem? (i := 2) rfl)) (ty := (.array .int)) (by decide) rfl rfl d1_25 (pc' := 28) rfl (fun T25 h25 X25 e25 W25 => ?_)
  replace E_o := E_o.wr W25
  replace A_ar := A_ar.other W25 (Ne.symm hne)
  replace U_o := U_o.put (Or.inl (hw _ (List.mem_of_getElem? (i := 16) rfl))) (ty' := (.array .int)) (by decide) W25
  replace A_xa := A_xa.other W25 (Ne.symm ne2)
  replace F_o_addedFrom := F_o_addedFrom.other W25 (Or.inr (sn_7 hw))
  replace A_xb := A_xb.other W25 (Ne.symm ne10)
  replace F_o_addedTo := F_o_addedTo.other W25 (Or.inr (sn_8 hw))
  replace A_xc := A_xc.other W25 (Ne.symm ne19)
  replace F_o_earlierOut := F_o_earlierOut.same W25
  have Z26 : n0 ≤ h25.size := by rw [W25.size]; exact Z24
  have N27 := Fr.snoc X25 N17 g_o
  refine g_aloadN X25 hx hby d1_28 (pc' := 29) rfl rfl rfl ?_
  refine g_bipush X25 hx hby d1_29 (pc' := 31) rfl (n := (16 : Int32)) (by first | rfl | decide) ?_
  refine g_newA X25 hx hby hZ e25 (N := 16) (hw _ (List.mem_of_getElem? (i := 4) rfl)) d1_31 (pc' := 33) rfl rfl (cap := 16) (Nat.le_refl _) (by decide) (by decide) (by decide) (fun T28 h28 xd g28 X28 e28 E28 A_xd => ?_)
  have lne29 : o < xd := by rw [g28]; exact E_o.lt
  have ne29 : o ≠ xd := Nat.ne_of_lt lne29
  have lne30 : ar < xd := by rw [g28]; exact A_ar.lt
  have ne30 : ar ≠ xd := Nat.ne_of_lt lne30
  have lne31 : xa < xd := by rw [g28]; exact A_xa.lt
  have ne31 : xa ≠ xd := Nat.ne_of_lt lne31
  have lne32 : xb < xd := by rw [g28]; exact A_xb.lt
  have ne32 : xb ≠ xd := Nat.ne_of_lt lne32
  have lne33 : xc < xd := by rw [g28]; exact A_xc.lt
  have ne33 : xc ≠ xd := Nat.ne_of_lt lne33
  have g34 : n0 ≤ xd := by rw [g28]; exact Z26
  replace E_o := E_o.ext E28
  replace A_ar := A_ar.ext E28
  replace U_o := U_o.ext E28
  replace A_xa := A_xa.ext E28
  replace F_o_addedFrom := F_o_addedFrom.ext E28
  replace A_xb := A_xb.ext E28
  replace F_o_addedTo := F_o_addedTo.ext E28
  replace A_xc := A_xc.ext E28
  replace F_o_earlierOut := F_o_earlierOut.ext E28
  have Z35 : n0 ≤ h28.size := Nat.le_trans Z26 E28.1
  replace X28 : Stand p l e ({ frames := 3, cells := 31, slots := 263, locals := 80 } : Room) s m _ below meth c T28 _ 4 64 := X28
  replace A_xd : Ara Z h28 xd .int 16 (fun jz => .int ((fun _ => (0 : Int32)) jz)) := A_xd
  have F_o_earlierIn : Fld Z h28 o "com/example/isolens/isolens/checker/DynamicOrder" "earlierIn" "[I" .null := U_o.get (Or.inl (hw _ (List.mem_of_getElem? (i := 18) rfl))) (by decide) (ty := (.array .int)) (by decide)
  refine g_putF X28 hx hby hZ hown e28 (hw _ (List.mem_of_getElem? (i := 17) rfl)) F_o_earlierIn E_o (Or.inl (hw _ (List.mem_of_getElem? (i := 18) rfl))) (hw _ (List.mem_of_getElem? (i := 2) rfl)) (ty := (.array .int)) (by decide) rfl rfl d1_33 (pc' := 36) rfl (fun T36 h36 X36 e36 W36 => ?_)
  replace E_o := E_o.wr W36
  replace A_ar := A_ar.other W36 (Ne.symm hne)
  replace U_o := U_o.put (Or.inl (hw _ (List.mem_of_getElem? (i := 18) rfl))) (ty' := (.array .int)) (by decide) W36
  replace A_xa := A_xa.other W36 (Ne.symm ne2)
  replace F_o_addedFrom := F_o_addedFrom.other W36 (Or.inr (sn_9 hw))
  replace A_xb := A_xb.other W36 (Ne.symm ne10)
  replace F_o_addedTo := F_o_addedTo.other W36 (Or.inr (sn_10 hw))
  replace A_xc := A_xc.other W36 (Ne.symm ne19)
  replace F_o_earlierOut := F_o_earlierOut.other W36 (Or.inr (sn_11 hw))
  replace A_xd := A_xd.other W36 (Ne.symm ne29)
  replace F_o_earlierIn := F_o_earlierIn.same W36
  have Z37 : n0 ≤ h36.size := by rw [W36.size]; exact Z35
  have N38 := Fr.snoc X36 N27 g_o
  refine g_aloadN X36 hx hby d1_36 (pc' := 37) rfl rfl rfl ?_
  refine g_new X36 hx hby hZ hown e36 (hw _ (List.mem_of_getElem? (i := 19) rfl)) (hw _ (List.mem_of_getElem? (i := 20) rfl)) (hw _ (List.mem_of_getElem? (i := 21) rfl)) d1_37 (pc' := 40) rfl (by decide) (by decide) (fun T39 h39 ah g39 X39 e39 E39 A39 D39 => ?_)
  have lne40 : o < ah := by rw [g39]; exact E_o.lt
  have ne40 : o ≠ ah := Nat.ne_of_lt lne40
  have lne41 : ar < ah := by rw [g39]; exact A_ar.lt
  have ne41 : ar ≠ ah := Nat.ne_of_lt lne41
  have lne42 : xa < ah := by rw [g39]; exact A_xa.lt
  have ne42 : xa ≠ ah := Nat.ne_of_lt lne42
  have lne43 : xb < ah := by rw [g39]; exact A_xb.lt
  have ne43 : xb ≠ ah := Nat.ne_of_lt lne43
  have lne44 : xc < ah := by rw [g39]; exact A_xc.lt
  have ne44 : xc ≠ ah := Nat.ne_of_lt lne44
  have lne45 : xd < ah := by rw [g39]; exact A_xd.lt
  have ne45 : xd ≠ ah := Nat.ne_of_lt lne45
  have g46 : n0 ≤ ah := by rw [g39]; exact Z37
  replace E_o := E_o.ext E39
  replace A_ar := A_ar.ext E39
  replace U_o := U_o.ext E39
  replace A_xa := A_xa.ext E39
  replace F_o_addedFrom := F_o_addedFrom.ext E39
  replace A_xb := A_xb.ext E39
  replace F_o_addedTo := F_o_addedTo.ext E39
  replace A_xc := A_xc.ext E39
  replace F_o_earlierOut := F_o_earlierOut.ext E39
  replace A_xd := A_xd.ext E39
  replace F_o_earlierIn := F_o_earlierIn.ext E39
  have Z47 : n0 ≤ h39.size := Nat.le_trans Z37 E39.1
  replace X39 : Stand p l e ({ frames := 3, cells := 31, slots := 263, locals := 80 } : Room) s m _ below meth c T39 _ 5 66 := X39
  have E_ah : Exa Z h39 ah "com/example/isolens/isolens/checker/DynamicOrder$Found" := A39
  have F_nodes_ah : Fld Z h39 ah "com/example/isolens/isolens/checker/DynamicOrder$Found" "nodes" "[I" .null := D39 (Or.inl (hw _ (List.mem_of_getElem? (i := 27) rfl))) (ty := (.array .int)) (by decide)
  have F_count_ah : Fld Z h39 ah "com/example/isolens/isolens/checker/DynamicOrder$Found" "count" "I" (.int (0 : Int32)) := D39 (Or.inl (hw _ (List.mem_of_getElem? (i := 149) rfl))) (ty := .int) (by decide)
  refine g_dup X39 hx hby d1_40 (pc' := 41) rfl rfl ?_
  refine g_specialR X39 hx hby hZ hown rfl hml rfl (hw _ (List.mem_of_getElem? (i := 22) rfl)) (hw _ (List.mem_of_getElem? (i := 23) rfl)) (hw _ (List.mem_of_getElem? (i := 21) rfl)) rfl (hw _ (List.mem_of_getElem? (i := 24) rfl)) (by decide) e39 (rm_fi l Z a0 hw ah n0 h39 Z47 g46 E_ah F_count_ah F_nodes_ah) pd___V_167 (a := ah) (argsL := []) (rest := [(.ref ah), (.ref o)]) rfl rfl rfl d1_41 (pc' := 44) rfl (by decide) (Nat.le_of_ble_eq_true rfl) (by decide) (by decide) ?_
  intro Tp41 vp41 Lp41 Xp41 qp41
  obtain ⟨rfl, Nqp41, xp41, hxp41, Eqp41, Fcp41, Fnp41, Axp41, Kqp41⟩ := qp41
  replace Xp41 : Stand p l e ({ frames := 3, cells := 31, slots := 263, locals := 80 } : Room) s m _ below meth c Tp41 _ 6 82 := Xp41
  replace E_o := E_o.keep Kqp41
  replace A_ar := A_ar.keep Kqp41 (ninS ne41 nin0)
  replace U_o := U_o.keep Kqp41 (ninS ne40 nin0)
  replace A_xa := A_xa.keep Kqp41 (ninS ne42 nin0)
  replace F_o_addedFrom := F_o_addedFrom.keep Kqp41 (ninS ne40 nin0)
  replace A_xb := A_xb.keep Kqp41 (ninS ne43 nin0)
  replace F_o_addedTo := F_o_addedTo.keep Kqp41 (ninS ne40 nin0)
  replace A_xc := A_xc.keep Kqp41 (ninS ne44 nin0)
  replace F_o_earlierOut := F_o_earlierOut.keep Kqp41 (ninS ne40 nin0)
  replace A_xd := A_xd.keep Kqp41 (ninS ne45 nin0)
  replace F_o_earlierIn := F_o_earlierIn.keep Kqp41 (ninS ne40 nin0)
  replace E_ah := E_ah.keep Kqp41
  have Z48 : n0 ≤ Tp41.heap.size := Nat.le_trans Z47 Kqp41.1
  have Np41 := Fr.app N38 Nqp41
  show Go p e below EF (QDn Z n0 o 0 0 (fun _ => (0 : Int32))) m Tp41 44 #[.val (.ref o), .val (.ref sa), .val (.ref sb), .val (.int (0 : Int32)), .val (.ref ar), .unset, .unset] [(.ref ah), (.ref o)]
  have F_o_ahead : Fld Z Tp41.heap o "com/example/isolens/isolens/checker/DynamicOrder" "ahead" "Lcom/example/isolens/isolens/checker/DynamicOrder$Found;" .null := U_o.get (Or.inr (hw _ (List.mem_of_getElem? (i := 29) rfl))) (by decide) (ty := (.object "com/example/isolens/isolens/checker/DynamicOrder$Found")) (by decide)
  refine g_putF Xp41 hx hby hZ hown rfl (hw _ (List.mem_of_getElem? (i := 28) rfl)) F_o_ahead E_o (Or.inr ⟨(hw _ (List.mem_of_getElem? (i := 29) rfl)), rfl, hnm⟩) (hw _ (List.mem_of_getElem? (i := 2) rfl)) (ty := (.object "com/example/isolens/isolens/checker/DynamicOrder$Found")) (by decide) rfl rfl d1_44 (pc' := 47) rfl (fun T49 h49 X49 e49 W49 => ?_)
  replace E_o := E_o.wr W49
  replace A_ar := A_ar.other W49 (Ne.symm hne)
  replace U_o := U_o.put (Or.inr (hw _ (List.mem_of_getElem? (i := 29) rfl))) (ty' := (.object "com/example/isolens/isolens/checker/DynamicOrder$Found")) (by decide) W49
  replace A_xa := A_xa.other W49 (Ne.symm ne2)
  replace F_o_addedFrom := F_o_addedFrom.other W49 (Or.inr (sn_12 hw))
  replace A_xb := A_xb.other W49 (Ne.symm ne10)
  replace F_o_addedTo := F_o_addedTo.other W49 (Or.inr (sn_13 hw))
  replace A_xc := A_xc.other W49 (Ne.symm ne19)
  replace F_o_earlierOut := F_o_earlierOut.other W49 (Or.inr (sn_14 hw))
  replace A_xd := A_xd.other W49 (Ne.symm ne29)
  replace F_o_earlierIn := F_o_earlierIn.other W49 (Or.inr (sn_15 hw))
  replace E_ah := E_ah.wr W49
  replace F_o_ahead := F_o_ahead.same W49
  have Z50 : n0 ≤ h49.size := by rw [W49.size]; exact Z48
  have N51 := Fr.snoc X49 Np41 g_o
  refine g_aloadN X49 hx hby d1_47 (pc' := 48) rfl rfl rfl ?_
  refine g_new X49 hx hby hZ hown e49 (hw _ (List.mem_of_getElem? (i := 19) rfl)) (hw _ (List.mem_of_getElem? (i := 20) rfl)) (hw _ (List.mem_of_getElem? (i := 21) rfl)) d1_48 (pc' := 51) rfl (by decide) (by decide) (fun T52 h52 be g52 X52 e52 E52 A52 D52 => ?_)
  have lne53 : o < be := by rw [g52]; exact E_o.lt
  have ne53 : o ≠ be := Nat.ne_of_lt lne53
  have lne54 : ar < be := by rw [g52]; exact A_ar.lt
  have ne54 : ar ≠ be := Nat.ne_of_lt lne54
  have lne55 : xa < be := by rw [g52]; exact A_xa.lt
  have ne55 : xa ≠ be := Nat.ne_of_lt lne55
  have lne56 : xb < be := by rw [g52]; exact A_xb.lt
  have ne56 : xb ≠ be := Nat.ne_of_lt lne56
  have lne57 : xc < be := by rw [g52]; exact A_xc.lt
  have ne57 : xc ≠ be := Nat.ne_of_lt lne57
  have lne58 : xd < be := by rw [g52]; exact A_xd.lt
  have ne58 : xd ≠ be := Nat.ne_of_lt lne58
  have g59 : n0 ≤ be := by rw [g52]; exact Z50
  replace E_o := E_o.ext E52
  replace A_ar := A_ar.ext E52
  replace U_o := U_o.ext E52
  replace A_xa := A_xa.ext E52
  replace F_o_addedFrom := F_o_addedFrom.ext E52
  replace A_xb := A_xb.ext E52
  replace F_o_addedTo := F_o_addedTo.ext E52
  replace A_xc := A_xc.ext E52
  replace F_o_earlierOut := F_o_earlierOut.ext E52
  replace A_xd := A_xd.ext E52
  replace F_o_earlierIn := F_o_earlierIn.ext E52
  have Z60 : n0 ≤ h52.size := Nat.le_trans Z50 E52.1
  replace X52 : Stand p l e ({ frames := 3, cells := 31, slots := 263, locals := 80 } : Room) s m _ below meth c T52 _ 7 84 := X52
  have E_be : Exa Z h52 be "com/example/isolens/isolens/checker/DynamicOrder$Found" := A52
  have F_nodes_be : Fld Z h52 be "com/example/isolens/isolens/checker/DynamicOrder$Found" "nodes" "[I" .null := D52 (Or.inl (hw _ (List.mem_of_getElem? (i := 27) rfl))) (ty := (.array .int)) (by decide)
  have F_count_be : Fld Z h52 be "com/example/isolens/isolens/checker/DynamicOrder$Found" "count" "I" (.int (0 : Int32)) := D52 (Or.inl (hw _ (List.mem_of_getElem? (i := 149) rfl))) (ty := .int) (by decide)
  refine g_dup X52 hx hby d1_51 (pc' := 52) rfl rfl ?_
  refine g_specialR X52 hx hby hZ hown rfl hml rfl (hw _ (List.mem_of_getElem? (i := 22) rfl)) (hw _ (List.mem_of_getElem? (i := 23) rfl)) (hw _ (List.mem_of_getElem? (i := 21) rfl)) rfl (hw _ (List.mem_of_getElem? (i := 24) rfl)) (by decide) e52 (rm_fi l Z a0 hw be n0 h52 Z60 g59 E_be F_count_be F_nodes_be) pd___V_167 (a := be) (argsL := []) (rest := [(.ref be), (.ref o)]) rfl rfl rfl d1_52 (pc' := 55) rfl (by decide) (Nat.le_of_ble_eq_true rfl) (by decide) (by decide) ?_
  intro Tp52 vp52 Lp52 Xp52 qp52
  obtain ⟨rfl, Nqp52, xp52, hxp52, Eqp52, Fcp52, Fnp52, Axp52, Kqp52⟩ := qp52
  replace Xp52 : Stand p l e ({ frames := 3, cells := 31, slots := 263, locals := 80 } : Room) s m _ below meth c Tp52 _ 8 100 := Xp52
  replace E_o := E_o.keep Kqp52
  replace A_ar := A_ar.keep Kqp52 (ninS ne54 nin0)
  replace U_o := U_o.keep Kqp52 (ninS ne53 nin0)
  replace A_xa := A_xa.keep Kqp52 (ninS ne55 nin0)
  replace F_o_addedFrom := F_o_addedFrom.keep Kqp52 (ninS ne53 nin0)
  replace A_xb := A_xb.keep Kqp52 (ninS ne56 nin0)
  replace F_o_addedTo := F_o_addedTo.keep Kqp52 (ninS ne53 nin0)
  replace A_xc := A_xc.keep Kqp52 (ninS ne57 nin0)
  replace F_o_earlierOut := F_o_earlierOut.keep Kqp52 (ninS ne53 nin0)
  replace A_xd := A_xd.keep Kqp52 (ninS ne58 nin0)
  replace F_o_earlierIn := F_o_earlierIn.keep Kqp52 (ninS ne53 nin0)
  replace E_be := E_be.keep Kqp52
  have Z61 : n0 ≤ Tp52.heap.size := Nat.le_trans Z60 Kqp52.1
  have Np52 := Fr.app N51 Nqp52
  show Go p e below EF (QDn Z n0 o 0 0 (fun _ => (0 : Int32))) m Tp52 55 #[.val (.ref o), .val (.ref sa), .val (.ref sb), .val (.int (0 : Int32)), .val (.ref ar), .unset, .unset] [(.ref be), (.ref o)]
  have F_o_behind : Fld Z Tp52.heap o "com/example/isolens/isolens/checker/DynamicOrder" "behind" "Lcom/example/isolens/isolens/checker/DynamicOrder$Found;" .null := U_o.get (Or.inr (hw _ (List.mem_of_getElem? (i := 31) rfl))) (by decide) (ty := (.object "com/example/isolens/isolens/checker/DynamicOrder$Found")) (by decide)
  refine g_putF Xp52 hx hby hZ hown rfl (hw _ (List.mem_of_getElem? (i := 30) rfl)) F_o_behind E_o (Or.inr ⟨(hw _ (List.mem_of_getElem? (i := 31) rfl)), rfl, hnm⟩) (hw _ (List.mem_of_getElem? (i := 2) rfl)) (ty := (.object "com/example/isolens/isolens/checker/DynamicOrder$Found")) (by decide) rfl rfl d1_55 (pc' := 58) rfl (fun T62 h62 X62 e62 W62 => ?_)
  replace E_o := E_o.wr W62
  replace A_ar := A_ar.other W62 (Ne.symm hne)
  replace U_o := U_o.put (Or.inr (hw _ (List.mem_of_getElem? (i := 31) rfl))) (ty' := (.object "com/example/isolens/isolens/checker/DynamicOrder$Found")) (by decide) W62
  replace A_xa := A_xa.other W62 (Ne.symm ne2)
  replace F_o_addedFrom := F_o_addedFrom.other W62 (Or.inr (sn_16 hw))
  replace A_xb := A_xb.other W62 (Ne.symm ne10)
  replace F_o_addedTo := F_o_addedTo.other W62 (Or.inr (sn_17 hw))
  replace A_xc := A_xc.other W62 (Ne.symm ne19)
  replace F_o_earlierOut := F_o_earlierOut.other W62 (Or.inr (sn_18 hw))
  replace A_xd := A_xd.other W62 (Ne.symm ne29)
  replace F_o_earlierIn := F_o_earlierIn.other W62 (Or.inr (sn_19 hw))
  replace E_be := E_be.wr W62
  replace F_o_behind := F_o_behind.same W62
  have Z63 : n0 ≤ h62.size := by rw [W62.size]; exact Z61
  have N64 := Fr.snoc X62 Np52 g_o
  refine g_aloadN X62 hx hby d1_58 (pc' := 59) rfl rfl rfl ?_
  refine g_new X62 hx hby hZ hown e62 (hw _ (List.mem_of_getElem? (i := 19) rfl)) (hw _ (List.mem_of_getElem? (i := 20) rfl)) (hw _ (List.mem_of_getElem? (i := 21) rfl)) d1_59 (pc' := 62) rfl (by decide) (by decide) (fun T65 h65 pe g65 X65 e65 E65 A65 D65 => ?_)
  have lne66 : o < pe := by rw [g65]; exact E_o.lt
  have ne66 : o ≠ pe := Nat.ne_of_lt lne66
  have lne67 : ar < pe := by rw [g65]; exact A_ar.lt
  have ne67 : ar ≠ pe := Nat.ne_of_lt lne67
  have lne68 : xa < pe := by rw [g65]; exact A_xa.lt
  have ne68 : xa ≠ pe := Nat.ne_of_lt lne68
  have lne69 : xb < pe := by rw [g65]; exact A_xb.lt
  have ne69 : xb ≠ pe := Nat.ne_of_lt lne69
  have lne70 : xc < pe := by rw [g65]; exact A_xc.lt
  have ne70 : xc ≠ pe := Nat.ne_of_lt lne70
  have lne71 : xd < pe := by rw [g65]; exact A_xd.lt
  have ne71 : xd ≠ pe := Nat.ne_of_lt lne71
  have g72 : n0 ≤ pe := by rw [g65]; exact Z63
  replace E_o := E_o.ext E65
  replace A_ar := A_ar.ext E65
  replace U_o := U_o.ext E65
  replace A_xa := A_xa.ext E65
  replace F_o_addedFrom := F_o_addedFrom.ext E65
  replace A_xb := A_xb.ext E65
  replace F_o_addedTo := F_o_addedTo.ext E65
  replace A_xc := A_xc.ext E65
  replace F_o_earlierOut := F_o_earlierOut.ext E65
  replace A_xd := A_xd.ext E65
  replace F_o_earlierIn := F_o_earlierIn.ext E65
  have Z73 : n0 ≤ h65.size := Nat.le_trans Z63 E65.1
  replace X65 : Stand p l e ({ frames := 3, cells := 31, slots := 263, locals := 80 } : Room) s m _ below meth c T65 _ 9 102 := X65
  have E_pe : Exa Z h65 pe "com/example/isolens/isolens/checker/DynamicOrder$Found" := A65
  have F_nodes_pe : Fld Z h65 pe "com/example/isolens/isolens/checker/DynamicOrder$Found" "nodes" "[I" .null := D65 (Or.inl (hw _ (List.mem_of_getElem? (i := 27) rfl))) (ty := (.array .int)) (by decide)
  have F_count_pe : Fld Z h65 pe "com/example/isolens/isolens/checker/DynamicOrder$Found" "count" "I" (.int (0 : Int32)) := D65 (Or.inl (hw _ (List.mem_of_getElem? (i := 149) rfl))) (ty := .int) (by decide)
  refine g_dup X65 hx hby d1_62 (pc' := 63) rfl rfl ?_
  refine g_specialR X65 hx hby hZ hown rfl hml rfl (hw _ (List.mem_of_getElem? (i := 22) rfl)) (hw _ (List.mem_of_getElem? (i := 23) rfl)) (hw _ (List.mem_of_getElem? (i := 21) rfl)) rfl (hw _ (List.mem_of_getElem? (i := 24) rfl)) (by decide) e65 (rm_fi l Z a0 hw pe n0 h65 Z73 g72 E_pe F_count_pe F_nodes_pe) pd___V_167 (a := pe) (argsL := []) (rest := [(.ref pe), (.ref o)]) rfl rfl rfl d1_63 (pc' := 66) rfl (by decide) (Nat.le_of_ble_eq_true rfl) (by decide) (by decide) ?_
  intro Tp63 vp63 Lp63 Xp63 qp63
  obtain ⟨rfl, Nqp63, xn, hxp63, Eqp63, Fcp63, Fnp63, Axp63, Kqp63⟩ := qp63
  have lo_xn : o < xn := Nat.lt_of_lt_of_le E_o.lt hxp63
  have no_xn : o ≠ xn := Nat.ne_of_lt lo_xn
  have lar_xn : ar < xn := Nat.lt_of_lt_of_le A_ar.lt hxp63
  have nar_xn : ar ≠ xn := Nat.ne_of_lt lar_xn
  have lxa_xn : xa < xn := Nat.lt_of_lt_of_le A_xa.lt hxp63
  have nxa_xn : xa ≠ xn := Nat.ne_of_lt lxa_xn
  have lxb_xn : xb < xn := Nat.lt_of_lt_of_le A_xb.lt hxp63
  have nxb_xn : xb ≠ xn := Nat.ne_of_lt lxb_xn
  have lxc_xn : xc < xn := Nat.lt_of_lt_of_le A_xc.lt hxp63
  have nxc_xn : xc ≠ xn := Nat.ne_of_lt lxc_xn
  have lxd_xn : xd < xn := Nat.lt_of_lt_of_le A_xd.lt hxp63
  have nxd_xn : xd ≠ xn := Nat.ne_of_lt lxd_xn
  have lpe_xn : pe < xn := Nat.lt_of_lt_of_le E_pe.lt hxp63
  have npe_xn : pe ≠ xn := Nat.ne_of_lt lpe_xn
  have gxn : n0 ≤ xn := Nat.le_trans Z73 hxp63
  replace Xp63 : Stand p l e ({ frames := 3, cells := 31, slots := 263, locals := 80 } : Room) s m _ below meth c Tp63 _ 10 118 := Xp63
  replace E_o := E_o.keep Kqp63
  replace A_ar := A_ar.keep Kqp63 (ninS ne67 nin0)
  replace U_o := U_o.keep Kqp63 (ninS ne66 nin0)
  replace A_xa := A_xa.keep Kqp63 (ninS ne68 nin0)
  replace F_o_addedFrom := F_o_addedFrom.keep Kqp63 (ninS ne66 nin0)
  replace A_xb := A_xb.keep Kqp63 (ninS ne69 nin0)
  replace F_o_addedTo := F_o_addedTo.keep Kqp63 (ninS ne66 nin0)
  replace A_xc := A_xc.keep Kqp63 (ninS ne70 nin0)
  replace F_o_earlierOut := F_o_earlierOut.keep Kqp63 (ninS ne66 nin0)
  replace A_xd := A_xd.keep Kqp63 (ninS ne71 nin0)
  replace F_o_earlierIn := F_o_earlierIn.keep Kqp63 (ninS ne66 nin0)
  replace E_pe := E_pe.keep Kqp63
  have Z74 : n0 ≤ Tp63.heap.size := Nat.le_trans Z73 Kqp63.1
  have Np63 := Fr.app N64 Nqp63
  show Go p e below EF (QDn Z n0 o 0 0 (fun _ => (0 : Int32))) m Tp63 66 #[.val (.ref o), .val (.ref sa), .val (.ref sb), .val (.int (0 : Int32)), .val (.ref ar), .unset, .unset] [(.ref pe), (.ref o)]
  have F_o_pending : Fld Z Tp63.heap o "com/example/isolens/isolens/checker/DynamicOrder" "pending" "Lcom/example/isolens/isolens/checker/DynamicOrder$Found;" .null := U_o.get (Or.inr (hw _ (List.mem_of_getElem? (i := 33) rfl))) (by decide) (ty := (.object "com/example/isolens/isolens/checker/DynamicOrder$Found")) (by decide)
  refine g_putF Xp63 hx hby hZ hown rfl (hw _ (List.mem_of_getElem? (i := 32) rfl)) F_o_pending E_o (Or.inr ⟨(hw _ (List.mem_of_getElem? (i := 33) rfl)), rfl, hnm⟩) (hw _ (List.mem_of_getElem? (i := 2) rfl)) (ty := (.object "com/example/isolens/isolens/checker/DynamicOrder$Found")) (by decide) rfl rfl d1_66 (pc' := 69) rfl (fun T75 h75 X75 e75 W75 => ?_)
  replace E_o := E_o.wr W75
  replace A_ar := A_ar.other W75 (Ne.symm hne)
  replace U_o := U_o.put (Or.inr (hw _ (List.mem_of_getElem? (i := 33) rfl))) (ty' := (.object "com/example/isolens/isolens/checker/DynamicOrder$Found")) (by decide) W75
  replace A_xa := A_xa.other W75 (Ne.symm ne2)
  replace F_o_addedFrom := F_o_addedFrom.other W75 (Or.inr (sn_20 hw))
  replace A_xb := A_xb.other W75 (Ne.symm ne10)
  replace F_o_addedTo := F_o_addedTo.other W75 (Or.inr (sn_21 hw))
  replace A_xc := A_xc.other W75 (Ne.symm ne19)
  replace F_o_earlierOut := F_o_earlierOut.other W75 (Or.inr (sn_22 hw))
  replace A_xd := A_xd.other W75 (Ne.symm ne29)
  replace F_o_earlierIn := F_o_earlierIn.other W75 (Or.inr (sn_23 hw))
  replace Eqp63 := Eqp63.wr W75
  replace Fcp63 := Fcp63.other W75 (Or.inl (Ne.symm ne66))
  replace Fnp63 := Fnp63.other W75 (Or.inl (Ne.symm ne66))
  replace Axp63 := Axp63.other W75 (Ne.symm no_xn)
  replace F_o_pending := F_o_pending.same W75
  have Z76 : n0 ≤ h75.size := by rw [W75.size]; exact Z74
  have N77 := Fr.snoc X75 Np63 g_o
  refine g_aloadN X75 hx hby d1_69 (pc' := 70) rfl rfl rfl ?_
  refine g_new X75 hx hby hZ hown e75 (hw _ (List.mem_of_getElem? (i := 19) rfl)) (hw _ (List.mem_of_getElem? (i := 20) rfl)) (hw _ (List.mem_of_getElem? (i := 21) rfl)) d1_70 (pc' := 73) rfl (by decide) (by decide) (fun T78 h78 pb g78 X78 e78 E78 A78 D78 => ?_)
  have lne79 : o < pb := by rw [g78]; exact E_o.lt
  have ne79 : o ≠ pb := Nat.ne_of_lt lne79
  have lne80 : ar < pb := by rw [g78]; exact A_ar.lt
  have ne80 : ar ≠ pb := Nat.ne_of_lt lne80
  have lne81 : xa < pb := by rw [g78]; exact A_xa.lt
  have ne81 : xa ≠ pb := Nat.ne_of_lt lne81
  have lne82 : xb < pb := by rw [g78]; exact A_xb.lt
  have ne82 : xb ≠ pb := Nat.ne_of_lt lne82
  have lne83 : xc < pb := by rw [g78]; exact A_xc.lt
  have ne83 : xc ≠ pb := Nat.ne_of_lt lne83
  have lne84 : xd < pb := by rw [g78]; exact A_xd.lt
  have ne84 : xd ≠ pb := Nat.ne_of_lt lne84
  have lne85 : pe < pb := by rw [g78]; exact Eqp63.lt
  have ne85 : pe ≠ pb := Nat.ne_of_lt lne85
  have lne86 : xn < pb := by rw [g78]; exact Axp63.lt
  have ne86 : xn ≠ pb := Nat.ne_of_lt lne86
  have g87 : n0 ≤ pb := by rw [g78]; exact Z76
  replace E_o := E_o.ext E78
  replace A_ar := A_ar.ext E78
  replace U_o := U_o.ext E78
  replace A_xa := A_xa.ext E78
  replace F_o_addedFrom := F_o_addedFrom.ext E78
  replace A_xb := A_xb.ext E78
  replace F_o_addedTo := F_o_addedTo.ext E78
  replace A_xc := A_xc.ext E78
  replace F_o_earlierOut := F_o_earlierOut.ext E78
  replace A_xd := A_xd.ext E78
  replace F_o_earlierIn := F_o_earlierIn.ext E78
  replace Eqp63 := Eqp63.ext E78
  replace Fcp63 := Fcp63.ext E78
  replace Fnp63 := Fnp63.ext E78
  replace Axp63 := Axp63.ext E78
  replace F_o_pending := F_o_pending.ext E78
  have Z88 : n0 ≤ h78.size := Nat.le_trans Z76 E78.1
  replace X78 : Stand p l e ({ frames := 3, cells := 31, slots := 263, locals := 80 } : Room) s m _ below meth c T78 _ 11 120 := X78
  have E_pb : Exa Z h78 pb "com/example/isolens/isolens/checker/DynamicOrder$Found" := A78
  have F_nodes_pb : Fld Z h78 pb "com/example/isolens/isolens/checker/DynamicOrder$Found" "nodes" "[I" .null := D78 (Or.inl (hw _ (List.mem_of_getElem? (i := 27) rfl))) (ty := (.array .int)) (by decide)
  have F_count_pb : Fld Z h78 pb "com/example/isolens/isolens/checker/DynamicOrder$Found" "count" "I" (.int (0 : Int32)) := D78 (Or.inl (hw _ (List.mem_of_getElem? (i := 149) rfl))) (ty := .int) (by decide)
  refine g_dup X78 hx hby d1_73 (pc' := 74) rfl rfl ?_
  refine g_specialR X78 hx hby hZ hown rfl hml rfl (hw _ (List.mem_of_getElem? (i := 22) rfl)) (hw _ (List.mem_of_getElem? (i := 23) rfl)) (hw _ (List.mem_of_getElem? (i := 21) rfl)) rfl (hw _ (List.mem_of_getElem? (i := 24) rfl)) (by decide) e78 (rm_fi l Z a0 hw pb n0 h78 Z88 g87 E_pb F_count_pb F_nodes_pb) pd___V_167 (a := pb) (argsL := []) (rest := [(.ref pb), (.ref o)]) rfl rfl rfl d1_74 (pc' := 77) rfl (by decide) (Nat.le_of_ble_eq_true rfl) (by decide) (by decide) ?_
  intro Tp74 vp74 Lp74 Xp74 qp74
  obtain ⟨rfl, Nqp74, xm, hxp74, Eqp74, Fcp74, Fnp74, Axp74, Kqp74⟩ := qp74
  have lo_xm : o < xm := Nat.lt_of_lt_of_le E_o.lt hxp74
  have no_xm : o ≠ xm := Nat.ne_of_lt lo_xm
  have lar_xm : ar < xm := Nat.lt_of_lt_of_le A_ar.lt hxp74
  have nar_xm : ar ≠ xm := Nat.ne_of_lt lar_xm
  have lxa_xm : xa < xm := Nat.lt_of_lt_of_le A_xa.lt hxp74
  have nxa_xm : xa ≠ xm := Nat.ne_of_lt lxa_xm
  have lxb_xm : xb < xm := Nat.lt_of_lt_of_le A_xb.lt hxp74
  have nxb_xm : xb ≠ xm := Nat.ne_of_lt lxb_xm
  have lxc_xm : xc < xm := Nat.lt_of_lt_of_le A_xc.lt hxp74
  have nxc_xm : xc ≠ xm := Nat.ne_of_lt lxc_xm
  have lxd_xm : xd < xm := Nat.lt_of_lt_of_le A_xd.lt hxp74
  have nxd_xm : xd ≠ xm := Nat.ne_of_lt lxd_xm
  have lpe_xm : pe < xm := Nat.lt_of_lt_of_le Eqp63.lt hxp74
  have npe_xm : pe ≠ xm := Nat.ne_of_lt lpe_xm
  have lxn_xm : xn < xm := Nat.lt_of_lt_of_le Axp63.lt hxp74
  have nxn_xm : xn ≠ xm := Nat.ne_of_lt lxn_xm
  have lpb_xm : pb < xm := Nat.lt_of_lt_of_le E_pb.lt hxp74
  have npb_xm : pb ≠ xm := Nat.ne_of_lt lpb_xm
  have gxm : n0 ≤ xm := Nat.le_trans Z88 hxp74
  replace Xp74 : Stand p l e ({ frames := 3, cells := 31, slots := 263, locals := 80 } : Room) s m _ below meth c Tp74 _ 12 136 := Xp74
  replace E_o := E_o.keep Kqp74
  replace A_ar := A_ar.keep Kqp74 (ninS ne80 nin0)
  replace U_o := U_o.keep Kqp74 (ninS ne79 nin0)
  replace A_xa := A_xa.keep Kqp74 (ninS ne81 nin0)
  replace F_o_addedFrom := F_o_addedFrom.keep Kqp74 (ninS ne79 nin0)
  replace A_xb := A_xb.keep Kqp74 (ninS ne82 nin0)
  replace F_o_addedTo := F_o_addedTo.keep Kqp74 (ninS ne79 nin0)
  replace A_xc := A_xc.keep Kqp74 (ninS ne83 nin0)
  replace F_o_earlierOut := F_o_earlierOut.keep Kqp74 (ninS ne79 nin0)
  replace A_xd := A_xd.keep Kqp74 (ninS ne84 nin0)
  replace F_o_earlierIn := F_o_earlierIn.keep Kqp74 (ninS ne79 nin0)
  replace Eqp63 := Eqp63.keep Kqp74
  replace Fcp63 := Fcp63.keep Kqp74 (ninS ne85 nin0)
  replace Fnp63 := Fnp63.keep Kqp74 (ninS ne85 nin0)
  replace Axp63 := Axp63.keep Kqp74 (ninS ne86 nin0)
  replace F_o_pending := F_o_pending.keep Kqp74 (ninS ne79 nin0)
  replace E_pb := E_pb.keep Kqp74
  have Z89 : n0 ≤ Tp74.heap.size := Nat.le_trans Z88 Kqp74.1
  have Np74 := Fr.app N77 Nqp74
  show Go p e below EF (QDn Z n0 o 0 0 (fun _ => (0 : Int32))) m Tp74 77 #[.val (.ref o), .val (.ref sa), .val (.ref sb), .val (.int (0 : Int32)), .val (.ref ar), .unset, .unset] [(.ref pb), (.ref o)]
  have F_o_pendingBack : Fld Z Tp74.heap o "com/example/isolens/isolens/checker/DynamicOrder" "pendingBack" "Lcom/example/isolens/isolens/checker/DynamicOrder$Found;" .null := U_o.get (Or.inr (hw _ (List.mem_of_getElem? (i := 35) rfl))) (by decide) (ty := (.object "com/example/isolens/isolens/checker/DynamicOrder$Found")) (by decide)
  refine g_putF Xp74 hx hby hZ hown rfl (hw _ (List.mem_of_getElem? (i := 34) rfl)) F_o_pendingBack E_o (Or.inr ⟨(hw _ (List.mem_of_getElem? (i := 35) rfl)), rfl, hnm⟩) (hw _ (List.mem_of_getElem? (i := 2) rfl)) (ty := (.object "com/example/isolens/isolens/checker/DynamicOrder$Found")) (by decide) rfl rfl d1_77 (pc' := 80) rfl (fun T90 h90 X90 e90 W90 => ?_)
  replace E_o := E_o.wr W90
  replace A_ar := A_ar.other W90 (Ne.symm hne)
  replace U_o := U_o.put (Or.inr (hw _ (List.mem_of_getElem? (i := 35) rfl))) (ty' := (.object "com/example/isolens/isolens/checker/DynamicOrder$Found")) (by decide) W90
  replace A_xa := A_xa.other W90 (Ne.symm ne2)
  replace F_o_addedFrom := F_o_addedFrom.other W90 (Or.inr (sn_24 hw))
  replace A_xb := A_xb.other W90 (Ne.symm ne10)
  replace F_o_addedTo := F_o_addedTo.other W90 (Or.inr (sn_25 hw))
  replace A_xc := A_xc.other W90 (Ne.symm ne19)
  replace F_o_earlierOut := F_o_earlierOut.other W90 (Or.inr (sn_26 hw))
  replace A_xd := A_xd.other W90 (Ne.symm ne29)
  replace F_o_earlierIn := F_o_earlierIn.other W90 (Or.inr (sn_27 hw))
  replace Eqp63 := Eqp63.wr W90
  replace Fcp63 := Fcp63.other W90 (Or.inl (Ne.symm ne66))
  replace Fnp63 := Fnp63.other W90 (Or.inl (Ne.symm ne66))
  replace Axp63 := Axp63.other W90 (Ne.symm no_xn)
  replace F_o_pending := F_o_pending.other W90 (Or.inr (sn_28 hw))
  replace Eqp74 := Eqp74.wr W90
  replace Fcp74 := Fcp74.other W90 (Or.inl (Ne.symm ne79))
  replace Fnp74 := Fnp74.other W90 (Or.inl (Ne.symm ne79))
  replace Axp74 := Axp74.other W90 (Ne.symm no_xm)
  replace F_o_pendingBack := F_o_pendingBack.same W90
  have Z91 : n0 ≤ h90.size := by rw [W90.size]; exact Z89
  have N92 := Fr.snoc X90 Np74 g_o
  refine g_aloadN X90 hx hby d1_80 (pc' := 81) rfl rfl rfl ?_
  refine g_bipush X90 hx hby d1_81 (pc' := 83) rfl (n := (16 : Int32)) (by first | rfl | decide) ?_
  refine g_newA X90 hx hby hZ e90 (N := 16) (hw _ (List.mem_of_getElem? (i := 4) rfl)) d1_83 (pc' := 85) rfl rfl (cap := 16) (Nat.le_refl _) (by decide) (by decide) (by decide) (fun T93 h93 w1 g93 X93 e93 E93 A_w1 => ?_)
  have lne94 : o < w1 := by rw [g93]; exact E_o.lt
  have ne94 : o ≠ w1 := Nat.ne_of_lt lne94
  have lne95 : ar < w1 := by rw [g93]; exact A_ar.lt
  have ne95 : ar ≠ w1 := Nat.ne_of_lt lne95
  have lne96 : xa < w1 := by rw [g93]; exact A_xa.lt
  have ne96 : xa ≠ w1 := Nat.ne_of_lt lne96
  have lne97 : xb < w1 := by rw [g93]; exact A_xb.lt
  have ne97 : xb ≠ w1 := Nat.ne_of_lt lne97
  have lne98 : xc < w1 := by rw [g93]; exact A_xc.lt
  have ne98 : xc ≠ w1 := Nat.ne_of_lt lne98
  have lne99 : xd < w1 := by rw [g93]; exact A_xd.lt
  have ne99 : xd ≠ w1 := Nat.ne_of_lt lne99
  have lne100 : pe < w1 := by rw [g93]; exact Eqp63.lt
  have ne100 : pe ≠ w1 := Nat.ne_of_lt lne100
  have lne101 : xn < w1 := by rw [g93]; exact Axp63.lt
  have ne101 : xn ≠ w1 := Nat.ne_of_lt lne101
  have lne102 : pb < w1 := by rw [g93]; exact Eqp74.lt
  have ne102 : pb ≠ w1 := Nat.ne_of_lt lne102
  have lne103 : xm < w1 := by rw [g93]; exact Axp74.lt
  have ne103 : xm ≠ w1 := Nat.ne_of_lt lne103
  have g104 : n0 ≤ w1 := by rw [g93]; exact Z91
  replace E_o := E_o.ext E93
  replace A_ar := A_ar.ext E93
  replace U_o := U_o.ext E93
  replace A_xa := A_xa.ext E93
  replace F_o_addedFrom := F_o_addedFrom.ext E93
  replace A_xb := A_xb.ext E93
  replace F_o_addedTo := F_o_addedTo.ext E93
  replace A_xc := A_xc.ext E93
  replace F_o_earlierOut := F_o_earlierOut.ext E93
  replace A_xd := A_xd.ext E93
  replace F_o_earlierIn := F_o_earlierIn.ext E93
  replace Eqp63 := Eqp63.ext E93
  replace Fcp63 := Fcp63.ext E93
  replace Fnp63 := Fnp63.ext E93
  replace Axp63 := Axp63.ext E93
  replace F_o_pending := F_o_pending.ext E93
  replace Eqp74 := Eqp74.ext E93
  replace Fcp74 := Fcp74.ext E93
  replace Fnp74 := Fnp74.ext E93
  replace Axp74 := Axp74.ext E93
  replace F_o_pendingBack := F_o_pendingBack.ext E93
  have Z105 : n0 ≤ h93.size := Nat.le_trans Z91 E93.1
  replace X93 : Stand p l e ({ frames := 3, cells := 31, slots := 263, locals := 80 } : Room) s m _ below meth c T93 _ 13 152 := X93
  replace A_w1 : Ara Z h93 w1 .int 16 (fun jz => .int ((fun _ => (0 : Int32)) jz)) := A_w1
  have F_o_watchedFrom : Fld Z h93 o "com/example/isolens/isolens/checker/DynamicOrder" "watchedFrom" "[I" .null := U_o.get (Or.inl (hw _ (List.mem_of_getElem? (i := 37) rfl))) (by decide) (ty := (.array .int)) (by decide)
  refine g_putF X93 hx hby hZ hown e93 (hw _ (List.mem_of_getElem? (i := 36) rfl)) F_o_watchedFrom E_o (Or.inl (hw _ (List.mem_of_getElem? (i := 37) rfl))) (hw _ (List.mem_of_getElem? (i := 2) rfl)) (ty := (.array .int)) (by decide) rfl rfl d1_85 (pc' := 88) rfl (fun T106 h106 X106 e106 W106 => ?_)
  replace E_o := E_o.wr W106
  replace A_ar := A_ar.other W106 (Ne.symm hne)
  replace U_o := U_o.put (Or.inl (hw _ (List.mem_of_getElem? (i := 37) rfl))) (ty' := (.array .int)) (by decide) W106
  replace A_xa := A_xa.other W106 (Ne.symm ne2)
  replace F_o_addedFrom := F_o_addedFrom.other W106 (Or.inr (sn_29 hw))
  replace A_xb := A_xb.other W106 (Ne.symm ne10)
  replace F_o_addedTo := F_o_addedTo.other W106 (Or.inr (sn_30 hw))
  replace A_xc := A_xc.other W106 (Ne.symm ne19)
  replace F_o_earlierOut := F_o_earlierOut.other W106 (Or.inr (sn_31 hw))
  replace A_xd := A_xd.other W106 (Ne.symm ne29)
  replace F_o_earlierIn := F_o_earlierIn.other W106 (Or.inr (sn_32 hw))
  replace Eqp63 := Eqp63.wr W106
  replace Fcp63 := Fcp63.other W106 (Or.inl (Ne.symm ne66))
  replace Fnp63 := Fnp63.other W106 (Or.inl (Ne.symm ne66))
  replace Axp63 := Axp63.other W106 (Ne.symm no_xn)
  replace F_o_pending := F_o_pending.other W106 (Or.inr (sn_33 hw))
  replace Eqp74 := Eqp74.wr W106
  replace Fcp74 := Fcp74.other W106 (Or.inl (Ne.symm ne79))
  replace Fnp74 := Fnp74.other W106 (Or.inl (Ne.symm ne79))
  replace Axp74 := Axp74.other W106 (Ne.symm no_xm)
  replace F_o_pendingBack := F_o_pendingBack.other W106 (Or.inr (sn_34 hw))
  replace A_w1 := A_w1.other W106 (Ne.symm ne94)
  replace F_o_watchedFrom := F_o_watchedFrom.same W106
  have Z107 : n0 ≤ h106.size := by rw [W106.size]; exact Z105
  have N108 := Fr.snoc X106 N92 g_o
  refine g_aloadN X106 hx hby d1_88 (pc' := 89) rfl rfl rfl ?_
  refine g_bipush X106 hx hby d1_89 (pc' := 91) rfl (n := (16 : Int32)) (by first | rfl | decide) ?_
  refine g_newA X106 hx hby hZ e106 (N := 16) (hw _ (List.mem_of_getElem? (i := 4) rfl)) d1_91 (pc' := 93) rfl rfl (cap := 16) (Nat.le_refl _) (by decide) (by decide) (by decide) (fun T109 h109 w2 g109 X109 e109 E109 A_w2 => ?_)
  have lne110 : o < w2 := by rw [g109]; exact E_o.lt
  have ne110 : o ≠ w2 := Nat.ne_of_lt lne110
  have lne111 : ar < w2 := by rw [g109]; exact A_ar.lt
  have ne111 : ar ≠ w2 := Nat.ne_of_lt lne111
  have lne112 : xa < w2 := by rw [g109]; exact A_xa.lt
  have ne112 : xa ≠ w2 := Nat.ne_of_lt lne112
  have lne113 : xb < w2 := by rw [g109]; exact A_xb.lt
  have ne113 : xb ≠ w2 := Nat.ne_of_lt lne113
  have lne114 : xc < w2 := by rw [g109]; exact A_xc.lt
  have ne114 : xc ≠ w2 := Nat.ne_of_lt lne114
  have lne115 : xd < w2 := by rw [g109]; exact A_xd.lt
  have ne115 : xd ≠ w2 := Nat.ne_of_lt lne115
  have lne116 : pe < w2 := by rw [g109]; exact Eqp63.lt
  have ne116 : pe ≠ w2 := Nat.ne_of_lt lne116
  have lne117 : xn < w2 := by rw [g109]; exact Axp63.lt
  have ne117 : xn ≠ w2 := Nat.ne_of_lt lne117
  have lne118 : pb < w2 := by rw [g109]; exact Eqp74.lt
  have ne118 : pb ≠ w2 := Nat.ne_of_lt lne118
  have lne119 : xm < w2 := by rw [g109]; exact Axp74.lt
  have ne119 : xm ≠ w2 := Nat.ne_of_lt lne119
  have g120 : n0 ≤ w2 := by rw [g109]; exact Z107
  replace E_o := E_o.ext E109
  replace A_ar := A_ar.ext E109
  replace U_o := U_o.ext E109
  replace A_xa := A_xa.ext E109
  replace F_o_addedFrom := F_o_addedFrom.ext E109
  replace A_xb := A_xb.ext E109
  replace F_o_addedTo := F_o_addedTo.ext E109
  replace A_xc := A_xc.ext E109
  replace F_o_earlierOut := F_o_earlierOut.ext E109
  replace A_xd := A_xd.ext E109
  replace F_o_earlierIn := F_o_earlierIn.ext E109
  replace Eqp63 := Eqp63.ext E109
  replace Fcp63 := Fcp63.ext E109
  replace Fnp63 := Fnp63.ext E109
  replace Axp63 := Axp63.ext E109
  replace F_o_pending := F_o_pending.ext E109
  replace Eqp74 := Eqp74.ext E109
  replace Fcp74 := Fcp74.ext E109
  replace Fnp74 := Fnp74.ext E109
  replace Axp74 := Axp74.ext E109
  replace F_o_pendingBack := F_o_pendingBack.ext E109
  have Z121 : n0 ≤ h109.size := Nat.le_trans Z107 E109.1
  replace X109 : Stand p l e ({ frames := 3, cells := 31, slots := 263, locals := 80 } : Room) s m _ below meth c T109 _ 14 168 := X109
  replace A_w2 : Ara Z h109 w2 .int 16 (fun jz => .int ((fun _ => (0 : Int32)) jz)) := A_w2
  have F_o_watchedTo : Fld Z h109 o "com/example/isolens/isolens/checker/DynamicOrder" "watchedTo" "[I" .null := U_o.get (Or.inl (hw _ (List.mem_of_getElem? (i := 39) rfl))) (by decide) (ty := (.array .int)) (by decide)
  refine g_putF X109 hx hby hZ hown e109 (hw _ (List.mem_of_getElem? (i := 38) rfl)) F_o_watchedTo E_o (Or.inl (hw _ (List.mem_of_getElem? (i := 39) rfl))) (hw _ (List.mem_of_getElem? (i := 2) rfl)) (ty := (.array .int)) (by decide) rfl rfl d1_93 (pc' := 96) rfl (fun T122 h122 X122 e122 W122 => ?_)
  replace E_o := E_o.wr W122
  replace A_ar := A_ar.other W122 (Ne.symm hne)
  replace U_o := U_o.put (Or.inl (hw _ (List.mem_of_getElem? (i := 39) rfl))) (ty' := (.array .int)) (by decide) W122
  replace A_xa := A_xa.other W122 (Ne.symm ne2)
  replace F_o_addedFrom := F_o_addedFrom.other W122 (Or.inr (sn_35 hw))
  replace A_xb := A_xb.other W122 (Ne.symm ne10)
  replace F_o_addedTo := F_o_addedTo.other W122 (Or.inr (sn_36 hw))
  replace A_xc := A_xc.other W122 (Ne.symm ne19)
  replace F_o_earlierOut := F_o_earlierOut.other W122 (Or.inr (sn_37 hw))
  replace A_xd := A_xd.other W122 (Ne.symm ne29)
  replace F_o_earlierIn := F_o_earlierIn.other W122 (Or.inr (sn_38 hw))
  replace Eqp63 := Eqp63.wr W122
  replace Fcp63 := Fcp63.other W122 (Or.inl (Ne.symm ne66))
  replace Fnp63 := Fnp63.other W122 (Or.inl (Ne.symm ne66))
  replace Axp63 := Axp63.other W122 (Ne.symm no_xn)
  replace F_o_pending := F_o_pending.other W122 (Or.inr (sn_39 hw))
  replace Eqp74 := Eqp74.wr W122
  replace Fcp74 := Fcp74.other W122 (Or.inl (Ne.symm ne79))
  replace Fnp74 := Fnp74.other W122 (Or.inl (Ne.symm ne79))
  replace Axp74 := Axp74.other W122 (Ne.symm no_xm)
  replace F_o_pendingBack := F_o_pendingBack.other W122 (Or.inr (sn_40 hw))
  replace A_w2 := A_w2.other W122 (Ne.symm ne110)
  replace F_o_watchedTo := F_o_watchedTo.same W122
  have Z123 : n0 ≤ h122.size := by rw [W122.size]; exact Z121
  have N124 := Fr.snoc X122 N108 g_o
  refine g_aloadN X122 hx hby d1_96 (pc' := 97) rfl rfl rfl ?_
  refine g_bipush X122 hx hby d1_97 (pc' := 99) rfl (n := (16 : Int32)) (by first | rfl | decide) ?_
  refine g_newA X122 hx hby hZ e122 (N := 16) (hw _ (List.mem_of_getElem? (i := 4) rfl)) d1_99 (pc' := 101) rfl rfl (cap := 16) (Nat.le_refl _) (by decide) (by decide) (by decide) (fun T125 h125 w3 g125 X125 e125 E125 A_w3 => ?_)
  have lne126 : o < w3 := by rw [g125]; exact E_o.lt
  have ne126 : o ≠ w3 := Nat.ne_of_lt lne126
  have lne127 : ar < w3 := by rw [g125]; exact A_ar.lt
  have ne127 : ar ≠ w3 := Nat.ne_of_lt lne127
  have lne128 : xa < w3 := by rw [g125]; exact A_xa.lt
  have ne128 : xa ≠ w3 := Nat.ne_of_lt lne128
  have lne129 : xb < w3 := by rw [g125]; exact A_xb.lt
  have ne129 : xb ≠ w3 := Nat.ne_of_lt lne129
  have lne130 : xc < w3 := by rw [g125]; exact A_xc.lt
  have ne130 : xc ≠ w3 := Nat.ne_of_lt lne130
  have lne131 : xd < w3 := by rw [g125]; exact A_xd.lt
  have ne131 : xd ≠ w3 := Nat.ne_of_lt lne131
  have lne132 : pe < w3 := by rw [g125]; exact Eqp63.lt
  have ne132 : pe ≠ w3 := Nat.ne_of_lt lne132
  have lne133 : xn < w3 := by rw [g125]; exact Axp63.lt
  have ne133 : xn ≠ w3 := Nat.ne_of_lt lne133
  have lne134 : pb < w3 := by rw [g125]; exact Eqp74.lt
  have ne134 : pb ≠ w3 := Nat.ne_of_lt lne134
  have lne135 : xm < w3 := by rw [g125]; exact Axp74.lt
  have ne135 : xm ≠ w3 := Nat.ne_of_lt lne135
  have g136 : n0 ≤ w3 := by rw [g125]; exact Z123
  replace E_o := E_o.ext E125
  replace A_ar := A_ar.ext E125
  replace U_o := U_o.ext E125
  replace A_xa := A_xa.ext E125
  replace F_o_addedFrom := F_o_addedFrom.ext E125
  replace A_xb := A_xb.ext E125
  replace F_o_addedTo := F_o_addedTo.ext E125
  replace A_xc := A_xc.ext E125
  replace F_o_earlierOut := F_o_earlierOut.ext E125
  replace A_xd := A_xd.ext E125
  replace F_o_earlierIn := F_o_earlierIn.ext E125
  replace Eqp63 := Eqp63.ext E125
  replace Fcp63 := Fcp63.ext E125
  replace Fnp63 := Fnp63.ext E125
  replace Axp63 := Axp63.ext E125
  replace F_o_pending := F_o_pending.ext E125
  replace Eqp74 := Eqp74.ext E125
  replace Fcp74 := Fcp74.ext E125
  replace Fnp74 := Fnp74.ext E125
  replace Axp74 := Axp74.ext E125
  replace F_o_pendingBack := F_o_pendingBack.ext E125
  have Z137 : n0 ≤ h125.size := Nat.le_trans Z123 E125.1
  replace X125 : Stand p l e ({ frames := 3, cells := 31, slots := 263, locals := 80 } : Room) s m _ below meth c T125 _ 15 184 := X125
  replace A_w3 : Ara Z h125 w3 .int 16 (fun jz => .int ((fun _ => (0 : Int32)) jz)) := A_w3
  have F_o_earlierWatchedIn : Fld Z h125 o "com/example/isolens/isolens/checker/DynamicOrder" "earlierWatchedIn" "[I" .null := U_o.get (Or.inl (hw _ (List.mem_of_getElem? (i := 41) rfl))) (by decide) (ty := (.array .int)) (by decide)
  refine g_putF X125 hx hby hZ hown e125 (hw _ (List.mem_of_getElem? (i := 40) rfl)) F_o_earlierWatchedIn E_o (Or.inl (hw _ (List.mem_of_getElem? (i := 41) rfl))) (hw _ (List.mem_of_getElem? (i := 2) rfl)) (ty := (.array .int)) (by decide) rfl rfl d1_101 (pc' := 104) rfl (fun T138 h138 X138 e138 W138 => ?_)
  replace E_o := E_o.wr W138
  replace A_ar := A_ar.other W138 (Ne.symm hne)
  replace U_o := U_o.put (Or.inl (hw _ (List.mem_of_getElem? (i := 41) rfl))) (ty' := (.array .int)) (by decide) W138
  replace A_xa := A_xa.other W138 (Ne.symm ne2)
  replace F_o_addedFrom := F_o_addedFrom.other W138 (Or.inr (sn_41 hw))
  replace A_xb := A_xb.other W138 (Ne.symm ne10)
  replace F_o_addedTo := F_o_addedTo.other W138 (Or.inr (sn_42 hw))
  replace A_xc := A_xc.other W138 (Ne.symm ne19)
  replace F_o_earlierOut := F_o_earlierOut.other W138 (Or.inr (sn_43 hw))
  replace A_xd := A_xd.other W138 (Ne.symm ne29)
  replace F_o_earlierIn := F_o_earlierIn.other W138 (Or.inr (sn_44 hw))
  replace Eqp63 := Eqp63.wr W138
  replace Fcp63 := Fcp63.other W138 (Or.inl (Ne.symm ne66))
  replace Fnp63 := Fnp63.other W138 (Or.inl (Ne.symm ne66))
  replace Axp63 := Axp63.other W138 (Ne.symm no_xn)
  replace F_o_pending := F_o_pending.other W138 (Or.inr (sn_45 hw))
  replace Eqp74 := Eqp74.wr W138
  replace Fcp74 := Fcp74.other W138 (Or.inl (Ne.symm ne79))
  replace Fnp74 := Fnp74.other W138 (Or.inl (Ne.symm ne79))
  replace Axp74 := Axp74.other W138 (Ne.symm no_xm)
  replace F_o_pendingBack := F_o_pendingBack.other W138 (Or.inr (sn_46 hw))
  replace A_w3 := A_w3.other W138 (Ne.symm ne126)
  replace F_o_earlierWatchedIn := F_o_earlierWatchedIn.same W138
  have Z139 : n0 ≤ h138.size := by rw [W138.size]; exact Z137
  have N140 := Fr.snoc X138 N124 g_o
  refine g_aloadN X138 hx hby d1_104 (pc' := 105) rfl rfl rfl ?_
  refine g_bipush X138 hx hby d1_105 (pc' := 107) rfl (n := (16 : Int32)) (by first | rfl | decide) ?_
  refine g_newA X138 hx hby hZ e138 (N := 16) (hw _ (List.mem_of_getElem? (i := 4) rfl)) d1_107 (pc' := 109) rfl rfl (cap := 16) (Nat.le_refl _) (by decide) (by decide) (by decide) (fun T141 h141 w4 g141 X141 e141 E141 A_w4 => ?_)
  have lne142 : o < w4 := by rw [g141]; exact E_o.lt
  have ne142 : o ≠ w4 := Nat.ne_of_lt lne142
  have lne143 : ar < w4 := by rw [g141]; exact A_ar.lt
  have ne143 : ar ≠ w4 := Nat.ne_of_lt lne143
  have lne144 : xa < w4 := by rw [g141]; exact A_xa.lt
  have ne144 : xa ≠ w4 := Nat.ne_of_lt lne144
  have lne145 : xb < w4 := by rw [g141]; exact A_xb.lt
  have ne145 : xb ≠ w4 := Nat.ne_of_lt lne145
  have lne146 : xc < w4 := by rw [g141]; exact A_xc.lt
  have ne146 : xc ≠ w4 := Nat.ne_of_lt lne146
  have lne147 : xd < w4 := by rw [g141]; exact A_xd.lt
  have ne147 : xd ≠ w4 := Nat.ne_of_lt lne147
  have lne148 : pe < w4 := by rw [g141]; exact Eqp63.lt
  have ne148 : pe ≠ w4 := Nat.ne_of_lt lne148
  have lne149 : xn < w4 := by rw [g141]; exact Axp63.lt
  have ne149 : xn ≠ w4 := Nat.ne_of_lt lne149
  have lne150 : pb < w4 := by rw [g141]; exact Eqp74.lt
  have ne150 : pb ≠ w4 := Nat.ne_of_lt lne150
  have lne151 : xm < w4 := by rw [g141]; exact Axp74.lt
  have ne151 : xm ≠ w4 := Nat.ne_of_lt lne151
  have g152 : n0 ≤ w4 := by rw [g141]; exact Z139
  replace E_o := E_o.ext E141
  replace A_ar := A_ar.ext E141
  replace U_o := U_o.ext E141
  replace A_xa := A_xa.ext E141
  replace F_o_addedFrom := F_o_addedFrom.ext E141
  replace A_xb := A_xb.ext E141
  replace F_o_addedTo := F_o_addedTo.ext E141
  replace A_xc := A_xc.ext E141
  replace F_o_earlierOut := F_o_earlierOut.ext E141
  replace A_xd := A_xd.ext E141
  replace F_o_earlierIn := F_o_earlierIn.ext E141
  replace Eqp63 := Eqp63.ext E141
  replace Fcp63 := Fcp63.ext E141
  replace Fnp63 := Fnp63.ext E141
  replace Axp63 := Axp63.ext E141
  replace F_o_pending := F_o_pending.ext E141
  replace Eqp74 := Eqp74.ext E141
  replace Fcp74 := Fcp74.ext E141
  replace Fnp74 := Fnp74.ext E141
  replace Axp74 := Axp74.ext E141
  replace F_o_pendingBack := F_o_pendingBack.ext E141
  have Z153 : n0 ≤ h141.size := Nat.le_trans Z139 E141.1
  replace X141 : Stand p l e ({ frames := 3, cells := 31, slots := 263, locals := 80 } : Room) s m _ below meth c T141 _ 16 200 := X141
  replace A_w4 : Ara Z h141 w4 .int 16 (fun jz => .int ((fun _ => (0 : Int32)) jz)) := A_w4
  have F_o_earlierWatchedOut : Fld Z h141 o "com/example/isolens/isolens/checker/DynamicOrder" "earlierWatchedOut" "[I" .null := U_o.get (Or.inl (hw _ (List.mem_of_getElem? (i := 43) rfl))) (by decide) (ty := (.array .int)) (by decide)
  refine g_putF X141 hx hby hZ hown e141 (hw _ (List.mem_of_getElem? (i := 42) rfl)) F_o_earlierWatchedOut E_o (Or.inl (hw _ (List.mem_of_getElem? (i := 43) rfl))) (hw _ (List.mem_of_getElem? (i := 2) rfl)) (ty := (.array .int)) (by decide) rfl rfl d1_109 (pc' := 112) rfl (fun T154 h154 X154 e154 W154 => ?_)
  replace E_o := E_o.wr W154
  replace A_ar := A_ar.other W154 (Ne.symm hne)
  replace U_o := U_o.put (Or.inl (hw _ (List.mem_of_getElem? (i := 43) rfl))) (ty' := (.array .int)) (by decide) W154
  replace A_xa := A_xa.other W154 (Ne.symm ne2)
  replace F_o_addedFrom := F_o_addedFrom.other W154 (Or.inr (sn_47 hw))
  replace A_xb := A_xb.other W154 (Ne.symm ne10)
  replace F_o_addedTo := F_o_addedTo.other W154 (Or.inr (sn_48 hw))
  replace A_xc := A_xc.other W154 (Ne.symm ne19)
  replace F_o_earlierOut := F_o_earlierOut.other W154 (Or.inr (sn_49 hw))
  replace A_xd := A_xd.other W154 (Ne.symm ne29)
  replace F_o_earlierIn := F_o_earlierIn.other W154 (Or.inr (sn_50 hw))
  replace Eqp63 := Eqp63.wr W154
  replace Fcp63 := Fcp63.other W154 (Or.inl (Ne.symm ne66))
  replace Fnp63 := Fnp63.other W154 (Or.inl (Ne.symm ne66))
  replace Axp63 := Axp63.other W154 (Ne.symm no_xn)
  replace F_o_pending := F_o_pending.other W154 (Or.inr (sn_51 hw))
  replace Eqp74 := Eqp74.wr W154
  replace Fcp74 := Fcp74.other W154 (Or.inl (Ne.symm ne79))
  replace Fnp74 := Fnp74.other W154 (Or.inl (Ne.symm ne79))
  replace Axp74 := Axp74.other W154 (Ne.symm no_xm)
  replace F_o_pendingBack := F_o_pendingBack.other W154 (Or.inr (sn_52 hw))
  replace A_w4 := A_w4.other W154 (Ne.symm ne142)
  replace F_o_earlierWatchedOut := F_o_earlierWatchedOut.same W154
  have Z155 : n0 ≤ h154.size := by rw [W154.size]; exact Z153
  have N156 := Fr.snoc X154 N140 g_o
  refine g_aloadN X154 hx hby d1_112 (pc' := 113) rfl rfl rfl ?_
  refine g_new X154 hx hby hZ hown e154 (hw _ (List.mem_of_getElem? (i := 44) rfl)) (hw _ (List.mem_of_getElem? (i := 45) rfl)) (hw _ (List.mem_of_getElem? (i := 46) rfl)) d1_113 (pc' := 116) rfl (by decide) (by decide) (fun T157 h157 bs g157 X157 e157 E157 A157 D157 => ?_)
  have lne158 : o < bs := by rw [g157]; exact E_o.lt
  have ne158 : o ≠ bs := Nat.ne_of_lt lne158
  have lne159 : ar < bs := by rw [g157]; exact A_ar.lt
  have ne159 : ar ≠ bs := Nat.ne_of_lt lne159
  have lne160 : xa < bs := by rw [g157]; exact A_xa.lt
  have ne160 : xa ≠ bs := Nat.ne_of_lt lne160
  have lne161 : xb < bs := by rw [g157]; exact A_xb.lt
  have ne161 : xb ≠ bs := Nat.ne_of_lt lne161
  have lne162 : xc < bs := by rw [g157]; exact A_xc.lt
  have ne162 : xc ≠ bs := Nat.ne_of_lt lne162
  have lne163 : xd < bs := by rw [g157]; exact A_xd.lt
  have ne163 : xd ≠ bs := Nat.ne_of_lt lne163
  have lne164 : pe < bs := by rw [g157]; exact Eqp63.lt
  have ne164 : pe ≠ bs := Nat.ne_of_lt lne164
  have lne165 : xn < bs := by rw [g157]; exact Axp63.lt
  have ne165 : xn ≠ bs := Nat.ne_of_lt lne165
  have lne166 : pb < bs := by rw [g157]; exact Eqp74.lt
  have ne166 : pb ≠ bs := Nat.ne_of_lt lne166
  have lne167 : xm < bs := by rw [g157]; exact Axp74.lt
  have ne167 : xm ≠ bs := Nat.ne_of_lt lne167
  have g168 : n0 ≤ bs := by rw [g157]; exact Z155
  replace E_o := E_o.ext E157
  replace A_ar := A_ar.ext E157
  replace U_o := U_o.ext E157
  replace A_xa := A_xa.ext E157
  replace F_o_addedFrom := F_o_addedFrom.ext E157
  replace A_xb := A_xb.ext E157
  replace F_o_addedTo := F_o_addedTo.ext E157
  replace A_xc := A_xc.ext E157
  replace F_o_earlierOut := F_o_earlierOut.ext E157
  replace A_xd := A_xd.ext E157
  replace F_o_earlierIn := F_o_earlierIn.ext E157
  replace Eqp63 := Eqp63.ext E157
  replace Fcp63 := Fcp63.ext E157
  replace Fnp63 := Fnp63.ext E157
  replace Axp63 := Axp63.ext E157
  replace F_o_pending := F_o_pending.ext E157
  replace Eqp74 := Eqp74.ext E157
  replace Fcp74 := Fcp74.ext E157
  replace Fnp74 := Fnp74.ext E157
  replace Axp74 := Axp74.ext E157
  replace F_o_pendingBack := F_o_pendingBack.ext E157
  have Z169 : n0 ≤ h157.size := Nat.le_trans Z155 E157.1
  replace X157 : Stand p l e ({ frames := 3, cells := 31, slots := 263, locals := 80 } : Room) s m _ below meth c T157 _ 17 203 := X157
  have E_bs : Exa Z h157 bs "java/util/BitSet" := A157
  have F_wordsInUse_bs : Fld Z h157 bs "java/util/BitSet" "wordsInUse" "I" (.int (0 : Int32)) := D157 (Or.inl (hw _ (List.mem_of_getElem? (i := 52) rfl))) (ty := .int) (by decide)
  have F_sizeIsSticky_bs : Fld Z h157 bs "java/util/BitSet" "sizeIsSticky" "Z" (.int (0 : Int32)) := D157 (Or.inl (hw _ (List.mem_of_getElem? (i := 54) rfl))) (ty := .boolean) (by decide)
  have F_words_bs : Fld Z h157 bs "java/util/BitSet" "words" "[J" .null := D157 (Or.inl (hw _ (List.mem_of_getElem? (i := 65) rfl))) (ty := (.array .long)) (by decide)
  refine g_dup X157 hx hby d1_116 (pc' := 117) rfl rfl ?_
  refine g_special X157 hx hby hZ hown rfl hml rfl (hw _ (List.mem_of_getElem? (i := 47) rfl)) (hw _ (List.mem_of_getElem? (i := 48) rfl)) (hw _ (List.mem_of_getElem? (i := 46) rfl)) rfl (hw _ (List.mem_of_getElem? (i := 49) rfl)) (by decide) e157 (rm_bs l Z a0 hw bs n0 h157 Z169 g168 E_bs F_wordsInUse_bs F_sizeIsSticky_bs F_words_bs) pd___V_167 (a := bs) (argsL := []) (rest := [(.ref bs), (.ref o)]) rfl rfl rfl d1_117 (pc' := 120) rfl (by decide) (Nat.le_of_ble_eq_true rfl) (by decide) (by decide) ?_
  intro Tp117 vp117 Lp117 Xp117 qp117
  obtain ⟨rfl, Nqp117, Kqp117⟩ := qp117
  replace Xp117 : Stand p l e ({ frames := 3, cells := 31, slots := 263, locals := 80 } : Room) s m _ below meth c Tp117 _ 18 204 := Xp117
  replace E_o := E_o.keep Kqp117
  replace A_ar := A_ar.keep Kqp117 (ninS ne159 nin0)
  replace U_o := U_o.keep Kqp117 (ninS ne158 nin0)
  replace A_xa := A_xa.keep Kqp117 (ninS ne160 nin0)
  replace F_o_addedFrom := F_o_addedFrom.keep Kqp117 (ninS ne158 nin0)
  replace A_xb := A_xb.keep Kqp117 (ninS ne161 nin0)
  replace F_o_addedTo := F_o_addedTo.keep Kqp117 (ninS ne158 nin0)
  replace A_xc := A_xc.keep Kqp117 (ninS ne162 nin0)
  replace F_o_earlierOut := F_o_earlierOut.keep Kqp117 (ninS ne158 nin0)
  replace A_xd := A_xd.keep Kqp117 (ninS ne163 nin0)
  replace F_o_earlierIn := F_o_earlierIn.keep Kqp117 (ninS ne158 nin0)
  replace Eqp63 := Eqp63.keep Kqp117
  replace Fcp63 := Fcp63.keep Kqp117 (ninS ne164 nin0)
  replace Fnp63 := Fnp63.keep Kqp117 (ninS ne164 nin0)
  replace Axp63 := Axp63.keep Kqp117 (ninS ne165 nin0)
  replace F_o_pending := F_o_pending.keep Kqp117 (ninS ne158 nin0)
  replace Eqp74 := Eqp74.keep Kqp117
  replace Fcp74 := Fcp74.keep Kqp117 (ninS ne166 nin0)
  replace Fnp74 := Fnp74.keep Kqp117 (ninS ne166 nin0)
  replace Axp74 := Axp74.keep Kqp117 (ninS ne167 nin0)
  replace F_o_pendingBack := F_o_pendingBack.keep Kqp117 (ninS ne158 nin0)
  replace E_bs := E_bs.keep Kqp117
  have Z170 : n0 ≤ Tp117.heap.size := Nat.le_trans Z169 Kqp117.1
  have Np117 := Fr.app N156 Nqp117
  show Go p e below EF (QDn Z n0 o 0 0 (fun _ => (0 : Int32))) m Tp117 120 #[.val (.ref o), .val (.ref sa), .val (.ref sb), .val (.int (0 : Int32)), .val (.ref ar), .unset, .unset] [(.ref bs), (.ref o)]
  have F_o_watchedNow : Fld Z Tp117.heap o "com/example/isolens/isolens/checker/DynamicOrder" "watchedNow" "Ljava/util/BitSet;" .null := U_o.get (Or.inr (hw _ (List.mem_of_getElem? (i := 67) rfl))) (by decide) (ty := (.object "java/util/BitSet")) (by decide)
  refine g_putF Xp117 hx hby hZ hown rfl (hw _ (List.mem_of_getElem? (i := 66) rfl)) F_o_watchedNow E_o (Or.inr ⟨(hw _ (List.mem_of_getElem? (i := 67) rfl)), rfl, hnm⟩) (hw _ (List.mem_of_getElem? (i := 2) rfl)) (ty := (.object "java/util/BitSet")) (by decide) rfl rfl d1_120 (pc' := 123) rfl (fun T171 h171 X171 e171 W171 => ?_)
  replace E_o := E_o.wr W171
  replace A_ar := A_ar.other W171 (Ne.symm hne)
  replace U_o := U_o.put (Or.inr (hw _ (List.mem_of_getElem? (i := 67) rfl))) (ty' := (.object "java/util/BitSet")) (by decide) W171
  replace A_xa := A_xa.other W171 (Ne.symm ne2)
  replace F_o_addedFrom := F_o_addedFrom.other W171 (Or.inr (sn_53 hw))
  replace A_xb := A_xb.other W171 (Ne.symm ne10)
  replace F_o_addedTo := F_o_addedTo.other W171 (Or.inr (sn_54 hw))
  replace A_xc := A_xc.other W171 (Ne.symm ne19)
  replace F_o_earlierOut := F_o_earlierOut.other W171 (Or.inr (sn_55 hw))
  replace A_xd := A_xd.other W171 (Ne.symm ne29)
  replace F_o_earlierIn := F_o_earlierIn.other W171 (Or.inr (sn_56 hw))
  replace Eqp63 := Eqp63.wr W171
  replace Fcp63 := Fcp63.other W171 (Or.inl (Ne.symm ne66))
  replace Fnp63 := Fnp63.other W171 (Or.inl (Ne.symm ne66))
  replace Axp63 := Axp63.other W171 (Ne.symm no_xn)
  replace F_o_pending := F_o_pending.other W171 (Or.inr (sn_57 hw))
  replace Eqp74 := Eqp74.wr W171
  replace Fcp74 := Fcp74.other W171 (Or.inl (Ne.symm ne79))
  replace Fnp74 := Fnp74.other W171 (Or.inl (Ne.symm ne79))
  replace Axp74 := Axp74.other W171 (Ne.symm no_xm)
  replace F_o_pendingBack := F_o_pendingBack.other W171 (Or.inr (sn_58 hw))
  replace E_bs := E_bs.wr W171
  replace F_o_watchedNow := F_o_watchedNow.same W171
  have Z172 : n0 ≤ h171.size := by rw [W171.size]; exact Z170
  have N173 := Fr.snoc X171 Np117 g_o
  refine g_aloadN X171 hx hby d1_123 (pc' := 124) rfl rfl rfl ?_
  refine g_new X171 hx hby hZ hown e171 (hw _ (List.mem_of_getElem? (i := 19) rfl)) (hw _ (List.mem_of_getElem? (i := 20) rfl)) (hw _ (List.mem_of_getElem? (i := 21) rfl)) d1_124 (pc' := 127) rfl (by decide) (by decide) (fun T174 h174 un g174 X174 e174 E174 A174 D174 => ?_)
  have lne175 : o < un := by rw [g174]; exact E_o.lt
  have ne175 : o ≠ un := Nat.ne_of_lt lne175
  have lne176 : ar < un := by rw [g174]; exact A_ar.lt
  have ne176 : ar ≠ un := Nat.ne_of_lt lne176
  have lne177 : xa < un := by rw [g174]; exact A_xa.lt
  have ne177 : xa ≠ un := Nat.ne_of_lt lne177
  have lne178 : xb < un := by rw [g174]; exact A_xb.lt
  have ne178 : xb ≠ un := Nat.ne_of_lt lne178
  have lne179 : xc < un := by rw [g174]; exact A_xc.lt
  have ne179 : xc ≠ un := Nat.ne_of_lt lne179
  have lne180 : xd < un := by rw [g174]; exact A_xd.lt
  have ne180 : xd ≠ un := Nat.ne_of_lt lne180
  have lne181 : pe < un := by rw [g174]; exact Eqp63.lt
  have ne181 : pe ≠ un := Nat.ne_of_lt lne181
  have lne182 : xn < un := by rw [g174]; exact Axp63.lt
  have ne182 : xn ≠ un := Nat.ne_of_lt lne182
  have lne183 : pb < un := by rw [g174]; exact Eqp74.lt
  have ne183 : pb ≠ un := Nat.ne_of_lt lne183
  have lne184 : xm < un := by rw [g174]; exact Axp74.lt
  have ne184 : xm ≠ un := Nat.ne_of_lt lne184
  have g185 : n0 ≤ un := by rw [g174]; exact Z172
  replace E_o := E_o.ext E174
  replace A_ar := A_ar.ext E174
  replace U_o := U_o.ext E174
  replace A_xa := A_xa.ext E174
  replace F_o_addedFrom := F_o_addedFrom.ext E174
  replace A_xb := A_xb.ext E174
  replace F_o_addedTo := F_o_addedTo.ext E174
  replace A_xc := A_xc.ext E174
  replace F_o_earlierOut := F_o_earlierOut.ext E174
  replace A_xd := A_xd.ext E174
  replace F_o_earlierIn := F_o_earlierIn.ext E174
  replace Eqp63 := Eqp63.ext E174
  replace Fcp63 := Fcp63.ext E174
  replace Fnp63 := Fnp63.ext E174
  replace Axp63 := Axp63.ext E174
  replace F_o_pending := F_o_pending.ext E174
  replace Eqp74 := Eqp74.ext E174
  replace Fcp74 := Fcp74.ext E174
  replace Fnp74 := Fnp74.ext E174
  replace Axp74 := Axp74.ext E174
  replace F_o_pendingBack := F_o_pendingBack.ext E174
  have Z186 : n0 ≤ h174.size := Nat.le_trans Z172 E174.1
  replace X174 : Stand p l e ({ frames := 3, cells := 31, slots := 263, locals := 80 } : Room) s m _ below meth c T174 _ 19 206 := X174
  have E_un : Exa Z h174 un "com/example/isolens/isolens/checker/DynamicOrder$Found" := A174
  have F_nodes_un : Fld Z h174 un "com/example/isolens/isolens/checker/DynamicOrder$Found" "nodes" "[I" .null := D174 (Or.inl (hw _ (List.mem_of_getElem? (i := 27) rfl))) (ty := (.array .int)) (by decide)
  have F_count_un : Fld Z h174 un "com/example/isolens/isolens/checker/DynamicOrder$Found" "count" "I" (.int (0 : Int32)) := D174 (Or.inl (hw _ (List.mem_of_getElem? (i := 149) rfl))) (ty := .int) (by decide)
  refine g_dup X174 hx hby d1_127 (pc' := 128) rfl rfl ?_
  refine g_specialR X174 hx hby hZ hown rfl hml rfl (hw _ (List.mem_of_getElem? (i := 22) rfl)) (hw _ (List.mem_of_getElem? (i := 23) rfl)) (hw _ (List.mem_of_getElem? (i := 21) rfl)) rfl (hw _ (List.mem_of_getElem? (i := 24) rfl)) (by decide) e174 (rm_fi l Z a0 hw un n0 h174 Z186 g185 E_un F_count_un F_nodes_un) pd___V_167 (a := un) (argsL := []) (rest := [(.ref un), (.ref o)]) rfl rfl rfl d1_128 (pc' := 131) rfl (by decide) (Nat.le_of_ble_eq_true rfl) (by decide) (by decide) ?_
  intro Tp128 vp128 Lp128 Xp128 qp128
  obtain ⟨rfl, Nqp128, xp128, hxp128, Eqp128, Fcp128, Fnp128, Axp128, Kqp128⟩ := qp128
  replace Xp128 : Stand p l e ({ frames := 3, cells := 31, slots := 263, locals := 80 } : Room) s m _ below meth c Tp128 _ 20 222 := Xp128
  replace E_o := E_o.keep Kqp128
  replace A_ar := A_ar.keep Kqp128 (ninS ne176 nin0)
  replace U_o := U_o.keep Kqp128 (ninS ne175 nin0)
  replace A_xa := A_xa.keep Kqp128 (ninS ne177 nin0)
  replace F_o_addedFrom := F_o_addedFrom.keep Kqp128 (ninS ne175 nin0)
  replace A_xb := A_xb.keep Kqp128 (ninS ne178 nin0)
  replace F_o_addedTo := F_o_addedTo.keep Kqp128 (ninS ne175 nin0)
  replace A_xc := A_xc.keep Kqp128 (ninS ne179 nin0)
  replace F_o_earlierOut := F_o_earlierOut.keep Kqp128 (ninS ne175 nin0)
  replace A_xd := A_xd.keep Kqp128 (ninS ne180 nin0)
  replace F_o_earlierIn := F_o_earlierIn.keep Kqp128 (ninS ne175 nin0)
  replace Eqp63 := Eqp63.keep Kqp128
  replace Fcp63 := Fcp63.keep Kqp128 (ninS ne181 nin0)
  replace Fnp63 := Fnp63.keep Kqp128 (ninS ne181 nin0)
  replace Axp63 := Axp63.keep Kqp128 (ninS ne182 nin0)
  replace F_o_pending := F_o_pending.keep Kqp128 (ninS ne175 nin0)
  replace Eqp74 := Eqp74.keep Kqp128
  replace Fcp74 := Fcp74.keep Kqp128 (ninS ne183 nin0)
  replace Fnp74 := Fnp74.keep Kqp128 (ninS ne183 nin0)
  replace Axp74 := Axp74.keep Kqp128 (ninS ne184 nin0)
  replace F_o_pendingBack := F_o_pendingBack.keep Kqp128 (ninS ne175 nin0)
  replace E_un := E_un.keep Kqp128
  have Z187 : n0 ≤ Tp128.heap.size := Nat.le_trans Z186 Kqp128.1
  have Np128 := Fr.app N173 Nqp128
  show Go p e below EF (QDn Z n0 o 0 0 (fun _ => (0 : Int32))) m Tp128 131 #[.val (.ref o), .val (.ref sa), .val (.ref sb), .val (.int (0 : Int32)), .val (.ref ar), .unset, .unset] [(.ref un), (.ref o)]
  have F_o_unsettled : Fld Z Tp128.heap o "com/example/isolens/isolens/checker/DynamicOrder" "unsettled" "Lcom/example/isolens/isolens/checker/DynamicOrder$Found;" .null := U_o.get (Or.inr (hw _ (List.mem_of_getElem? (i := 69) rfl))) (by decide) (ty := (.object "com/example/isolens/isolens/checker/DynamicOrder$Found")) (by decide)
  refine g_putF Xp128 hx hby hZ hown rfl (hw _ (List.mem_of_getElem? (i := 68) rfl)) F_o_unsettled E_o (Or.inr ⟨(hw _ (List.mem_of_getElem? (i := 69) rfl)), rfl, hnm⟩) (hw _ (List.mem_of_getElem? (i := 2) rfl)) (ty := (.object "com/example/isolens/isolens/checker/DynamicOrder$Found")) (by decide) rfl rfl d1_131 (pc' := 134) rfl (fun T188 h188 X188 e188 W188 => ?_)
  replace E_o := E_o.wr W188
  replace A_ar := A_ar.other W188 (Ne.symm hne)
  replace U_o := U_o.put (Or.inr (hw _ (List.mem_of_getElem? (i := 69) rfl))) (ty' := (.object "com/example/isolens/isolens/checker/DynamicOrder$Found")) (by decide) W188
  replace A_xa := A_xa.other W188 (Ne.symm ne2)
  replace F_o_addedFrom := F_o_addedFrom.other W188 (Or.inr (sn_59 hw))
  replace A_xb := A_xb.other W188 (Ne.symm ne10)
  replace F_o_addedTo := F_o_addedTo.other W188 (Or.inr (sn_60 hw))
  replace A_xc := A_xc.other W188 (Ne.symm ne19)
  replace F_o_earlierOut := F_o_earlierOut.other W188 (Or.inr (sn_61 hw))
  replace A_xd := A_xd.other W188 (Ne.symm ne29)
  replace F_o_earlierIn := F_o_earlierIn.other W188 (Or.inr (sn_62 hw))
  replace Eqp63 := Eqp63.wr W188
  replace Fcp63 := Fcp63.other W188 (Or.inl (Ne.symm ne66))
  replace Fnp63 := Fnp63.other W188 (Or.inl (Ne.symm ne66))
  replace Axp63 := Axp63.other W188 (Ne.symm no_xn)
  replace F_o_pending := F_o_pending.other W188 (Or.inr (sn_63 hw))
  replace Eqp74 := Eqp74.wr W188
  replace Fcp74 := Fcp74.other W188 (Or.inl (Ne.symm ne79))
  replace Fnp74 := Fnp74.other W188 (Or.inl (Ne.symm ne79))
  replace Axp74 := Axp74.other W188 (Ne.symm no_xm)
  replace F_o_pendingBack := F_o_pendingBack.other W188 (Or.inr (sn_64 hw))
  replace E_un := E_un.wr W188
  replace F_o_unsettled := F_o_unsettled.same W188
  have Z189 : n0 ≤ h188.size := by rw [W188.size]; exact Z187
  have N190 := Fr.snoc X188 Np128 g_o
  refine g_aloadN X188 hx hby d1_134 (pc' := 135) rfl rfl rfl ?_
  refine g_new X188 hx hby hZ hown e188 (hw _ (List.mem_of_getElem? (i := 19) rfl)) (hw _ (List.mem_of_getElem? (i := 20) rfl)) (hw _ (List.mem_of_getElem? (i := 21) rfl)) d1_135 (pc' := 138) rfl (by decide) (by decide) (fun T191 h191 cl g191 X191 e191 E191 A191 D191 => ?_)
  have lne192 : o < cl := by rw [g191]; exact E_o.lt
  have ne192 : o ≠ cl := Nat.ne_of_lt lne192
  have lne193 : ar < cl := by rw [g191]; exact A_ar.lt
  have ne193 : ar ≠ cl := Nat.ne_of_lt lne193
  have lne194 : xa < cl := by rw [g191]; exact A_xa.lt
  have ne194 : xa ≠ cl := Nat.ne_of_lt lne194
  have lne195 : xb < cl := by rw [g191]; exact A_xb.lt
  have ne195 : xb ≠ cl := Nat.ne_of_lt lne195
  have lne196 : xc < cl := by rw [g191]; exact A_xc.lt
  have ne196 : xc ≠ cl := Nat.ne_of_lt lne196
  have lne197 : xd < cl := by rw [g191]; exact A_xd.lt
  have ne197 : xd ≠ cl := Nat.ne_of_lt lne197
  have lne198 : pe < cl := by rw [g191]; exact Eqp63.lt
  have ne198 : pe ≠ cl := Nat.ne_of_lt lne198
  have lne199 : xn < cl := by rw [g191]; exact Axp63.lt
  have ne199 : xn ≠ cl := Nat.ne_of_lt lne199
  have lne200 : pb < cl := by rw [g191]; exact Eqp74.lt
  have ne200 : pb ≠ cl := Nat.ne_of_lt lne200
  have lne201 : xm < cl := by rw [g191]; exact Axp74.lt
  have ne201 : xm ≠ cl := Nat.ne_of_lt lne201
  have g202 : n0 ≤ cl := by rw [g191]; exact Z189
  replace E_o := E_o.ext E191
  replace A_ar := A_ar.ext E191
  replace U_o := U_o.ext E191
  replace A_xa := A_xa.ext E191
  replace F_o_addedFrom := F_o_addedFrom.ext E191
  replace A_xb := A_xb.ext E191
  replace F_o_addedTo := F_o_addedTo.ext E191
  replace A_xc := A_xc.ext E191
  replace F_o_earlierOut := F_o_earlierOut.ext E191
  replace A_xd := A_xd.ext E191
  replace F_o_earlierIn := F_o_earlierIn.ext E191
  replace Eqp63 := Eqp63.ext E191
  replace Fcp63 := Fcp63.ext E191
  replace Fnp63 := Fnp63.ext E191
  replace Axp63 := Axp63.ext E191
  replace F_o_pending := F_o_pending.ext E191
  replace Eqp74 := Eqp74.ext E191
  replace Fcp74 := Fcp74.ext E191
  replace Fnp74 := Fnp74.ext E191
  replace Axp74 := Axp74.ext E191
  replace F_o_pendingBack := F_o_pendingBack.ext E191
  have Z203 : n0 ≤ h191.size := Nat.le_trans Z189 E191.1
  replace X191 : Stand p l e ({ frames := 3, cells := 31, slots := 263, locals := 80 } : Room) s m _ below meth c T191 _ 21 224 := X191
  have E_cl : Exa Z h191 cl "com/example/isolens/isolens/checker/DynamicOrder$Found" := A191
  have F_nodes_cl : Fld Z h191 cl "com/example/isolens/isolens/checker/DynamicOrder$Found" "nodes" "[I" .null := D191 (Or.inl (hw _ (List.mem_of_getElem? (i := 27) rfl))) (ty := (.array .int)) (by decide)
  have F_count_cl : Fld Z h191 cl "com/example/isolens/isolens/checker/DynamicOrder$Found" "count" "I" (.int (0 : Int32)) := D191 (Or.inl (hw _ (List.mem_of_getElem? (i := 149) rfl))) (ty := .int) (by decide)
  refine g_dup X191 hx hby d1_138 (pc' := 139) rfl rfl ?_
  refine g_specialR X191 hx hby hZ hown rfl hml rfl (hw _ (List.mem_of_getElem? (i := 22) rfl)) (hw _ (List.mem_of_getElem? (i := 23) rfl)) (hw _ (List.mem_of_getElem? (i := 21) rfl)) rfl (hw _ (List.mem_of_getElem? (i := 24) rfl)) (by decide) e191 (rm_fi l Z a0 hw cl n0 h191 Z203 g202 E_cl F_count_cl F_nodes_cl) pd___V_167 (a := cl) (argsL := []) (rest := [(.ref cl), (.ref o)]) rfl rfl rfl d1_139 (pc' := 142) rfl (by decide) (Nat.le_of_ble_eq_true rfl) (by decide) (by decide) ?_
  intro Tp139 vp139 Lp139 Xp139 qp139
  obtain ⟨rfl, Nqp139, xp139, hxp139, Eqp139, Fcp139, Fnp139, Axp139, Kqp139⟩ := qp139
  replace Xp139 : Stand p l e ({ frames := 3, cells := 31, slots := 263, locals := 80 } : Room) s m _ below meth c Tp139 _ 22 240 := Xp139
  replace E_o := E_o.keep Kqp139
  replace A_ar := A_ar.keep Kqp139 (ninS ne193 nin0)
  replace U_o := U_o.keep Kqp139 (ninS ne192 nin0)
  replace A_xa := A_xa.keep Kqp139 (ninS ne194 nin0)
  replace F_o_addedFrom := F_o_addedFrom.keep Kqp139 (ninS ne192 nin0)
  replace A_xb := A_xb.keep Kqp139 (ninS ne195 nin0)
  replace F_o_addedTo := F_o_addedTo.keep Kqp139 (ninS ne192 nin0)
  replace A_xc := A_xc.keep Kqp139 (ninS ne196 nin0)
  replace F_o_earlierOut := F_o_earlierOut.keep Kqp139 (ninS ne192 nin0)
  replace A_xd := A_xd.keep Kqp139 (ninS ne197 nin0)
  replace F_o_earlierIn := F_o_earlierIn.keep Kqp139 (ninS ne192 nin0)
  replace Eqp63 := Eqp63.keep Kqp139
  replace Fcp63 := Fcp63.keep Kqp139 (ninS ne198 nin0)
  replace Fnp63 := Fnp63.keep Kqp139 (ninS ne198 nin0)
  replace Axp63 := Axp63.keep Kqp139 (ninS ne199 nin0)
  replace F_o_pending := F_o_pending.keep Kqp139 (ninS ne192 nin0)
  replace Eqp74 := Eqp74.keep Kqp139
  replace Fcp74 := Fcp74.keep Kqp139 (ninS ne200 nin0)
  replace Fnp74 := Fnp74.keep Kqp139 (ninS ne200 nin0)
  replace Axp74 := Axp74.keep Kqp139 (ninS ne201 nin0)
  replace F_o_pendingBack := F_o_pendingBack.keep Kqp139 (ninS ne192 nin0)
  replace E_cl := E_cl.keep Kqp139
  have Z204 : n0 ≤ Tp139.heap.size := Nat.le_trans Z203 Kqp139.1
  have Np139 := Fr.app N190 Nqp139
  show Go p e below EF (QDn Z n0 o 0 0 (fun _ => (0 : Int32))) m Tp139 142 #[.val (.ref o), .val (.ref sa), .val (.ref sb), .val (.int (0 : Int32)), .val (.ref ar), .unset, .unset] [(.ref cl), (.ref o)]
  have F_o_closing : Fld Z Tp139.heap o "com/example/isolens/isolens/checker/DynamicOrder" "closing" "Lcom/example/isolens/isolens/checker/DynamicOrder$Found;" .null := U_o.get (Or.inr (hw _ (List.mem_of_getElem? (i := 71) rfl))) (by decide) (ty := (.object "com/example/isolens/isolens/checker/DynamicOrder$Found")) (by decide)
  refine g_putF Xp139 hx hby hZ hown rfl (hw _ (List.mem_of_getElem? (i := 70) rfl)) F_o_closing E_o (Or.inr ⟨(hw _ (List.mem_of_getElem? (i := 71) rfl)), rfl, hnm⟩) (hw _ (List.mem_of_getElem? (i := 2) rfl)) (ty := (.object "com/example/isolens/isolens/checker/DynamicOrder$Found")) (by decide) rfl rfl d1_142 (pc' := 145) rfl (fun T205 h205 X205 e205 W205 => ?_)
  replace E_o := E_o.wr W205
  replace A_ar := A_ar.other W205 (Ne.symm hne)
  replace U_o := U_o.put (Or.inr (hw _ (List.mem_of_getElem? (i := 71) rfl))) (ty' := (.object "com/example/isolens/isolens/checker/DynamicOrder$Found")) (by decide) W205
  replace A_xa := A_xa.other W205 (Ne.symm ne2)
  replace F_o_addedFrom := F_o_addedFrom.other W205 (Or.inr (sn_65 hw))
  replace A_xb := A_xb.other W205 (Ne.symm ne10)
  replace F_o_addedTo := F_o_addedTo.other W205 (Or.inr (sn_66 hw))
  replace A_xc := A_xc.other W205 (Ne.symm ne19)
  replace F_o_earlierOut := F_o_earlierOut.other W205 (Or.inr (sn_67 hw))
  replace A_xd := A_xd.other W205 (Ne.symm ne29)
  replace F_o_earlierIn := F_o_earlierIn.other W205 (Or.inr (sn_68 hw))
  replace Eqp63 := Eqp63.wr W205
  replace Fcp63 := Fcp63.other W205 (Or.inl (Ne.symm ne66))
  replace Fnp63 := Fnp63.other W205 (Or.inl (Ne.symm ne66))
  replace Axp63 := Axp63.other W205 (Ne.symm no_xn)
  replace F_o_pending := F_o_pending.other W205 (Or.inr (sn_69 hw))
  replace Eqp74 := Eqp74.wr W205
  replace Fcp74 := Fcp74.other W205 (Or.inl (Ne.symm ne79))
  replace Fnp74 := Fnp74.other W205 (Or.inl (Ne.symm ne79))
  replace Axp74 := Axp74.other W205 (Ne.symm no_xm)
  replace F_o_pendingBack := F_o_pendingBack.other W205 (Or.inr (sn_70 hw))
  replace E_cl := E_cl.wr W205
  replace F_o_closing := F_o_closing.same W205
  have Z206 : n0 ≤ h205.size := by rw [W205.size]; exact Z204
  have N207 := Fr.snoc X205 Np139 g_o
  refine g_aload X205 hx hby d1_145 (pc' := 147) rfl rfl rfl ?_
  refine a_arraylength X205 hx hby hZ e205 A_ar (N := (3 : Int32)) rfl d1_147 (pc' := 148) rfl ?_
  refine g_istore X205 hx hby d1_148 (pc' := 150) rfl (Ls' := #[.val (.ref o), .val (.ref sa), .val (.ref sb), .val (.int (0 : Int32)), .val (.ref ar), .val (.int (3 : Int32)), .unset]) rfl ?_
  refine g_aloadN X205 hx hby d1_150 (pc' := 151) rfl rfl rfl ?_
  refine g_iload X205 hx hby d1_151 (pc' := 153) rfl rfl ?_
  refine g_iconst X205 hx hby d1_153 (pc' := 154) rfl (n := (1 : Int32)) (by first | rfl | decide) ?_
  refine g_iadd X205 hx hby d1_154 (pc' := 155) rfl ?_
  show Go p e below EF (QDn Z n0 o 0 0 (fun _ => (0 : Int32))) m T205 155 #[.val (.ref o), .val (.ref sa), .val (.ref sb), .val (.int (0 : Int32)), .val (.ref ar), .val (.int (3 : Int32)), .unset] [(.int (4 : Int32)), (.ref o)]
  refine g_newA X205 hx hby hZ e205 (N := 4) (hw _ (List.mem_of_getElem? (i := 4) rfl)) d1_155 (pc' := 157) rfl rfl (cap := 4) (Nat.le_refl _) (by decide) (by decide) (by decide) (fun T208 h208 fo g208 X208 e208 E208 A_fo => ?_)
  have lne209 : o < fo := by rw [g208]; exact E_o.lt
  have ne209 : o ≠ fo := Nat.ne_of_lt lne209
  have lne210 : ar < fo := by rw [g208]; exact A_ar.lt
  have ne210 : ar ≠ fo := Nat.ne_of_lt lne210
  have lne211 : xa < fo := by rw [g208]; exact A_xa.lt
  have ne211 : xa ≠ fo := Nat.ne_of_lt lne211
  have lne212 : xb < fo := by rw [g208]; exact A_xb.lt
  have ne212 : xb ≠ fo := Nat.ne_of_lt lne212
  have lne213 : xc < fo := by rw [g208]; exact A_xc.lt
  have ne213 : xc ≠ fo := Nat.ne_of_lt lne213
  have lne214 : xd < fo := by rw [g208]; exact A_xd.lt
  have ne214 : xd ≠ fo := Nat.ne_of_lt lne214
  have lne215 : pe < fo := by rw [g208]; exact Eqp63.lt
  have ne215 : pe ≠ fo := Nat.ne_of_lt lne215
  have lne216 : xn < fo := by rw [g208]; exact Axp63.lt
  have ne216 : xn ≠ fo := Nat.ne_of_lt lne216
  have lne217 : pb < fo := by rw [g208]; exact Eqp74.lt
  have ne217 : pb ≠ fo := Nat.ne_of_lt lne217
  have lne218 : xm < fo := by rw [g208]; exact Axp74.lt
  have ne218 : xm ≠ fo := Nat.ne_of_lt lne218
  have g219 : n0 ≤ fo := by rw [g208]; exact Z206
  replace E_o := E_o.ext E208
  replace A_ar := A_ar.ext E208
  replace U_o := U_o.ext E208
  replace A_xa := A_xa.ext E208
  replace F_o_addedFrom := F_o_addedFrom.ext E208
  replace A_xb := A_xb.ext E208
  replace F_o_addedTo := F_o_addedTo.ext E208
  replace A_xc := A_xc.ext E208
  replace F_o_earlierOut := F_o_earlierOut.ext E208
  replace A_xd := A_xd.ext E208
  replace F_o_earlierIn := F_o_earlierIn.ext E208
  replace Eqp63 := Eqp63.ext E208
  replace Fcp63 := Fcp63.ext E208
  replace Fnp63 := Fnp63.ext E208
  replace Axp63 := Axp63.ext E208
  replace F_o_pending := F_o_pending.ext E208
  replace Eqp74 := Eqp74.ext E208
  replace Fcp74 := Fcp74.ext E208
  replace Fnp74 := Fnp74.ext E208
  replace Axp74 := Axp74.ext E208
  replace F_o_pendingBack := F_o_pendingBack.ext E208
  have Z220 : n0 ≤ h208.size := Nat.le_trans Z206 E208.1
  replace X208 : Stand p l e ({ frames := 3, cells := 31, slots := 263, locals := 80 } : Room) s m _ below meth c T208 _ 23 244 := X208
  replace A_fo : Ara Z h208 fo .int 4 (fun jz => .int ((fun _ => (0 : Int32)) jz)) := A_fo
  have F_o_firstOut : Fld Z h208 o "com/example/isolens/isolens/checker/DynamicOrder" "firstOut" "[I" .null := U_o.get (Or.inr (hw _ (List.mem_of_getElem? (i := 73) rfl))) (by decide) (ty := (.array .int)) (by decide)
  refine g_putF X208 hx hby hZ hown e208 (hw _ (List.mem_of_getElem? (i := 72) rfl)) F_o_firstOut E_o (Or.inr ⟨(hw _ (List.mem_of_getElem? (i := 73) rfl)), rfl, hnm⟩) (hw _ (List.mem_of_getElem? (i := 2) rfl)) (ty := (.array .int)) (by decide) rfl rfl d1_157 (pc' := 160) rfl (fun T221 h221 X221 e221 W221 => ?_)
  replace E_o := E_o.wr W221
  replace A_ar := A_ar.other W221 (Ne.symm hne)
  replace U_o := U_o.put (Or.inr (hw _ (List.mem_of_getElem? (i := 73) rfl))) (ty' := (.array .int)) (by decide) W221
  replace A_xa := A_xa.other W221 (Ne.symm ne2)
  replace F_o_addedFrom := F_o_addedFrom.other W221 (Or.inr (sn_71 hw))
  replace A_xb := A_xb.other W221 (Ne.symm ne10)
  replace F_o_addedTo := F_o_addedTo.other W221 (Or.inr (sn_72 hw))
  replace A_xc := A_xc.other W221 (Ne.symm ne19)
  replace F_o_earlierOut := F_o_earlierOut.other W221 (Or.inr (sn_73 hw))
  replace A_xd := A_xd.other W221 (Ne.symm ne29)
  replace F_o_earlierIn := F_o_earlierIn.other W221 (Or.inr (sn_74 hw))
  replace Eqp63 := Eqp63.wr W221
  replace Fcp63 := Fcp63.other W221 (Or.inl (Ne.symm ne66))
  replace Fnp63 := Fnp63.other W221 (Or.inl (Ne.symm ne66))
  replace Axp63 := Axp63.other W221 (Ne.symm no_xn)
  replace F_o_pending := F_o_pending.other W221 (Or.inr (sn_75 hw))
  replace Eqp74 := Eqp74.wr W221
  replace Fcp74 := Fcp74.other W221 (Or.inl (Ne.symm ne79))
  replace Fnp74 := Fnp74.other W221 (Or.inl (Ne.symm ne79))
  replace Axp74 := Axp74.other W221 (Ne.symm no_xm)
  replace F_o_pendingBack := F_o_pendingBack.other W221 (Or.inr (sn_76 hw))
  replace A_fo := A_fo.other W221 (Ne.symm ne209)
  replace F_o_firstOut := F_o_firstOut.same W221
  have Z222 : n0 ≤ h221.size := by rw [W221.size]; exact Z220
  have N223 := Fr.snoc X221 N207 g_o
  refine g_aloadN X221 hx hby d1_160 (pc' := 161) rfl rfl rfl ?_
  refine g_aloadN X221 hx hby d1_161 (pc' := 162) rfl rfl rfl ?_
  refine g_aloadN X221 hx hby d1_162 (pc' := 163) rfl rfl rfl ?_
  refine g_iloadN X221 hx hby d1_163 (pc' := 164) rfl rfl ?_
  refine g_aloadN X221 hx hby d1_164 (pc' := 165) rfl rfl rfl ?_
  refine g_getF X221 hx hby hZ hown e221 (hw _ (List.mem_of_getElem? (i := 72) rfl)) F_o_firstOut d1_165 (pc' := 168) rfl (fun T224 X224 e224 => ?_)
  refine g_static X224 hx hby hZ hown hml rfl (hw _ (List.mem_of_getElem? (i := 74) rfl)) (hw _ (List.mem_of_getElem? (i := 75) rfl)) (hw _ (List.mem_of_getElem? (i := 76) rfl)) (hw _ (List.mem_of_getElem? (i := 77) rfl)) (by decide) e224 (rm_oe l Z a0 hw sa sb fo n0 h221 Z222 g219 A_fo) pd___I_II_I__I_810 (argsL := [(.ref sa), (.ref sb), (.int (0 : Int32)), (.ref fo)]) (rest := [(.ref o)]) rfl rfl rfl d1_168 (pc' := 171) rfl (by decide) (Nat.le_of_ble_eq_true rfl) (by decide) (by decide) ?_
  intro Tp168 vp168 Lp168 Xp168 qp168
  obtain ⟨bp168, rfl, Nqp168, Aqp168, Kqp168⟩ := qp168
  replace Xp168 : Stand p l e ({ frames := 3, cells := 31, slots := 263, locals := 80 } : Room) s m _ below meth c Tp168 _ 24 244 := Xp168
  replace E_o := E_o.keep Kqp168
  replace A_ar := A_ar.keep Kqp168 (ninS ne210 nin0)
  replace U_o := U_o.keep Kqp168 (ninS ne209 nin0)
  replace A_xa := A_xa.keep Kqp168 (ninS ne211 nin0)
  replace F_o_addedFrom := F_o_addedFrom.keep Kqp168 (ninS ne209 nin0)
  replace A_xb := A_xb.keep Kqp168 (ninS ne212 nin0)
  replace F_o_addedTo := F_o_addedTo.keep Kqp168 (ninS ne209 nin0)
  replace A_xc := A_xc.keep Kqp168 (ninS ne213 nin0)
  replace F_o_earlierOut := F_o_earlierOut.keep Kqp168 (ninS ne209 nin0)
  replace A_xd := A_xd.keep Kqp168 (ninS ne214 nin0)
  replace F_o_earlierIn := F_o_earlierIn.keep Kqp168 (ninS ne209 nin0)
  replace Eqp63 := Eqp63.keep Kqp168
  replace Fcp63 := Fcp63.keep Kqp168 (ninS ne215 nin0)
  replace Fnp63 := Fnp63.keep Kqp168 (ninS ne215 nin0)
  replace Axp63 := Axp63.keep Kqp168 (ninS ne216 nin0)
  replace F_o_pending := F_o_pending.keep Kqp168 (ninS ne209 nin0)
  replace Eqp74 := Eqp74.keep Kqp168
  replace Fcp74 := Fcp74.keep Kqp168 (ninS ne217 nin0)
  replace Fnp74 := Fnp74.keep Kqp168 (ninS ne217 nin0)
  replace Axp74 := Axp74.keep Kqp168 (ninS ne218 nin0)
  replace F_o_pendingBack := F_o_pendingBack.keep Kqp168 (ninS ne209 nin0)
  replace F_o_firstOut := F_o_firstOut.keep Kqp168 (ninS ne209 nin0)
  have Z225 : n0 ≤ Tp168.heap.size := Nat.le_trans Z222 Kqp168.1
  have Np168 := Fr.app N223 Nqp168
  show Go p e below EF (QDn Z n0 o 0 0 (fun _ => (0 : Int32))) m Tp168 171 #[.val (.ref o), .val (.ref sa), .val (.ref sb), .val (.int (0 : Int32)), .val (.ref ar), .val (.int (3 : Int32)), .unset] [(.ref bp168), (.ref o)]
  have F_o_out : Fld Z Tp168.heap o "com/example/isolens/isolens/checker/DynamicOrder" "out" "[I" .null := U_o.get (Or.inr (hw _ (List.mem_of_getElem? (i := 86) rfl))) (by decide) (ty := (.array .int)) (by decide)
  refine g_putF Xp168 hx hby hZ hown rfl (hw _ (List.mem_of_getElem? (i := 85) rfl)) F_o_out E_o (Or.inr ⟨(hw _ (List.mem_of_getElem? (i := 86) rfl)), rfl, hnm⟩) (hw _ (List.mem_of_getElem? (i := 2) rfl)) (ty := (.array .int)) (by decide) rfl rfl d1_171 (pc' := 174) rfl (fun T226 h226 X226 e226 W226 => ?_)
  replace E_o := E_o.wr W226
  replace A_ar := A_ar.other W226 (Ne.symm hne)
  replace U_o := U_o.put (Or.inr (hw _ (List.mem_of_getElem? (i := 86) rfl))) (ty' := (.array .int)) (by decide) W226
  replace A_xa := A_xa.other W226 (Ne.symm ne2)
  replace F_o_addedFrom := F_o_addedFrom.other W226 (Or.inr (sn_77 hw))
  replace A_xb := A_xb.other W226 (Ne.symm ne10)
  replace F_o_addedTo := F_o_addedTo.other W226 (Or.inr (sn_78 hw))
  replace A_xc := A_xc.other W226 (Ne.symm ne19)
  replace F_o_earlierOut := F_o_earlierOut.other W226 (Or.inr (sn_79 hw))
  replace A_xd := A_xd.other W226 (Ne.symm ne29)
  replace F_o_earlierIn := F_o_earlierIn.other W226 (Or.inr (sn_80 hw))
  replace Eqp63 := Eqp63.wr W226
  replace Fcp63 := Fcp63.other W226 (Or.inl (Ne.symm ne66))
  replace Fnp63 := Fnp63.other W226 (Or.inl (Ne.symm ne66))
  replace Axp63 := Axp63.other W226 (Ne.symm no_xn)
  replace F_o_pending := F_o_pending.other W226 (Or.inr (sn_81 hw))
  replace Eqp74 := Eqp74.wr W226
  replace Fcp74 := Fcp74.other W226 (Or.inl (Ne.symm ne79))
  replace Fnp74 := Fnp74.other W226 (Or.inl (Ne.symm ne79))
  replace Axp74 := Axp74.other W226 (Ne.symm no_xm)
  replace F_o_pendingBack := F_o_pendingBack.other W226 (Or.inr (sn_82 hw))
  replace F_o_firstOut := F_o_firstOut.other W226 (Or.inr (sn_83 hw))
  replace Aqp168 := Aqp168.other W226 (Ne.symm ne209)
  replace F_o_out := F_o_out.same W226
  have Z227 : n0 ≤ h226.size := by rw [W226.size]; exact Z225
  have N228 := Fr.snoc X226 Np168 g_o
  refine g_aloadN X226 hx hby d1_174 (pc' := 175) rfl rfl rfl ?_
  refine g_iload X226 hx hby d1_175 (pc' := 177) rfl rfl ?_
  refine g_iconst X226 hx hby d1_177 (pc' := 178) rfl (n := (1 : Int32)) (by first | rfl | decide) ?_
  refine g_iadd X226 hx hby d1_178 (pc' := 179) rfl ?_
  show Go p e below EF (QDn Z n0 o 0 0 (fun _ => (0 : Int32))) m T226 179 #[.val (.ref o), .val (.ref sa), .val (.ref sb), .val (.int (0 : Int32)), .val (.ref ar), .val (.int (3 : Int32)), .unset] [(.int (4 : Int32)), (.ref o)]
  refine g_newA X226 hx hby hZ e226 (N := 4) (hw _ (List.mem_of_getElem? (i := 4) rfl)) d1_179 (pc' := 181) rfl rfl (cap := 4) (Nat.le_refl _) (by decide) (by decide) (by decide) (fun T229 h229 fi g229 X229 e229 E229 A_fi => ?_)
  have lne230 : o < fi := by rw [g229]; exact E_o.lt
  have ne230 : o ≠ fi := Nat.ne_of_lt lne230
  have lne231 : ar < fi := by rw [g229]; exact A_ar.lt
  have ne231 : ar ≠ fi := Nat.ne_of_lt lne231
  have lne232 : xa < fi := by rw [g229]; exact A_xa.lt
  have ne232 : xa ≠ fi := Nat.ne_of_lt lne232
  have lne233 : xb < fi := by rw [g229]; exact A_xb.lt
  have ne233 : xb ≠ fi := Nat.ne_of_lt lne233
  have lne234 : xc < fi := by rw [g229]; exact A_xc.lt
  have ne234 : xc ≠ fi := Nat.ne_of_lt lne234
  have lne235 : xd < fi := by rw [g229]; exact A_xd.lt
  have ne235 : xd ≠ fi := Nat.ne_of_lt lne235
  have lne236 : pe < fi := by rw [g229]; exact Eqp63.lt
  have ne236 : pe ≠ fi := Nat.ne_of_lt lne236
  have lne237 : xn < fi := by rw [g229]; exact Axp63.lt
  have ne237 : xn ≠ fi := Nat.ne_of_lt lne237
  have lne238 : pb < fi := by rw [g229]; exact Eqp74.lt
  have ne238 : pb ≠ fi := Nat.ne_of_lt lne238
  have lne239 : xm < fi := by rw [g229]; exact Axp74.lt
  have ne239 : xm ≠ fi := Nat.ne_of_lt lne239
  have lne240 : fo < fi := by rw [g229]; exact Aqp168.lt
  have ne240 : fo ≠ fi := Nat.ne_of_lt lne240
  have g241 : n0 ≤ fi := by rw [g229]; exact Z227
  replace E_o := E_o.ext E229
  replace A_ar := A_ar.ext E229
  replace U_o := U_o.ext E229
  replace A_xa := A_xa.ext E229
  replace F_o_addedFrom := F_o_addedFrom.ext E229
  replace A_xb := A_xb.ext E229
  replace F_o_addedTo := F_o_addedTo.ext E229
  replace A_xc := A_xc.ext E229
  replace F_o_earlierOut := F_o_earlierOut.ext E229
  replace A_xd := A_xd.ext E229
  replace F_o_earlierIn := F_o_earlierIn.ext E229
  replace Eqp63 := Eqp63.ext E229
  replace Fcp63 := Fcp63.ext E229
  replace Fnp63 := Fnp63.ext E229
  replace Axp63 := Axp63.ext E229
  replace F_o_pending := F_o_pending.ext E229
  replace Eqp74 := Eqp74.ext E229
  replace Fcp74 := Fcp74.ext E229
  replace Fnp74 := Fnp74.ext E229
  replace Axp74 := Axp74.ext E229
  replace F_o_pendingBack := F_o_pendingBack.ext E229
  replace F_o_firstOut := F_o_firstOut.ext E229
  replace Aqp168 := Aqp168.ext E229
  have Z242 : n0 ≤ h229.size := Nat.le_trans Z227 E229.1
  replace X229 : Stand p l e ({ frames := 3, cells := 31, slots := 263, locals := 80 } : Room) s m _ below meth c T229 _ 25 248 := X229
  replace A_fi : Ara Z h229 fi .int 4 (fun jz => .int ((fun _ => (0 : Int32)) jz)) := A_fi
  have F_o_firstIn : Fld Z h229 o "com/example/isolens/isolens/checker/DynamicOrder" "firstIn" "[I" .null := U_o.get (Or.inr (hw _ (List.mem_of_getElem? (i := 88) rfl))) (by decide) (ty := (.array .int)) (by decide)
  refine g_putF X229 hx hby hZ hown e229 (hw _ (List.mem_of_getElem? (i := 87) rfl)) F_o_firstIn E_o (Or.inr ⟨(hw _ (List.mem_of_getElem? (i := 88) rfl)), rfl, hnm⟩) (hw _ (List.mem_of_getElem? (i := 2) rfl)) (ty := (.array .int)) (by decide) rfl rfl d1_181 (pc' := 184) rfl (fun T243 h243 X243 e243 W243 => ?_)
  replace E_o := E_o.wr W243
  replace A_ar := A_ar.other W243 (Ne.symm hne)
  replace U_o := U_o.put (Or.inr (hw _ (List.mem_of_getElem? (i := 88) rfl))) (ty' := (.array .int)) (by decide) W243
  replace A_xa := A_xa.other W243 (Ne.symm ne2)
  replace F_o_addedFrom := F_o_addedFrom.other W243 (Or.inr (sn_84 hw))
  replace A_xb := A_xb.other W243 (Ne.symm ne10)
  replace F_o_addedTo := F_o_addedTo.other W243 (Or.inr (sn_85 hw))
  replace A_xc := A_xc.other W243 (Ne.symm ne19)
  replace F_o_earlierOut := F_o_earlierOut.other W243 (Or.inr (sn_86 hw))
  replace A_xd := A_xd.other W243 (Ne.symm ne29)
  replace F_o_earlierIn := F_o_earlierIn.other W243 (Or.inr (sn_87 hw))
  replace Eqp63 := Eqp63.wr W243
  replace Fcp63 := Fcp63.other W243 (Or.inl (Ne.symm ne66))
  replace Fnp63 := Fnp63.other W243 (Or.inl (Ne.symm ne66))
  replace Axp63 := Axp63.other W243 (Ne.symm no_xn)
  replace F_o_pending := F_o_pending.other W243 (Or.inr (sn_88 hw))
  replace Eqp74 := Eqp74.wr W243
  replace Fcp74 := Fcp74.other W243 (Or.inl (Ne.symm ne79))
  replace Fnp74 := Fnp74.other W243 (Or.inl (Ne.symm ne79))
  replace Axp74 := Axp74.other W243 (Ne.symm no_xm)
  replace F_o_pendingBack := F_o_pendingBack.other W243 (Or.inr (sn_89 hw))
  replace F_o_firstOut := F_o_firstOut.other W243 (Or.inr (sn_90 hw))
  replace Aqp168 := Aqp168.other W243 (Ne.symm ne209)
  replace A_fi := A_fi.other W243 (Ne.symm ne230)
  replace F_o_firstIn := F_o_firstIn.same W243
  have Z244 : n0 ≤ h243.size := by rw [W243.size]; exact Z242
  have N245 := Fr.snoc X243 N228 g_o
  refine g_aloadN X243 hx hby d1_184 (pc' := 185) rfl rfl rfl ?_
  refine g_aloadN X243 hx hby d1_185 (pc' := 186) rfl rfl rfl ?_
  refine g_aloadN X243 hx hby d1_186 (pc' := 187) rfl rfl rfl ?_
  refine g_iloadN X243 hx hby d1_187 (pc' := 188) rfl rfl ?_
  refine g_aloadN X243 hx hby d1_188 (pc' := 189) rfl rfl rfl ?_
  refine g_getF X243 hx hby hZ hown e243 (hw _ (List.mem_of_getElem? (i := 87) rfl)) F_o_firstIn d1_189 (pc' := 192) rfl (fun T246 X246 e246 => ?_)
  refine g_static X246 hx hby hZ hown hml rfl (hw _ (List.mem_of_getElem? (i := 74) rfl)) (hw _ (List.mem_of_getElem? (i := 75) rfl)) (hw _ (List.mem_of_getElem? (i := 76) rfl)) (hw _ (List.mem_of_getElem? (i := 77) rfl)) (by decide) e246 (rm_oe l Z a0 hw sb sa fi n0 h243 Z244 g241 A_fi) pd___I_II_I__I_810 (argsL := [(.ref sb), (.ref sa), (.int (0 : Int32)), (.ref fi)]) (rest := [(.ref o)]) rfl rfl rfl d1_192 (pc' := 195) rfl (by decide) (Nat.le_of_ble_eq_true rfl) (by decide) (by decide) ?_
  intro Tp192 vp192 Lp192 Xp192 qp192
  obtain ⟨bp192, rfl, Nqp192, Aqp192, Kqp192⟩ := qp192
  replace Xp192 : Stand p l e ({ frames := 3, cells := 31, slots := 263, locals := 80 } : Room) s m _ below meth c Tp192 _ 26 248 := Xp192
  replace E_o := E_o.keep Kqp192
  replace A_ar := A_ar.keep Kqp192 (ninS ne231 nin0)
  replace U_o := U_o.keep Kqp192 (ninS ne230 nin0)
  replace A_xa := A_xa.keep Kqp192 (ninS ne232 nin0)
  replace F_o_addedFrom := F_o_addedFrom.keep Kqp192 (ninS ne230 nin0)
  replace A_xb := A_xb.keep Kqp192 (ninS ne233 nin0)
  replace F_o_addedTo := F_o_addedTo.keep Kqp192 (ninS ne230 nin0)
  replace A_xc := A_xc.keep Kqp192 (ninS ne234 nin0)
  replace F_o_earlierOut := F_o_earlierOut.keep Kqp192 (ninS ne230 nin0)
  replace A_xd := A_xd.keep Kqp192 (ninS ne235 nin0)
  replace F_o_earlierIn := F_o_earlierIn.keep Kqp192 (ninS ne230 nin0)
  replace Eqp63 := Eqp63.keep Kqp192
  replace Fcp63 := Fcp63.keep Kqp192 (ninS ne236 nin0)
  replace Fnp63 := Fnp63.keep Kqp192 (ninS ne236 nin0)
  replace Axp63 := Axp63.keep Kqp192 (ninS ne237 nin0)
  replace F_o_pending := F_o_pending.keep Kqp192 (ninS ne230 nin0)
  replace Eqp74 := Eqp74.keep Kqp192
  replace Fcp74 := Fcp74.keep Kqp192 (ninS ne238 nin0)
  replace Fnp74 := Fnp74.keep Kqp192 (ninS ne238 nin0)
  replace Axp74 := Axp74.keep Kqp192 (ninS ne239 nin0)
  replace F_o_pendingBack := F_o_pendingBack.keep Kqp192 (ninS ne230 nin0)
  replace F_o_firstOut := F_o_firstOut.keep Kqp192 (ninS ne230 nin0)
  replace Aqp168 := Aqp168.keep Kqp192 (ninS ne240 nin0)
  replace F_o_firstIn := F_o_firstIn.keep Kqp192 (ninS ne230 nin0)
  have Z247 : n0 ≤ Tp192.heap.size := Nat.le_trans Z244 Kqp192.1
  have Np192 := Fr.app N245 Nqp192
  show Go p e below EF (QDn Z n0 o 0 0 (fun _ => (0 : Int32))) m Tp192 195 #[.val (.ref o), .val (.ref sa), .val (.ref sb), .val (.int (0 : Int32)), .val (.ref ar), .val (.int (3 : Int32)), .unset] [(.ref bp192), (.ref o)]
  have F_o_in : Fld Z Tp192.heap o "com/example/isolens/isolens/checker/DynamicOrder" "in" "[I" .null := U_o.get (Or.inr (hw _ (List.mem_of_getElem? (i := 90) rfl))) (by decide) (ty := (.array .int)) (by decide)
  refine g_putF Xp192 hx hby hZ hown rfl (hw _ (List.mem_of_getElem? (i := 89) rfl)) F_o_in E_o (Or.inr ⟨(hw _ (List.mem_of_getElem? (i := 90) rfl)), rfl, hnm⟩) (hw _ (List.mem_of_getElem? (i := 2) rfl)) (ty := (.array .int)) (by decide) rfl rfl d1_195 (pc' := 198) rfl (fun T248 h248 X248 e248 W248 => ?_)
  replace E_o := E_o.wr W248
  replace A_ar := A_ar.other W248 (Ne.symm hne)
  replace U_o := U_o.put (Or.inr (hw _ (List.mem_of_getElem? (i := 90) rfl))) (ty' := (.array .int)) (by decide) W248
  replace A_xa := A_xa.other W248 (Ne.symm ne2)
  replace F_o_addedFrom := F_o_addedFrom.other W248 (Or.inr (sn_91 hw))
  replace A_xb := A_xb.other W248 (Ne.symm ne10)
  replace F_o_addedTo := F_o_addedTo.other W248 (Or.inr (sn_92 hw))
  replace A_xc := A_xc.other W248 (Ne.symm ne19)
  replace F_o_earlierOut := F_o_earlierOut.other W248 (Or.inr (sn_93 hw))
  replace A_xd := A_xd.other W248 (Ne.symm ne29)
  replace F_o_earlierIn := F_o_earlierIn.other W248 (Or.inr (sn_94 hw))
  replace Eqp63 := Eqp63.wr W248
  replace Fcp63 := Fcp63.other W248 (Or.inl (Ne.symm ne66))
  replace Fnp63 := Fnp63.other W248 (Or.inl (Ne.symm ne66))
  replace Axp63 := Axp63.other W248 (Ne.symm no_xn)
  replace F_o_pending := F_o_pending.other W248 (Or.inr (sn_95 hw))
  replace Eqp74 := Eqp74.wr W248
  replace Fcp74 := Fcp74.other W248 (Or.inl (Ne.symm ne79))
  replace Fnp74 := Fnp74.other W248 (Or.inl (Ne.symm ne79))
  replace Axp74 := Axp74.other W248 (Ne.symm no_xm)
  replace F_o_pendingBack := F_o_pendingBack.other W248 (Or.inr (sn_96 hw))
  replace F_o_firstOut := F_o_firstOut.other W248 (Or.inr (sn_97 hw))
  replace Aqp168 := Aqp168.other W248 (Ne.symm ne209)
  replace F_o_firstIn := F_o_firstIn.other W248 (Or.inr (sn_98 hw))
  replace Aqp192 := Aqp192.other W248 (Ne.symm ne230)
  replace F_o_in := F_o_in.same W248
  have Z249 : n0 ≤ h248.size := by rw [W248.size]; exact Z247
  have N250 := Fr.snoc X248 Np192 g_o
  refine g_aloadN X248 hx hby d1_198 (pc' := 199) rfl rfl rfl ?_
  refine g_iload X248 hx hby d1_199 (pc' := 201) rfl rfl ?_
  refine g_newA X248 hx hby hZ e248 (N := 3) (hw _ (List.mem_of_getElem? (i := 4) rfl)) d1_201 (pc' := 203) rfl rfl (cap := 3) (Nat.le_refl _) (by decide) (by decide) (by decide) (fun T251 h251 pl g251 X251 e251 E251 A_pl => ?_)
  have lne252 : o < pl := by rw [g251]; exact E_o.lt
  have ne252 : o ≠ pl := Nat.ne_of_lt lne252
  have lne253 : ar < pl := by rw [g251]; exact A_ar.lt
  have ne253 : ar ≠ pl := Nat.ne_of_lt lne253
  have lne254 : xa < pl := by rw [g251]; exact A_xa.lt
  have ne254 : xa ≠ pl := Nat.ne_of_lt lne254
  have lne255 : xb < pl := by rw [g251]; exact A_xb.lt
  have ne255 : xb ≠ pl := Nat.ne_of_lt lne255
  have lne256 : xc < pl := by rw [g251]; exact A_xc.lt
  have ne256 : xc ≠ pl := Nat.ne_of_lt lne256
  have lne257 : xd < pl := by rw [g251]; exact A_xd.lt
  have ne257 : xd ≠ pl := Nat.ne_of_lt lne257
  have lne258 : pe < pl := by rw [g251]; exact Eqp63.lt
  have ne258 : pe ≠ pl := Nat.ne_of_lt lne258
  have lne259 : xn < pl := by rw [g251]; exact Axp63.lt
  have ne259 : xn ≠ pl := Nat.ne_of_lt lne259
  have lne260 : pb < pl := by rw [g251]; exact Eqp74.lt
  have ne260 : pb ≠ pl := Nat.ne_of_lt lne260
  have lne261 : xm < pl := by rw [g251]; exact Axp74.lt
  have ne261 : xm ≠ pl := Nat.ne_of_lt lne261
  have lne262 : fo < pl := by rw [g251]; exact Aqp168.lt
  have ne262 : fo ≠ pl := Nat.ne_of_lt lne262
  have lne263 : fi < pl := by rw [g251]; exact Aqp192.lt
  have ne263 : fi ≠ pl := Nat.ne_of_lt lne263
  have g264 : n0 ≤ pl := by rw [g251]; exact Z249
  replace E_o := E_o.ext E251
  replace A_ar := A_ar.ext E251
  replace U_o := U_o.ext E251
  replace A_xa := A_xa.ext E251
  replace F_o_addedFrom := F_o_addedFrom.ext E251
  replace A_xb := A_xb.ext E251
  replace F_o_addedTo := F_o_addedTo.ext E251
  replace A_xc := A_xc.ext E251
  replace F_o_earlierOut := F_o_earlierOut.ext E251
  replace A_xd := A_xd.ext E251
  replace F_o_earlierIn := F_o_earlierIn.ext E251
  replace Eqp63 := Eqp63.ext E251
  replace Fcp63 := Fcp63.ext E251
  replace Fnp63 := Fnp63.ext E251
  replace Axp63 := Axp63.ext E251
  replace F_o_pending := F_o_pending.ext E251
  replace Eqp74 := Eqp74.ext E251
  replace Fcp74 := Fcp74.ext E251
  replace Fnp74 := Fnp74.ext E251
  replace Axp74 := Axp74.ext E251
  replace F_o_pendingBack := F_o_pendingBack.ext E251
  replace F_o_firstOut := F_o_firstOut.ext E251
  replace Aqp168 := Aqp168.ext E251
  replace F_o_firstIn := F_o_firstIn.ext E251
  replace Aqp192 := Aqp192.ext E251
  have Z265 : n0 ≤ h251.size := Nat.le_trans Z249 E251.1
  replace X251 : Stand p l e ({ frames := 3, cells := 31, slots := 263, locals := 80 } : Room) s m _ below meth c T251 _ 27 251 := X251
  replace A_pl : Ara Z h251 pl .int 3 (fun jz => .int ((fun _ => (0 : Int32)) jz)) := A_pl
  have F_o_place : Fld Z h251 o "com/example/isolens/isolens/checker/DynamicOrder" "place" "[I" .null := U_o.get (Or.inr (hw _ (List.mem_of_getElem? (i := 92) rfl))) (by decide) (ty := (.array .int)) (by decide)
  refine g_putF X251 hx hby hZ hown e251 (hw _ (List.mem_of_getElem? (i := 91) rfl)) F_o_place E_o (Or.inr ⟨(hw _ (List.mem_of_getElem? (i := 92) rfl)), rfl, hnm⟩) (hw _ (List.mem_of_getElem? (i := 2) rfl)) (ty := (.array .int)) (by decide) rfl rfl d1_203 (pc' := 206) rfl (fun T266 h266 X266 e266 W266 => ?_)
  replace E_o := E_o.wr W266
  replace A_ar := A_ar.other W266 (Ne.symm hne)
  replace U_o := U_o.put (Or.inr (hw _ (List.mem_of_getElem? (i := 92) rfl))) (ty' := (.array .int)) (by decide) W266
  replace A_xa := A_xa.other W266 (Ne.symm ne2)
  replace F_o_addedFrom := F_o_addedFrom.other W266 (Or.inr (sn_99 hw))
  replace A_xb := A_xb.other W266 (Ne.symm ne10)
  replace F_o_addedTo := F_o_addedTo.other W266 (Or.inr (sn_100 hw))
  replace A_xc := A_xc.other W266 (Ne.symm ne19)
  replace F_o_earlierOut := F_o_earlierOut.other W266 (Or.inr (sn_101 hw))
  replace A_xd := A_xd.other W266 (Ne.symm ne29)
  replace F_o_earlierIn := F_o_earlierIn.other W266 (Or.inr (sn_102 hw))
  replace Eqp63 := Eqp63.wr W266
  replace Fcp63 := Fcp63.other W266 (Or.inl (Ne.symm ne66))
  replace Fnp63 := Fnp63.other W266 (Or.inl (Ne.symm ne66))
  replace Axp63 := Axp63.other W266 (Ne.symm no_xn)
  replace F_o_pending := F_o_pending.other W266 (Or.inr (sn_103 hw))
  replace Eqp74 := Eqp74.wr W266
  replace Fcp74 := Fcp74.other W266 (Or.inl (Ne.symm ne79))
  replace Fnp74 := Fnp74.other W266 (Or.inl (Ne.symm ne79))
  replace Axp74 := Axp74.other W266 (Ne.symm no_xm)
  replace F_o_pendingBack := F_o_pendingBack.other W266 (Or.inr (sn_104 hw))
  replace F_o_firstOut := F_o_firstOut.other W266 (Or.inr (sn_105 hw))
  replace Aqp168 := Aqp168.other W266 (Ne.symm ne209)
  replace F_o_firstIn := F_o_firstIn.other W266 (Or.inr (sn_106 hw))
  replace Aqp192 := Aqp192.other W266 (Ne.symm ne230)
  replace A_pl := A_pl.other W266 (Ne.symm ne252)
  replace F_o_place := F_o_place.same W266
  have Z267 : n0 ≤ h266.size := by rw [W266.size]; exact Z265
  have N268 := Fr.snoc X266 N250 g_o
  refine g_iconst X266 hx hby d1_206 (pc' := 207) rfl (n := (0 : Int32)) (by first | rfl | decide) ?_
  refine g_istore X266 hx hby d1_207 (pc' := 209) rfl (Ls' := #[.val (.ref o), .val (.ref sa), .val (.ref sb), .val (.int (0 : Int32)), .val (.ref ar), .val (.int (3 : Int32)), .val (.int (0 : Int32))]) rfl ?_
  refine g_iload X266 hx hby d1_209 (pc' := 211) rfl rfl ?_
  refine g_iload X266 hx hby d1_211 (pc' := 213) rfl rfl ?_
  refine g_icmpge X266 hx hby d1_213 (pt := 234) (pf := 216) (by decide) (by decide) rfl (fun (h213 : 3 ≤ 0) => (by exfalso; revert h213; decide)) (fun (h213 : 0 < 3) => ?_)
  refine g_aloadN X266 hx hby d1_216 (pc' := 217) rfl rfl rfl ?_
  refine g_getF X266 hx hby hZ hown e266 (hw _ (List.mem_of_getElem? (i := 91) rfl)) F_o_place d1_217 (pc' := 220) rfl (fun T269 X269 e269 => ?_)
  refine g_aload X269 hx hby d1_220 (pc' := 222) rfl rfl rfl ?_
  refine g_iload X269 hx hby d1_222 (pc' := 224) rfl rfl ?_
  refine a_iaload X269 hx hby hZ e269 A_ar (by decide) (by decide) (v := (.int (0 : Int32))) (rfl) d1_224 (pc' := 225) rfl ?_
  refine g_iload X269 hx hby d1_225 (pc' := 227) rfl rfl ?_
  refine a_iastore X269 hx hby hZ e269 A_pl (by decide) (by decide) d1_227 (pc' := 228) rfl (fun T270 h270 X270 e270 W270 => ?_)
  replace E_o := E_o.wr W270
  replace A_ar := A_ar.other W270 ne253
  replace U_o := U_o.other W270 ne252
  replace A_xa := A_xa.other W270 ne254
  replace F_o_addedFrom := F_o_addedFrom.other W270 (Or.inl ne252)
  replace A_xb := A_xb.other W270 ne255
  replace F_o_addedTo := F_o_addedTo.other W270 (Or.inl ne252)
  replace A_xc := A_xc.other W270 ne256
  replace F_o_earlierOut := F_o_earlierOut.other W270 (Or.inl ne252)
  replace A_xd := A_xd.other W270 ne257
  replace F_o_earlierIn := F_o_earlierIn.other W270 (Or.inl ne252)
  replace Eqp63 := Eqp63.wr W270
  replace Fcp63 := Fcp63.other W270 (Or.inl ne258)
  replace Fnp63 := Fnp63.other W270 (Or.inl ne258)
  replace Axp63 := Axp63.other W270 ne259
  replace F_o_pending := F_o_pending.other W270 (Or.inl ne252)
  replace Eqp74 := Eqp74.wr W270
  replace Fcp74 := Fcp74.other W270 (Or.inl ne260)
  replace Fnp74 := Fnp74.other W270 (Or.inl ne260)
  replace Axp74 := Axp74.other W270 ne261
  replace F_o_pendingBack := F_o_pendingBack.other W270 (Or.inl ne252)
  replace F_o_firstOut := F_o_firstOut.other W270 (Or.inl ne252)
  replace Aqp168 := Aqp168.other W270 ne262
  replace F_o_firstIn := F_o_firstIn.other W270 (Or.inl ne252)
  replace Aqp192 := Aqp192.other W270 ne263
  replace F_o_place := F_o_place.other W270 (Or.inl ne252)
  have Z271 : n0 ≤ h270.size := by rw [W270.size]; exact Z267
  have N272 := Fr.snoc X270 N268 g264
  replace A_pl : Ara Z h270 pl .int 3 (fun jz => .int ((own_ui (fun _ => (0 : Int32)) 0 (0 : Int32)) jz)) := A_pl.setI W270
  refine g_iinc X270 hx hby d1_228 (pc' := 231) rfl rfl (Ls' := #[.val (.ref o), .val (.ref sa), .val (.ref sb), .val (.int (0 : Int32)), .val (.ref ar), .val (.int (3 : Int32)), .val (.int (1 : Int32))]) rfl ?_
  refine g_goto X270 hx hby d1_231 (pc' := 209) (by decide) (by decide) ?_
  refine g_iload X270 hx hby d1_209 (pc' := 211) rfl rfl ?_
  refine g_iload X270 hx hby d1_211 (pc' := 213) rfl rfl ?_
  refine g_icmpge X270 hx hby d1_213 (pt := 234) (pf := 216) (by decide) (by decide) rfl (fun (h213 : 3 ≤ 1) => (by exfalso; revert h213; decide)) (fun (h213 : 1 < 3) => ?_)
  refine g_aloadN X270 hx hby d1_216 (pc' := 217) rfl rfl rfl ?_
  refine g_getF X270 hx hby hZ hown e270 (hw _ (List.mem_of_getElem? (i := 91) rfl)) F_o_place d1_217 (pc' := 220) rfl (fun T273 X273 e273 => ?_)
  refine g_aload X273 hx hby d1_220 (pc' := 222) rfl rfl rfl ?_
  refine g_iload X273 hx hby d1_222 (pc' := 224) rfl rfl ?_
  refine a_iaload X273 hx hby hZ e273 A_ar (by decide) (by decide) (v := (.int (1 : Int32))) (rfl) d1_224 (pc' := 225) rfl ?_
  refine g_iload X273 hx hby d1_225 (pc' := 227) rfl rfl ?_
  refine a_iastore X273 hx hby hZ e273 A_pl (by decide) (by decide) d1_227 (pc' := 228) rfl (fun T274 h274 X274 e274 W274 => ?_)
  replace E_o := E_o.wr W274
  replace A_ar := A_ar.other W274 ne253
  replace U_o := U_o.other W274 ne252
  replace A_xa := A_xa.other W274 ne254
  replace F_o_addedFrom := F_o_addedFrom.other W274 (Or.inl ne252)
  replace A_xb := A_xb.other W274 ne255
  replace F_o_addedTo := F_o_addedTo.other W274 (Or.inl ne252)
  replace A_xc := A_xc.other W274 ne256
  replace F_o_earlierOut := F_o_earlierOut.other W274 (Or.inl ne252)
  replace A_xd := A_xd.other W274 ne257
  replace F_o_earlierIn := F_o_earlierIn.other W274 (Or.inl ne252)
  replace Eqp63 := Eqp63.wr W274
  replace Fcp63 := Fcp63.other W274 (Or.inl ne258)
  replace Fnp63 := Fnp63.other W274 (Or.inl ne258)
  replace Axp63 := Axp63.other W274 ne259
  replace F_o_pending := F_o_pending.other W274 (Or.inl ne252)
  replace Eqp74 := Eqp74.wr W274
  replace Fcp74 := Fcp74.other W274 (Or.inl ne260)
  replace Fnp74 := Fnp74.other W274 (Or.inl ne260)
  replace Axp74 := Axp74.other W274 ne261
  replace F_o_pendingBack := F_o_pendingBack.other W274 (Or.inl ne252)
  replace F_o_firstOut := F_o_firstOut.other W274 (Or.inl ne252)
  replace Aqp168 := Aqp168.other W274 ne262
  replace F_o_firstIn := F_o_firstIn.other W274 (Or.inl ne252)
  replace Aqp192 := Aqp192.other W274 ne263
  replace F_o_place := F_o_place.other W274 (Or.inl ne252)
  have Z275 : n0 ≤ h274.size := by rw [W274.size]; exact Z271
  have N276 := Fr.snoc X274 N272 g264
  replace A_pl : Ara Z h274 pl .int 3 (fun jz => .int ((own_ui (own_ui (fun _ => (0 : Int32)) 0 (0 : Int32)) 1 (1 : Int32)) jz)) := A_pl.setI W274
  refine g_iinc X274 hx hby d1_228 (pc' := 231) rfl rfl (Ls' := #[.val (.ref o), .val (.ref sa), .val (.ref sb), .val (.int (0 : Int32)), .val (.ref ar), .val (.int (3 : Int32)), .val (.int (2 : Int32))]) rfl ?_
  refine g_goto X274 hx hby d1_231 (pc' := 209) (by decide) (by decide) ?_
  refine g_iload X274 hx hby d1_209 (pc' := 211) rfl rfl ?_
  refine g_iload X274 hx hby d1_211 (pc' := 213) rfl rfl ?_
  refine g_icmpge X274 hx hby d1_213 (pt := 234) (pf := 216) (by decide) (by decide) rfl (fun (h213 : 3 ≤ 2) => (by exfalso; revert h213; decide)) (fun (h213 : 2 < 3) => ?_)
  refine g_aloadN X274 hx hby d1_216 (pc' := 217) rfl rfl rfl ?_
  refine g_getF X274 hx hby hZ hown e274 (hw _ (List.mem_of_getElem? (i := 91) rfl)) F_o_place d1_217 (pc' := 220) rfl (fun T277 X277 e277 => ?_)
  refine g_aload X277 hx hby d1_220 (pc' := 222) rfl rfl rfl ?_
  refine g_iload X277 hx hby d1_222 (pc' := 224) rfl rfl ?_
  refine a_iaload X277 hx hby hZ e277 A_ar (by decide) (by decide) (v := (.int (2 : Int32))) (rfl) d1_224 (pc' := 225) rfl ?_
  refine g_iload X277 hx hby d1_225 (pc' := 227) rfl rfl ?_
  refine a_iastore X277 hx hby hZ e277 A_pl (by decide) (by decide) d1_227 (pc' := 228) rfl (fun T278 h278 X278 e278 W278 => ?_)
  replace E_o := E_o.wr W278
  replace A_ar := A_ar.other W278 ne253
  replace U_o := U_o.other W278 ne252
  replace A_xa := A_xa.other W278 ne254
  replace F_o_addedFrom := F_o_addedFrom.other W278 (Or.inl ne252)
  replace A_xb := A_xb.other W278 ne255
  replace F_o_addedTo := F_o_addedTo.other W278 (Or.inl ne252)
  replace A_xc := A_xc.other W278 ne256
  replace F_o_earlierOut := F_o_earlierOut.other W278 (Or.inl ne252)
  replace A_xd := A_xd.other W278 ne257
  replace F_o_earlierIn := F_o_earlierIn.other W278 (Or.inl ne252)
  replace Eqp63 := Eqp63.wr W278
  replace Fcp63 := Fcp63.other W278 (Or.inl ne258)
  replace Fnp63 := Fnp63.other W278 (Or.inl ne258)
  replace Axp63 := Axp63.other W278 ne259
  replace F_o_pending := F_o_pending.other W278 (Or.inl ne252)
  replace Eqp74 := Eqp74.wr W278
  replace Fcp74 := Fcp74.other W278 (Or.inl ne260)
  replace Fnp74 := Fnp74.other W278 (Or.inl ne260)
  replace Axp74 := Axp74.other W278 ne261
  replace F_o_pendingBack := F_o_pendingBack.other W278 (Or.inl ne252)
  replace F_o_firstOut := F_o_firstOut.other W278 (Or.inl ne252)
  replace Aqp168 := Aqp168.other W278 ne262
  replace F_o_firstIn := F_o_firstIn.other W278 (Or.inl ne252)
  replace Aqp192 := Aqp192.other W278 ne263
  replace F_o_place := F_o_place.other W278 (Or.inl ne252)
  have Z279 : n0 ≤ h278.size := by rw [W278.size]; exact Z275
  have N280 := Fr.snoc X278 N276 g264
  replace A_pl : Ara Z h278 pl .int 3 (fun jz => .int ((own_ui (own_ui (own_ui (fun _ => (0 : Int32)) 0 (0 : Int32)) 1 (1 : Int32)) 2 (2 : Int32)) jz)) := A_pl.setI W278
  refine g_iinc X278 hx hby d1_228 (pc' := 231) rfl rfl (Ls' := #[.val (.ref o), .val (.ref sa), .val (.ref sb), .val (.int (0 : Int32)), .val (.ref ar), .val (.int (3 : Int32)), .val (.int (3 : Int32))]) rfl ?_
  refine g_goto X278 hx hby d1_231 (pc' := 209) (by decide) (by decide) ?_
  refine g_iload X278 hx hby d1_209 (pc' := 211) rfl rfl ?_
  refine g_iload X278 hx hby d1_211 (pc' := 213) rfl rfl ?_
  refine g_icmpge X278 hx hby d1_213 (pt := 234) (pf := 216) (by decide) (by decide) rfl (fun (h213 : 3 ≤ 3) => ?_) (fun (h213 : 3 < 3) => (by exfalso; revert h213; decide))
  refine g_aloadN X278 hx hby d1_234 (pc' := 235) rfl rfl rfl ?_
  refine g_iload X278 hx hby d1_235 (pc' := 237) rfl rfl ?_
  refine g_newA X278 hx hby hZ e278 (N := 3) (hw _ (List.mem_of_getElem? (i := 4) rfl)) d1_237 (pc' := 239) rfl rfl (cap := 3) (Nat.le_refl _) (by decide) (by decide) (by decide) (fun T281 h281 yo g281 X281 e281 E281 A_yo => ?_)
  have lne282 : o < yo := by rw [g281]; exact E_o.lt
  have ne282 : o ≠ yo := Nat.ne_of_lt lne282
  have lne283 : xa < yo := by rw [g281]; exact A_xa.lt
  have ne283 : xa ≠ yo := Nat.ne_of_lt lne283
  have lne284 : xb < yo := by rw [g281]; exact A_xb.lt
  have ne284 : xb ≠ yo := Nat.ne_of_lt lne284
  have lne285 : xc < yo := by rw [g281]; exact A_xc.lt
  have ne285 : xc ≠ yo := Nat.ne_of_lt lne285
  have lne286 : xd < yo := by rw [g281]; exact A_xd.lt
  have ne286 : xd ≠ yo := Nat.ne_of_lt lne286
  have lne287 : pe < yo := by rw [g281]; exact Eqp63.lt
  have ne287 : pe ≠ yo := Nat.ne_of_lt lne287
  have lne288 : xn < yo := by rw [g281]; exact Axp63.lt
  have ne288 : xn ≠ yo := Nat.ne_of_lt lne288
  have lne289 : pb < yo := by rw [g281]; exact Eqp74.lt
  have ne289 : pb ≠ yo := Nat.ne_of_lt lne289
  have lne290 : xm < yo := by rw [g281]; exact Axp74.lt
  have ne290 : xm ≠ yo := Nat.ne_of_lt lne290
  have lne291 : fo < yo := by rw [g281]; exact Aqp168.lt
  have ne291 : fo ≠ yo := Nat.ne_of_lt lne291
  have lne292 : fi < yo := by rw [g281]; exact Aqp192.lt
  have ne292 : fi ≠ yo := Nat.ne_of_lt lne292
  have lne293 : pl < yo := by rw [g281]; exact A_pl.lt
  have ne293 : pl ≠ yo := Nat.ne_of_lt lne293
  have g294 : n0 ≤ yo := by rw [g281]; exact Z279
  replace E_o := E_o.ext E281
  replace U_o := U_o.ext E281
  replace A_xa := A_xa.ext E281
  replace F_o_addedFrom := F_o_addedFrom.ext E281
  replace A_xb := A_xb.ext E281
  replace F_o_addedTo := F_o_addedTo.ext E281
  replace A_xc := A_xc.ext E281
  replace F_o_earlierOut := F_o_earlierOut.ext E281
  replace A_xd := A_xd.ext E281
  replace F_o_earlierIn := F_o_earlierIn.ext E281
  replace Eqp63 := Eqp63.ext E281
  replace Fcp63 := Fcp63.ext E281
  replace Fnp63 := Fnp63.ext E281
  replace Axp63 := Axp63.ext E281
  replace F_o_pending := F_o_pending.ext E281
  replace Eqp74 := Eqp74.ext E281
  replace Fcp74 := Fcp74.ext E281
  replace Fnp74 := Fnp74.ext E281
  replace Axp74 := Axp74.ext E281
  replace F_o_pendingBack := F_o_pendingBack.ext E281
  replace F_o_firstOut := F_o_firstOut.ext E281
  replace Aqp168 := Aqp168.ext E281
  replace F_o_firstIn := F_o_firstIn.ext E281
  replace Aqp192 := Aqp192.ext E281
  replace A_pl := A_pl.ext E281
  replace F_o_place := F_o_place.ext E281
  have Z295 : n0 ≤ h281.size := Nat.le_trans Z279 E281.1
  replace X281 : Stand p l e ({ frames := 3, cells := 31, slots := 263, locals := 80 } : Room) s m _ below meth c T281 _ 28 254 := X281
  replace A_yo : Ara Z h281 yo .int 3 (fun jz => .int ((fun _ => (0 : Int32)) jz)) := A_yo
  have F_o_latestOut : Fld Z h281 o "com/example/isolens/isolens/checker/DynamicOrder" "latestOut" "[I" .null := U_o.get (Or.inr (hw _ (List.mem_of_getElem? (i := 94) rfl))) (by decide) (ty := (.array .int)) (by decide)
  refine g_putF X281 hx hby hZ hown e281 (hw _ (List.mem_of_getElem? (i := 93) rfl)) F_o_latestOut E_o (Or.inr ⟨(hw _ (List.mem_of_getElem? (i := 94) rfl)), rfl, hnm⟩) (hw _ (List.mem_of_getElem? (i := 2) rfl)) (ty := (.array .int)) (by decide) rfl rfl d1_239 (pc' := 242) rfl (fun T296 h296 X296 e296 W296 => ?_)
  replace E_o := E_o.wr W296
  replace U_o := U_o.put (Or.inr (hw _ (List.mem_of_getElem? (i := 94) rfl))) (ty' := (.array .int)) (by decide) W296
  replace A_xa := A_xa.other W296 (Ne.symm ne2)
  replace F_o_addedFrom := F_o_addedFrom.other W296 (Or.inr (sn_107 hw))
  replace A_xb := A_xb.other W296 (Ne.symm ne10)
  replace F_o_addedTo := F_o_addedTo.other W296 (Or.inr (sn_108 hw))
  replace A_xc := A_xc.other W296 (Ne.symm ne19)
  replace F_o_earlierOut := F_o_earlierOut.other W296 (Or.inr (sn_109 hw))
  replace A_xd := A_xd.other W296 (Ne.symm ne29)
  replace F_o_earlierIn := F_o_earlierIn.other W296 (Or.inr (sn_110 hw))
  replace Eqp63 := Eqp63.wr W296
  replace Fcp63 := Fcp63.other W296 (Or.inl (Ne.symm ne66))
  replace Fnp63 := Fnp63.other W296 (Or.inl (Ne.symm ne66))
  replace Axp63 := Axp63.other W296 (Ne.symm no_xn)
  replace F_o_pending := F_o_pending.other W296 (Or.inr (sn_111 hw))
  replace Eqp74 := Eqp74.wr W296
  replace Fcp74 := Fcp74.other W296 (Or.inl (Ne.symm ne79))
  replace Fnp74 := Fnp74.other W296 (Or.inl (Ne.symm ne79))
  replace Axp74 := Axp74.other W296 (Ne.symm no_xm)
  replace F_o_pendingBack := F_o_pendingBack.other W296 (Or.inr (sn_112 hw))
  replace F_o_firstOut := F_o_firstOut.other W296 (Or.inr (sn_113 hw))
  replace Aqp168 := Aqp168.other W296 (Ne.symm ne209)
  replace F_o_firstIn := F_o_firstIn.other W296 (Or.inr (sn_114 hw))
  replace Aqp192 := Aqp192.other W296 (Ne.symm ne230)
  replace A_pl := A_pl.other W296 (Ne.symm ne252)
  replace F_o_place := F_o_place.other W296 (Or.inr (sn_115 hw))
  replace A_yo := A_yo.other W296 (Ne.symm ne282)
  replace F_o_latestOut := F_o_latestOut.same W296
  have Z297 : n0 ≤ h296.size := by rw [W296.size]; exact Z295
  have N298 := Fr.snoc X296 N280 g_o
  refine g_aloadN X296 hx hby d1_242 (pc' := 243) rfl rfl rfl ?_
  refine g_iload X296 hx hby d1_243 (pc' := 245) rfl rfl ?_
  refine g_newA X296 hx hby hZ e296 (N := 3) (hw _ (List.mem_of_getElem? (i := 4) rfl)) d1_245 (pc' := 247) rfl rfl (cap := 3) (Nat.le_refl _) (by decide) (by decide) (by decide) (fun T299 h299 yi g299 X299 e299 E299 A_yi => ?_)
  have lne300 : o < yi := by rw [g299]; exact E_o.lt
  have ne300 : o ≠ yi := Nat.ne_of_lt lne300
  have lne301 : xa < yi := by rw [g299]; exact A_xa.lt
  have ne301 : xa ≠ yi := Nat.ne_of_lt lne301
  have lne302 : xb < yi := by rw [g299]; exact A_xb.lt
  have ne302 : xb ≠ yi := Nat.ne_of_lt lne302
  have lne303 : xc < yi := by rw [g299]; exact A_xc.lt
  have ne303 : xc ≠ yi := Nat.ne_of_lt lne303
  have lne304 : xd < yi := by rw [g299]; exact A_xd.lt
  have ne304 : xd ≠ yi := Nat.ne_of_lt lne304
  have lne305 : pe < yi := by rw [g299]; exact Eqp63.lt
  have ne305 : pe ≠ yi := Nat.ne_of_lt lne305
  have lne306 : xn < yi := by rw [g299]; exact Axp63.lt
  have ne306 : xn ≠ yi := Nat.ne_of_lt lne306
  have lne307 : pb < yi := by rw [g299]; exact Eqp74.lt
  have ne307 : pb ≠ yi := Nat.ne_of_lt lne307
  have lne308 : xm < yi := by rw [g299]; exact Axp74.lt
  have ne308 : xm ≠ yi := Nat.ne_of_lt lne308
  have lne309 : fo < yi := by rw [g299]; exact Aqp168.lt
  have ne309 : fo ≠ yi := Nat.ne_of_lt lne309
  have lne310 : fi < yi := by rw [g299]; exact Aqp192.lt
  have ne310 : fi ≠ yi := Nat.ne_of_lt lne310
  have lne311 : pl < yi := by rw [g299]; exact A_pl.lt
  have ne311 : pl ≠ yi := Nat.ne_of_lt lne311
  have lne312 : yo < yi := by rw [g299]; exact A_yo.lt
  have ne312 : yo ≠ yi := Nat.ne_of_lt lne312
  have g313 : n0 ≤ yi := by rw [g299]; exact Z297
  replace E_o := E_o.ext E299
  replace U_o := U_o.ext E299
  replace A_xa := A_xa.ext E299
  replace F_o_addedFrom := F_o_addedFrom.ext E299
  replace A_xb := A_xb.ext E299
  replace F_o_addedTo := F_o_addedTo.ext E299
  replace A_xc := A_xc.ext E299
  replace F_o_earlierOut := F_o_earlierOut.ext E299
  replace A_xd := A_xd.ext E299
  replace F_o_earlierIn := F_o_earlierIn.ext E299
  replace Eqp63 := Eqp63.ext E299
  replace Fcp63 := Fcp63.ext E299
  replace Fnp63 := Fnp63.ext E299
  replace Axp63 := Axp63.ext E299
  replace F_o_pending := F_o_pending.ext E299
  replace Eqp74 := Eqp74.ext E299
  replace Fcp74 := Fcp74.ext E299
  replace Fnp74 := Fnp74.ext E299
  replace Axp74 := Axp74.ext E299
  replace F_o_pendingBack := F_o_pendingBack.ext E299
  replace F_o_firstOut := F_o_firstOut.ext E299
  replace Aqp168 := Aqp168.ext E299
  replace F_o_firstIn := F_o_firstIn.ext E299
  replace Aqp192 := Aqp192.ext E299
  replace A_pl := A_pl.ext E299
  replace F_o_place := F_o_place.ext E299
  replace A_yo := A_yo.ext E299
  replace F_o_latestOut := F_o_latestOut.ext E299
  have Z314 : n0 ≤ h299.size := Nat.le_trans Z297 E299.1
  replace X299 : Stand p l e ({ frames := 3, cells := 31, slots := 263, locals := 80 } : Room) s m _ below meth c T299 _ 29 257 := X299
  replace A_yi : Ara Z h299 yi .int 3 (fun jz => .int ((fun _ => (0 : Int32)) jz)) := A_yi
  have F_o_latestIn : Fld Z h299 o "com/example/isolens/isolens/checker/DynamicOrder" "latestIn" "[I" .null := U_o.get (Or.inr (hw _ (List.mem_of_getElem? (i := 96) rfl))) (by decide) (ty := (.array .int)) (by decide)
  refine g_putF X299 hx hby hZ hown e299 (hw _ (List.mem_of_getElem? (i := 95) rfl)) F_o_latestIn E_o (Or.inr ⟨(hw _ (List.mem_of_getElem? (i := 96) rfl)), rfl, hnm⟩) (hw _ (List.mem_of_getElem? (i := 2) rfl)) (ty := (.array .int)) (by decide) rfl rfl d1_247 (pc' := 250) rfl (fun T315 h315 X315 e315 W315 => ?_)
  replace E_o := E_o.wr W315
  replace U_o := U_o.put (Or.inr (hw _ (List.mem_of_getElem? (i := 96) rfl))) (ty' := (.array .int)) (by decide) W315
  replace A_xa := A_xa.other W315 (Ne.symm ne2)
  replace F_o_addedFrom := F_o_addedFrom.other W315 (Or.inr (sn_116 hw))
  replace A_xb := A_xb.other W315 (Ne.symm ne10)
  replace F_o_addedTo := F_o_addedTo.other W315 (Or.inr (sn_117 hw))
  replace A_xc := A_xc.other W315 (Ne.symm ne19)
  replace F_o_earlierOut := F_o_earlierOut.other W315 (Or.inr (sn_118 hw))
  replace A_xd := A_xd.other W315 (Ne.symm ne29)
  replace F_o_earlierIn := F_o_earlierIn.other W315 (Or.inr (sn_119 hw))
  replace Eqp63 := Eqp63.wr W315
  replace Fcp63 := Fcp63.other W315 (Or.inl (Ne.symm ne66))
  replace Fnp63 := Fnp63.other W315 (Or.inl (Ne.symm ne66))
  replace Axp63 := Axp63.other W315 (Ne.symm no_xn)
  replace F_o_pending := F_o_pending.other W315 (Or.inr (sn_120 hw))
  replace Eqp74 := Eqp74.wr W315
  replace Fcp74 := Fcp74.other W315 (Or.inl (Ne.symm ne79))
  replace Fnp74 := Fnp74.other W315 (Or.inl (Ne.symm ne79))
  replace Axp74 := Axp74.other W315 (Ne.symm no_xm)
  replace F_o_pendingBack := F_o_pendingBack.other W315 (Or.inr (sn_121 hw))
  replace F_o_firstOut := F_o_firstOut.other W315 (Or.inr (sn_122 hw))
  replace Aqp168 := Aqp168.other W315 (Ne.symm ne209)
  replace F_o_firstIn := F_o_firstIn.other W315 (Or.inr (sn_123 hw))
  replace Aqp192 := Aqp192.other W315 (Ne.symm ne230)
  replace A_pl := A_pl.other W315 (Ne.symm ne252)
  replace F_o_place := F_o_place.other W315 (Or.inr (sn_124 hw))
  replace A_yo := A_yo.other W315 (Ne.symm ne282)
  replace F_o_latestOut := F_o_latestOut.other W315 (Or.inr (sn_125 hw))
  replace A_yi := A_yi.other W315 (Ne.symm ne300)
  replace F_o_latestIn := F_o_latestIn.same W315
  have Z316 : n0 ≤ h315.size := by rw [W315.size]; exact Z314
  have N317 := Fr.snoc X315 N298 g_o
  refine g_aloadN X315 hx hby d1_250 (pc' := 251) rfl rfl rfl ?_
  refine g_getF X315 hx hby hZ hown e315 (hw _ (List.mem_of_getElem? (i := 93) rfl)) F_o_latestOut d1_251 (pc' := 254) rfl (fun T318 X318 e318 => ?_)
  refine g_iconst X318 hx hby d1_254 (pc' := 255) rfl (n := (-1 : Int32)) (by first | rfl | decide) ?_
  refine g_static X318 hx hby hZ hown hml rfl (hw _ (List.mem_of_getElem? (i := 97) rfl)) (hw _ (List.mem_of_getElem? (i := 98) rfl)) (hw _ (List.mem_of_getElem? (i := 99) rfl)) (hw _ (List.mem_of_getElem? (i := 100) rfl)) (by decide) e318 (rm_af l Z a0 hw yo n0 (fun _ => (0 : Int32)) h315 Z316 g294 A_yo) pd___II_V_404 (argsL := [(.ref yo), (.int (-1 : Int32))]) (rest := []) rfl rfl rfl d1_255 (pc' := 258) rfl (by decide) (Nat.le_of_ble_eq_true rfl) (by decide) (by decide) ?_
  intro Tp255 vp255 Lp255 Xp255 qp255
  obtain ⟨rfl, Nqp255, Aqp255, Kqp255⟩ := qp255
  replace Xp255 : Stand p l e ({ frames := 3, cells := 31, slots := 263, locals := 80 } : Room) s m _ below meth c Tp255 _ 29 257 := Xp255
  replace E_o := E_o.keep Kqp255
  replace U_o := U_o.keep Kqp255 (ninS ne282 nin0)
  replace A_xa := A_xa.keep Kqp255 (ninS ne283 nin0)
  replace F_o_addedFrom := F_o_addedFrom.keep Kqp255 (ninS ne282 nin0)
  replace A_xb := A_xb.keep Kqp255 (ninS ne284 nin0)
  replace F_o_addedTo := F_o_addedTo.keep Kqp255 (ninS ne282 nin0)
  replace A_xc := A_xc.keep Kqp255 (ninS ne285 nin0)
  replace F_o_earlierOut := F_o_earlierOut.keep Kqp255 (ninS ne282 nin0)
  replace A_xd := A_xd.keep Kqp255 (ninS ne286 nin0)
  replace F_o_earlierIn := F_o_earlierIn.keep Kqp255 (ninS ne282 nin0)
  replace Eqp63 := Eqp63.keep Kqp255
  replace Fcp63 := Fcp63.keep Kqp255 (ninS ne287 nin0)
  replace Fnp63 := Fnp63.keep Kqp255 (ninS ne287 nin0)
  replace Axp63 := Axp63.keep Kqp255 (ninS ne288 nin0)
  replace F_o_pending := F_o_pending.keep Kqp255 (ninS ne282 nin0)
  replace Eqp74 := Eqp74.keep Kqp255
  replace Fcp74 := Fcp74.keep Kqp255 (ninS ne289 nin0)
  replace Fnp74 := Fnp74.keep Kqp255 (ninS ne289 nin0)
  replace Axp74 := Axp74.keep Kqp255 (ninS ne290 nin0)
  replace F_o_pendingBack := F_o_pendingBack.keep Kqp255 (ninS ne282 nin0)
  replace F_o_firstOut := F_o_firstOut.keep Kqp255 (ninS ne282 nin0)
  replace Aqp168 := Aqp168.keep Kqp255 (ninS ne291 nin0)
  replace F_o_firstIn := F_o_firstIn.keep Kqp255 (ninS ne282 nin0)
  replace Aqp192 := Aqp192.keep Kqp255 (ninS ne292 nin0)
  replace A_pl := A_pl.keep Kqp255 (ninS ne293 nin0)
  replace F_o_place := F_o_place.keep Kqp255 (ninS ne282 nin0)
  replace F_o_latestOut := F_o_latestOut.keep Kqp255 (ninS ne282 nin0)
  replace A_yi := A_yi.keep Kqp255 (ninS (Ne.symm ne312) nin0)
  replace F_o_latestIn := F_o_latestIn.keep Kqp255 (ninS ne282 nin0)
  have Z319 : n0 ≤ Tp255.heap.size := Nat.le_trans Z316 Kqp255.1
  have Np255 := Fr.app N317 Nqp255
  show Go p e below EF (QDn Z n0 o 0 0 (fun _ => (0 : Int32))) m Tp255 258 #[.val (.ref o), .val (.ref sa), .val (.ref sb), .val (.int (0 : Int32)), .val (.ref ar), .val (.int (3 : Int32)), .val (.int (3 : Int32))] []
  refine g_aloadN Xp255 hx hby d1_258 (pc' := 259) rfl rfl rfl ?_
  refine g_getF Xp255 hx hby hZ hown rfl (hw _ (List.mem_of_getElem? (i := 95) rfl)) F_o_latestIn d1_259 (pc' := 262) rfl (fun T320 X320 e320 => ?_)
  refine g_iconst X320 hx hby d1_262 (pc' := 263) rfl (n := (-1 : Int32)) (by first | rfl | decide) ?_
  refine g_static X320 hx hby hZ hown hml rfl (hw _ (List.mem_of_getElem? (i := 97) rfl)) (hw _ (List.mem_of_getElem? (i := 98) rfl)) (hw _ (List.mem_of_getElem? (i := 99) rfl)) (hw _ (List.mem_of_getElem? (i := 100) rfl)) (by decide) e320 (rm_af l Z a0 hw yi n0 (fun _ => (0 : Int32)) Tp255.heap Z319 g313 A_yi) pd___II_V_404 (argsL := [(.ref yi), (.int (-1 : Int32))]) (rest := []) rfl rfl rfl d1_263 (pc' := 266) rfl (by decide) (Nat.le_of_ble_eq_true rfl) (by decide) (by decide) ?_
  intro Tp263 vp263 Lp263 Xp263 qp263
  obtain ⟨rfl, Nqp263, Aqp263, Kqp263⟩ := qp263
  replace Xp263 : Stand p l e ({ frames := 3, cells := 31, slots := 263, locals := 80 } : Room) s m _ below meth c Tp263 _ 29 257 := Xp263
  replace E_o := E_o.keep Kqp263
  replace U_o := U_o.keep Kqp263 (ninS ne300 nin0)
  replace A_xa := A_xa.keep Kqp263 (ninS ne301 nin0)
  replace F_o_addedFrom := F_o_addedFrom.keep Kqp263 (ninS ne300 nin0)
  replace A_xb := A_xb.keep Kqp263 (ninS ne302 nin0)
  replace F_o_addedTo := F_o_addedTo.keep Kqp263 (ninS ne300 nin0)
  replace A_xc := A_xc.keep Kqp263 (ninS ne303 nin0)
  replace F_o_earlierOut := F_o_earlierOut.keep Kqp263 (ninS ne300 nin0)
  replace A_xd := A_xd.keep Kqp263 (ninS ne304 nin0)
  replace F_o_earlierIn := F_o_earlierIn.keep Kqp263 (ninS ne300 nin0)
  replace Eqp63 := Eqp63.keep Kqp263
  replace Fcp63 := Fcp63.keep Kqp263 (ninS ne305 nin0)
  replace Fnp63 := Fnp63.keep Kqp263 (ninS ne305 nin0)
  replace Axp63 := Axp63.keep Kqp263 (ninS ne306 nin0)
  replace F_o_pending := F_o_pending.keep Kqp263 (ninS ne300 nin0)
  replace Eqp74 := Eqp74.keep Kqp263
  replace Fcp74 := Fcp74.keep Kqp263 (ninS ne307 nin0)
  replace Fnp74 := Fnp74.keep Kqp263 (ninS ne307 nin0)
  replace Axp74 := Axp74.keep Kqp263 (ninS ne308 nin0)
  replace F_o_pendingBack := F_o_pendingBack.keep Kqp263 (ninS ne300 nin0)
  replace F_o_firstOut := F_o_firstOut.keep Kqp263 (ninS ne300 nin0)
  replace Aqp168 := Aqp168.keep Kqp263 (ninS ne309 nin0)
  replace F_o_firstIn := F_o_firstIn.keep Kqp263 (ninS ne300 nin0)
  replace Aqp192 := Aqp192.keep Kqp263 (ninS ne310 nin0)
  replace A_pl := A_pl.keep Kqp263 (ninS ne311 nin0)
  replace F_o_place := F_o_place.keep Kqp263 (ninS ne300 nin0)
  replace F_o_latestOut := F_o_latestOut.keep Kqp263 (ninS ne300 nin0)
  replace F_o_latestIn := F_o_latestIn.keep Kqp263 (ninS ne300 nin0)
  replace Aqp255 := Aqp255.keep Kqp263 (ninS ne312 nin0)
  have Z321 : n0 ≤ Tp263.heap.size := Nat.le_trans Z319 Kqp263.1
  have Np263 := Fr.app Np255 Nqp263
  show Go p e below EF (QDn Z n0 o 0 0 (fun _ => (0 : Int32))) m Tp263 266 #[.val (.ref o), .val (.ref sa), .val (.ref sb), .val (.int (0 : Int32)), .val (.ref ar), .val (.int (3 : Int32)), .val (.int (3 : Int32))] []
  refine g_aloadN Xp263 hx hby d1_266 (pc' := 267) rfl rfl rfl ?_
  refine g_iload Xp263 hx hby d1_267 (pc' := 269) rfl rfl ?_
  refine g_newA Xp263 hx hby hZ rfl (N := 3) (hw _ (List.mem_of_getElem? (i := 4) rfl)) d1_269 (pc' := 271) rfl rfl (cap := 3) (Nat.le_refl _) (by decide) (by decide) (by decide) (fun T322 h322 ym g322 X322 e322 E322 A_ym => ?_)
  have lne323 : o < ym := by rw [g322]; exact E_o.lt
  have ne323 : o ≠ ym := Nat.ne_of_lt lne323
  have lne324 : xa < ym := by rw [g322]; exact A_xa.lt
  have ne324 : xa ≠ ym := Nat.ne_of_lt lne324
  have lne325 : xb < ym := by rw [g322]; exact A_xb.lt
  have ne325 : xb ≠ ym := Nat.ne_of_lt lne325
  have lne326 : xc < ym := by rw [g322]; exact A_xc.lt
  have ne326 : xc ≠ ym := Nat.ne_of_lt lne326
  have lne327 : xd < ym := by rw [g322]; exact A_xd.lt
  have ne327 : xd ≠ ym := Nat.ne_of_lt lne327
  have lne328 : pe < ym := by rw [g322]; exact Eqp63.lt
  have ne328 : pe ≠ ym := Nat.ne_of_lt lne328
  have lne329 : xn < ym := by rw [g322]; exact Axp63.lt
  have ne329 : xn ≠ ym := Nat.ne_of_lt lne329
  have lne330 : pb < ym := by rw [g322]; exact Eqp74.lt
  have ne330 : pb ≠ ym := Nat.ne_of_lt lne330
  have lne331 : xm < ym := by rw [g322]; exact Axp74.lt
  have ne331 : xm ≠ ym := Nat.ne_of_lt lne331
  have lne332 : fo < ym := by rw [g322]; exact Aqp168.lt
  have ne332 : fo ≠ ym := Nat.ne_of_lt lne332
  have lne333 : fi < ym := by rw [g322]; exact Aqp192.lt
  have ne333 : fi ≠ ym := Nat.ne_of_lt lne333
  have lne334 : pl < ym := by rw [g322]; exact A_pl.lt
  have ne334 : pl ≠ ym := Nat.ne_of_lt lne334
  have lne335 : yo < ym := by rw [g322]; exact Aqp255.lt
  have ne335 : yo ≠ ym := Nat.ne_of_lt lne335
  have lne336 : yi < ym := by rw [g322]; exact Aqp263.lt
  have ne336 : yi ≠ ym := Nat.ne_of_lt lne336
  have g337 : n0 ≤ ym := by rw [g322]; exact Z321
  replace E_o := E_o.ext E322
  replace U_o := U_o.ext E322
  replace A_xa := A_xa.ext E322
  replace F_o_addedFrom := F_o_addedFrom.ext E322
  replace A_xb := A_xb.ext E322
  replace F_o_addedTo := F_o_addedTo.ext E322
  replace A_xc := A_xc.ext E322
  replace F_o_earlierOut := F_o_earlierOut.ext E322
  replace A_xd := A_xd.ext E322
  replace F_o_earlierIn := F_o_earlierIn.ext E322
  replace Eqp63 := Eqp63.ext E322
  replace Fcp63 := Fcp63.ext E322
  replace Fnp63 := Fnp63.ext E322
  replace Axp63 := Axp63.ext E322
  replace F_o_pending := F_o_pending.ext E322
  replace Eqp74 := Eqp74.ext E322
  replace Fcp74 := Fcp74.ext E322
  replace Fnp74 := Fnp74.ext E322
  replace Axp74 := Axp74.ext E322
  replace F_o_pendingBack := F_o_pendingBack.ext E322
  replace F_o_firstOut := F_o_firstOut.ext E322
  replace Aqp168 := Aqp168.ext E322
  replace F_o_firstIn := F_o_firstIn.ext E322
  replace Aqp192 := Aqp192.ext E322
  replace A_pl := A_pl.ext E322
  replace F_o_place := F_o_place.ext E322
  replace F_o_latestOut := F_o_latestOut.ext E322
  replace F_o_latestIn := F_o_latestIn.ext E322
  replace Aqp255 := Aqp255.ext E322
  replace Aqp263 := Aqp263.ext E322
  have Z338 : n0 ≤ h322.size := Nat.le_trans Z321 E322.1
  replace X322 : Stand p l e ({ frames := 3, cells := 31, slots := 263, locals := 80 } : Room) s m _ below meth c T322 _ 30 260 := X322
  replace A_ym : Ara Z h322 ym .int 3 (fun jz => .int ((fun _ => (0 : Int32)) jz)) := A_ym
  have F_o_metIn : Fld Z h322 o "com/example/isolens/isolens/checker/DynamicOrder" "metIn" "[I" .null := U_o.get (Or.inr (hw _ (List.mem_of_getElem? (i := 102) rfl))) (by decide) (ty := (.array .int)) (by decide)
  refine g_putF X322 hx hby hZ hown e322 (hw _ (List.mem_of_getElem? (i := 101) rfl)) F_o_metIn E_o (Or.inr ⟨(hw _ (List.mem_of_getElem? (i := 102) rfl)), rfl, hnm⟩) (hw _ (List.mem_of_getElem? (i := 2) rfl)) (ty := (.array .int)) (by decide) rfl rfl d1_271 (pc' := 274) rfl (fun T339 h339 X339 e339 W339 => ?_)
  replace E_o := E_o.wr W339
  replace U_o := U_o.put (Or.inr (hw _ (List.mem_of_getElem? (i := 102) rfl))) (ty' := (.array .int)) (by decide) W339
  replace A_xa := A_xa.other W339 (Ne.symm ne2)
  replace F_o_addedFrom := F_o_addedFrom.other W339 (Or.inr (sn_126 hw))
  replace A_xb := A_xb.other W339 (Ne.symm ne10)
  replace F_o_addedTo := F_o_addedTo.other W339 (Or.inr (sn_127 hw))
  replace A_xc := A_xc.other W339 (Ne.symm ne19)
  replace F_o_earlierOut := F_o_earlierOut.other W339 (Or.inr (sn_128 hw))
  replace A_xd := A_xd.other W339 (Ne.symm ne29)
  replace F_o_earlierIn := F_o_earlierIn.other W339 (Or.inr (sn_129 hw))
  replace Eqp63 := Eqp63.wr W339
  replace Fcp63 := Fcp63.other W339 (Or.inl (Ne.symm ne66))
  replace Fnp63 := Fnp63.other W339 (Or.inl (Ne.symm ne66))
  replace Axp63 := Axp63.other W339 (Ne.symm no_xn)
  replace F_o_pending := F_o_pending.other W339 (Or.inr (sn_130 hw))
  replace Eqp74 := Eqp74.wr W339
  replace Fcp74 := Fcp74.other W339 (Or.inl (Ne.symm ne79))
  replace Fnp74 := Fnp74.other W339 (Or.inl (Ne.symm ne79))
  replace Axp74 := Axp74.other W339 (Ne.symm no_xm)
  replace F_o_pendingBack := F_o_pendingBack.other W339 (Or.inr (sn_131 hw))
  replace F_o_firstOut := F_o_firstOut.other W339 (Or.inr (sn_132 hw))
  replace Aqp168 := Aqp168.other W339 (Ne.symm ne209)
  replace F_o_firstIn := F_o_firstIn.other W339 (Or.inr (sn_133 hw))
  replace Aqp192 := Aqp192.other W339 (Ne.symm ne230)
  replace A_pl := A_pl.other W339 (Ne.symm ne252)
  replace F_o_place := F_o_place.other W339 (Or.inr (sn_134 hw))
  replace F_o_latestOut := F_o_latestOut.other W339 (Or.inr (sn_135 hw))
  replace F_o_latestIn := F_o_latestIn.other W339 (Or.inr (sn_136 hw))
  replace Aqp255 := Aqp255.other W339 (Ne.symm ne282)
  replace Aqp263 := Aqp263.other W339 (Ne.symm ne300)
  replace A_ym := A_ym.other W339 (Ne.symm ne323)
  replace F_o_metIn := F_o_metIn.same W339
  have Z340 : n0 ≤ h339.size := by rw [W339.size]; exact Z338
  have N341 := Fr.snoc X339 Np263 g_o
  refine g_aloadN X339 hx hby d1_274 (pc' := 275) rfl rfl rfl ?_
  refine g_iload X339 hx hby d1_275 (pc' := 277) rfl rfl ?_
  refine g_newA X339 hx hby hZ e339 (N := 3) (hw _ (List.mem_of_getElem? (i := 4) rfl)) d1_277 (pc' := 279) rfl rfl (cap := 3) (Nat.le_refl _) (by decide) (by decide) (by decide) (fun T342 h342 yb g342 X342 e342 E342 A_yb => ?_)
  have lne343 : o < yb := by rw [g342]; exact E_o.lt
  have ne343 : o ≠ yb := Nat.ne_of_lt lne343
  have lne344 : xa < yb := by rw [g342]; exact A_xa.lt
  have ne344 : xa ≠ yb := Nat.ne_of_lt lne344
  have lne345 : xb < yb := by rw [g342]; exact A_xb.lt
  have ne345 : xb ≠ yb := Nat.ne_of_lt lne345
  have lne346 : xc < yb := by rw [g342]; exact A_xc.lt
  have ne346 : xc ≠ yb := Nat.ne_of_lt lne346
  have lne347 : xd < yb := by rw [g342]; exact A_xd.lt
  have ne347 : xd ≠ yb := Nat.ne_of_lt lne347
  have lne348 : pe < yb := by rw [g342]; exact Eqp63.lt
  have ne348 : pe ≠ yb := Nat.ne_of_lt lne348
  have lne349 : xn < yb := by rw [g342]; exact Axp63.lt
  have ne349 : xn ≠ yb := Nat.ne_of_lt lne349
  have lne350 : pb < yb := by rw [g342]; exact Eqp74.lt
  have ne350 : pb ≠ yb := Nat.ne_of_lt lne350
  have lne351 : xm < yb := by rw [g342]; exact Axp74.lt
  have ne351 : xm ≠ yb := Nat.ne_of_lt lne351
  have lne352 : fo < yb := by rw [g342]; exact Aqp168.lt
  have ne352 : fo ≠ yb := Nat.ne_of_lt lne352
  have lne353 : fi < yb := by rw [g342]; exact Aqp192.lt
  have ne353 : fi ≠ yb := Nat.ne_of_lt lne353
  have lne354 : pl < yb := by rw [g342]; exact A_pl.lt
  have ne354 : pl ≠ yb := Nat.ne_of_lt lne354
  have lne355 : yo < yb := by rw [g342]; exact Aqp255.lt
  have ne355 : yo ≠ yb := Nat.ne_of_lt lne355
  have lne356 : yi < yb := by rw [g342]; exact Aqp263.lt
  have ne356 : yi ≠ yb := Nat.ne_of_lt lne356
  have lne357 : ym < yb := by rw [g342]; exact A_ym.lt
  have ne357 : ym ≠ yb := Nat.ne_of_lt lne357
  have g358 : n0 ≤ yb := by rw [g342]; exact Z340
  replace E_o := E_o.ext E342
  replace U_o := U_o.ext E342
  replace A_xa := A_xa.ext E342
  replace F_o_addedFrom := F_o_addedFrom.ext E342
  replace A_xb := A_xb.ext E342
  replace F_o_addedTo := F_o_addedTo.ext E342
  replace A_xc := A_xc.ext E342
  replace F_o_earlierOut := F_o_earlierOut.ext E342
  replace A_xd := A_xd.ext E342
  replace F_o_earlierIn := F_o_earlierIn.ext E342
  replace Eqp63 := Eqp63.ext E342
  replace Fcp63 := Fcp63.ext E342
  replace Fnp63 := Fnp63.ext E342
  replace Axp63 := Axp63.ext E342
  replace F_o_pending := F_o_pending.ext E342
  replace Eqp74 := Eqp74.ext E342
  replace Fcp74 := Fcp74.ext E342
  replace Fnp74 := Fnp74.ext E342
  replace Axp74 := Axp74.ext E342
  replace F_o_pendingBack := F_o_pendingBack.ext E342
  replace F_o_firstOut := F_o_firstOut.ext E342
  replace Aqp168 := Aqp168.ext E342
  replace F_o_firstIn := F_o_firstIn.ext E342
  replace Aqp192 := Aqp192.ext E342
  replace A_pl := A_pl.ext E342
  replace F_o_place := F_o_place.ext E342
  replace F_o_latestOut := F_o_latestOut.ext E342
  replace F_o_latestIn := F_o_latestIn.ext E342
  replace Aqp255 := Aqp255.ext E342
  replace Aqp263 := Aqp263.ext E342
  replace A_ym := A_ym.ext E342
  replace F_o_metIn := F_o_metIn.ext E342
  have Z359 : n0 ≤ h342.size := Nat.le_trans Z340 E342.1
  replace X342 : Stand p l e ({ frames := 3, cells := 31, slots := 263, locals := 80 } : Room) s m _ below meth c T342 _ 31 263 := X342
  replace A_yb : Ara Z h342 yb .int 3 (fun jz => .int ((fun _ => (0 : Int32)) jz)) := A_yb
  have F_o_metBack : Fld Z h342 o "com/example/isolens/isolens/checker/DynamicOrder" "metBack" "[I" .null := U_o.get (Or.inr (hw _ (List.mem_of_getElem? (i := 104) rfl))) (by decide) (ty := (.array .int)) (by decide)
  refine g_putF X342 hx hby hZ hown e342 (hw _ (List.mem_of_getElem? (i := 103) rfl)) F_o_metBack E_o (Or.inr ⟨(hw _ (List.mem_of_getElem? (i := 104) rfl)), rfl, hnm⟩) (hw _ (List.mem_of_getElem? (i := 2) rfl)) (ty := (.array .int)) (by decide) rfl rfl d1_279 (pc' := 282) rfl (fun T360 h360 X360 e360 W360 => ?_)
  replace E_o := E_o.wr W360
  replace U_o := U_o.put (Or.inr (hw _ (List.mem_of_getElem? (i := 104) rfl))) (ty' := (.array .int)) (by decide) W360
  replace A_xa := A_xa.other W360 (Ne.symm ne2)
  replace F_o_addedFrom := F_o_addedFrom.other W360 (Or.inr (sn_137 hw))
  replace A_xb := A_xb.other W360 (Ne.symm ne10)
  replace F_o_addedTo := F_o_addedTo.other W360 (Or.inr (sn_138 hw))
  replace A_xc := A_xc.other W360 (Ne.symm ne19)
  replace F_o_earlierOut := F_o_earlierOut.other W360 (Or.inr (sn_139 hw))
  replace A_xd := A_xd.other W360 (Ne.symm ne29)
  replace F_o_earlierIn := F_o_earlierIn.other W360 (Or.inr (sn_140 hw))
  replace Eqp63 := Eqp63.wr W360
  replace Fcp63 := Fcp63.other W360 (Or.inl (Ne.symm ne66))
  replace Fnp63 := Fnp63.other W360 (Or.inl (Ne.symm ne66))
  replace Axp63 := Axp63.other W360 (Ne.symm no_xn)
  replace F_o_pending := F_o_pending.other W360 (Or.inr (sn_141 hw))
  replace Eqp74 := Eqp74.wr W360
  replace Fcp74 := Fcp74.other W360 (Or.inl (Ne.symm ne79))
  replace Fnp74 := Fnp74.other W360 (Or.inl (Ne.symm ne79))
  replace Axp74 := Axp74.other W360 (Ne.symm no_xm)
  replace F_o_pendingBack := F_o_pendingBack.other W360 (Or.inr (sn_142 hw))
  replace F_o_firstOut := F_o_firstOut.other W360 (Or.inr (sn_143 hw))
  replace Aqp168 := Aqp168.other W360 (Ne.symm ne209)
  replace F_o_firstIn := F_o_firstIn.other W360 (Or.inr (sn_144 hw))
  replace Aqp192 := Aqp192.other W360 (Ne.symm ne230)
  replace A_pl := A_pl.other W360 (Ne.symm ne252)
  replace F_o_place := F_o_place.other W360 (Or.inr (sn_145 hw))
  replace F_o_latestOut := F_o_latestOut.other W360 (Or.inr (sn_146 hw))
  replace F_o_latestIn := F_o_latestIn.other W360 (Or.inr (sn_147 hw))
  replace Aqp255 := Aqp255.other W360 (Ne.symm ne282)
  replace Aqp263 := Aqp263.other W360 (Ne.symm ne300)
  replace A_ym := A_ym.other W360 (Ne.symm ne323)
  replace F_o_metIn := F_o_metIn.other W360 (Or.inr (sn_148 hw))
  replace A_yb := A_yb.other W360 (Ne.symm ne343)
  replace F_o_metBack := F_o_metBack.same W360
  have Z361 : n0 ≤ h360.size := by rw [W360.size]; exact Z359
  have N362 := Fr.snoc X360 N341 g_o
  have F_o_added : Fld Z h360 o "com/example/isolens/isolens/checker/DynamicOrder" "added" "I" (.int (0 : Int32)) := U_o.get (Or.inl (hw _ (List.mem_of_getElem? (i := 118) rfl))) (by decide) (ty := .int) (by decide)
  have F_o_searches : Fld Z h360 o "com/example/isolens/isolens/checker/DynamicOrder" "searches" "I" (.int (0 : Int32)) := U_o.get (Or.inl (hw _ (List.mem_of_getElem? (i := 146) rfl))) (by decide) (ty := .int) (by decide)
  exact g_retV X360 hx hby hF (Nat.zero_le _) hlk hret d1_282 (by decide) (by decide) (by rw [e360]; exact ⟨rfl, N362, (0 : Int32), (0 : Int32), (0 : Int32), (fun _ => (0 : Int32)), (fun _ => (0 : Int32)), (fun _ => (0 : Int32)), (fun _ => (0 : Int32)), (fun _ => (-1 : Int32)), (fun _ => (-1 : Int32)), (fun _ => (0 : Int32)), (fun _ => (0 : Int32)), (fun _ => (0 : Int32)), (fun _ => (0 : Int32)), xa, xb, xc, xd, pe, xn, pb, xm, fo, fi, pl, yo, yi, ym, yb, (by rw [show (0 : Int32).toInt.toNat = 0 from rfl]; exact own_inv_nil _ _ _ _ _), (by decide), g_o, lne2, lne12, lne22, lne33, lne71, lpe_xn, lne86, lpb_xm, lne218, lne240, lne263, lne293, lne312, lne336, lne357, E_o, Eqp63, Eqp74, F_o_addedFrom, F_o_addedTo, F_o_earlierOut, F_o_earlierIn, F_o_pending, F_o_pendingBack, F_o_firstOut, F_o_firstIn, F_o_place, F_o_latestOut, F_o_latestIn, F_o_metIn, F_o_metBack, F_o_added, F_o_searches, Fcp63, Fnp63, Fcp74, Fnp74, A_xa, A_xb, A_xc, A_xd, Axp63, Axp74, Aqp168, Aqp192, (A_pl.eq (fun j hj => by match j, hj with | 0, _ => rfl | 1, _ => rfl | 2, _ => rfl)), Aqp255, Aqp263, A_ym, A_yb⟩)
theorem ef_10_rm_fr (m : MethodId) (u : Int32) : entryFrame m #[(.int u)] 1 = mkF m 0 #[.val (.int u)] [] := by first | (simp [entryFrame, mkF, argsToLocals, Value.category]; done) | rfl
theorem pn_10 : plainName "com/example/isolens/isolens/checker/DynamicOrderUndoPinLaw" = true := by first | (simp [plainName, overriddenIn]; done) | decide +kernel
theorem d10_0 : decode method_2_code 0 = .ok (.iload_n 0, 1) := by decide +kernel
theorem d10_1 : decode method_2_code 1 = .ok (.iconst 2, 1) := by decide +kernel
theorem d10_2 : decode method_2_code 2 = .ok (.if_icmp .ne 7, 3) := by decide +kernel
theorem d10_9 : decode method_2_code 9 = .ok (.iconst 0, 1) := by decide +kernel
theorem d10_10 : decode method_2_code 10 = .ok (.ireturn, 1) := by decide +kernel
theorem d10_5 : decode method_2_code 5 = .ok (.iconst 1, 1) := by decide +kernel
theorem d10_6 : decode method_2_code 6 = .ok (.goto 4, 3) := by decide +kernel
set_option maxRecDepth 65536 in
set_option maxHeartbeats 40000000 in
theorem rm_fr (l : Launch) (Z : State) (a0 : Array Value) (hw : ∀ d ∈ tables_1, d.before a0 Z = true) (u : Int32) (h0 : Heap)  :
    Ct l Z (⟨"com/example/isolens/isolens/checker/DynamicOrderUndoPinLaw", "fromOf", "(I)I"⟩ : MethodName) method_2_code 1 (some .int) ({ frames := 0, cells := 0, slots := 0, locals := 0 } : Room) #[(.int u)] h0 (QI h0 (fun r => r = own_fr u)) := by
  refine own_met (plainFor_of_name pn_10) (fun m => ef_10_rm_fr m u) ?_
  intro p e s m below meth c T0 EF X0 hx hby hml hown hnm hret hlk hZ hF e0
  refine g_iloadN X0 hx hby d10_0 (pc' := 1) rfl rfl ?_
  refine g_iconst X0 hx hby d10_1 (pc' := 2) rfl (n := (2 : Int32)) (by first | rfl | decide) ?_
  refine g_icmpne X0 hx hby d10_2 (pt := 9) (pf := 5) (by decide) (by decide) rfl (fun (h2 : ¬ u = (2 : Int32)) => ?_) (fun (h2 : u = (2 : Int32)) => ?_)
  · have h2i : ¬ u.toInt = 2 := fun q => h2 (Int32.toInt_inj.mp q)
    refine g_iconst X0 hx hby d10_9 (pc' := 10) rfl (n := (0 : Int32)) (by first | rfl | decide) ?_
    exact g_retI X0 hx hby hF (Nat.zero_le _) hlk hret d10_10 (by decide) (by decide) (⟨⟨_, rfl, (if_neg h2).symm⟩, e0, rfl⟩)
  · have h2i : u.toInt = 2 := congrArg Int32.toInt h2
    refine g_iconst X0 hx hby d10_5 (pc' := 6) rfl (n := (1 : Int32)) (by first | rfl | decide) ?_
    refine g_goto X0 hx hby d10_6 (pc' := 10) (by decide) (by decide) ?_
    exact g_retI X0 hx hby hF (Nat.zero_le _) hlk hret d10_10 (by decide) (by decide) (⟨⟨_, rfl, (if_pos h2).symm⟩, e0, rfl⟩)
theorem ef_11_rm_to (m : MethodId) (u : Int32) : entryFrame m #[(.int u)] 1 = mkF m 0 #[.val (.int u)] [] := by first | (simp [entryFrame, mkF, argsToLocals, Value.category]; done) | rfl
theorem pn_11 : plainName "com/example/isolens/isolens/checker/DynamicOrderUndoPinLaw" = true := by first | (simp [plainName, overriddenIn]; done) | decide +kernel
theorem d11_0 : decode method_3_code 0 = .ok (.iload_n 0, 1) := by decide +kernel
theorem d11_1 : decode method_3_code 1 = .ok (.ifCond .ne 7, 3) := by decide +kernel
theorem d11_8 : decode method_3_code 8 = .ok (.iconst 2, 1) := by decide +kernel
theorem d11_9 : decode method_3_code 9 = .ok (.ireturn, 1) := by decide +kernel
theorem d11_4 : decode method_3_code 4 = .ok (.iconst 1, 1) := by decide +kernel
theorem d11_5 : decode method_3_code 5 = .ok (.goto 4, 3) := by decide +kernel
set_option maxRecDepth 65536 in
set_option maxHeartbeats 40000000 in
theorem rm_to (l : Launch) (Z : State) (a0 : Array Value) (hw : ∀ d ∈ tables_1, d.before a0 Z = true) (u : Int32) (h0 : Heap)  :
    Ct l Z (⟨"com/example/isolens/isolens/checker/DynamicOrderUndoPinLaw", "toOf", "(I)I"⟩ : MethodName) method_3_code 1 (some .int) ({ frames := 0, cells := 0, slots := 0, locals := 0 } : Room) #[(.int u)] h0 (QI h0 (fun r => r = own_to u)) := by
  refine own_met (plainFor_of_name pn_11) (fun m => ef_11_rm_to m u) ?_
  intro p e s m below meth c T0 EF X0 hx hby hml hown hnm hret hlk hZ hF e0
  refine g_iloadN X0 hx hby d11_0 (pc' := 1) rfl rfl ?_
  refine g_ifne X0 hx hby d11_1 (pt := 8) (pf := 4) (by decide) (by decide) rfl (fun (h1 : ¬ u = (0 : Int32)) => ?_) (fun (h1 : u = (0 : Int32)) => ?_)
  · have h1i : ¬ u.toInt = 0 := fun q => h1 (Int32.toInt_inj.mp q)
    refine g_iconst X0 hx hby d11_8 (pc' := 9) rfl (n := (2 : Int32)) (by first | rfl | decide) ?_
    exact g_retI X0 hx hby hF (Nat.zero_le _) hlk hret d11_9 (by decide) (by decide) (⟨⟨_, rfl, (if_neg h1).symm⟩, e0, rfl⟩)
  · have h1i : u.toInt = 0 := congrArg Int32.toInt h1
    refine g_iconst X0 hx hby d11_4 (pc' := 5) rfl (n := (1 : Int32)) (by first | rfl | decide) ?_
    refine g_goto X0 hx hby d11_5 (pc' := 9) (by decide) (by decide) ?_
    exact g_retI X0 hx hby hF (Nat.zero_le _) hlk hret d11_9 (by decide) (by decide) (⟨⟨_, rfl, (if_pos h1).symm⟩, e0, rfl⟩)
theorem ef_15_rm_kp (m : MethodId) (uq : Int32) (ua : Int32) (ub : Int32) (uc : Int32) (um : Int32) : entryFrame m #[(.int uq), (.int ua), (.int ub), (.int uc), (.int um)] 5 = mkF m 0 #[.val (.int uq), .val (.int ua), .val (.int ub), .val (.int uc), .val (.int um)] [] := by first | (simp [entryFrame, mkF, argsToLocals, Value.category]; done) | rfl
theorem pn_15 : plainName "com/example/isolens/isolens/checker/DynamicOrderUndoPinLaw" = true := by first | (simp [plainName, overriddenIn]; done) | decide +kernel
theorem d15_0 : decode method_4_code 0 = .ok (.iload 4, 2) := by decide +kernel
theorem d15_2 : decode method_4_code 2 = .ok (.ifCond .le 8, 3) := by decide +kernel
theorem d15_10 : decode method_4_code 10 = .ok (.iload 4, 2) := by decide +kernel
theorem d15_12 : decode method_4_code 12 = .ok (.iconst 1, 1) := by decide +kernel
theorem d15_13 : decode method_4_code 13 = .ok (.if_icmp .le 8, 3) := by decide +kernel
theorem d15_21 : decode method_4_code 21 = .ok (.iload 4, 2) := by decide +kernel
theorem d15_23 : decode method_4_code 23 = .ok (.iconst 2, 1) := by decide +kernel
theorem d15_24 : decode method_4_code 24 = .ok (.if_icmp .le 12, 3) := by decide +kernel
theorem d15_36 : decode method_4_code 36 = .ok (.iconst 0, 1) := by decide +kernel
theorem d15_37 : decode method_4_code 37 = .ok (.ireturn, 1) := by decide +kernel
theorem d15_27 : decode method_4_code 27 = .ok (.iload_n 3, 1) := by decide +kernel
theorem d15_28 : decode method_4_code 28 = .ok (.iload_n 0, 1) := by decide +kernel
theorem d15_29 : decode method_4_code 29 = .ok (.if_icmp .ne 7, 3) := by decide +kernel
theorem d15_32 : decode method_4_code 32 = .ok (.iconst 1, 1) := by decide +kernel
theorem d15_33 : decode method_4_code 33 = .ok (.goto 4, 3) := by decide +kernel
theorem d15_16 : decode method_4_code 16 = .ok (.iload_n 2, 1) := by decide +kernel
theorem d15_17 : decode method_4_code 17 = .ok (.iload_n 0, 1) := by decide +kernel
theorem d15_18 : decode method_4_code 18 = .ok (.if_icmp .eq 14, 3) := by decide +kernel
theorem d15_5 : decode method_4_code 5 = .ok (.iload_n 1, 1) := by decide +kernel
theorem d15_6 : decode method_4_code 6 = .ok (.iload_n 0, 1) := by decide +kernel
theorem d15_7 : decode method_4_code 7 = .ok (.if_icmp .eq 25, 3) := by decide +kernel
set_option maxRecDepth 65536 in
set_option maxHeartbeats 40000000 in
theorem rm_kp (l : Launch) (Z : State) (a0 : Array Value) (hw : ∀ d ∈ tables_1, d.before a0 Z = true) (uq : Int32) (ua : Int32) (ub : Int32) (uc : Int32) (um : Int32) (h0 : Heap)  :
    Ct l Z (⟨"com/example/isolens/isolens/checker/DynamicOrderUndoPinLaw", "kept", "(IIIII)Z"⟩ : MethodName) method_4_code 5 (some .boolean) ({ frames := 0, cells := 0, slots := 0, locals := 0 } : Room) #[(.int uq), (.int ua), (.int ub), (.int uc), (.int um)] h0 (QI h0 (fun r => own_bool r (own_kp uq ua ub uc um))) := by
  refine own_met (plainFor_of_name pn_15) (fun m => ef_15_rm_kp m uq ua ub uc um) ?_
  intro p e s m below meth c T0 EF X0 hx hby hml hown hnm hret hlk hZ hF e0
  refine g_iload X0 hx hby d15_0 (pc' := 2) rfl rfl ?_
  refine g_ifle X0 hx hby d15_2 (pt := 10) (pf := 5) (by decide) (by decide) rfl (fun (h2 : um.toInt ≤ 0) => ?_) (fun (h2 : 0 < um.toInt) => ?_)
  · refine g_iload X0 hx hby d15_10 (pc' := 12) rfl rfl ?_
    refine g_iconst X0 hx hby d15_12 (pc' := 13) rfl (n := (1 : Int32)) (by first | rfl | decide) ?_
    refine g_icmple X0 hx hby d15_13 (pt := 21) (pf := 16) (by decide) (by decide) rfl (fun (h13 : um.toInt ≤ 1) => ?_) (fun (h13 : 1 < um.toInt) => ?_)
    · refine g_iload X0 hx hby d15_21 (pc' := 23) rfl rfl ?_
      refine g_iconst X0 hx hby d15_23 (pc' := 24) rfl (n := (2 : Int32)) (by first | rfl | decide) ?_
      refine g_icmple X0 hx hby d15_24 (pt := 36) (pf := 27) (by decide) (by decide) rfl (fun (h24 : um.toInt ≤ 2) => ?_) (fun (h24 : 2 < um.toInt) => ?_)
      · refine g_iconst X0 hx hby d15_36 (pc' := 37) rfl (n := (0 : Int32)) (by first | rfl | decide) ?_
        exact g_retZ X0 hx hby hF (Nat.zero_le _) hlk (Or.inl rfl) hret d15_37 (by decide) (by decide) (⟨⟨_, rfl, Or.inr ⟨rfl, by intro q; rcases q with ⟨q1, q2⟩ | ⟨q1, q2⟩ | ⟨q1, q2⟩ <;> first | omega | exact h7 q2 | exact h18 q2 | exact h29 q2⟩⟩, e0, rfl⟩)
      · refine g_iloadN X0 hx hby d15_27 (pc' := 28) rfl rfl ?_
        refine g_iloadN X0 hx hby d15_28 (pc' := 29) rfl rfl ?_
        refine g_icmpne X0 hx hby d15_29 (pt := 36) (pf := 32) (by decide) (by decide) rfl (fun (h29 : ¬ uc = uq) => ?_) (fun (h29 : uc = uq) => ?_)
        · have h29i : ¬ uc.toInt = uq.toInt := fun q => h29 (Int32.toInt_inj.mp q)
          refine g_iconst X0 hx hby d15_36 (pc' := 37) rfl (n := (0 : Int32)) (by first | rfl | decide) ?_
          exact g_retZ X0 hx hby hF (Nat.zero_le _) hlk (Or.inl rfl) hret d15_37 (by decide) (by decide) (⟨⟨_, rfl, Or.inr ⟨rfl, by intro q; rcases q with ⟨q1, q2⟩ | ⟨q1, q2⟩ | ⟨q1, q2⟩ <;> first | omega | exact h7 q2 | exact h18 q2 | exact h29 q2⟩⟩, e0, rfl⟩)
        · have h29i : uc.toInt = uq.toInt := congrArg Int32.toInt h29
          refine g_iconst X0 hx hby d15_32 (pc' := 33) rfl (n := (1 : Int32)) (by first | rfl | decide) ?_
          refine g_goto X0 hx hby d15_33 (pc' := 37) (by decide) (by decide) ?_
          exact g_retZ X0 hx hby hF (Nat.zero_le _) hlk (Or.inr rfl) hret d15_37 (by decide) (by decide) (⟨⟨_, rfl, Or.inl ⟨rfl, by first | exact Or.inl ⟨by omega, h7⟩ | exact Or.inr (Or.inl ⟨by omega, h18⟩) | exact Or.inr (Or.inr ⟨by omega, h29⟩)⟩⟩, e0, rfl⟩)
    · refine g_iloadN X0 hx hby d15_16 (pc' := 17) rfl rfl ?_
      refine g_iloadN X0 hx hby d15_17 (pc' := 18) rfl rfl ?_
      refine g_icmpeq X0 hx hby d15_18 (pt := 32) (pf := 21) (by decide) (by decide) rfl (fun (h18 : ub = uq) => ?_) (fun (h18 : ¬ ub = uq) => ?_)
      · have h18i : ub.toInt = uq.toInt := congrArg Int32.toInt h18
        refine g_iconst X0 hx hby d15_32 (pc' := 33) rfl (n := (1 : Int32)) (by first | rfl | decide) ?_
        refine g_goto X0 hx hby d15_33 (pc' := 37) (by decide) (by decide) ?_
        exact g_retZ X0 hx hby hF (Nat.zero_le _) hlk (Or.inr rfl) hret d15_37 (by decide) (by decide) (⟨⟨_, rfl, Or.inl ⟨rfl, by first | exact Or.inl ⟨by omega, h7⟩ | exact Or.inr (Or.inl ⟨by omega, h18⟩) | exact Or.inr (Or.inr ⟨by omega, h29⟩)⟩⟩, e0, rfl⟩)
      · have h18i : ¬ ub.toInt = uq.toInt := fun q => h18 (Int32.toInt_inj.mp q)
        refine g_iload X0 hx hby d15_21 (pc' := 23) rfl rfl ?_
        refine g_iconst X0 hx hby d15_23 (pc' := 24) rfl (n := (2 : Int32)) (by first | rfl | decide) ?_
        refine g_icmple X0 hx hby d15_24 (pt := 36) (pf := 27) (by decide) (by decide) rfl (fun (h24 : um.toInt ≤ 2) => ?_) (fun (h24 : 2 < um.toInt) => ?_)
        · refine g_iconst X0 hx hby d15_36 (pc' := 37) rfl (n := (0 : Int32)) (by first | rfl | decide) ?_
          exact g_retZ X0 hx hby hF (Nat.zero_le _) hlk (Or.inl rfl) hret d15_37 (by decide) (by decide) (⟨⟨_, rfl, Or.inr ⟨rfl, by intro q; rcases q with ⟨q1, q2⟩ | ⟨q1, q2⟩ | ⟨q1, q2⟩ <;> first | omega | exact h7 q2 | exact h18 q2 | exact h29 q2⟩⟩, e0, rfl⟩)
        · refine g_iloadN X0 hx hby d15_27 (pc' := 28) rfl rfl ?_
          refine g_iloadN X0 hx hby d15_28 (pc' := 29) rfl rfl ?_
          refine g_icmpne X0 hx hby d15_29 (pt := 36) (pf := 32) (by decide) (by decide) rfl (fun (h29 : ¬ uc = uq) => ?_) (fun (h29 : uc = uq) => ?_)
          · have h29i : ¬ uc.toInt = uq.toInt := fun q => h29 (Int32.toInt_inj.mp q)
            refine g_iconst X0 hx hby d15_36 (pc' := 37) rfl (n := (0 : Int32)) (by first | rfl | decide) ?_
            exact g_retZ X0 hx hby hF (Nat.zero_le _) hlk (Or.inl rfl) hret d15_37 (by decide) (by decide) (⟨⟨_, rfl, Or.inr ⟨rfl, by intro q; rcases q with ⟨q1, q2⟩ | ⟨q1, q2⟩ | ⟨q1, q2⟩ <;> first | omega | exact h7 q2 | exact h18 q2 | exact h29 q2⟩⟩, e0, rfl⟩)
          · have h29i : uc.toInt = uq.toInt := congrArg Int32.toInt h29
            refine g_iconst X0 hx hby d15_32 (pc' := 33) rfl (n := (1 : Int32)) (by first | rfl | decide) ?_
            refine g_goto X0 hx hby d15_33 (pc' := 37) (by decide) (by decide) ?_
            exact g_retZ X0 hx hby hF (Nat.zero_le _) hlk (Or.inr rfl) hret d15_37 (by decide) (by decide) (⟨⟨_, rfl, Or.inl ⟨rfl, by first | exact Or.inl ⟨by omega, h7⟩ | exact Or.inr (Or.inl ⟨by omega, h18⟩) | exact Or.inr (Or.inr ⟨by omega, h29⟩)⟩⟩, e0, rfl⟩)
  · refine g_iloadN X0 hx hby d15_5 (pc' := 6) rfl rfl ?_
    refine g_iloadN X0 hx hby d15_6 (pc' := 7) rfl rfl ?_
    refine g_icmpeq X0 hx hby d15_7 (pt := 32) (pf := 10) (by decide) (by decide) rfl (fun (h7 : ua = uq) => ?_) (fun (h7 : ¬ ua = uq) => ?_)
    · have h7i : ua.toInt = uq.toInt := congrArg Int32.toInt h7
      refine g_iconst X0 hx hby d15_32 (pc' := 33) rfl (n := (1 : Int32)) (by first | rfl | decide) ?_
      refine g_goto X0 hx hby d15_33 (pc' := 37) (by decide) (by decide) ?_
      exact g_retZ X0 hx hby hF (Nat.zero_le _) hlk (Or.inr rfl) hret d15_37 (by decide) (by decide) (⟨⟨_, rfl, Or.inl ⟨rfl, by first | exact Or.inl ⟨by omega, h7⟩ | exact Or.inr (Or.inl ⟨by omega, h18⟩) | exact Or.inr (Or.inr ⟨by omega, h29⟩)⟩⟩, e0, rfl⟩)
    · have h7i : ¬ ua.toInt = uq.toInt := fun q => h7 (Int32.toInt_inj.mp q)
      refine g_iload X0 hx hby d15_10 (pc' := 12) rfl rfl ?_
      refine g_iconst X0 hx hby d15_12 (pc' := 13) rfl (n := (1 : Int32)) (by first | rfl | decide) ?_
      refine g_icmple X0 hx hby d15_13 (pt := 21) (pf := 16) (by decide) (by decide) rfl (fun (h13 : um.toInt ≤ 1) => ?_) (fun (h13 : 1 < um.toInt) => ?_)
      · refine g_iload X0 hx hby d15_21 (pc' := 23) rfl rfl ?_
        refine g_iconst X0 hx hby d15_23 (pc' := 24) rfl (n := (2 : Int32)) (by first | rfl | decide) ?_
        refine g_icmple X0 hx hby d15_24 (pt := 36) (pf := 27) (by decide) (by decide) rfl (fun (h24 : um.toInt ≤ 2) => ?_) (fun (h24 : 2 < um.toInt) => ?_)
        · refine g_iconst X0 hx hby d15_36 (pc' := 37) rfl (n := (0 : Int32)) (by first | rfl | decide) ?_
          exact g_retZ X0 hx hby hF (Nat.zero_le _) hlk (Or.inl rfl) hret d15_37 (by decide) (by decide) (⟨⟨_, rfl, Or.inr ⟨rfl, by intro q; rcases q with ⟨q1, q2⟩ | ⟨q1, q2⟩ | ⟨q1, q2⟩ <;> first | omega | exact h7 q2 | exact h18 q2 | exact h29 q2⟩⟩, e0, rfl⟩)
        · refine g_iloadN X0 hx hby d15_27 (pc' := 28) rfl rfl ?_
          refine g_iloadN X0 hx hby d15_28 (pc' := 29) rfl rfl ?_
          refine g_icmpne X0 hx hby d15_29 (pt := 36) (pf := 32) (by decide) (by decide) rfl (fun (h29 : ¬ uc = uq) => ?_) (fun (h29 : uc = uq) => ?_)
          · have h29i : ¬ uc.toInt = uq.toInt := fun q => h29 (Int32.toInt_inj.mp q)
            refine g_iconst X0 hx hby d15_36 (pc' := 37) rfl (n := (0 : Int32)) (by first | rfl | decide) ?_
            exact g_retZ X0 hx hby hF (Nat.zero_le _) hlk (Or.inl rfl) hret d15_37 (by decide) (by decide) (⟨⟨_, rfl, Or.inr ⟨rfl, by intro q; rcases q with ⟨q1, q2⟩ | ⟨q1, q2⟩ | ⟨q1, q2⟩ <;> first | omega | exact h7 q2 | exact h18 q2 | exact h29 q2⟩⟩, e0, rfl⟩)
          · have h29i : uc.toInt = uq.toInt := congrArg Int32.toInt h29
            refine g_iconst X0 hx hby d15_32 (pc' := 33) rfl (n := (1 : Int32)) (by first | rfl | decide) ?_
            refine g_goto X0 hx hby d15_33 (pc' := 37) (by decide) (by decide) ?_
            exact g_retZ X0 hx hby hF (Nat.zero_le _) hlk (Or.inr rfl) hret d15_37 (by decide) (by decide) (⟨⟨_, rfl, Or.inl ⟨rfl, by first | exact Or.inl ⟨by omega, h7⟩ | exact Or.inr (Or.inl ⟨by omega, h18⟩) | exact Or.inr (Or.inr ⟨by omega, h29⟩)⟩⟩, e0, rfl⟩)
      · refine g_iloadN X0 hx hby d15_16 (pc' := 17) rfl rfl ?_
        refine g_iloadN X0 hx hby d15_17 (pc' := 18) rfl rfl ?_
        refine g_icmpeq X0 hx hby d15_18 (pt := 32) (pf := 21) (by decide) (by decide) rfl (fun (h18 : ub = uq) => ?_) (fun (h18 : ¬ ub = uq) => ?_)
        · have h18i : ub.toInt = uq.toInt := congrArg Int32.toInt h18
          refine g_iconst X0 hx hby d15_32 (pc' := 33) rfl (n := (1 : Int32)) (by first | rfl | decide) ?_
          refine g_goto X0 hx hby d15_33 (pc' := 37) (by decide) (by decide) ?_
          exact g_retZ X0 hx hby hF (Nat.zero_le _) hlk (Or.inr rfl) hret d15_37 (by decide) (by decide) (⟨⟨_, rfl, Or.inl ⟨rfl, by first | exact Or.inl ⟨by omega, h7⟩ | exact Or.inr (Or.inl ⟨by omega, h18⟩) | exact Or.inr (Or.inr ⟨by omega, h29⟩)⟩⟩, e0, rfl⟩)
        · have h18i : ¬ ub.toInt = uq.toInt := fun q => h18 (Int32.toInt_inj.mp q)
          refine g_iload X0 hx hby d15_21 (pc' := 23) rfl rfl ?_
          refine g_iconst X0 hx hby d15_23 (pc' := 24) rfl (n := (2 : Int32)) (by first | rfl | decide) ?_
          refine g_icmple X0 hx hby d15_24 (pt := 36) (pf := 27) (by decide) (by decide) rfl (fun (h24 : um.toInt ≤ 2) => ?_) (fun (h24 : 2 < um.toInt) => ?_)
          · refine g_iconst X0 hx hby d15_36 (pc' := 37) rfl (n := (0 : Int32)) (by first | rfl | decide) ?_
            exact g_retZ X0 hx hby hF (Nat.zero_le _) hlk (Or.inl rfl) hret d15_37 (by decide) (by decide) (⟨⟨_, rfl, Or.inr ⟨rfl, by intro q; rcases q with ⟨q1, q2⟩ | ⟨q1, q2⟩ | ⟨q1, q2⟩ <;> first | omega | exact h7 q2 | exact h18 q2 | exact h29 q2⟩⟩, e0, rfl⟩)
          · refine g_iloadN X0 hx hby d15_27 (pc' := 28) rfl rfl ?_
            refine g_iloadN X0 hx hby d15_28 (pc' := 29) rfl rfl ?_
            refine g_icmpne X0 hx hby d15_29 (pt := 36) (pf := 32) (by decide) (by decide) rfl (fun (h29 : ¬ uc = uq) => ?_) (fun (h29 : uc = uq) => ?_)
            · have h29i : ¬ uc.toInt = uq.toInt := fun q => h29 (Int32.toInt_inj.mp q)
              refine g_iconst X0 hx hby d15_36 (pc' := 37) rfl (n := (0 : Int32)) (by first | rfl | decide) ?_
              exact g_retZ X0 hx hby hF (Nat.zero_le _) hlk (Or.inl rfl) hret d15_37 (by decide) (by decide) (⟨⟨_, rfl, Or.inr ⟨rfl, by intro q; rcases q with ⟨q1, q2⟩ | ⟨q1, q2⟩ | ⟨q1, q2⟩ <;> first | omega | exact h7 q2 | exact h18 q2 | exact h29 q2⟩⟩, e0, rfl⟩)
            · have h29i : uc.toInt = uq.toInt := congrArg Int32.toInt h29
              refine g_iconst X0 hx hby d15_32 (pc' := 33) rfl (n := (1 : Int32)) (by first | rfl | decide) ?_
              refine g_goto X0 hx hby d15_33 (pc' := 37) (by decide) (by decide) ?_
              exact g_retZ X0 hx hby hF (Nat.zero_le _) hlk (Or.inr rfl) hret d15_37 (by decide) (by decide) (⟨⟨_, rfl, Or.inl ⟨rfl, by first | exact Or.inl ⟨by omega, h7⟩ | exact Or.inr (Or.inl ⟨by omega, h18⟩) | exact Or.inr (Or.inr ⟨by omega, h29⟩)⟩⟩, e0, rfl⟩)
theorem ef_12_rm_add (m : MethodId) (o : Addr) (uf : Int32) (ut : Int32) : entryFrame m #[(.ref o), (.int uf), (.int ut)] 3 = mkF m 0 #[.val (.ref o), .val (.int uf), .val (.int ut)] [] := by first | (simp [entryFrame, mkF, argsToLocals, Value.category]; done) | rfl
theorem pn_12 : plainName "com/example/isolens/isolens/checker/DynamicOrder" = true := by first | (simp [plainName, overriddenIn]; done) | decide +kernel
theorem d12_0 : decode prog_17_method_8_code 0 = .ok (.iload_n 1, 1) := by decide +kernel
theorem d12_1 : decode prog_17_method_8_code 1 = .ok (.iload_n 2, 1) := by decide +kernel
theorem d12_2 : decode prog_17_method_8_code 2 = .ok (.if_icmp .ne 5, 3) := by decide +kernel
theorem d12_7 : decode prog_17_method_8_code 7 = .ok (.aload_n 0, 1) := by decide +kernel
theorem d12_8 : decode prog_17_method_8_code 8 = .ok (.getfield 81, 3) := by decide +kernel
theorem d12_11 : decode prog_17_method_8_code 11 = .ok (.iload_n 2, 1) := by decide +kernel
theorem d12_12 : decode prog_17_method_8_code 12 = .ok (.iaload, 1) := by decide +kernel
theorem d12_13 : decode prog_17_method_8_code 13 = .ok (.aload_n 0, 1) := by decide +kernel
theorem d12_14 : decode prog_17_method_8_code 14 = .ok (.getfield 81, 3) := by decide +kernel
theorem d12_17 : decode prog_17_method_8_code 17 = .ok (.iload_n 1, 1) := by decide +kernel
theorem d12_18 : decode prog_17_method_8_code 18 = .ok (.iaload, 1) := by decide +kernel
theorem d12_19 : decode prog_17_method_8_code 19 = .ok (.if_icmp .ge 47, 3) := by decide +kernel
theorem d12_66 : decode prog_17_method_8_code 66 = .ok (.aload_n 0, 1) := by decide +kernel
theorem d12_67 : decode prog_17_method_8_code 67 = .ok (.getfield 151, 3) := by decide +kernel
theorem d12_70 : decode prog_17_method_8_code 70 = .ok (.aload_n 0, 1) := by decide +kernel
theorem d12_71 : decode prog_17_method_8_code 71 = .ok (.getfield 7, 3) := by decide +kernel
theorem d12_74 : decode prog_17_method_8_code 74 = .ok (.arraylength, 1) := by decide +kernel
theorem d12_75 : decode prog_17_method_8_code 75 = .ok (.if_icmp .ne 71, 3) := by decide +kernel
theorem d12_146 : decode prog_17_method_8_code 146 = .ok (.aload_n 0, 1) := by decide +kernel
theorem d12_147 : decode prog_17_method_8_code 147 = .ok (.getfield 7, 3) := by decide +kernel
theorem d12_150 : decode prog_17_method_8_code 150 = .ok (.aload_n 0, 1) := by decide +kernel
theorem d12_151 : decode prog_17_method_8_code 151 = .ok (.getfield 151, 3) := by decide +kernel
theorem d12_154 : decode prog_17_method_8_code 154 = .ok (.iload_n 1, 1) := by decide +kernel
theorem d12_155 : decode prog_17_method_8_code 155 = .ok (.iastore, 1) := by decide +kernel
theorem d12_156 : decode prog_17_method_8_code 156 = .ok (.aload_n 0, 1) := by decide +kernel
theorem d12_157 : decode prog_17_method_8_code 157 = .ok (.getfield 13, 3) := by decide +kernel
theorem d12_160 : decode prog_17_method_8_code 160 = .ok (.aload_n 0, 1) := by decide +kernel
theorem d12_161 : decode prog_17_method_8_code 161 = .ok (.getfield 151, 3) := by decide +kernel
theorem d12_164 : decode prog_17_method_8_code 164 = .ok (.iload_n 2, 1) := by decide +kernel
theorem d12_165 : decode prog_17_method_8_code 165 = .ok (.iastore, 1) := by decide +kernel
theorem d12_166 : decode prog_17_method_8_code 166 = .ok (.aload_n 0, 1) := by decide +kernel
theorem d12_167 : decode prog_17_method_8_code 167 = .ok (.getfield 16, 3) := by decide +kernel
theorem d12_170 : decode prog_17_method_8_code 170 = .ok (.aload_n 0, 1) := by decide +kernel
theorem d12_171 : decode prog_17_method_8_code 171 = .ok (.getfield 151, 3) := by decide +kernel
theorem d12_174 : decode prog_17_method_8_code 174 = .ok (.aload_n 0, 1) := by decide +kernel
theorem d12_175 : decode prog_17_method_8_code 175 = .ok (.getfield 84, 3) := by decide +kernel
theorem d12_178 : decode prog_17_method_8_code 178 = .ok (.iload_n 1, 1) := by decide +kernel
theorem d12_179 : decode prog_17_method_8_code 179 = .ok (.iaload, 1) := by decide +kernel
theorem d12_180 : decode prog_17_method_8_code 180 = .ok (.iastore, 1) := by decide +kernel
theorem d12_181 : decode prog_17_method_8_code 181 = .ok (.aload_n 0, 1) := by decide +kernel
theorem d12_182 : decode prog_17_method_8_code 182 = .ok (.getfield 19, 3) := by decide +kernel
theorem d12_185 : decode prog_17_method_8_code 185 = .ok (.aload_n 0, 1) := by decide +kernel
theorem d12_186 : decode prog_17_method_8_code 186 = .ok (.getfield 151, 3) := by decide +kernel
theorem d12_189 : decode prog_17_method_8_code 189 = .ok (.aload_n 0, 1) := by decide +kernel
theorem d12_190 : decode prog_17_method_8_code 190 = .ok (.getfield 87, 3) := by decide +kernel
theorem d12_193 : decode prog_17_method_8_code 193 = .ok (.iload_n 2, 1) := by decide +kernel
theorem d12_194 : decode prog_17_method_8_code 194 = .ok (.iaload, 1) := by decide +kernel
theorem d12_195 : decode prog_17_method_8_code 195 = .ok (.iastore, 1) := by decide +kernel
theorem d12_196 : decode prog_17_method_8_code 196 = .ok (.aload_n 0, 1) := by decide +kernel
theorem d12_197 : decode prog_17_method_8_code 197 = .ok (.getfield 84, 3) := by decide +kernel
theorem d12_200 : decode prog_17_method_8_code 200 = .ok (.iload_n 1, 1) := by decide +kernel
theorem d12_201 : decode prog_17_method_8_code 201 = .ok (.aload_n 0, 1) := by decide +kernel
theorem d12_202 : decode prog_17_method_8_code 202 = .ok (.getfield 151, 3) := by decide +kernel
theorem d12_205 : decode prog_17_method_8_code 205 = .ok (.iastore, 1) := by decide +kernel
theorem d12_206 : decode prog_17_method_8_code 206 = .ok (.aload_n 0, 1) := by decide +kernel
theorem d12_207 : decode prog_17_method_8_code 207 = .ok (.getfield 87, 3) := by decide +kernel
theorem d12_210 : decode prog_17_method_8_code 210 = .ok (.iload_n 2, 1) := by decide +kernel
theorem d12_211 : decode prog_17_method_8_code 211 = .ok (.aload_n 0, 1) := by decide +kernel
theorem d12_212 : decode prog_17_method_8_code 212 = .ok (.getfield 151, 3) := by decide +kernel
theorem d12_215 : decode prog_17_method_8_code 215 = .ok (.iastore, 1) := by decide +kernel
theorem d12_216 : decode prog_17_method_8_code 216 = .ok (.aload_n 0, 1) := by decide +kernel
theorem d12_217 : decode prog_17_method_8_code 217 = .ok (.dup, 1) := by decide +kernel
theorem d12_218 : decode prog_17_method_8_code 218 = .ok (.getfield 151, 3) := by decide +kernel
theorem d12_221 : decode prog_17_method_8_code 221 = .ok (.iconst 1, 1) := by decide +kernel
theorem d12_222 : decode prog_17_method_8_code 222 = .ok (.iadd, 1) := by decide +kernel
theorem d12_223 : decode prog_17_method_8_code 223 = .ok (.putfield 151, 3) := by decide +kernel
theorem sn_149 {a0 : Array Value} {Z : State} (hw : ∀ d ∈ tables_1, d.before a0 Z = true) : Jvm.RoadKit.slotOf Z "com/example/isolens/isolens/checker/DynamicOrder" "addedFrom" "[I" ≠ Jvm.RoadKit.slotOf Z "com/example/isolens/isolens/checker/DynamicOrder" "added" "I" := slot_ne (Or.inl (hw _ (List.mem_of_getElem? (i := 12) rfl))) (Or.inl (hw _ (List.mem_of_getElem? (i := 118) rfl))) (by decide) (t := (.array .int)) (t' := .int) (by decide) (by decide)
theorem sn_150 {a0 : Array Value} {Z : State} (hw : ∀ d ∈ tables_1, d.before a0 Z = true) : Jvm.RoadKit.slotOf Z "com/example/isolens/isolens/checker/DynamicOrder" "addedTo" "[I" ≠ Jvm.RoadKit.slotOf Z "com/example/isolens/isolens/checker/DynamicOrder" "added" "I" := slot_ne (Or.inl (hw _ (List.mem_of_getElem? (i := 14) rfl))) (Or.inl (hw _ (List.mem_of_getElem? (i := 118) rfl))) (by decide) (t := (.array .int)) (t' := .int) (by decide) (by decide)
theorem sn_151 {a0 : Array Value} {Z : State} (hw : ∀ d ∈ tables_1, d.before a0 Z = true) : Jvm.RoadKit.slotOf Z "com/example/isolens/isolens/checker/DynamicOrder" "earlierOut" "[I" ≠ Jvm.RoadKit.slotOf Z "com/example/isolens/isolens/checker/DynamicOrder" "added" "I" := slot_ne (Or.inl (hw _ (List.mem_of_getElem? (i := 16) rfl))) (Or.inl (hw _ (List.mem_of_getElem? (i := 118) rfl))) (by decide) (t := (.array .int)) (t' := .int) (by decide) (by decide)
theorem sn_152 {a0 : Array Value} {Z : State} (hw : ∀ d ∈ tables_1, d.before a0 Z = true) : Jvm.RoadKit.slotOf Z "com/example/isolens/isolens/checker/DynamicOrder" "earlierIn" "[I" ≠ Jvm.RoadKit.slotOf Z "com/example/isolens/isolens/checker/DynamicOrder" "added" "I" := slot_ne (Or.inl (hw _ (List.mem_of_getElem? (i := 18) rfl))) (Or.inl (hw _ (List.mem_of_getElem? (i := 118) rfl))) (by decide) (t := (.array .int)) (t' := .int) (by decide) (by decide)
theorem sn_153 {a0 : Array Value} {Z : State} (hw : ∀ d ∈ tables_1, d.before a0 Z = true) : Jvm.RoadKit.slotOf Z "com/example/isolens/isolens/checker/DynamicOrder" "pending" "Lcom/example/isolens/isolens/checker/DynamicOrder$Found;" ≠ Jvm.RoadKit.slotOf Z "com/example/isolens/isolens/checker/DynamicOrder" "added" "I" := slot_ne (Or.inr (hw _ (List.mem_of_getElem? (i := 33) rfl))) (Or.inl (hw _ (List.mem_of_getElem? (i := 118) rfl))) (by decide) (t := (.object "com/example/isolens/isolens/checker/DynamicOrder$Found")) (t' := .int) (by decide) (by decide)
theorem sn_154 {a0 : Array Value} {Z : State} (hw : ∀ d ∈ tables_1, d.before a0 Z = true) : Jvm.RoadKit.slotOf Z "com/example/isolens/isolens/checker/DynamicOrder" "pendingBack" "Lcom/example/isolens/isolens/checker/DynamicOrder$Found;" ≠ Jvm.RoadKit.slotOf Z "com/example/isolens/isolens/checker/DynamicOrder" "added" "I" := slot_ne (Or.inr (hw _ (List.mem_of_getElem? (i := 35) rfl))) (Or.inl (hw _ (List.mem_of_getElem? (i := 118) rfl))) (by decide) (t := (.object "com/example/isolens/isolens/checker/DynamicOrder$Found")) (t' := .int) (by decide) (by decide)
theorem sn_155 {a0 : Array Value} {Z : State} (hw : ∀ d ∈ tables_1, d.before a0 Z = true) : Jvm.RoadKit.slotOf Z "com/example/isolens/isolens/checker/DynamicOrder" "firstOut" "[I" ≠ Jvm.RoadKit.slotOf Z "com/example/isolens/isolens/checker/DynamicOrder" "added" "I" := slot_ne (Or.inr (hw _ (List.mem_of_getElem? (i := 73) rfl))) (Or.inl (hw _ (List.mem_of_getElem? (i := 118) rfl))) (by decide) (t := (.array .int)) (t' := .int) (by decide) (by decide)
theorem sn_156 {a0 : Array Value} {Z : State} (hw : ∀ d ∈ tables_1, d.before a0 Z = true) : Jvm.RoadKit.slotOf Z "com/example/isolens/isolens/checker/DynamicOrder" "firstIn" "[I" ≠ Jvm.RoadKit.slotOf Z "com/example/isolens/isolens/checker/DynamicOrder" "added" "I" := slot_ne (Or.inr (hw _ (List.mem_of_getElem? (i := 88) rfl))) (Or.inl (hw _ (List.mem_of_getElem? (i := 118) rfl))) (by decide) (t := (.array .int)) (t' := .int) (by decide) (by decide)
theorem sn_157 {a0 : Array Value} {Z : State} (hw : ∀ d ∈ tables_1, d.before a0 Z = true) : Jvm.RoadKit.slotOf Z "com/example/isolens/isolens/checker/DynamicOrder" "place" "[I" ≠ Jvm.RoadKit.slotOf Z "com/example/isolens/isolens/checker/DynamicOrder" "added" "I" := slot_ne (Or.inr (hw _ (List.mem_of_getElem? (i := 92) rfl))) (Or.inl (hw _ (List.mem_of_getElem? (i := 118) rfl))) (by decide) (t := (.array .int)) (t' := .int) (by decide) (by decide)
theorem sn_158 {a0 : Array Value} {Z : State} (hw : ∀ d ∈ tables_1, d.before a0 Z = true) : Jvm.RoadKit.slotOf Z "com/example/isolens/isolens/checker/DynamicOrder" "latestOut" "[I" ≠ Jvm.RoadKit.slotOf Z "com/example/isolens/isolens/checker/DynamicOrder" "added" "I" := slot_ne (Or.inr (hw _ (List.mem_of_getElem? (i := 94) rfl))) (Or.inl (hw _ (List.mem_of_getElem? (i := 118) rfl))) (by decide) (t := (.array .int)) (t' := .int) (by decide) (by decide)
theorem sn_159 {a0 : Array Value} {Z : State} (hw : ∀ d ∈ tables_1, d.before a0 Z = true) : Jvm.RoadKit.slotOf Z "com/example/isolens/isolens/checker/DynamicOrder" "latestIn" "[I" ≠ Jvm.RoadKit.slotOf Z "com/example/isolens/isolens/checker/DynamicOrder" "added" "I" := slot_ne (Or.inr (hw _ (List.mem_of_getElem? (i := 96) rfl))) (Or.inl (hw _ (List.mem_of_getElem? (i := 118) rfl))) (by decide) (t := (.array .int)) (t' := .int) (by decide) (by decide)
theorem sn_160 {a0 : Array Value} {Z : State} (hw : ∀ d ∈ tables_1, d.before a0 Z = true) : Jvm.RoadKit.slotOf Z "com/example/isolens/isolens/checker/DynamicOrder" "metIn" "[I" ≠ Jvm.RoadKit.slotOf Z "com/example/isolens/isolens/checker/DynamicOrder" "added" "I" := slot_ne (Or.inr (hw _ (List.mem_of_getElem? (i := 102) rfl))) (Or.inl (hw _ (List.mem_of_getElem? (i := 118) rfl))) (by decide) (t := (.array .int)) (t' := .int) (by decide) (by decide)
theorem sn_161 {a0 : Array Value} {Z : State} (hw : ∀ d ∈ tables_1, d.before a0 Z = true) : Jvm.RoadKit.slotOf Z "com/example/isolens/isolens/checker/DynamicOrder" "metBack" "[I" ≠ Jvm.RoadKit.slotOf Z "com/example/isolens/isolens/checker/DynamicOrder" "added" "I" := slot_ne (Or.inr (hw _ (List.mem_of_getElem? (i := 104) rfl))) (Or.inl (hw _ (List.mem_of_getElem? (i := 118) rfl))) (by decide) (t := (.array .int)) (t' := .int) (by decide) (by decide)
theorem sn_162 {a0 : Array Value} {Z : State} (hw : ∀ d ∈ tables_1, d.before a0 Z = true) : Jvm.RoadKit.slotOf Z "com/example/isolens/isolens/checker/DynamicOrder" "searches" "I" ≠ Jvm.RoadKit.slotOf Z "com/example/isolens/isolens/checker/DynamicOrder" "added" "I" := slot_ne (Or.inl (hw _ (List.mem_of_getElem? (i := 146) rfl))) (Or.inl (hw _ (List.mem_of_getElem? (i := 118) rfl))) (by decide) (t := .int) (t' := .int) (by decide) (by decide)
theorem d12_226 : decode prog_17_method_8_code 226 = .ok (.iconst 1, 1) := by decide +kernel
theorem d12_227 : decode prog_17_method_8_code 227 = .ok (.ireturn, 1) := by decide +kernel
set_option maxRecDepth 65536 in
set_option maxHeartbeats 40000000 in
theorem rm_add (l : Launch) (Z : State) (a0 : Array Value) (hw : ∀ d ∈ tables_1, d.before a0 Z = true) (o : Addr) (uf : Int32) (ut : Int32) (n0 q : Nat) (uk : Int32) (cd : Nat → Int32) (uz uc : Int32) (h0 : Heap) (Z0 : n0 ≤ h0.size) (D : DOL Z n0 h0 o q uk cd) (hc : 0 ≤ uc.toInt ∧ uc.toInt ≤ 2) (hf : uf = own_fr uc) (ht : ut = own_to uc) (hk3 : uk.toInt ≤ 3) (hz : uz.toInt = uk.toInt + 1) :
    Ct l Z (⟨"com/example/isolens/isolens/checker/DynamicOrder", "add", "(II)Z"⟩ : MethodName) prog_17_method_8_code 3 (some .boolean) ({ frames := 0, cells := 0, slots := 0, locals := 0 } : Room) #[(.ref o), (.int uf), (.int ut)] h0 (QD1 Z n0 o q uz (own_ui cd uk.toInt.toNat uc)) := by
  refine own_met (plainFor_of_name pn_12) (fun m => ef_12_rm_add m o uf ut) ?_
  intro p e s m below meth c T0 EF X0 hx hby hml hown hnm hret hlk hZ hF e0
  have N0 := Fr.nil n0
  obtain ⟨sc, cp, cb, fr, tt, eo, ei, lo, li, mi, mb, pn, pq, xa, xb, xc, xd, pe, xn, pb, xm, fo, fi, pl, yo, yi, ym, yb, I, hk0, g_o, k1, k2, k3, k4, k5, k6, k7, k8, k9, k10, k11, k12, k13, k14, k15, E_o, E_pe, E_pb, F_o_addedFrom, F_o_addedTo, F_o_earlierOut, F_o_earlierIn, F_o_pending, F_o_pendingBack, F_o_firstOut, F_o_firstIn, F_o_place, F_o_latestOut, F_o_latestIn, F_o_metIn, F_o_metBack, F_o_added, F_o_searches, F_pe_count, F_pe_nodes, F_pb_count, F_pb_nodes, A_xa, A_xb, A_xc, A_xd, A_xn, A_xm, A_fo, A_fi, A_pl, A_yo, A_yi, A_ym, A_yb⟩ := D
  have ne_o_xa : o ≠ xa := Nat.ne_of_lt k1
  have ne_o_xb : o ≠ xb := Nat.ne_of_lt (Nat.lt_trans k1 k2)
  have ne_o_xc : o ≠ xc := Nat.ne_of_lt (Nat.lt_trans (Nat.lt_trans k1 k2) k3)
  have ne_o_xd : o ≠ xd := Nat.ne_of_lt (Nat.lt_trans (Nat.lt_trans (Nat.lt_trans k1 k2) k3) k4)
  have ne_o_pe : o ≠ pe := Nat.ne_of_lt (Nat.lt_trans (Nat.lt_trans (Nat.lt_trans (Nat.lt_trans k1 k2) k3) k4) k5)
  have ne_o_xn : o ≠ xn := Nat.ne_of_lt (Nat.lt_trans (Nat.lt_trans (Nat.lt_trans (Nat.lt_trans (Nat.lt_trans k1 k2) k3) k4) k5) k6)
  have ne_o_pb : o ≠ pb := Nat.ne_of_lt (Nat.lt_trans (Nat.lt_trans (Nat.lt_trans (Nat.lt_trans (Nat.lt_trans (Nat.lt_trans k1 k2) k3) k4) k5) k6) k7)
  have ne_o_xm : o ≠ xm := Nat.ne_of_lt (Nat.lt_trans (Nat.lt_trans (Nat.lt_trans (Nat.lt_trans (Nat.lt_trans (Nat.lt_trans (Nat.lt_trans k1 k2) k3) k4) k5) k6) k7) k8)
  have ne_o_fo : o ≠ fo := Nat.ne_of_lt (Nat.lt_trans (Nat.lt_trans (Nat.lt_trans (Nat.lt_trans (Nat.lt_trans (Nat.lt_trans (Nat.lt_trans (Nat.lt_trans k1 k2) k3) k4) k5) k6) k7) k8) k9)
  have ne_o_fi : o ≠ fi := Nat.ne_of_lt (Nat.lt_trans (Nat.lt_trans (Nat.lt_trans (Nat.lt_trans (Nat.lt_trans (Nat.lt_trans (Nat.lt_trans (Nat.lt_trans (Nat.lt_trans k1 k2) k3) k4) k5) k6) k7) k8) k9) k10)
  have ne_o_pl : o ≠ pl := Nat.ne_of_lt (Nat.lt_trans (Nat.lt_trans (Nat.lt_trans (Nat.lt_trans (Nat.lt_trans (Nat.lt_trans (Nat.lt_trans (Nat.lt_trans (Nat.lt_trans (Nat.lt_trans k1 k2) k3) k4) k5) k6) k7) k8) k9) k10) k11)
  have ne_o_yo : o ≠ yo := Nat.ne_of_lt (Nat.lt_trans (Nat.lt_trans (Nat.lt_trans (Nat.lt_trans (Nat.lt_trans (Nat.lt_trans (Nat.lt_trans (Nat.lt_trans (Nat.lt_trans (Nat.lt_trans (Nat.lt_trans k1 k2) k3) k4) k5) k6) k7) k8) k9) k10) k11) k12)
  have ne_o_yi : o ≠ yi := Nat.ne_of_lt (Nat.lt_trans (Nat.lt_trans (Nat.lt_trans (Nat.lt_trans (Nat.lt_trans (Nat.lt_trans (Nat.lt_trans (Nat.lt_trans (Nat.lt_trans (Nat.lt_trans (Nat.lt_trans (Nat.lt_trans k1 k2) k3) k4) k5) k6) k7) k8) k9) k10) k11) k12) k13)
  have ne_o_ym : o ≠ ym := Nat.ne_of_lt (Nat.lt_trans (Nat.lt_trans (Nat.lt_trans (Nat.lt_trans (Nat.lt_trans (Nat.lt_trans (Nat.lt_trans (Nat.lt_trans (Nat.lt_trans (Nat.lt_trans (Nat.lt_trans (Nat.lt_trans (Nat.lt_trans k1 k2) k3) k4) k5) k6) k7) k8) k9) k10) k11) k12) k13) k14)
  have ne_o_yb : o ≠ yb := Nat.ne_of_lt (Nat.lt_trans (Nat.lt_trans (Nat.lt_trans (Nat.lt_trans (Nat.lt_trans (Nat.lt_trans (Nat.lt_trans (Nat.lt_trans (Nat.lt_trans (Nat.lt_trans (Nat.lt_trans (Nat.lt_trans (Nat.lt_trans (Nat.lt_trans k1 k2) k3) k4) k5) k6) k7) k8) k9) k10) k11) k12) k13) k14) k15)
  have ne_xa_xb : xa ≠ xb := Nat.ne_of_lt k2
  have ne_xa_xc : xa ≠ xc := Nat.ne_of_lt (Nat.lt_trans k2 k3)
  have ne_xa_xd : xa ≠ xd := Nat.ne_of_lt (Nat.lt_trans (Nat.lt_trans k2 k3) k4)
  have ne_xa_pe : xa ≠ pe := Nat.ne_of_lt (Nat.lt_trans (Nat.lt_trans (Nat.lt_trans k2 k3) k4) k5)
  have ne_xa_xn : xa ≠ xn := Nat.ne_of_lt (Nat.lt_trans (Nat.lt_trans (Nat.lt_trans (Nat.lt_trans k2 k3) k4) k5) k6)
  have ne_xa_pb : xa ≠ pb := Nat.ne_of_lt (Nat.lt_trans (Nat.lt_trans (Nat.lt_trans (Nat.lt_trans (Nat.lt_trans k2 k3) k4) k5) k6) k7)
  have ne_xa_xm : xa ≠ xm := Nat.ne_of_lt (Nat.lt_trans (Nat.lt_trans (Nat.lt_trans (Nat.lt_trans (Nat.lt_trans (Nat.lt_trans k2 k3) k4) k5) k6) k7) k8)
  have ne_xa_fo : xa ≠ fo := Nat.ne_of_lt (Nat.lt_trans (Nat.lt_trans (Nat.lt_trans (Nat.lt_trans (Nat.lt_trans (Nat.lt_trans (Nat.lt_trans k2 k3) k4) k5) k6) k7) k8) k9)
  have ne_xa_fi : xa ≠ fi := Nat.ne_of_lt (Nat.lt_trans (Nat.lt_trans (Nat.lt_trans (Nat.lt_trans (Nat.lt_trans (Nat.lt_trans (Nat.lt_trans (Nat.lt_trans k2 k3) k4) k5) k6) k7) k8) k9) k10)
  have ne_xa_pl : xa ≠ pl := Nat.ne_of_lt (Nat.lt_trans (Nat.lt_trans (Nat.lt_trans (Nat.lt_trans (Nat.lt_trans (Nat.lt_trans (Nat.lt_trans (Nat.lt_trans (Nat.lt_trans k2 k3) k4) k5) k6) k7) k8) k9) k10) k11)
  have ne_xa_yo : xa ≠ yo := Nat.ne_of_lt (Nat.lt_trans (Nat.lt_trans (Nat.lt_trans (Nat.lt_trans (Nat.lt_trans (Nat.lt_trans (Nat.lt_trans (Nat.lt_trans (Nat.lt_trans (Nat.lt_trans k2 k3) k4) k5) k6) k7) k8) k9) k10) k11) k12)
  have ne_xa_yi : xa ≠ yi := Nat.ne_of_lt (Nat.lt_trans (Nat.lt_trans (Nat.lt_trans (Nat.lt_trans (Nat.lt_trans (Nat.lt_trans (Nat.lt_trans (Nat.lt_trans (Nat.lt_trans (Nat.lt_trans (Nat.lt_trans k2 k3) k4) k5) k6) k7) k8) k9) k10) k11) k12) k13)
  have ne_xa_ym : xa ≠ ym := Nat.ne_of_lt (Nat.lt_trans (Nat.lt_trans (Nat.lt_trans (Nat.lt_trans (Nat.lt_trans (Nat.lt_trans (Nat.lt_trans (Nat.lt_trans (Nat.lt_trans (Nat.lt_trans (Nat.lt_trans (Nat.lt_trans k2 k3) k4) k5) k6) k7) k8) k9) k10) k11) k12) k13) k14)
  have ne_xa_yb : xa ≠ yb := Nat.ne_of_lt (Nat.lt_trans (Nat.lt_trans (Nat.lt_trans (Nat.lt_trans (Nat.lt_trans (Nat.lt_trans (Nat.lt_trans (Nat.lt_trans (Nat.lt_trans (Nat.lt_trans (Nat.lt_trans (Nat.lt_trans (Nat.lt_trans k2 k3) k4) k5) k6) k7) k8) k9) k10) k11) k12) k13) k14) k15)
  have ne_xb_xc : xb ≠ xc := Nat.ne_of_lt k3
  have ne_xb_xd : xb ≠ xd := Nat.ne_of_lt (Nat.lt_trans k3 k4)
  have ne_xb_pe : xb ≠ pe := Nat.ne_of_lt (Nat.lt_trans (Nat.lt_trans k3 k4) k5)
  have ne_xb_xn : xb ≠ xn := Nat.ne_of_lt (Nat.lt_trans (Nat.lt_trans (Nat.lt_trans k3 k4) k5) k6)
  have ne_xb_pb : xb ≠ pb := Nat.ne_of_lt (Nat.lt_trans (Nat.lt_trans (Nat.lt_trans (Nat.lt_trans k3 k4) k5) k6) k7)
  have ne_xb_xm : xb ≠ xm := Nat.ne_of_lt (Nat.lt_trans (Nat.lt_trans (Nat.lt_trans (Nat.lt_trans (Nat.lt_trans k3 k4) k5) k6) k7) k8)
  have ne_xb_fo : xb ≠ fo := Nat.ne_of_lt (Nat.lt_trans (Nat.lt_trans (Nat.lt_trans (Nat.lt_trans (Nat.lt_trans (Nat.lt_trans k3 k4) k5) k6) k7) k8) k9)
  have ne_xb_fi : xb ≠ fi := Nat.ne_of_lt (Nat.lt_trans (Nat.lt_trans (Nat.lt_trans (Nat.lt_trans (Nat.lt_trans (Nat.lt_trans (Nat.lt_trans k3 k4) k5) k6) k7) k8) k9) k10)
  have ne_xb_pl : xb ≠ pl := Nat.ne_of_lt (Nat.lt_trans (Nat.lt_trans (Nat.lt_trans (Nat.lt_trans (Nat.lt_trans (Nat.lt_trans (Nat.lt_trans (Nat.lt_trans k3 k4) k5) k6) k7) k8) k9) k10) k11)
  have ne_xb_yo : xb ≠ yo := Nat.ne_of_lt (Nat.lt_trans (Nat.lt_trans (Nat.lt_trans (Nat.lt_trans (Nat.lt_trans (Nat.lt_trans (Nat.lt_trans (Nat.lt_trans (Nat.lt_trans k3 k4) k5) k6) k7) k8) k9) k10) k11) k12)
  have ne_xb_yi : xb ≠ yi := Nat.ne_of_lt (Nat.lt_trans (Nat.lt_trans (Nat.lt_trans (Nat.lt_trans (Nat.lt_trans (Nat.lt_trans (Nat.lt_trans (Nat.lt_trans (Nat.lt_trans (Nat.lt_trans k3 k4) k5) k6) k7) k8) k9) k10) k11) k12) k13)
  have ne_xb_ym : xb ≠ ym := Nat.ne_of_lt (Nat.lt_trans (Nat.lt_trans (Nat.lt_trans (Nat.lt_trans (Nat.lt_trans (Nat.lt_trans (Nat.lt_trans (Nat.lt_trans (Nat.lt_trans (Nat.lt_trans (Nat.lt_trans k3 k4) k5) k6) k7) k8) k9) k10) k11) k12) k13) k14)
  have ne_xb_yb : xb ≠ yb := Nat.ne_of_lt (Nat.lt_trans (Nat.lt_trans (Nat.lt_trans (Nat.lt_trans (Nat.lt_trans (Nat.lt_trans (Nat.lt_trans (Nat.lt_trans (Nat.lt_trans (Nat.lt_trans (Nat.lt_trans (Nat.lt_trans k3 k4) k5) k6) k7) k8) k9) k10) k11) k12) k13) k14) k15)
  have ne_xc_xd : xc ≠ xd := Nat.ne_of_lt k4
  have ne_xc_pe : xc ≠ pe := Nat.ne_of_lt (Nat.lt_trans k4 k5)
  have ne_xc_xn : xc ≠ xn := Nat.ne_of_lt (Nat.lt_trans (Nat.lt_trans k4 k5) k6)
  have ne_xc_pb : xc ≠ pb := Nat.ne_of_lt (Nat.lt_trans (Nat.lt_trans (Nat.lt_trans k4 k5) k6) k7)
  have ne_xc_xm : xc ≠ xm := Nat.ne_of_lt (Nat.lt_trans (Nat.lt_trans (Nat.lt_trans (Nat.lt_trans k4 k5) k6) k7) k8)
  have ne_xc_fo : xc ≠ fo := Nat.ne_of_lt (Nat.lt_trans (Nat.lt_trans (Nat.lt_trans (Nat.lt_trans (Nat.lt_trans k4 k5) k6) k7) k8) k9)
  have ne_xc_fi : xc ≠ fi := Nat.ne_of_lt (Nat.lt_trans (Nat.lt_trans (Nat.lt_trans (Nat.lt_trans (Nat.lt_trans (Nat.lt_trans k4 k5) k6) k7) k8) k9) k10)
  have ne_xc_pl : xc ≠ pl := Nat.ne_of_lt (Nat.lt_trans (Nat.lt_trans (Nat.lt_trans (Nat.lt_trans (Nat.lt_trans (Nat.lt_trans (Nat.lt_trans k4 k5) k6) k7) k8) k9) k10) k11)
  have ne_xc_yo : xc ≠ yo := Nat.ne_of_lt (Nat.lt_trans (Nat.lt_trans (Nat.lt_trans (Nat.lt_trans (Nat.lt_trans (Nat.lt_trans (Nat.lt_trans (Nat.lt_trans k4 k5) k6) k7) k8) k9) k10) k11) k12)
  have ne_xc_yi : xc ≠ yi := Nat.ne_of_lt (Nat.lt_trans (Nat.lt_trans (Nat.lt_trans (Nat.lt_trans (Nat.lt_trans (Nat.lt_trans (Nat.lt_trans (Nat.lt_trans (Nat.lt_trans k4 k5) k6) k7) k8) k9) k10) k11) k12) k13)
  have ne_xc_ym : xc ≠ ym := Nat.ne_of_lt (Nat.lt_trans (Nat.lt_trans (Nat.lt_trans (Nat.lt_trans (Nat.lt_trans (Nat.lt_trans (Nat.lt_trans (Nat.lt_trans (Nat.lt_trans (Nat.lt_trans k4 k5) k6) k7) k8) k9) k10) k11) k12) k13) k14)
  have ne_xc_yb : xc ≠ yb := Nat.ne_of_lt (Nat.lt_trans (Nat.lt_trans (Nat.lt_trans (Nat.lt_trans (Nat.lt_trans (Nat.lt_trans (Nat.lt_trans (Nat.lt_trans (Nat.lt_trans (Nat.lt_trans (Nat.lt_trans k4 k5) k6) k7) k8) k9) k10) k11) k12) k13) k14) k15)
  have ne_xd_pe : xd ≠ pe := Nat.ne_of_lt k5
  have ne_xd_xn : xd ≠ xn := Nat.ne_of_lt (Nat.lt_trans k5 k6)
  have ne_xd_pb : xd ≠ pb := Nat.ne_of_lt (Nat.lt_trans (Nat.lt_trans k5 k6) k7)
  have ne_xd_xm : xd ≠ xm := Nat.ne_of_lt (Nat.lt_trans (Nat.lt_trans (Nat.lt_trans k5 k6) k7) k8)
  have ne_xd_fo : xd ≠ fo := Nat.ne_of_lt (Nat.lt_trans (Nat.lt_trans (Nat.lt_trans (Nat.lt_trans k5 k6) k7) k8) k9)
  have ne_xd_fi : xd ≠ fi := Nat.ne_of_lt (Nat.lt_trans (Nat.lt_trans (Nat.lt_trans (Nat.lt_trans (Nat.lt_trans k5 k6) k7) k8) k9) k10)
  have ne_xd_pl : xd ≠ pl := Nat.ne_of_lt (Nat.lt_trans (Nat.lt_trans (Nat.lt_trans (Nat.lt_trans (Nat.lt_trans (Nat.lt_trans k5 k6) k7) k8) k9) k10) k11)
  have ne_xd_yo : xd ≠ yo := Nat.ne_of_lt (Nat.lt_trans (Nat.lt_trans (Nat.lt_trans (Nat.lt_trans (Nat.lt_trans (Nat.lt_trans (Nat.lt_trans k5 k6) k7) k8) k9) k10) k11) k12)
  have ne_xd_yi : xd ≠ yi := Nat.ne_of_lt (Nat.lt_trans (Nat.lt_trans (Nat.lt_trans (Nat.lt_trans (Nat.lt_trans (Nat.lt_trans (Nat.lt_trans (Nat.lt_trans k5 k6) k7) k8) k9) k10) k11) k12) k13)
  have ne_xd_ym : xd ≠ ym := Nat.ne_of_lt (Nat.lt_trans (Nat.lt_trans (Nat.lt_trans (Nat.lt_trans (Nat.lt_trans (Nat.lt_trans (Nat.lt_trans (Nat.lt_trans (Nat.lt_trans k5 k6) k7) k8) k9) k10) k11) k12) k13) k14)
  have ne_xd_yb : xd ≠ yb := Nat.ne_of_lt (Nat.lt_trans (Nat.lt_trans (Nat.lt_trans (Nat.lt_trans (Nat.lt_trans (Nat.lt_trans (Nat.lt_trans (Nat.lt_trans (Nat.lt_trans (Nat.lt_trans k5 k6) k7) k8) k9) k10) k11) k12) k13) k14) k15)
  have ne_pe_xn : pe ≠ xn := Nat.ne_of_lt k6
  have ne_pe_pb : pe ≠ pb := Nat.ne_of_lt (Nat.lt_trans k6 k7)
  have ne_pe_xm : pe ≠ xm := Nat.ne_of_lt (Nat.lt_trans (Nat.lt_trans k6 k7) k8)
  have ne_pe_fo : pe ≠ fo := Nat.ne_of_lt (Nat.lt_trans (Nat.lt_trans (Nat.lt_trans k6 k7) k8) k9)
  have ne_pe_fi : pe ≠ fi := Nat.ne_of_lt (Nat.lt_trans (Nat.lt_trans (Nat.lt_trans (Nat.lt_trans k6 k7) k8) k9) k10)
  have ne_pe_pl : pe ≠ pl := Nat.ne_of_lt (Nat.lt_trans (Nat.lt_trans (Nat.lt_trans (Nat.lt_trans (Nat.lt_trans k6 k7) k8) k9) k10) k11)
  have ne_pe_yo : pe ≠ yo := Nat.ne_of_lt (Nat.lt_trans (Nat.lt_trans (Nat.lt_trans (Nat.lt_trans (Nat.lt_trans (Nat.lt_trans k6 k7) k8) k9) k10) k11) k12)
  have ne_pe_yi : pe ≠ yi := Nat.ne_of_lt (Nat.lt_trans (Nat.lt_trans (Nat.lt_trans (Nat.lt_trans (Nat.lt_trans (Nat.lt_trans (Nat.lt_trans k6 k7) k8) k9) k10) k11) k12) k13)
  have ne_pe_ym : pe ≠ ym := Nat.ne_of_lt (Nat.lt_trans (Nat.lt_trans (Nat.lt_trans (Nat.lt_trans (Nat.lt_trans (Nat.lt_trans (Nat.lt_trans (Nat.lt_trans k6 k7) k8) k9) k10) k11) k12) k13) k14)
  have ne_pe_yb : pe ≠ yb := Nat.ne_of_lt (Nat.lt_trans (Nat.lt_trans (Nat.lt_trans (Nat.lt_trans (Nat.lt_trans (Nat.lt_trans (Nat.lt_trans (Nat.lt_trans (Nat.lt_trans k6 k7) k8) k9) k10) k11) k12) k13) k14) k15)
  have ne_xn_pb : xn ≠ pb := Nat.ne_of_lt k7
  have ne_xn_xm : xn ≠ xm := Nat.ne_of_lt (Nat.lt_trans k7 k8)
  have ne_xn_fo : xn ≠ fo := Nat.ne_of_lt (Nat.lt_trans (Nat.lt_trans k7 k8) k9)
  have ne_xn_fi : xn ≠ fi := Nat.ne_of_lt (Nat.lt_trans (Nat.lt_trans (Nat.lt_trans k7 k8) k9) k10)
  have ne_xn_pl : xn ≠ pl := Nat.ne_of_lt (Nat.lt_trans (Nat.lt_trans (Nat.lt_trans (Nat.lt_trans k7 k8) k9) k10) k11)
  have ne_xn_yo : xn ≠ yo := Nat.ne_of_lt (Nat.lt_trans (Nat.lt_trans (Nat.lt_trans (Nat.lt_trans (Nat.lt_trans k7 k8) k9) k10) k11) k12)
  have ne_xn_yi : xn ≠ yi := Nat.ne_of_lt (Nat.lt_trans (Nat.lt_trans (Nat.lt_trans (Nat.lt_trans (Nat.lt_trans (Nat.lt_trans k7 k8) k9) k10) k11) k12) k13)
  have ne_xn_ym : xn ≠ ym := Nat.ne_of_lt (Nat.lt_trans (Nat.lt_trans (Nat.lt_trans (Nat.lt_trans (Nat.lt_trans (Nat.lt_trans (Nat.lt_trans k7 k8) k9) k10) k11) k12) k13) k14)
  have ne_xn_yb : xn ≠ yb := Nat.ne_of_lt (Nat.lt_trans (Nat.lt_trans (Nat.lt_trans (Nat.lt_trans (Nat.lt_trans (Nat.lt_trans (Nat.lt_trans (Nat.lt_trans k7 k8) k9) k10) k11) k12) k13) k14) k15)
  have ne_pb_xm : pb ≠ xm := Nat.ne_of_lt k8
  have ne_pb_fo : pb ≠ fo := Nat.ne_of_lt (Nat.lt_trans k8 k9)
  have ne_pb_fi : pb ≠ fi := Nat.ne_of_lt (Nat.lt_trans (Nat.lt_trans k8 k9) k10)
  have ne_pb_pl : pb ≠ pl := Nat.ne_of_lt (Nat.lt_trans (Nat.lt_trans (Nat.lt_trans k8 k9) k10) k11)
  have ne_pb_yo : pb ≠ yo := Nat.ne_of_lt (Nat.lt_trans (Nat.lt_trans (Nat.lt_trans (Nat.lt_trans k8 k9) k10) k11) k12)
  have ne_pb_yi : pb ≠ yi := Nat.ne_of_lt (Nat.lt_trans (Nat.lt_trans (Nat.lt_trans (Nat.lt_trans (Nat.lt_trans k8 k9) k10) k11) k12) k13)
  have ne_pb_ym : pb ≠ ym := Nat.ne_of_lt (Nat.lt_trans (Nat.lt_trans (Nat.lt_trans (Nat.lt_trans (Nat.lt_trans (Nat.lt_trans k8 k9) k10) k11) k12) k13) k14)
  have ne_pb_yb : pb ≠ yb := Nat.ne_of_lt (Nat.lt_trans (Nat.lt_trans (Nat.lt_trans (Nat.lt_trans (Nat.lt_trans (Nat.lt_trans (Nat.lt_trans k8 k9) k10) k11) k12) k13) k14) k15)
  have ne_xm_fo : xm ≠ fo := Nat.ne_of_lt k9
  have ne_xm_fi : xm ≠ fi := Nat.ne_of_lt (Nat.lt_trans k9 k10)
  have ne_xm_pl : xm ≠ pl := Nat.ne_of_lt (Nat.lt_trans (Nat.lt_trans k9 k10) k11)
  have ne_xm_yo : xm ≠ yo := Nat.ne_of_lt (Nat.lt_trans (Nat.lt_trans (Nat.lt_trans k9 k10) k11) k12)
  have ne_xm_yi : xm ≠ yi := Nat.ne_of_lt (Nat.lt_trans (Nat.lt_trans (Nat.lt_trans (Nat.lt_trans k9 k10) k11) k12) k13)
  have ne_xm_ym : xm ≠ ym := Nat.ne_of_lt (Nat.lt_trans (Nat.lt_trans (Nat.lt_trans (Nat.lt_trans (Nat.lt_trans k9 k10) k11) k12) k13) k14)
  have ne_xm_yb : xm ≠ yb := Nat.ne_of_lt (Nat.lt_trans (Nat.lt_trans (Nat.lt_trans (Nat.lt_trans (Nat.lt_trans (Nat.lt_trans k9 k10) k11) k12) k13) k14) k15)
  have ne_fo_fi : fo ≠ fi := Nat.ne_of_lt k10
  have ne_fo_pl : fo ≠ pl := Nat.ne_of_lt (Nat.lt_trans k10 k11)
  have ne_fo_yo : fo ≠ yo := Nat.ne_of_lt (Nat.lt_trans (Nat.lt_trans k10 k11) k12)
  have ne_fo_yi : fo ≠ yi := Nat.ne_of_lt (Nat.lt_trans (Nat.lt_trans (Nat.lt_trans k10 k11) k12) k13)
  have ne_fo_ym : fo ≠ ym := Nat.ne_of_lt (Nat.lt_trans (Nat.lt_trans (Nat.lt_trans (Nat.lt_trans k10 k11) k12) k13) k14)
  have ne_fo_yb : fo ≠ yb := Nat.ne_of_lt (Nat.lt_trans (Nat.lt_trans (Nat.lt_trans (Nat.lt_trans (Nat.lt_trans k10 k11) k12) k13) k14) k15)
  have ne_fi_pl : fi ≠ pl := Nat.ne_of_lt k11
  have ne_fi_yo : fi ≠ yo := Nat.ne_of_lt (Nat.lt_trans k11 k12)
  have ne_fi_yi : fi ≠ yi := Nat.ne_of_lt (Nat.lt_trans (Nat.lt_trans k11 k12) k13)
  have ne_fi_ym : fi ≠ ym := Nat.ne_of_lt (Nat.lt_trans (Nat.lt_trans (Nat.lt_trans k11 k12) k13) k14)
  have ne_fi_yb : fi ≠ yb := Nat.ne_of_lt (Nat.lt_trans (Nat.lt_trans (Nat.lt_trans (Nat.lt_trans k11 k12) k13) k14) k15)
  have ne_pl_yo : pl ≠ yo := Nat.ne_of_lt k12
  have ne_pl_yi : pl ≠ yi := Nat.ne_of_lt (Nat.lt_trans k12 k13)
  have ne_pl_ym : pl ≠ ym := Nat.ne_of_lt (Nat.lt_trans (Nat.lt_trans k12 k13) k14)
  have ne_pl_yb : pl ≠ yb := Nat.ne_of_lt (Nat.lt_trans (Nat.lt_trans (Nat.lt_trans k12 k13) k14) k15)
  have ne_yo_yi : yo ≠ yi := Nat.ne_of_lt k13
  have ne_yo_ym : yo ≠ ym := Nat.ne_of_lt (Nat.lt_trans k13 k14)
  have ne_yo_yb : yo ≠ yb := Nat.ne_of_lt (Nat.lt_trans (Nat.lt_trans k13 k14) k15)
  have ne_yi_ym : yi ≠ ym := Nat.ne_of_lt k14
  have ne_yi_yb : yi ≠ yb := Nat.ne_of_lt (Nat.lt_trans k14 k15)
  have ne_ym_yb : ym ≠ yb := Nat.ne_of_lt k15
  have g_xa : n0 ≤ xa := Nat.le_trans g_o (Nat.le_of_lt k1)
  have g_xb : n0 ≤ xb := Nat.le_trans g_o (Nat.le_of_lt (Nat.lt_trans k1 k2))
  have g_xc : n0 ≤ xc := Nat.le_trans g_o (Nat.le_of_lt (Nat.lt_trans (Nat.lt_trans k1 k2) k3))
  have g_xd : n0 ≤ xd := Nat.le_trans g_o (Nat.le_of_lt (Nat.lt_trans (Nat.lt_trans (Nat.lt_trans k1 k2) k3) k4))
  have g_pe : n0 ≤ pe := Nat.le_trans g_o (Nat.le_of_lt (Nat.lt_trans (Nat.lt_trans (Nat.lt_trans (Nat.lt_trans k1 k2) k3) k4) k5))
  have g_xn : n0 ≤ xn := Nat.le_trans g_o (Nat.le_of_lt (Nat.lt_trans (Nat.lt_trans (Nat.lt_trans (Nat.lt_trans (Nat.lt_trans k1 k2) k3) k4) k5) k6))
  have g_pb : n0 ≤ pb := Nat.le_trans g_o (Nat.le_of_lt (Nat.lt_trans (Nat.lt_trans (Nat.lt_trans (Nat.lt_trans (Nat.lt_trans (Nat.lt_trans k1 k2) k3) k4) k5) k6) k7))
  have g_xm : n0 ≤ xm := Nat.le_trans g_o (Nat.le_of_lt (Nat.lt_trans (Nat.lt_trans (Nat.lt_trans (Nat.lt_trans (Nat.lt_trans (Nat.lt_trans (Nat.lt_trans k1 k2) k3) k4) k5) k6) k7) k8))
  have g_fo : n0 ≤ fo := Nat.le_trans g_o (Nat.le_of_lt (Nat.lt_trans (Nat.lt_trans (Nat.lt_trans (Nat.lt_trans (Nat.lt_trans (Nat.lt_trans (Nat.lt_trans (Nat.lt_trans k1 k2) k3) k4) k5) k6) k7) k8) k9))
  have g_fi : n0 ≤ fi := Nat.le_trans g_o (Nat.le_of_lt (Nat.lt_trans (Nat.lt_trans (Nat.lt_trans (Nat.lt_trans (Nat.lt_trans (Nat.lt_trans (Nat.lt_trans (Nat.lt_trans (Nat.lt_trans k1 k2) k3) k4) k5) k6) k7) k8) k9) k10))
  have g_pl : n0 ≤ pl := Nat.le_trans g_o (Nat.le_of_lt (Nat.lt_trans (Nat.lt_trans (Nat.lt_trans (Nat.lt_trans (Nat.lt_trans (Nat.lt_trans (Nat.lt_trans (Nat.lt_trans (Nat.lt_trans (Nat.lt_trans k1 k2) k3) k4) k5) k6) k7) k8) k9) k10) k11))
  have g_yo : n0 ≤ yo := Nat.le_trans g_o (Nat.le_of_lt (Nat.lt_trans (Nat.lt_trans (Nat.lt_trans (Nat.lt_trans (Nat.lt_trans (Nat.lt_trans (Nat.lt_trans (Nat.lt_trans (Nat.lt_trans (Nat.lt_trans (Nat.lt_trans k1 k2) k3) k4) k5) k6) k7) k8) k9) k10) k11) k12))
  have g_yi : n0 ≤ yi := Nat.le_trans g_o (Nat.le_of_lt (Nat.lt_trans (Nat.lt_trans (Nat.lt_trans (Nat.lt_trans (Nat.lt_trans (Nat.lt_trans (Nat.lt_trans (Nat.lt_trans (Nat.lt_trans (Nat.lt_trans (Nat.lt_trans (Nat.lt_trans k1 k2) k3) k4) k5) k6) k7) k8) k9) k10) k11) k12) k13))
  have g_ym : n0 ≤ ym := Nat.le_trans g_o (Nat.le_of_lt (Nat.lt_trans (Nat.lt_trans (Nat.lt_trans (Nat.lt_trans (Nat.lt_trans (Nat.lt_trans (Nat.lt_trans (Nat.lt_trans (Nat.lt_trans (Nat.lt_trans (Nat.lt_trans (Nat.lt_trans (Nat.lt_trans k1 k2) k3) k4) k5) k6) k7) k8) k9) k10) k11) k12) k13) k14))
  have g_yb : n0 ≤ yb := Nat.le_trans g_o (Nat.le_of_lt (Nat.lt_trans (Nat.lt_trans (Nat.lt_trans (Nat.lt_trans (Nat.lt_trans (Nat.lt_trans (Nat.lt_trans (Nat.lt_trans (Nat.lt_trans (Nat.lt_trans (Nat.lt_trans (Nat.lt_trans (Nat.lt_trans (Nat.lt_trans k1 k2) k3) k4) k5) k6) k7) k8) k9) k10) k11) k12) k13) k14) k15))
  have hb := own_ftb uc hc
  rw [← hf, ← ht] at hb
  refine g_iloadN X0 hx hby d12_0 (pc' := 1) rfl rfl ?_
  refine g_iloadN X0 hx hby d12_1 (pc' := 2) rfl rfl ?_
  refine g_icmpne X0 hx hby d12_2 (pt := 7) (pf := 5) (by decide) (by decide) rfl (fun (h2 : ¬ uf = ut) => ?_) (fun (h2 : uf = ut) => (by exfalso; have z := congrArg Int32.toInt h2; omega))
  have h2i : ¬ uf.toInt = ut.toInt := fun q => h2 (Int32.toInt_inj.mp q)
  refine g_aloadN X0 hx hby d12_7 (pc' := 8) rfl rfl rfl ?_
  refine g_getF X0 hx hby hZ hown e0 (hw _ (List.mem_of_getElem? (i := 91) rfl)) F_o_place d12_8 (pc' := 11) rfl (fun T1 X1 e1 => ?_)
  refine g_iloadN X1 hx hby d12_11 (pc' := 12) rfl rfl ?_
  refine a_iaload X1 hx hby hZ e1 A_pl (by omega) (by omega) (v := (.int ut)) (own_idv ut (by omega)) d12_12 (pc' := 13) rfl ?_
  refine g_aloadN X1 hx hby d12_13 (pc' := 14) rfl rfl rfl ?_
  refine g_getF X1 hx hby hZ hown e1 (hw _ (List.mem_of_getElem? (i := 91) rfl)) F_o_place d12_14 (pc' := 17) rfl (fun T2 X2 e2 => ?_)
  refine g_iloadN X2 hx hby d12_17 (pc' := 18) rfl rfl ?_
  refine a_iaload X2 hx hby hZ e2 A_pl (by omega) (by omega) (v := (.int uf)) (own_idv uf (by omega)) d12_18 (pc' := 19) rfl ?_
  refine g_icmpge X2 hx hby d12_19 (pt := 66) (pf := 22) (by decide) (by decide) rfl (fun (h19 : uf.toInt ≤ ut.toInt) => ?_) (fun (h19 : ut.toInt < uf.toInt) => (by exfalso; omega))
  refine g_aloadN X2 hx hby d12_66 (pc' := 67) rfl rfl rfl ?_
  refine g_getF X2 hx hby hZ hown e2 (hw _ (List.mem_of_getElem? (i := 117) rfl)) F_o_added d12_67 (pc' := 70) rfl (fun T3 X3 e3 => ?_)
  refine g_aloadN X3 hx hby d12_70 (pc' := 71) rfl rfl rfl ?_
  refine g_getF X3 hx hby hZ hown e3 (hw _ (List.mem_of_getElem? (i := 11) rfl)) F_o_addedFrom d12_71 (pc' := 74) rfl (fun T4 X4 e4 => ?_)
  refine a_arraylength X4 hx hby hZ e4 A_xa (N := (16 : Int32)) rfl d12_74 (pc' := 75) rfl ?_
  refine g_icmpne X4 hx hby d12_75 (pt := 146) (pf := 78) (by decide) (by decide) rfl (fun (h75 : ¬ uk = (16 : Int32)) => ?_) (fun (h75 : uk = (16 : Int32)) => (by exfalso; have z := congrArg Int32.toInt h75; have e16 : (16 : Int32).toInt = 16 := rfl; omega))
  have h75i : ¬ uk.toInt = 16 := fun q => h75 (Int32.toInt_inj.mp q)
  refine g_aloadN X4 hx hby d12_146 (pc' := 147) rfl rfl rfl ?_
  refine g_getF X4 hx hby hZ hown e4 (hw _ (List.mem_of_getElem? (i := 11) rfl)) F_o_addedFrom d12_147 (pc' := 150) rfl (fun T5 X5 e5 => ?_)
  refine g_aloadN X5 hx hby d12_150 (pc' := 151) rfl rfl rfl ?_
  refine g_getF X5 hx hby hZ hown e5 (hw _ (List.mem_of_getElem? (i := 117) rfl)) F_o_added d12_151 (pc' := 154) rfl (fun T6 X6 e6 => ?_)
  refine g_iloadN X6 hx hby d12_154 (pc' := 155) rfl rfl ?_
  refine a_iastore X6 hx hby hZ e6 A_xa (by omega) (by omega) d12_155 (pc' := 156) rfl (fun T7 h7 X7 e7 W7 => ?_)
  replace E_o := E_o.wr W7
  replace E_pe := E_pe.wr W7
  replace E_pb := E_pb.wr W7
  replace F_o_addedFrom := F_o_addedFrom.other W7 (Or.inl ne_o_xa)
  replace F_o_addedTo := F_o_addedTo.other W7 (Or.inl ne_o_xa)
  replace F_o_earlierOut := F_o_earlierOut.other W7 (Or.inl ne_o_xa)
  replace F_o_earlierIn := F_o_earlierIn.other W7 (Or.inl ne_o_xa)
  replace F_o_pending := F_o_pending.other W7 (Or.inl ne_o_xa)
  replace F_o_pendingBack := F_o_pendingBack.other W7 (Or.inl ne_o_xa)
  replace F_o_firstOut := F_o_firstOut.other W7 (Or.inl ne_o_xa)
  replace F_o_firstIn := F_o_firstIn.other W7 (Or.inl ne_o_xa)
  replace F_o_place := F_o_place.other W7 (Or.inl ne_o_xa)
  replace F_o_latestOut := F_o_latestOut.other W7 (Or.inl ne_o_xa)
  replace F_o_latestIn := F_o_latestIn.other W7 (Or.inl ne_o_xa)
  replace F_o_metIn := F_o_metIn.other W7 (Or.inl ne_o_xa)
  replace F_o_metBack := F_o_metBack.other W7 (Or.inl ne_o_xa)
  replace F_o_added := F_o_added.other W7 (Or.inl ne_o_xa)
  replace F_o_searches := F_o_searches.other W7 (Or.inl ne_o_xa)
  replace F_pe_count := F_pe_count.other W7 (Or.inl (Ne.symm ne_xa_pe))
  replace F_pe_nodes := F_pe_nodes.other W7 (Or.inl (Ne.symm ne_xa_pe))
  replace F_pb_count := F_pb_count.other W7 (Or.inl (Ne.symm ne_xa_pb))
  replace F_pb_nodes := F_pb_nodes.other W7 (Or.inl (Ne.symm ne_xa_pb))
  replace A_xb := A_xb.other W7 (Ne.symm ne_xa_xb)
  replace A_xc := A_xc.other W7 (Ne.symm ne_xa_xc)
  replace A_xd := A_xd.other W7 (Ne.symm ne_xa_xd)
  replace A_xn := A_xn.other W7 (Ne.symm ne_xa_xn)
  replace A_xm := A_xm.other W7 (Ne.symm ne_xa_xm)
  replace A_fo := A_fo.other W7 (Ne.symm ne_xa_fo)
  replace A_fi := A_fi.other W7 (Ne.symm ne_xa_fi)
  replace A_pl := A_pl.other W7 (Ne.symm ne_xa_pl)
  replace A_yo := A_yo.other W7 (Ne.symm ne_xa_yo)
  replace A_yi := A_yi.other W7 (Ne.symm ne_xa_yi)
  replace A_ym := A_ym.other W7 (Ne.symm ne_xa_ym)
  replace A_yb := A_yb.other W7 (Ne.symm ne_xa_yb)
  have Z8 : n0 ≤ h7.size := by rw [W7.size]; exact Z0
  have N9 := Fr.snoc X7 N0 g_xa
  replace A_xa : Ara Z h7 xa .int 16 (fun jz => .int ((own_ui fr uk.toInt.toNat uf) jz)) := A_xa.setI W7
  refine g_aloadN X7 hx hby d12_156 (pc' := 157) rfl rfl rfl ?_
  refine g_getF X7 hx hby hZ hown e7 (hw _ (List.mem_of_getElem? (i := 13) rfl)) F_o_addedTo d12_157 (pc' := 160) rfl (fun T10 X10 e10 => ?_)
  refine g_aloadN X10 hx hby d12_160 (pc' := 161) rfl rfl rfl ?_
  refine g_getF X10 hx hby hZ hown e10 (hw _ (List.mem_of_getElem? (i := 117) rfl)) F_o_added d12_161 (pc' := 164) rfl (fun T11 X11 e11 => ?_)
  refine g_iloadN X11 hx hby d12_164 (pc' := 165) rfl rfl ?_
  refine a_iastore X11 hx hby hZ e11 A_xb (by omega) (by omega) d12_165 (pc' := 166) rfl (fun T12 h12 X12 e12 W12 => ?_)
  replace E_o := E_o.wr W12
  replace E_pe := E_pe.wr W12
  replace E_pb := E_pb.wr W12
  replace F_o_addedFrom := F_o_addedFrom.other W12 (Or.inl ne_o_xb)
  replace F_o_addedTo := F_o_addedTo.other W12 (Or.inl ne_o_xb)
  replace F_o_earlierOut := F_o_earlierOut.other W12 (Or.inl ne_o_xb)
  replace F_o_earlierIn := F_o_earlierIn.other W12 (Or.inl ne_o_xb)
  replace F_o_pending := F_o_pending.other W12 (Or.inl ne_o_xb)
  replace F_o_pendingBack := F_o_pendingBack.other W12 (Or.inl ne_o_xb)
  replace F_o_firstOut := F_o_firstOut.other W12 (Or.inl ne_o_xb)
  replace F_o_firstIn := F_o_firstIn.other W12 (Or.inl ne_o_xb)
  replace F_o_place := F_o_place.other W12 (Or.inl ne_o_xb)
  replace F_o_latestOut := F_o_latestOut.other W12 (Or.inl ne_o_xb)
  replace F_o_latestIn := F_o_latestIn.other W12 (Or.inl ne_o_xb)
  replace F_o_metIn := F_o_metIn.other W12 (Or.inl ne_o_xb)
  replace F_o_metBack := F_o_metBack.other W12 (Or.inl ne_o_xb)
  replace F_o_added := F_o_added.other W12 (Or.inl ne_o_xb)
  replace F_o_searches := F_o_searches.other W12 (Or.inl ne_o_xb)
  replace F_pe_count := F_pe_count.other W12 (Or.inl (Ne.symm ne_xb_pe))
  replace F_pe_nodes := F_pe_nodes.other W12 (Or.inl (Ne.symm ne_xb_pe))
  replace F_pb_count := F_pb_count.other W12 (Or.inl (Ne.symm ne_xb_pb))
  replace F_pb_nodes := F_pb_nodes.other W12 (Or.inl (Ne.symm ne_xb_pb))
  replace A_xa := A_xa.other W12 ne_xa_xb
  replace A_xc := A_xc.other W12 (Ne.symm ne_xb_xc)
  replace A_xd := A_xd.other W12 (Ne.symm ne_xb_xd)
  replace A_xn := A_xn.other W12 (Ne.symm ne_xb_xn)
  replace A_xm := A_xm.other W12 (Ne.symm ne_xb_xm)
  replace A_fo := A_fo.other W12 (Ne.symm ne_xb_fo)
  replace A_fi := A_fi.other W12 (Ne.symm ne_xb_fi)
  replace A_pl := A_pl.other W12 (Ne.symm ne_xb_pl)
  replace A_yo := A_yo.other W12 (Ne.symm ne_xb_yo)
  replace A_yi := A_yi.other W12 (Ne.symm ne_xb_yi)
  replace A_ym := A_ym.other W12 (Ne.symm ne_xb_ym)
  replace A_yb := A_yb.other W12 (Ne.symm ne_xb_yb)
  have Z13 : n0 ≤ h12.size := by rw [W12.size]; exact Z8
  have N14 := Fr.snoc X12 N9 g_xb
  replace A_xb : Ara Z h12 xb .int 16 (fun jz => .int ((own_ui tt uk.toInt.toNat ut) jz)) := A_xb.setI W12
  refine g_aloadN X12 hx hby d12_166 (pc' := 167) rfl rfl rfl ?_
  refine g_getF X12 hx hby hZ hown e12 (hw _ (List.mem_of_getElem? (i := 15) rfl)) F_o_earlierOut d12_167 (pc' := 170) rfl (fun T15 X15 e15 => ?_)
  refine g_aloadN X15 hx hby d12_170 (pc' := 171) rfl rfl rfl ?_
  refine g_getF X15 hx hby hZ hown e15 (hw _ (List.mem_of_getElem? (i := 117) rfl)) F_o_added d12_171 (pc' := 174) rfl (fun T16 X16 e16 => ?_)
  refine g_aloadN X16 hx hby d12_174 (pc' := 175) rfl rfl rfl ?_
  refine g_getF X16 hx hby hZ hown e16 (hw _ (List.mem_of_getElem? (i := 93) rfl)) F_o_latestOut d12_175 (pc' := 178) rfl (fun T17 X17 e17 => ?_)
  refine g_iloadN X17 hx hby d12_178 (pc' := 179) rfl rfl ?_
  refine a_iaload X17 hx hby hZ e17 A_yo (by omega) (by omega) (v := (.int (lo uf.toInt.toNat))) (rfl) d12_179 (pc' := 180) rfl ?_
  refine a_iastore X17 hx hby hZ e17 A_xc (by omega) (by omega) d12_180 (pc' := 181) rfl (fun T18 h18 X18 e18 W18 => ?_)
  replace E_o := E_o.wr W18
  replace E_pe := E_pe.wr W18
  replace E_pb := E_pb.wr W18
  replace F_o_addedFrom := F_o_addedFrom.other W18 (Or.inl ne_o_xc)
  replace F_o_addedTo := F_o_addedTo.other W18 (Or.inl ne_o_xc)
  replace F_o_earlierOut := F_o_earlierOut.other W18 (Or.inl ne_o_xc)
  replace F_o_earlierIn := F_o_earlierIn.other W18 (Or.inl ne_o_xc)
  replace F_o_pending := F_o_pending.other W18 (Or.inl ne_o_xc)
  replace F_o_pendingBack := F_o_pendingBack.other W18 (Or.inl ne_o_xc)
  replace F_o_firstOut := F_o_firstOut.other W18 (Or.inl ne_o_xc)
  replace F_o_firstIn := F_o_firstIn.other W18 (Or.inl ne_o_xc)
  replace F_o_place := F_o_place.other W18 (Or.inl ne_o_xc)
  replace F_o_latestOut := F_o_latestOut.other W18 (Or.inl ne_o_xc)
  replace F_o_latestIn := F_o_latestIn.other W18 (Or.inl ne_o_xc)
  replace F_o_metIn := F_o_metIn.other W18 (Or.inl ne_o_xc)
  replace F_o_metBack := F_o_metBack.other W18 (Or.inl ne_o_xc)
  replace F_o_added := F_o_added.other W18 (Or.inl ne_o_xc)
  replace F_o_searches := F_o_searches.other W18 (Or.inl ne_o_xc)
  replace F_pe_count := F_pe_count.other W18 (Or.inl (Ne.symm ne_xc_pe))
  replace F_pe_nodes := F_pe_nodes.other W18 (Or.inl (Ne.symm ne_xc_pe))
  replace F_pb_count := F_pb_count.other W18 (Or.inl (Ne.symm ne_xc_pb))
  replace F_pb_nodes := F_pb_nodes.other W18 (Or.inl (Ne.symm ne_xc_pb))
  replace A_xa := A_xa.other W18 ne_xa_xc
  replace A_xb := A_xb.other W18 ne_xb_xc
  replace A_xd := A_xd.other W18 (Ne.symm ne_xc_xd)
  replace A_xn := A_xn.other W18 (Ne.symm ne_xc_xn)
  replace A_xm := A_xm.other W18 (Ne.symm ne_xc_xm)
  replace A_fo := A_fo.other W18 (Ne.symm ne_xc_fo)
  replace A_fi := A_fi.other W18 (Ne.symm ne_xc_fi)
  replace A_pl := A_pl.other W18 (Ne.symm ne_xc_pl)
  replace A_yo := A_yo.other W18 (Ne.symm ne_xc_yo)
  replace A_yi := A_yi.other W18 (Ne.symm ne_xc_yi)
  replace A_ym := A_ym.other W18 (Ne.symm ne_xc_ym)
  replace A_yb := A_yb.other W18 (Ne.symm ne_xc_yb)
  have Z19 : n0 ≤ h18.size := by rw [W18.size]; exact Z13
  have N20 := Fr.snoc X18 N14 g_xc
  replace A_xc : Ara Z h18 xc .int 16 (fun jz => .int ((own_ui eo uk.toInt.toNat (lo uf.toInt.toNat)) jz)) := A_xc.setI W18
  refine g_aloadN X18 hx hby d12_181 (pc' := 182) rfl rfl rfl ?_
  refine g_getF X18 hx hby hZ hown e18 (hw _ (List.mem_of_getElem? (i := 17) rfl)) F_o_earlierIn d12_182 (pc' := 185) rfl (fun T21 X21 e21 => ?_)
  refine g_aloadN X21 hx hby d12_185 (pc' := 186) rfl rfl rfl ?_
  refine g_getF X21 hx hby hZ hown e21 (hw _ (List.mem_of_getElem? (i := 117) rfl)) F_o_added d12_186 (pc' := 189) rfl (fun T22 X22 e22 => ?_)
  refine g_aloadN X22 hx hby d12_189 (pc' := 190) rfl rfl rfl ?_
  refine g_getF X22 hx hby hZ hown e22 (hw _ (List.mem_of_getElem? (i := 95) rfl)) F_o_latestIn d12_190 (pc' := 193) rfl (fun T23 X23 e23 => ?_)
  refine g_iloadN X23 hx hby d12_193 (pc' := 194) rfl rfl ?_
  refine a_iaload X23 hx hby hZ e23 A_yi (by omega) (by omega) (v := (.int (li ut.toInt.toNat))) (rfl) d12_194 (pc' := 195) rfl ?_
  refine a_iastore X23 hx hby hZ e23 A_xd (by omega) (by omega) d12_195 (pc' := 196) rfl (fun T24 h24 X24 e24 W24 => ?_)
  replace E_o := E_o.wr W24
  replace E_pe := E_pe.wr W24
  replace E_pb := E_pb.wr W24
  replace F_o_addedFrom := F_o_addedFrom.other W24 (Or.inl ne_o_xd)
  replace F_o_addedTo := F_o_addedTo.other W24 (Or.inl ne_o_xd)
  replace F_o_earlierOut := F_o_earlierOut.other W24 (Or.inl ne_o_xd)
  replace F_o_earlierIn := F_o_earlierIn.other W24 (Or.inl ne_o_xd)
  replace F_o_pending := F_o_pending.other W24 (Or.inl ne_o_xd)
  replace F_o_pendingBack := F_o_pendingBack.other W24 (Or.inl ne_o_xd)
  replace F_o_firstOut := F_o_firstOut.other W24 (Or.inl ne_o_xd)
  replace F_o_firstIn := F_o_firstIn.other W24 (Or.inl ne_o_xd)
  replace F_o_place := F_o_place.other W24 (Or.inl ne_o_xd)
  replace F_o_latestOut := F_o_latestOut.other W24 (Or.inl ne_o_xd)
  replace F_o_latestIn := F_o_latestIn.other W24 (Or.inl ne_o_xd)
  replace F_o_metIn := F_o_metIn.other W24 (Or.inl ne_o_xd)
  replace F_o_metBack := F_o_metBack.other W24 (Or.inl ne_o_xd)
  replace F_o_added := F_o_added.other W24 (Or.inl ne_o_xd)
  replace F_o_searches := F_o_searches.other W24 (Or.inl ne_o_xd)
  replace F_pe_count := F_pe_count.other W24 (Or.inl (Ne.symm ne_xd_pe))
  replace F_pe_nodes := F_pe_nodes.other W24 (Or.inl (Ne.symm ne_xd_pe))
  replace F_pb_count := F_pb_count.other W24 (Or.inl (Ne.symm ne_xd_pb))
  replace F_pb_nodes := F_pb_nodes.other W24 (Or.inl (Ne.symm ne_xd_pb))
  replace A_xa := A_xa.other W24 ne_xa_xd
  replace A_xb := A_xb.other W24 ne_xb_xd
  replace A_xc := A_xc.other W24 ne_xc_xd
  replace A_xn := A_xn.other W24 (Ne.symm ne_xd_xn)
  replace A_xm := A_xm.other W24 (Ne.symm ne_xd_xm)
  replace A_fo := A_fo.other W24 (Ne.symm ne_xd_fo)
  replace A_fi := A_fi.other W24 (Ne.symm ne_xd_fi)
  replace A_pl := A_pl.other W24 (Ne.symm ne_xd_pl)
  replace A_yo := A_yo.other W24 (Ne.symm ne_xd_yo)
  replace A_yi := A_yi.other W24 (Ne.symm ne_xd_yi)
  replace A_ym := A_ym.other W24 (Ne.symm ne_xd_ym)
  replace A_yb := A_yb.other W24 (Ne.symm ne_xd_yb)
  have Z25 : n0 ≤ h24.size := by rw [W24.size]; exact Z19
  have N26 := Fr.snoc X24 N20 g_xd
  replace A_xd : Ara Z h24 xd .int 16 (fun jz => .int ((own_ui ei uk.toInt.toNat (li ut.toInt.toNat)) jz)) := A_xd.setI W24
  refine g_aloadN X24 hx hby d12_196 (pc' := 197) rfl rfl rfl ?_
  refine g_getF X24 hx hby hZ hown e24 (hw _ (List.mem_of_getElem? (i := 93) rfl)) F_o_latestOut d12_197 (pc' := 200) rfl (fun T27 X27 e27 => ?_)
  refine g_iloadN X27 hx hby d12_200 (pc' := 201) rfl rfl ?_
  refine g_aloadN X27 hx hby d12_201 (pc' := 202) rfl rfl rfl ?_
  refine g_getF X27 hx hby hZ hown e27 (hw _ (List.mem_of_getElem? (i := 117) rfl)) F_o_added d12_202 (pc' := 205) rfl (fun T28 X28 e28 => ?_)
  refine a_iastore X28 hx hby hZ e28 A_yo (by omega) (by omega) d12_205 (pc' := 206) rfl (fun T29 h29 X29 e29 W29 => ?_)
  replace E_o := E_o.wr W29
  replace E_pe := E_pe.wr W29
  replace E_pb := E_pb.wr W29
  replace F_o_addedFrom := F_o_addedFrom.other W29 (Or.inl ne_o_yo)
  replace F_o_addedTo := F_o_addedTo.other W29 (Or.inl ne_o_yo)
  replace F_o_earlierOut := F_o_earlierOut.other W29 (Or.inl ne_o_yo)
  replace F_o_earlierIn := F_o_earlierIn.other W29 (Or.inl ne_o_yo)
  replace F_o_pending := F_o_pending.other W29 (Or.inl ne_o_yo)
  replace F_o_pendingBack := F_o_pendingBack.other W29 (Or.inl ne_o_yo)
  replace F_o_firstOut := F_o_firstOut.other W29 (Or.inl ne_o_yo)
  replace F_o_firstIn := F_o_firstIn.other W29 (Or.inl ne_o_yo)
  replace F_o_place := F_o_place.other W29 (Or.inl ne_o_yo)
  replace F_o_latestOut := F_o_latestOut.other W29 (Or.inl ne_o_yo)
  replace F_o_latestIn := F_o_latestIn.other W29 (Or.inl ne_o_yo)
  replace F_o_metIn := F_o_metIn.other W29 (Or.inl ne_o_yo)
  replace F_o_metBack := F_o_metBack.other W29 (Or.inl ne_o_yo)
  replace F_o_added := F_o_added.other W29 (Or.inl ne_o_yo)
  replace F_o_searches := F_o_searches.other W29 (Or.inl ne_o_yo)
  replace F_pe_count := F_pe_count.other W29 (Or.inl ne_pe_yo)
  replace F_pe_nodes := F_pe_nodes.other W29 (Or.inl ne_pe_yo)
  replace F_pb_count := F_pb_count.other W29 (Or.inl ne_pb_yo)
  replace F_pb_nodes := F_pb_nodes.other W29 (Or.inl ne_pb_yo)
  replace A_xa := A_xa.other W29 ne_xa_yo
  replace A_xb := A_xb.other W29 ne_xb_yo
  replace A_xc := A_xc.other W29 ne_xc_yo
  replace A_xd := A_xd.other W29 ne_xd_yo
  replace A_xn := A_xn.other W29 ne_xn_yo
  replace A_xm := A_xm.other W29 ne_xm_yo
  replace A_fo := A_fo.other W29 ne_fo_yo
  replace A_fi := A_fi.other W29 ne_fi_yo
  replace A_pl := A_pl.other W29 ne_pl_yo
  replace A_yi := A_yi.other W29 (Ne.symm ne_yo_yi)
  replace A_ym := A_ym.other W29 (Ne.symm ne_yo_ym)
  replace A_yb := A_yb.other W29 (Ne.symm ne_yo_yb)
  have Z30 : n0 ≤ h29.size := by rw [W29.size]; exact Z25
  have N31 := Fr.snoc X29 N26 g_yo
  replace A_yo : Ara Z h29 yo .int 3 (fun jz => .int ((own_ui lo uf.toInt.toNat uk) jz)) := A_yo.setI W29
  refine g_aloadN X29 hx hby d12_206 (pc' := 207) rfl rfl rfl ?_
  refine g_getF X29 hx hby hZ hown e29 (hw _ (List.mem_of_getElem? (i := 95) rfl)) F_o_latestIn d12_207 (pc' := 210) rfl (fun T32 X32 e32 => ?_)
  refine g_iloadN X32 hx hby d12_210 (pc' := 211) rfl rfl ?_
  refine g_aloadN X32 hx hby d12_211 (pc' := 212) rfl rfl rfl ?_
  refine g_getF X32 hx hby hZ hown e32 (hw _ (List.mem_of_getElem? (i := 117) rfl)) F_o_added d12_212 (pc' := 215) rfl (fun T33 X33 e33 => ?_)
  refine a_iastore X33 hx hby hZ e33 A_yi (by omega) (by omega) d12_215 (pc' := 216) rfl (fun T34 h34 X34 e34 W34 => ?_)
  replace E_o := E_o.wr W34
  replace E_pe := E_pe.wr W34
  replace E_pb := E_pb.wr W34
  replace F_o_addedFrom := F_o_addedFrom.other W34 (Or.inl ne_o_yi)
  replace F_o_addedTo := F_o_addedTo.other W34 (Or.inl ne_o_yi)
  replace F_o_earlierOut := F_o_earlierOut.other W34 (Or.inl ne_o_yi)
  replace F_o_earlierIn := F_o_earlierIn.other W34 (Or.inl ne_o_yi)
  replace F_o_pending := F_o_pending.other W34 (Or.inl ne_o_yi)
  replace F_o_pendingBack := F_o_pendingBack.other W34 (Or.inl ne_o_yi)
  replace F_o_firstOut := F_o_firstOut.other W34 (Or.inl ne_o_yi)
  replace F_o_firstIn := F_o_firstIn.other W34 (Or.inl ne_o_yi)
  replace F_o_place := F_o_place.other W34 (Or.inl ne_o_yi)
  replace F_o_latestOut := F_o_latestOut.other W34 (Or.inl ne_o_yi)
  replace F_o_latestIn := F_o_latestIn.other W34 (Or.inl ne_o_yi)
  replace F_o_metIn := F_o_metIn.other W34 (Or.inl ne_o_yi)
  replace F_o_metBack := F_o_metBack.other W34 (Or.inl ne_o_yi)
  replace F_o_added := F_o_added.other W34 (Or.inl ne_o_yi)
  replace F_o_searches := F_o_searches.other W34 (Or.inl ne_o_yi)
  replace F_pe_count := F_pe_count.other W34 (Or.inl ne_pe_yi)
  replace F_pe_nodes := F_pe_nodes.other W34 (Or.inl ne_pe_yi)
  replace F_pb_count := F_pb_count.other W34 (Or.inl ne_pb_yi)
  replace F_pb_nodes := F_pb_nodes.other W34 (Or.inl ne_pb_yi)
  replace A_xa := A_xa.other W34 ne_xa_yi
  replace A_xb := A_xb.other W34 ne_xb_yi
  replace A_xc := A_xc.other W34 ne_xc_yi
  replace A_xd := A_xd.other W34 ne_xd_yi
  replace A_xn := A_xn.other W34 ne_xn_yi
  replace A_xm := A_xm.other W34 ne_xm_yi
  replace A_fo := A_fo.other W34 ne_fo_yi
  replace A_fi := A_fi.other W34 ne_fi_yi
  replace A_pl := A_pl.other W34 ne_pl_yi
  replace A_yo := A_yo.other W34 ne_yo_yi
  replace A_ym := A_ym.other W34 (Ne.symm ne_yi_ym)
  replace A_yb := A_yb.other W34 (Ne.symm ne_yi_yb)
  have Z35 : n0 ≤ h34.size := by rw [W34.size]; exact Z30
  have N36 := Fr.snoc X34 N31 g_yi
  replace A_yi : Ara Z h34 yi .int 3 (fun jz => .int ((own_ui li ut.toInt.toNat uk) jz)) := A_yi.setI W34
  refine g_aloadN X34 hx hby d12_216 (pc' := 217) rfl rfl rfl ?_
  refine g_dup X34 hx hby d12_217 (pc' := 218) rfl rfl ?_
  refine g_getF X34 hx hby hZ hown e34 (hw _ (List.mem_of_getElem? (i := 117) rfl)) F_o_added d12_218 (pc' := 221) rfl (fun T37 X37 e37 => ?_)
  refine g_iconst X37 hx hby d12_221 (pc' := 222) rfl (n := (1 : Int32)) (by first | rfl | decide) ?_
  refine g_iadd X37 hx hby d12_222 (pc' := 223) rfl ?_
  have ez : uk + (1 : Int32) = uz := Int32.toInt_inj.mp (by rw [own_inc uk (by omega)]; omega)
  rw [ez]
  refine g_putF X37 hx hby hZ hown e37 (hw _ (List.mem_of_getElem? (i := 117) rfl)) F_o_added E_o (Or.inl (hw _ (List.mem_of_getElem? (i := 118) rfl))) (hw _ (List.mem_of_getElem? (i := 2) rfl)) (ty := .int) (by decide) rfl rfl d12_223 (pc' := 226) rfl (fun T38 h38 X38 e38 W38 => ?_)
  replace E_o := E_o.wr W38
  replace E_pe := E_pe.wr W38
  replace E_pb := E_pb.wr W38
  replace F_o_addedFrom := F_o_addedFrom.other W38 (Or.inr (sn_149 hw))
  replace F_o_addedTo := F_o_addedTo.other W38 (Or.inr (sn_150 hw))
  replace F_o_earlierOut := F_o_earlierOut.other W38 (Or.inr (sn_151 hw))
  replace F_o_earlierIn := F_o_earlierIn.other W38 (Or.inr (sn_152 hw))
  replace F_o_pending := F_o_pending.other W38 (Or.inr (sn_153 hw))
  replace F_o_pendingBack := F_o_pendingBack.other W38 (Or.inr (sn_154 hw))
  replace F_o_firstOut := F_o_firstOut.other W38 (Or.inr (sn_155 hw))
  replace F_o_firstIn := F_o_firstIn.other W38 (Or.inr (sn_156 hw))
  replace F_o_place := F_o_place.other W38 (Or.inr (sn_157 hw))
  replace F_o_latestOut := F_o_latestOut.other W38 (Or.inr (sn_158 hw))
  replace F_o_latestIn := F_o_latestIn.other W38 (Or.inr (sn_159 hw))
  replace F_o_metIn := F_o_metIn.other W38 (Or.inr (sn_160 hw))
  replace F_o_metBack := F_o_metBack.other W38 (Or.inr (sn_161 hw))
  replace F_o_added := F_o_added.same W38
  replace F_o_searches := F_o_searches.other W38 (Or.inr (sn_162 hw))
  replace F_pe_count := F_pe_count.other W38 (Or.inl (Ne.symm ne_o_pe))
  replace F_pe_nodes := F_pe_nodes.other W38 (Or.inl (Ne.symm ne_o_pe))
  replace F_pb_count := F_pb_count.other W38 (Or.inl (Ne.symm ne_o_pb))
  replace F_pb_nodes := F_pb_nodes.other W38 (Or.inl (Ne.symm ne_o_pb))
  replace A_xa := A_xa.other W38 (Ne.symm ne_o_xa)
  replace A_xb := A_xb.other W38 (Ne.symm ne_o_xb)
  replace A_xc := A_xc.other W38 (Ne.symm ne_o_xc)
  replace A_xd := A_xd.other W38 (Ne.symm ne_o_xd)
  replace A_xn := A_xn.other W38 (Ne.symm ne_o_xn)
  replace A_xm := A_xm.other W38 (Ne.symm ne_o_xm)
  replace A_fo := A_fo.other W38 (Ne.symm ne_o_fo)
  replace A_fi := A_fi.other W38 (Ne.symm ne_o_fi)
  replace A_pl := A_pl.other W38 (Ne.symm ne_o_pl)
  replace A_yo := A_yo.other W38 (Ne.symm ne_o_yo)
  replace A_yi := A_yi.other W38 (Ne.symm ne_o_yi)
  replace A_ym := A_ym.other W38 (Ne.symm ne_o_ym)
  replace A_yb := A_yb.other W38 (Ne.symm ne_o_yb)
  have Z39 : n0 ≤ h38.size := by rw [W38.size]; exact Z35
  have N40 := Fr.snoc X38 N36 g_o
  refine g_iconst X38 hx hby d12_226 (pc' := 227) rfl (n := (1 : Int32)) (by first | rfl | decide) ?_
  exact g_retZ X38 hx hby hF (Nat.zero_le _) hlk (Or.inr rfl) hret d12_227 (by decide) (by decide) (by rw [e38]; exact ⟨rfl, N40, sc, cp, cb, (own_ui fr uk.toInt.toNat uf), (own_ui tt uk.toInt.toNat ut), (own_ui eo uk.toInt.toNat (lo uf.toInt.toNat)), (own_ui ei uk.toInt.toNat (li ut.toInt.toNat)), (own_ui lo uf.toInt.toNat uk), (own_ui li ut.toInt.toNat uk), mi, mb, pn, pq, xa, xb, xc, xd, pe, xn, pb, xm, fo, fi, pl, yo, yi, ym, yb, (by rw [show uz.toInt.toNat = uk.toInt.toNat + 1 by omega]; exact own_inv_add I (by omega) (by omega) hc hf ht), (by omega), g_o, k1, k2, k3, k4, k5, k6, k7, k8, k9, k10, k11, k12, k13, k14, k15, E_o, E_pe, E_pb, F_o_addedFrom, F_o_addedTo, F_o_earlierOut, F_o_earlierIn, F_o_pending, F_o_pendingBack, F_o_firstOut, F_o_firstIn, F_o_place, F_o_latestOut, F_o_latestIn, F_o_metIn, F_o_metBack, F_o_added, F_o_searches, F_pe_count, F_pe_nodes, F_pb_count, F_pb_nodes, A_xa, A_xb, A_xc, A_xd, A_xn, A_xm, A_fo, A_fi, A_pl, A_yo, A_yi, A_ym, A_yb⟩)
theorem ef_13_rm_undo (m : MethodId) (o : Addr) (um : Int32) : entryFrame m #[(.ref o), (.int um)] 2 = mkF m 0 #[.val (.ref o), .val (.int um)] [] := by first | (simp [entryFrame, mkF, argsToLocals, Value.category]; done) | rfl
theorem pn_13 : plainName "com/example/isolens/isolens/checker/DynamicOrder" = true := by first | (simp [plainName, overriddenIn]; done) | decide +kernel
theorem d13_0 : decode prog_17_method_16_code 0 = .ok (.aload_n 0, 1) := by decide +kernel
theorem d13_1 : decode prog_17_method_16_code 1 = .ok (.getfield 151, 3) := by decide +kernel
theorem d13_4 : decode prog_17_method_16_code 4 = .ok (.iload_n 1, 1) := by decide +kernel
theorem d13_5 : decode prog_17_method_16_code 5 = .ok (.if_icmp .le 62, 3) := by decide +kernel
theorem d13_67 : decode prog_17_method_16_code 67 = .ok (.return_, 1) := by decide +kernel
theorem d13_8 : decode prog_17_method_16_code 8 = .ok (.aload_n 0, 1) := by decide +kernel
theorem d13_9 : decode prog_17_method_16_code 9 = .ok (.dup, 1) := by decide +kernel
theorem d13_10 : decode prog_17_method_16_code 10 = .ok (.getfield 151, 3) := by decide +kernel
theorem d13_13 : decode prog_17_method_16_code 13 = .ok (.iconst 1, 1) := by decide +kernel
theorem d13_14 : decode prog_17_method_16_code 14 = .ok (.isub, 1) := by decide +kernel
theorem d13_15 : decode prog_17_method_16_code 15 = .ok (.putfield 151, 3) := by decide +kernel
theorem d13_18 : decode prog_17_method_16_code 18 = .ok (.aload_n 0, 1) := by decide +kernel
theorem d13_19 : decode prog_17_method_16_code 19 = .ok (.getfield 84, 3) := by decide +kernel
theorem d13_22 : decode prog_17_method_16_code 22 = .ok (.aload_n 0, 1) := by decide +kernel
theorem d13_23 : decode prog_17_method_16_code 23 = .ok (.getfield 7, 3) := by decide +kernel
theorem d13_26 : decode prog_17_method_16_code 26 = .ok (.aload_n 0, 1) := by decide +kernel
theorem d13_27 : decode prog_17_method_16_code 27 = .ok (.getfield 151, 3) := by decide +kernel
theorem d13_30 : decode prog_17_method_16_code 30 = .ok (.iaload, 1) := by decide +kernel
theorem d13_31 : decode prog_17_method_16_code 31 = .ok (.aload_n 0, 1) := by decide +kernel
theorem d13_32 : decode prog_17_method_16_code 32 = .ok (.getfield 16, 3) := by decide +kernel
theorem d13_35 : decode prog_17_method_16_code 35 = .ok (.aload_n 0, 1) := by decide +kernel
theorem d13_36 : decode prog_17_method_16_code 36 = .ok (.getfield 151, 3) := by decide +kernel
theorem d13_39 : decode prog_17_method_16_code 39 = .ok (.iaload, 1) := by decide +kernel
theorem d13_40 : decode prog_17_method_16_code 40 = .ok (.iastore, 1) := by decide +kernel
theorem d13_41 : decode prog_17_method_16_code 41 = .ok (.aload_n 0, 1) := by decide +kernel
theorem d13_42 : decode prog_17_method_16_code 42 = .ok (.getfield 87, 3) := by decide +kernel
theorem d13_45 : decode prog_17_method_16_code 45 = .ok (.aload_n 0, 1) := by decide +kernel
theorem d13_46 : decode prog_17_method_16_code 46 = .ok (.getfield 13, 3) := by decide +kernel
theorem d13_49 : decode prog_17_method_16_code 49 = .ok (.aload_n 0, 1) := by decide +kernel
theorem d13_50 : decode prog_17_method_16_code 50 = .ok (.getfield 151, 3) := by decide +kernel
theorem d13_53 : decode prog_17_method_16_code 53 = .ok (.iaload, 1) := by decide +kernel
theorem d13_54 : decode prog_17_method_16_code 54 = .ok (.aload_n 0, 1) := by decide +kernel
theorem d13_55 : decode prog_17_method_16_code 55 = .ok (.getfield 19, 3) := by decide +kernel
theorem d13_58 : decode prog_17_method_16_code 58 = .ok (.aload_n 0, 1) := by decide +kernel
theorem d13_59 : decode prog_17_method_16_code 59 = .ok (.getfield 151, 3) := by decide +kernel
theorem d13_62 : decode prog_17_method_16_code 62 = .ok (.iaload, 1) := by decide +kernel
theorem d13_63 : decode prog_17_method_16_code 63 = .ok (.iastore, 1) := by decide +kernel
theorem d13_64 : decode prog_17_method_16_code 64 = .ok (.goto (-64), 3) := by decide +kernel
set_option maxRecDepth 65536 in
set_option maxHeartbeats 40000000 in
theorem rm_undo (l : Launch) (Z : State) (a0 : Array Value) (hw : ∀ d ∈ tables_1, d.before a0 Z = true) (o : Addr) (um : Int32) (n0 q : Nat) (uk : Int32) (cd : Nat → Int32) (h0 : Heap) (Z0 : n0 ≤ h0.size) (D : DOL Z n0 h0 o q uk cd) (hm : 0 ≤ um.toInt ∧ um.toInt ≤ uk.toInt) :
    Ct l Z (⟨"com/example/isolens/isolens/checker/DynamicOrder", "undo", "(I)V"⟩ : MethodName) prog_17_method_16_code 2 none ({ frames := 0, cells := 0, slots := 0, locals := 0 } : Room) #[(.ref o), (.int um)] h0 (QDn Z n0 o q um cd) := by
  refine own_met (plainFor_of_name pn_13) (fun m => ef_13_rm_undo m o um) ?_
  intro p e s m below meth c T0 EF X0 hx hby hml hown hnm hret hlk hZ hF e0
  have N0 := Fr.nil n0
  obtain ⟨sc, cp, cb, fr, tt, eo, ei, lo, li, mi, mb, pn, pq, xa, xb, xc, xd, pe, xn, pb, xm, fo, fi, pl, yo, yi, ym, yb, I, hk0, g_o, k1, k2, k3, k4, k5, k6, k7, k8, k9, k10, k11, k12, k13, k14, k15, E_o, E_pe, E_pb, F_o_addedFrom, F_o_addedTo, F_o_earlierOut, F_o_earlierIn, F_o_pending, F_o_pendingBack, F_o_firstOut, F_o_firstIn, F_o_place, F_o_latestOut, F_o_latestIn, F_o_metIn, F_o_metBack, F_o_added, F_o_searches, F_pe_count, F_pe_nodes, F_pb_count, F_pb_nodes, A_xa, A_xb, A_xc, A_xd, A_xn, A_xm, A_fo, A_fi, A_pl, A_yo, A_yi, A_ym, A_yb⟩ := D
  have ne_o_xa : o ≠ xa := Nat.ne_of_lt k1
  have ne_o_xb : o ≠ xb := Nat.ne_of_lt (Nat.lt_trans k1 k2)
  have ne_o_xc : o ≠ xc := Nat.ne_of_lt (Nat.lt_trans (Nat.lt_trans k1 k2) k3)
  have ne_o_xd : o ≠ xd := Nat.ne_of_lt (Nat.lt_trans (Nat.lt_trans (Nat.lt_trans k1 k2) k3) k4)
  have ne_o_pe : o ≠ pe := Nat.ne_of_lt (Nat.lt_trans (Nat.lt_trans (Nat.lt_trans (Nat.lt_trans k1 k2) k3) k4) k5)
  have ne_o_xn : o ≠ xn := Nat.ne_of_lt (Nat.lt_trans (Nat.lt_trans (Nat.lt_trans (Nat.lt_trans (Nat.lt_trans k1 k2) k3) k4) k5) k6)
  have ne_o_pb : o ≠ pb := Nat.ne_of_lt (Nat.lt_trans (Nat.lt_trans (Nat.lt_trans (Nat.lt_trans (Nat.lt_trans (Nat.lt_trans k1 k2) k3) k4) k5) k6) k7)
  have ne_o_xm : o ≠ xm := Nat.ne_of_lt (Nat.lt_trans (Nat.lt_trans (Nat.lt_trans (Nat.lt_trans (Nat.lt_trans (Nat.lt_trans (Nat.lt_trans k1 k2) k3) k4) k5) k6) k7) k8)
  have ne_o_fo : o ≠ fo := Nat.ne_of_lt (Nat.lt_trans (Nat.lt_trans (Nat.lt_trans (Nat.lt_trans (Nat.lt_trans (Nat.lt_trans (Nat.lt_trans (Nat.lt_trans k1 k2) k3) k4) k5) k6) k7) k8) k9)
  have ne_o_fi : o ≠ fi := Nat.ne_of_lt (Nat.lt_trans (Nat.lt_trans (Nat.lt_trans (Nat.lt_trans (Nat.lt_trans (Nat.lt_trans (Nat.lt_trans (Nat.lt_trans (Nat.lt_trans k1 k2) k3) k4) k5) k6) k7) k8) k9) k10)
  have ne_o_pl : o ≠ pl := Nat.ne_of_lt (Nat.lt_trans (Nat.lt_trans (Nat.lt_trans (Nat.lt_trans (Nat.lt_trans (Nat.lt_trans (Nat.lt_trans (Nat.lt_trans (Nat.lt_trans (Nat.lt_trans k1 k2) k3) k4) k5) k6) k7) k8) k9) k10) k11)
  have ne_o_yo : o ≠ yo := Nat.ne_of_lt (Nat.lt_trans (Nat.lt_trans (Nat.lt_trans (Nat.lt_trans (Nat.lt_trans (Nat.lt_trans (Nat.lt_trans (Nat.lt_trans (Nat.lt_trans (Nat.lt_trans (Nat.lt_trans k1 k2) k3) k4) k5) k6) k7) k8) k9) k10) k11) k12)
  have ne_o_yi : o ≠ yi := Nat.ne_of_lt (Nat.lt_trans (Nat.lt_trans (Nat.lt_trans (Nat.lt_trans (Nat.lt_trans (Nat.lt_trans (Nat.lt_trans (Nat.lt_trans (Nat.lt_trans (Nat.lt_trans (Nat.lt_trans (Nat.lt_trans k1 k2) k3) k4) k5) k6) k7) k8) k9) k10) k11) k12) k13)
  have ne_o_ym : o ≠ ym := Nat.ne_of_lt (Nat.lt_trans (Nat.lt_trans (Nat.lt_trans (Nat.lt_trans (Nat.lt_trans (Nat.lt_trans (Nat.lt_trans (Nat.lt_trans (Nat.lt_trans (Nat.lt_trans (Nat.lt_trans (Nat.lt_trans (Nat.lt_trans k1 k2) k3) k4) k5) k6) k7) k8) k9) k10) k11) k12) k13) k14)
  have ne_o_yb : o ≠ yb := Nat.ne_of_lt (Nat.lt_trans (Nat.lt_trans (Nat.lt_trans (Nat.lt_trans (Nat.lt_trans (Nat.lt_trans (Nat.lt_trans (Nat.lt_trans (Nat.lt_trans (Nat.lt_trans (Nat.lt_trans (Nat.lt_trans (Nat.lt_trans (Nat.lt_trans k1 k2) k3) k4) k5) k6) k7) k8) k9) k10) k11) k12) k13) k14) k15)
  have ne_xa_xb : xa ≠ xb := Nat.ne_of_lt k2
  have ne_xa_xc : xa ≠ xc := Nat.ne_of_lt (Nat.lt_trans k2 k3)
  have ne_xa_xd : xa ≠ xd := Nat.ne_of_lt (Nat.lt_trans (Nat.lt_trans k2 k3) k4)
  have ne_xa_pe : xa ≠ pe := Nat.ne_of_lt (Nat.lt_trans (Nat.lt_trans (Nat.lt_trans k2 k3) k4) k5)
  have ne_xa_xn : xa ≠ xn := Nat.ne_of_lt (Nat.lt_trans (Nat.lt_trans (Nat.lt_trans (Nat.lt_trans k2 k3) k4) k5) k6)
  have ne_xa_pb : xa ≠ pb := Nat.ne_of_lt (Nat.lt_trans (Nat.lt_trans (Nat.lt_trans (Nat.lt_trans (Nat.lt_trans k2 k3) k4) k5) k6) k7)
  have ne_xa_xm : xa ≠ xm := Nat.ne_of_lt (Nat.lt_trans (Nat.lt_trans (Nat.lt_trans (Nat.lt_trans (Nat.lt_trans (Nat.lt_trans k2 k3) k4) k5) k6) k7) k8)
  have ne_xa_fo : xa ≠ fo := Nat.ne_of_lt (Nat.lt_trans (Nat.lt_trans (Nat.lt_trans (Nat.lt_trans (Nat.lt_trans (Nat.lt_trans (Nat.lt_trans k2 k3) k4) k5) k6) k7) k8) k9)
  have ne_xa_fi : xa ≠ fi := Nat.ne_of_lt (Nat.lt_trans (Nat.lt_trans (Nat.lt_trans (Nat.lt_trans (Nat.lt_trans (Nat.lt_trans (Nat.lt_trans (Nat.lt_trans k2 k3) k4) k5) k6) k7) k8) k9) k10)
  have ne_xa_pl : xa ≠ pl := Nat.ne_of_lt (Nat.lt_trans (Nat.lt_trans (Nat.lt_trans (Nat.lt_trans (Nat.lt_trans (Nat.lt_trans (Nat.lt_trans (Nat.lt_trans (Nat.lt_trans k2 k3) k4) k5) k6) k7) k8) k9) k10) k11)
  have ne_xa_yo : xa ≠ yo := Nat.ne_of_lt (Nat.lt_trans (Nat.lt_trans (Nat.lt_trans (Nat.lt_trans (Nat.lt_trans (Nat.lt_trans (Nat.lt_trans (Nat.lt_trans (Nat.lt_trans (Nat.lt_trans k2 k3) k4) k5) k6) k7) k8) k9) k10) k11) k12)
  have ne_xa_yi : xa ≠ yi := Nat.ne_of_lt (Nat.lt_trans (Nat.lt_trans (Nat.lt_trans (Nat.lt_trans (Nat.lt_trans (Nat.lt_trans (Nat.lt_trans (Nat.lt_trans (Nat.lt_trans (Nat.lt_trans (Nat.lt_trans k2 k3) k4) k5) k6) k7) k8) k9) k10) k11) k12) k13)
  have ne_xa_ym : xa ≠ ym := Nat.ne_of_lt (Nat.lt_trans (Nat.lt_trans (Nat.lt_trans (Nat.lt_trans (Nat.lt_trans (Nat.lt_trans (Nat.lt_trans (Nat.lt_trans (Nat.lt_trans (Nat.lt_trans (Nat.lt_trans (Nat.lt_trans k2 k3) k4) k5) k6) k7) k8) k9) k10) k11) k12) k13) k14)
  have ne_xa_yb : xa ≠ yb := Nat.ne_of_lt (Nat.lt_trans (Nat.lt_trans (Nat.lt_trans (Nat.lt_trans (Nat.lt_trans (Nat.lt_trans (Nat.lt_trans (Nat.lt_trans (Nat.lt_trans (Nat.lt_trans (Nat.lt_trans (Nat.lt_trans (Nat.lt_trans k2 k3) k4) k5) k6) k7) k8) k9) k10) k11) k12) k13) k14) k15)
  have ne_xb_xc : xb ≠ xc := Nat.ne_of_lt k3
  have ne_xb_xd : xb ≠ xd := Nat.ne_of_lt (Nat.lt_trans k3 k4)
  have ne_xb_pe : xb ≠ pe := Nat.ne_of_lt (Nat.lt_trans (Nat.lt_trans k3 k4) k5)
  have ne_xb_xn : xb ≠ xn := Nat.ne_of_lt (Nat.lt_trans (Nat.lt_trans (Nat.lt_trans k3 k4) k5) k6)
  have ne_xb_pb : xb ≠ pb := Nat.ne_of_lt (Nat.lt_trans (Nat.lt_trans (Nat.lt_trans (Nat.lt_trans k3 k4) k5) k6) k7)
  have ne_xb_xm : xb ≠ xm := Nat.ne_of_lt (Nat.lt_trans (Nat.lt_trans (Nat.lt_trans (Nat.lt_trans (Nat.lt_trans k3 k4) k5) k6) k7) k8)
  have ne_xb_fo : xb ≠ fo := Nat.ne_of_lt (Nat.lt_trans (Nat.lt_trans (Nat.lt_trans (Nat.lt_trans (Nat.lt_trans (Nat.lt_trans k3 k4) k5) k6) k7) k8) k9)
  have ne_xb_fi : xb ≠ fi := Nat.ne_of_lt (Nat.lt_trans (Nat.lt_trans (Nat.lt_trans (Nat.lt_trans (Nat.lt_trans (Nat.lt_trans (Nat.lt_trans k3 k4) k5) k6) k7) k8) k9) k10)
  have ne_xb_pl : xb ≠ pl := Nat.ne_of_lt (Nat.lt_trans (Nat.lt_trans (Nat.lt_trans (Nat.lt_trans (Nat.lt_trans (Nat.lt_trans (Nat.lt_trans (Nat.lt_trans k3 k4) k5) k6) k7) k8) k9) k10) k11)
  have ne_xb_yo : xb ≠ yo := Nat.ne_of_lt (Nat.lt_trans (Nat.lt_trans (Nat.lt_trans (Nat.lt_trans (Nat.lt_trans (Nat.lt_trans (Nat.lt_trans (Nat.lt_trans (Nat.lt_trans k3 k4) k5) k6) k7) k8) k9) k10) k11) k12)
  have ne_xb_yi : xb ≠ yi := Nat.ne_of_lt (Nat.lt_trans (Nat.lt_trans (Nat.lt_trans (Nat.lt_trans (Nat.lt_trans (Nat.lt_trans (Nat.lt_trans (Nat.lt_trans (Nat.lt_trans (Nat.lt_trans k3 k4) k5) k6) k7) k8) k9) k10) k11) k12) k13)
  have ne_xb_ym : xb ≠ ym := Nat.ne_of_lt (Nat.lt_trans (Nat.lt_trans (Nat.lt_trans (Nat.lt_trans (Nat.lt_trans (Nat.lt_trans (Nat.lt_trans (Nat.lt_trans (Nat.lt_trans (Nat.lt_trans (Nat.lt_trans k3 k4) k5) k6) k7) k8) k9) k10) k11) k12) k13) k14)
  have ne_xb_yb : xb ≠ yb := Nat.ne_of_lt (Nat.lt_trans (Nat.lt_trans (Nat.lt_trans (Nat.lt_trans (Nat.lt_trans (Nat.lt_trans (Nat.lt_trans (Nat.lt_trans (Nat.lt_trans (Nat.lt_trans (Nat.lt_trans (Nat.lt_trans k3 k4) k5) k6) k7) k8) k9) k10) k11) k12) k13) k14) k15)
  have ne_xc_xd : xc ≠ xd := Nat.ne_of_lt k4
  have ne_xc_pe : xc ≠ pe := Nat.ne_of_lt (Nat.lt_trans k4 k5)
  have ne_xc_xn : xc ≠ xn := Nat.ne_of_lt (Nat.lt_trans (Nat.lt_trans k4 k5) k6)
  have ne_xc_pb : xc ≠ pb := Nat.ne_of_lt (Nat.lt_trans (Nat.lt_trans (Nat.lt_trans k4 k5) k6) k7)
  have ne_xc_xm : xc ≠ xm := Nat.ne_of_lt (Nat.lt_trans (Nat.lt_trans (Nat.lt_trans (Nat.lt_trans k4 k5) k6) k7) k8)
  have ne_xc_fo : xc ≠ fo := Nat.ne_of_lt (Nat.lt_trans (Nat.lt_trans (Nat.lt_trans (Nat.lt_trans (Nat.lt_trans k4 k5) k6) k7) k8) k9)
  have ne_xc_fi : xc ≠ fi := Nat.ne_of_lt (Nat.lt_trans (Nat.lt_trans (Nat.lt_trans (Nat.lt_trans (Nat.lt_trans (Nat.lt_trans k4 k5) k6) k7) k8) k9) k10)
  have ne_xc_pl : xc ≠ pl := Nat.ne_of_lt (Nat.lt_trans (Nat.lt_trans (Nat.lt_trans (Nat.lt_trans (Nat.lt_trans (Nat.lt_trans (Nat.lt_trans k4 k5) k6) k7) k8) k9) k10) k11)
  have ne_xc_yo : xc ≠ yo := Nat.ne_of_lt (Nat.lt_trans (Nat.lt_trans (Nat.lt_trans (Nat.lt_trans (Nat.lt_trans (Nat.lt_trans (Nat.lt_trans (Nat.lt_trans k4 k5) k6) k7) k8) k9) k10) k11) k12)
  have ne_xc_yi : xc ≠ yi := Nat.ne_of_lt (Nat.lt_trans (Nat.lt_trans (Nat.lt_trans (Nat.lt_trans (Nat.lt_trans (Nat.lt_trans (Nat.lt_trans (Nat.lt_trans (Nat.lt_trans k4 k5) k6) k7) k8) k9) k10) k11) k12) k13)
  have ne_xc_ym : xc ≠ ym := Nat.ne_of_lt (Nat.lt_trans (Nat.lt_trans (Nat.lt_trans (Nat.lt_trans (Nat.lt_trans (Nat.lt_trans (Nat.lt_trans (Nat.lt_trans (Nat.lt_trans (Nat.lt_trans k4 k5) k6) k7) k8) k9) k10) k11) k12) k13) k14)
  have ne_xc_yb : xc ≠ yb := Nat.ne_of_lt (Nat.lt_trans (Nat.lt_trans (Nat.lt_trans (Nat.lt_trans (Nat.lt_trans (Nat.lt_trans (Nat.lt_trans (Nat.lt_trans (Nat.lt_trans (Nat.lt_trans (Nat.lt_trans k4 k5) k6) k7) k8) k9) k10) k11) k12) k13) k14) k15)
  have ne_xd_pe : xd ≠ pe := Nat.ne_of_lt k5
  have ne_xd_xn : xd ≠ xn := Nat.ne_of_lt (Nat.lt_trans k5 k6)
  have ne_xd_pb : xd ≠ pb := Nat.ne_of_lt (Nat.lt_trans (Nat.lt_trans k5 k6) k7)
  have ne_xd_xm : xd ≠ xm := Nat.ne_of_lt (Nat.lt_trans (Nat.lt_trans (Nat.lt_trans k5 k6) k7) k8)
  have ne_xd_fo : xd ≠ fo := Nat.ne_of_lt (Nat.lt_trans (Nat.lt_trans (Nat.lt_trans (Nat.lt_trans k5 k6) k7) k8) k9)
  have ne_xd_fi : xd ≠ fi := Nat.ne_of_lt (Nat.lt_trans (Nat.lt_trans (Nat.lt_trans (Nat.lt_trans (Nat.lt_trans k5 k6) k7) k8) k9) k10)
  have ne_xd_pl : xd ≠ pl := Nat.ne_of_lt (Nat.lt_trans (Nat.lt_trans (Nat.lt_trans (Nat.lt_trans (Nat.lt_trans (Nat.lt_trans k5 k6) k7) k8) k9) k10) k11)
  have ne_xd_yo : xd ≠ yo := Nat.ne_of_lt (Nat.lt_trans (Nat.lt_trans (Nat.lt_trans (Nat.lt_trans (Nat.lt_trans (Nat.lt_trans (Nat.lt_trans k5 k6) k7) k8) k9) k10) k11) k12)
  have ne_xd_yi : xd ≠ yi := Nat.ne_of_lt (Nat.lt_trans (Nat.lt_trans (Nat.lt_trans (Nat.lt_trans (Nat.lt_trans (Nat.lt_trans (Nat.lt_trans (Nat.lt_trans k5 k6) k7) k8) k9) k10) k11) k12) k13)
  have ne_xd_ym : xd ≠ ym := Nat.ne_of_lt (Nat.lt_trans (Nat.lt_trans (Nat.lt_trans (Nat.lt_trans (Nat.lt_trans (Nat.lt_trans (Nat.lt_trans (Nat.lt_trans (Nat.lt_trans k5 k6) k7) k8) k9) k10) k11) k12) k13) k14)
  have ne_xd_yb : xd ≠ yb := Nat.ne_of_lt (Nat.lt_trans (Nat.lt_trans (Nat.lt_trans (Nat.lt_trans (Nat.lt_trans (Nat.lt_trans (Nat.lt_trans (Nat.lt_trans (Nat.lt_trans (Nat.lt_trans k5 k6) k7) k8) k9) k10) k11) k12) k13) k14) k15)
  have ne_pe_xn : pe ≠ xn := Nat.ne_of_lt k6
  have ne_pe_pb : pe ≠ pb := Nat.ne_of_lt (Nat.lt_trans k6 k7)
  have ne_pe_xm : pe ≠ xm := Nat.ne_of_lt (Nat.lt_trans (Nat.lt_trans k6 k7) k8)
  have ne_pe_fo : pe ≠ fo := Nat.ne_of_lt (Nat.lt_trans (Nat.lt_trans (Nat.lt_trans k6 k7) k8) k9)
  have ne_pe_fi : pe ≠ fi := Nat.ne_of_lt (Nat.lt_trans (Nat.lt_trans (Nat.lt_trans (Nat.lt_trans k6 k7) k8) k9) k10)
  have ne_pe_pl : pe ≠ pl := Nat.ne_of_lt (Nat.lt_trans (Nat.lt_trans (Nat.lt_trans (Nat.lt_trans (Nat.lt_trans k6 k7) k8) k9) k10) k11)
  have ne_pe_yo : pe ≠ yo := Nat.ne_of_lt (Nat.lt_trans (Nat.lt_trans (Nat.lt_trans (Nat.lt_trans (Nat.lt_trans (Nat.lt_trans k6 k7) k8) k9) k10) k11) k12)
  have ne_pe_yi : pe ≠ yi := Nat.ne_of_lt (Nat.lt_trans (Nat.lt_trans (Nat.lt_trans (Nat.lt_trans (Nat.lt_trans (Nat.lt_trans (Nat.lt_trans k6 k7) k8) k9) k10) k11) k12) k13)
  have ne_pe_ym : pe ≠ ym := Nat.ne_of_lt (Nat.lt_trans (Nat.lt_trans (Nat.lt_trans (Nat.lt_trans (Nat.lt_trans (Nat.lt_trans (Nat.lt_trans (Nat.lt_trans k6 k7) k8) k9) k10) k11) k12) k13) k14)
  have ne_pe_yb : pe ≠ yb := Nat.ne_of_lt (Nat.lt_trans (Nat.lt_trans (Nat.lt_trans (Nat.lt_trans (Nat.lt_trans (Nat.lt_trans (Nat.lt_trans (Nat.lt_trans (Nat.lt_trans k6 k7) k8) k9) k10) k11) k12) k13) k14) k15)
  have ne_xn_pb : xn ≠ pb := Nat.ne_of_lt k7
  have ne_xn_xm : xn ≠ xm := Nat.ne_of_lt (Nat.lt_trans k7 k8)
  have ne_xn_fo : xn ≠ fo := Nat.ne_of_lt (Nat.lt_trans (Nat.lt_trans k7 k8) k9)
  have ne_xn_fi : xn ≠ fi := Nat.ne_of_lt (Nat.lt_trans (Nat.lt_trans (Nat.lt_trans k7 k8) k9) k10)
  have ne_xn_pl : xn ≠ pl := Nat.ne_of_lt (Nat.lt_trans (Nat.lt_trans (Nat.lt_trans (Nat.lt_trans k7 k8) k9) k10) k11)
  have ne_xn_yo : xn ≠ yo := Nat.ne_of_lt (Nat.lt_trans (Nat.lt_trans (Nat.lt_trans (Nat.lt_trans (Nat.lt_trans k7 k8) k9) k10) k11) k12)
  have ne_xn_yi : xn ≠ yi := Nat.ne_of_lt (Nat.lt_trans (Nat.lt_trans (Nat.lt_trans (Nat.lt_trans (Nat.lt_trans (Nat.lt_trans k7 k8) k9) k10) k11) k12) k13)
  have ne_xn_ym : xn ≠ ym := Nat.ne_of_lt (Nat.lt_trans (Nat.lt_trans (Nat.lt_trans (Nat.lt_trans (Nat.lt_trans (Nat.lt_trans (Nat.lt_trans k7 k8) k9) k10) k11) k12) k13) k14)
  have ne_xn_yb : xn ≠ yb := Nat.ne_of_lt (Nat.lt_trans (Nat.lt_trans (Nat.lt_trans (Nat.lt_trans (Nat.lt_trans (Nat.lt_trans (Nat.lt_trans (Nat.lt_trans k7 k8) k9) k10) k11) k12) k13) k14) k15)
  have ne_pb_xm : pb ≠ xm := Nat.ne_of_lt k8
  have ne_pb_fo : pb ≠ fo := Nat.ne_of_lt (Nat.lt_trans k8 k9)
  have ne_pb_fi : pb ≠ fi := Nat.ne_of_lt (Nat.lt_trans (Nat.lt_trans k8 k9) k10)
  have ne_pb_pl : pb ≠ pl := Nat.ne_of_lt (Nat.lt_trans (Nat.lt_trans (Nat.lt_trans k8 k9) k10) k11)
  have ne_pb_yo : pb ≠ yo := Nat.ne_of_lt (Nat.lt_trans (Nat.lt_trans (Nat.lt_trans (Nat.lt_trans k8 k9) k10) k11) k12)
  have ne_pb_yi : pb ≠ yi := Nat.ne_of_lt (Nat.lt_trans (Nat.lt_trans (Nat.lt_trans (Nat.lt_trans (Nat.lt_trans k8 k9) k10) k11) k12) k13)
  have ne_pb_ym : pb ≠ ym := Nat.ne_of_lt (Nat.lt_trans (Nat.lt_trans (Nat.lt_trans (Nat.lt_trans (Nat.lt_trans (Nat.lt_trans k8 k9) k10) k11) k12) k13) k14)
  have ne_pb_yb : pb ≠ yb := Nat.ne_of_lt (Nat.lt_trans (Nat.lt_trans (Nat.lt_trans (Nat.lt_trans (Nat.lt_trans (Nat.lt_trans (Nat.lt_trans k8 k9) k10) k11) k12) k13) k14) k15)
  have ne_xm_fo : xm ≠ fo := Nat.ne_of_lt k9
  have ne_xm_fi : xm ≠ fi := Nat.ne_of_lt (Nat.lt_trans k9 k10)
  have ne_xm_pl : xm ≠ pl := Nat.ne_of_lt (Nat.lt_trans (Nat.lt_trans k9 k10) k11)
  have ne_xm_yo : xm ≠ yo := Nat.ne_of_lt (Nat.lt_trans (Nat.lt_trans (Nat.lt_trans k9 k10) k11) k12)
  have ne_xm_yi : xm ≠ yi := Nat.ne_of_lt (Nat.lt_trans (Nat.lt_trans (Nat.lt_trans (Nat.lt_trans k9 k10) k11) k12) k13)
  have ne_xm_ym : xm ≠ ym := Nat.ne_of_lt (Nat.lt_trans (Nat.lt_trans (Nat.lt_trans (Nat.lt_trans (Nat.lt_trans k9 k10) k11) k12) k13) k14)
  have ne_xm_yb : xm ≠ yb := Nat.ne_of_lt (Nat.lt_trans (Nat.lt_trans (Nat.lt_trans (Nat.lt_trans (Nat.lt_trans (Nat.lt_trans k9 k10) k11) k12) k13) k14) k15)
  have ne_fo_fi : fo ≠ fi := Nat.ne_of_lt k10
  have ne_fo_pl : fo ≠ pl := Nat.ne_of_lt (Nat.lt_trans k10 k11)
  have ne_fo_yo : fo ≠ yo := Nat.ne_of_lt (Nat.lt_trans (Nat.lt_trans k10 k11) k12)
  have ne_fo_yi : fo ≠ yi := Nat.ne_of_lt (Nat.lt_trans (Nat.lt_trans (Nat.lt_trans k10 k11) k12) k13)
  have ne_fo_ym : fo ≠ ym := Nat.ne_of_lt (Nat.lt_trans (Nat.lt_trans (Nat.lt_trans (Nat.lt_trans k10 k11) k12) k13) k14)
  have ne_fo_yb : fo ≠ yb := Nat.ne_of_lt (Nat.lt_trans (Nat.lt_trans (Nat.lt_trans (Nat.lt_trans (Nat.lt_trans k10 k11) k12) k13) k14) k15)
  have ne_fi_pl : fi ≠ pl := Nat.ne_of_lt k11
  have ne_fi_yo : fi ≠ yo := Nat.ne_of_lt (Nat.lt_trans k11 k12)
  have ne_fi_yi : fi ≠ yi := Nat.ne_of_lt (Nat.lt_trans (Nat.lt_trans k11 k12) k13)
  have ne_fi_ym : fi ≠ ym := Nat.ne_of_lt (Nat.lt_trans (Nat.lt_trans (Nat.lt_trans k11 k12) k13) k14)
  have ne_fi_yb : fi ≠ yb := Nat.ne_of_lt (Nat.lt_trans (Nat.lt_trans (Nat.lt_trans (Nat.lt_trans k11 k12) k13) k14) k15)
  have ne_pl_yo : pl ≠ yo := Nat.ne_of_lt k12
  have ne_pl_yi : pl ≠ yi := Nat.ne_of_lt (Nat.lt_trans k12 k13)
  have ne_pl_ym : pl ≠ ym := Nat.ne_of_lt (Nat.lt_trans (Nat.lt_trans k12 k13) k14)
  have ne_pl_yb : pl ≠ yb := Nat.ne_of_lt (Nat.lt_trans (Nat.lt_trans (Nat.lt_trans k12 k13) k14) k15)
  have ne_yo_yi : yo ≠ yi := Nat.ne_of_lt k13
  have ne_yo_ym : yo ≠ ym := Nat.ne_of_lt (Nat.lt_trans k13 k14)
  have ne_yo_yb : yo ≠ yb := Nat.ne_of_lt (Nat.lt_trans (Nat.lt_trans k13 k14) k15)
  have ne_yi_ym : yi ≠ ym := Nat.ne_of_lt k14
  have ne_yi_yb : yi ≠ yb := Nat.ne_of_lt (Nat.lt_trans k14 k15)
  have ne_ym_yb : ym ≠ yb := Nat.ne_of_lt k15
  have g_xa : n0 ≤ xa := Nat.le_trans g_o (Nat.le_of_lt k1)
  have g_xb : n0 ≤ xb := Nat.le_trans g_o (Nat.le_of_lt (Nat.lt_trans k1 k2))
  have g_xc : n0 ≤ xc := Nat.le_trans g_o (Nat.le_of_lt (Nat.lt_trans (Nat.lt_trans k1 k2) k3))
  have g_xd : n0 ≤ xd := Nat.le_trans g_o (Nat.le_of_lt (Nat.lt_trans (Nat.lt_trans (Nat.lt_trans k1 k2) k3) k4))
  have g_pe : n0 ≤ pe := Nat.le_trans g_o (Nat.le_of_lt (Nat.lt_trans (Nat.lt_trans (Nat.lt_trans (Nat.lt_trans k1 k2) k3) k4) k5))
  have g_xn : n0 ≤ xn := Nat.le_trans g_o (Nat.le_of_lt (Nat.lt_trans (Nat.lt_trans (Nat.lt_trans (Nat.lt_trans (Nat.lt_trans k1 k2) k3) k4) k5) k6))
  have g_pb : n0 ≤ pb := Nat.le_trans g_o (Nat.le_of_lt (Nat.lt_trans (Nat.lt_trans (Nat.lt_trans (Nat.lt_trans (Nat.lt_trans (Nat.lt_trans k1 k2) k3) k4) k5) k6) k7))
  have g_xm : n0 ≤ xm := Nat.le_trans g_o (Nat.le_of_lt (Nat.lt_trans (Nat.lt_trans (Nat.lt_trans (Nat.lt_trans (Nat.lt_trans (Nat.lt_trans (Nat.lt_trans k1 k2) k3) k4) k5) k6) k7) k8))
  have g_fo : n0 ≤ fo := Nat.le_trans g_o (Nat.le_of_lt (Nat.lt_trans (Nat.lt_trans (Nat.lt_trans (Nat.lt_trans (Nat.lt_trans (Nat.lt_trans (Nat.lt_trans (Nat.lt_trans k1 k2) k3) k4) k5) k6) k7) k8) k9))
  have g_fi : n0 ≤ fi := Nat.le_trans g_o (Nat.le_of_lt (Nat.lt_trans (Nat.lt_trans (Nat.lt_trans (Nat.lt_trans (Nat.lt_trans (Nat.lt_trans (Nat.lt_trans (Nat.lt_trans (Nat.lt_trans k1 k2) k3) k4) k5) k6) k7) k8) k9) k10))
  have g_pl : n0 ≤ pl := Nat.le_trans g_o (Nat.le_of_lt (Nat.lt_trans (Nat.lt_trans (Nat.lt_trans (Nat.lt_trans (Nat.lt_trans (Nat.lt_trans (Nat.lt_trans (Nat.lt_trans (Nat.lt_trans (Nat.lt_trans k1 k2) k3) k4) k5) k6) k7) k8) k9) k10) k11))
  have g_yo : n0 ≤ yo := Nat.le_trans g_o (Nat.le_of_lt (Nat.lt_trans (Nat.lt_trans (Nat.lt_trans (Nat.lt_trans (Nat.lt_trans (Nat.lt_trans (Nat.lt_trans (Nat.lt_trans (Nat.lt_trans (Nat.lt_trans (Nat.lt_trans k1 k2) k3) k4) k5) k6) k7) k8) k9) k10) k11) k12))
  have g_yi : n0 ≤ yi := Nat.le_trans g_o (Nat.le_of_lt (Nat.lt_trans (Nat.lt_trans (Nat.lt_trans (Nat.lt_trans (Nat.lt_trans (Nat.lt_trans (Nat.lt_trans (Nat.lt_trans (Nat.lt_trans (Nat.lt_trans (Nat.lt_trans (Nat.lt_trans k1 k2) k3) k4) k5) k6) k7) k8) k9) k10) k11) k12) k13))
  have g_ym : n0 ≤ ym := Nat.le_trans g_o (Nat.le_of_lt (Nat.lt_trans (Nat.lt_trans (Nat.lt_trans (Nat.lt_trans (Nat.lt_trans (Nat.lt_trans (Nat.lt_trans (Nat.lt_trans (Nat.lt_trans (Nat.lt_trans (Nat.lt_trans (Nat.lt_trans (Nat.lt_trans k1 k2) k3) k4) k5) k6) k7) k8) k9) k10) k11) k12) k13) k14))
  have g_yb : n0 ≤ yb := Nat.le_trans g_o (Nat.le_of_lt (Nat.lt_trans (Nat.lt_trans (Nat.lt_trans (Nat.lt_trans (Nat.lt_trans (Nat.lt_trans (Nat.lt_trans (Nat.lt_trans (Nat.lt_trans (Nat.lt_trans (Nat.lt_trans (Nat.lt_trans (Nat.lt_trans (Nat.lt_trans k1 k2) k3) k4) k5) k6) k7) k8) k9) k10) k11) k12) k13) k14) k15))
  suffices J0_1 : ∀ (nn : Nat) (locs2 : List Loc) (T2 : State) (X2 : Stand p l e ({ frames := 0, cells := 0, slots := 0, locals := 0 } : Room) s m #[(.ref o), (.int um)] below meth c T2 locs2 0 0) (hp2 : Heap) (e2 : T2.heap = hp2) (N2 : Fr n0 locs2) (uj : Int32) (gl : Nat → Int32) (gi : Nat → Int32) (E_oj : Exa Z hp2 o "com/example/isolens/isolens/checker/DynamicOrder") (E_pej : Exa Z hp2 pe "com/example/isolens/isolens/checker/DynamicOrder$Found") (E_pbj : Exa Z hp2 pb "com/example/isolens/isolens/checker/DynamicOrder$Found") (F_o_addedFromj : Fld Z hp2 o "com/example/isolens/isolens/checker/DynamicOrder" "addedFrom" "[I" (.ref xa)) (F_o_addedToj : Fld Z hp2 o "com/example/isolens/isolens/checker/DynamicOrder" "addedTo" "[I" (.ref xb)) (F_o_earlierOutj : Fld Z hp2 o "com/example/isolens/isolens/checker/DynamicOrder" "earlierOut" "[I" (.ref xc)) (F_o_earlierInj : Fld Z hp2 o "com/example/isolens/isolens/checker/DynamicOrder" "earlierIn" "[I" (.ref xd)) (F_o_pendingj : Fld Z hp2 o "com/example/isolens/isolens/checker/DynamicOrder" "pending" "Lcom/example/isolens/isolens/checker/DynamicOrder$Found;" (.ref pe)) (F_o_pendingBackj : Fld Z hp2 o "com/example/isolens/isolens/checker/DynamicOrder" "pendingBack" "Lcom/example/isolens/isolens/checker/DynamicOrder$Found;" (.ref pb)) (F_o_firstOutj : Fld Z hp2 o "com/example/isolens/isolens/checker/DynamicOrder" "firstOut" "[I" (.ref fo)) (F_o_firstInj : Fld Z hp2 o "com/example/isolens/isolens/checker/DynamicOrder" "firstIn" "[I" (.ref fi)) (F_o_placej : Fld Z hp2 o "com/example/isolens/isolens/checker/DynamicOrder" "place" "[I" (.ref pl)) (F_o_latestOutj : Fld Z hp2 o "com/example/isolens/isolens/checker/DynamicOrder" "latestOut" "[I" (.ref yo)) (F_o_latestInj : Fld Z hp2 o "com/example/isolens/isolens/checker/DynamicOrder" "latestIn" "[I" (.ref yi)) (F_o_metInj : Fld Z hp2 o "com/example/isolens/isolens/checker/DynamicOrder" "metIn" "[I" (.ref ym)) (F_o_metBackj : Fld Z hp2 o "com/example/isolens/isolens/checker/DynamicOrder" "metBack" "[I" (.ref yb)) (F_o_addedj : Fld Z hp2 o "com/example/isolens/isolens/checker/DynamicOrder" "added" "I" (.int uj)) (F_o_searchesj : Fld Z hp2 o "com/example/isolens/isolens/checker/DynamicOrder" "searches" "I" (.int sc)) (F_pe_countj : Fld Z hp2 pe "com/example/isolens/isolens/checker/DynamicOrder$Found" "count" "I" (.int cp)) (F_pe_nodesj : Fld Z hp2 pe "com/example/isolens/isolens/checker/DynamicOrder$Found" "nodes" "[I" (.ref xn)) (F_pb_countj : Fld Z hp2 pb "com/example/isolens/isolens/checker/DynamicOrder$Found" "count" "I" (.int cb)) (F_pb_nodesj : Fld Z hp2 pb "com/example/isolens/isolens/checker/DynamicOrder$Found" "nodes" "[I" (.ref xm)) (A_xaj : Ara Z hp2 xa .int 16 (fun jz => .int (fr jz))) (A_xbj : Ara Z hp2 xb .int 16 (fun jz => .int (tt jz))) (A_xcj : Ara Z hp2 xc .int 16 (fun jz => .int (eo jz))) (A_xdj : Ara Z hp2 xd .int 16 (fun jz => .int (ei jz))) (A_xnj : Ara Z hp2 xn .int 16 (fun jz => .int (pn jz))) (A_xmj : Ara Z hp2 xm .int 16 (fun jz => .int (pq jz))) (A_foj : Ara Z hp2 fo .int 4 (fun jz => .int ((fun _ => (0 : Int32)) jz))) (A_fij : Ara Z hp2 fi .int 4 (fun jz => .int ((fun _ => (0 : Int32)) jz))) (A_plj : Ara Z hp2 pl .int 3 (fun jz => .int (own_id jz))) (A_yoj : Ara Z hp2 yo .int 3 (fun jz => .int (gl jz))) (A_yij : Ara Z hp2 yi .int 3 (fun jz => .int (gi jz))) (A_ymj : Ara Z hp2 ym .int 3 (fun jz => .int (mi jz))) (A_ybj : Ara Z hp2 yb .int 3 (fun jz => .int (mb jz))) (Zj : n0 ≤ hp2.size) (Ij : own_inv uj.toInt.toNat q sc cd fr tt eo ei gl gi mi mb) (hj : um.toInt ≤ uj.toInt ∧ uj.toInt ≤ uk.toInt) (hnn : (uj.toInt - um.toInt).toNat = nn), Go p e below EF (QDn Z n0 o q um cd) m T2 0 #[.val (.ref o), .val (.int um)] [] by
    exact J0_1 _ _ _ X0 _ e0 N0 uk lo li E_o E_pe E_pb F_o_addedFrom F_o_addedTo F_o_earlierOut F_o_earlierIn F_o_pending F_o_pendingBack F_o_firstOut F_o_firstIn F_o_place F_o_latestOut F_o_latestIn F_o_metIn F_o_metBack F_o_added F_o_searches F_pe_count F_pe_nodes F_pb_count F_pb_nodes A_xa A_xb A_xc A_xd A_xn A_xm A_fo A_fi A_pl A_yo A_yi A_ym A_yb Z0 I ⟨hm.2, Int.le_refl _⟩ rfl
  intro nn
  induction nn using Nat.strongRecOn with
  | _ nn ih =>
    intro locs2 T2 X2 hp2 e2 N2 uj gl gi E_oj E_pej E_pbj F_o_addedFromj F_o_addedToj F_o_earlierOutj F_o_earlierInj F_o_pendingj F_o_pendingBackj F_o_firstOutj F_o_firstInj F_o_placej F_o_latestOutj F_o_latestInj F_o_metInj F_o_metBackj F_o_addedj F_o_searchesj F_pe_countj F_pe_nodesj F_pb_countj F_pb_nodesj A_xaj A_xbj A_xcj A_xdj A_xnj A_xmj A_foj A_fij A_plj A_yoj A_yij A_ymj A_ybj Zj Ij hj hnn
    have hk4 := I.1
    refine g_aloadN X2 hx hby d13_0 (pc' := 1) rfl rfl rfl ?_
    refine g_getF X2 hx hby hZ hown e2 (hw _ (List.mem_of_getElem? (i := 117) rfl)) F_o_addedj d13_1 (pc' := 4) rfl (fun T3 X3 e3 => ?_)
    refine g_iloadN X3 hx hby d13_4 (pc' := 5) rfl rfl ?_
    refine g_icmple X3 hx hby d13_5 (pt := 67) (pf := 8) (by decide) (by decide) rfl (fun (h5 : uj.toInt ≤ um.toInt) => ?_) (fun (h5 : um.toInt < uj.toInt) => ?_)
    · exact g_retV X3 hx hby hF (Nat.zero_le _) hlk hret d13_67 (by decide) (by decide) (by have e9 : uj = um := Int32.toInt_inj.mp (by omega); rw [← e9]; rw [e3]; exact ⟨rfl, N2, sc, cp, cb, fr, tt, eo, ei, gl, gi, mi, mb, pn, pq, xa, xb, xc, xd, pe, xn, pb, xm, fo, fi, pl, yo, yi, ym, yb, Ij, (by omega), g_o, k1, k2, k3, k4, k5, k6, k7, k8, k9, k10, k11, k12, k13, k14, k15, E_oj, E_pej, E_pbj, F_o_addedFromj, F_o_addedToj, F_o_earlierOutj, F_o_earlierInj, F_o_pendingj, F_o_pendingBackj, F_o_firstOutj, F_o_firstInj, F_o_placej, F_o_latestOutj, F_o_latestInj, F_o_metInj, F_o_metBackj, F_o_addedj, F_o_searchesj, F_pe_countj, F_pe_nodesj, F_pb_countj, F_pb_nodesj, A_xaj, A_xbj, A_xcj, A_xdj, A_xnj, A_xmj, A_foj, A_fij, A_plj, A_yoj, A_yij, A_ymj, A_ybj⟩)
    · refine g_aloadN X3 hx hby d13_8 (pc' := 9) rfl rfl rfl ?_
      refine g_dup X3 hx hby d13_9 (pc' := 10) rfl rfl ?_
      refine g_getF X3 hx hby hZ hown e3 (hw _ (List.mem_of_getElem? (i := 117) rfl)) F_o_addedj d13_10 (pc' := 13) rfl (fun T4 X4 e4 => ?_)
      refine g_iconst X4 hx hby d13_13 (pc' := 14) rfl (n := (1 : Int32)) (by first | rfl | decide) ?_
      refine g_isub X4 hx hby d13_14 (pc' := 15) rfl ?_
      refine g_nameI (fun u1 h_u1 => ?_)
      have f_u1 := own_dec uj (by omega)
      rw [← h_u1] at f_u1
      have bv := own_inv_ft Ij u1.toInt.toNat (by omega)
      refine g_putF X4 hx hby hZ hown e4 (hw _ (List.mem_of_getElem? (i := 117) rfl)) F_o_addedj E_oj (Or.inl (hw _ (List.mem_of_getElem? (i := 118) rfl))) (hw _ (List.mem_of_getElem? (i := 2) rfl)) (ty := .int) (by decide) rfl rfl d13_15 (pc' := 18) rfl (fun T5 h5 X5 e5 W5 => ?_)
      replace E_oj := E_oj.wr W5
      replace E_pej := E_pej.wr W5
      replace E_pbj := E_pbj.wr W5
      replace F_o_addedFromj := F_o_addedFromj.other W5 (Or.inr (sn_149 hw))
      replace F_o_addedToj := F_o_addedToj.other W5 (Or.inr (sn_150 hw))
      replace F_o_earlierOutj := F_o_earlierOutj.other W5 (Or.inr (sn_151 hw))
      replace F_o_earlierInj := F_o_earlierInj.other W5 (Or.inr (sn_152 hw))
      replace F_o_pendingj := F_o_pendingj.other W5 (Or.inr (sn_153 hw))
      replace F_o_pendingBackj := F_o_pendingBackj.other W5 (Or.inr (sn_154 hw))
      replace F_o_firstOutj := F_o_firstOutj.other W5 (Or.inr (sn_155 hw))
      replace F_o_firstInj := F_o_firstInj.other W5 (Or.inr (sn_156 hw))
      replace F_o_placej := F_o_placej.other W5 (Or.inr (sn_157 hw))
      replace F_o_latestOutj := F_o_latestOutj.other W5 (Or.inr (sn_158 hw))
      replace F_o_latestInj := F_o_latestInj.other W5 (Or.inr (sn_159 hw))
      replace F_o_metInj := F_o_metInj.other W5 (Or.inr (sn_160 hw))
      replace F_o_metBackj := F_o_metBackj.other W5 (Or.inr (sn_161 hw))
      replace F_o_addedj := F_o_addedj.same W5
      replace F_o_searchesj := F_o_searchesj.other W5 (Or.inr (sn_162 hw))
      replace F_pe_countj := F_pe_countj.other W5 (Or.inl (Ne.symm ne_o_pe))
      replace F_pe_nodesj := F_pe_nodesj.other W5 (Or.inl (Ne.symm ne_o_pe))
      replace F_pb_countj := F_pb_countj.other W5 (Or.inl (Ne.symm ne_o_pb))
      replace F_pb_nodesj := F_pb_nodesj.other W5 (Or.inl (Ne.symm ne_o_pb))
      replace A_xaj := A_xaj.other W5 (Ne.symm ne_o_xa)
      replace A_xbj := A_xbj.other W5 (Ne.symm ne_o_xb)
      replace A_xcj := A_xcj.other W5 (Ne.symm ne_o_xc)
      replace A_xdj := A_xdj.other W5 (Ne.symm ne_o_xd)
      replace A_xnj := A_xnj.other W5 (Ne.symm ne_o_xn)
      replace A_xmj := A_xmj.other W5 (Ne.symm ne_o_xm)
      replace A_foj := A_foj.other W5 (Ne.symm ne_o_fo)
      replace A_fij := A_fij.other W5 (Ne.symm ne_o_fi)
      replace A_plj := A_plj.other W5 (Ne.symm ne_o_pl)
      replace A_yoj := A_yoj.other W5 (Ne.symm ne_o_yo)
      replace A_yij := A_yij.other W5 (Ne.symm ne_o_yi)
      replace A_ymj := A_ymj.other W5 (Ne.symm ne_o_ym)
      replace A_ybj := A_ybj.other W5 (Ne.symm ne_o_yb)
      have Z6 : n0 ≤ h5.size := by rw [W5.size]; exact Zj
      have N7 := Fr.snoc X5 N2 g_o
      refine g_aloadN X5 hx hby d13_18 (pc' := 19) rfl rfl rfl ?_
      refine g_getF X5 hx hby hZ hown e5 (hw _ (List.mem_of_getElem? (i := 93) rfl)) F_o_latestOutj d13_19 (pc' := 22) rfl (fun T8 X8 e8 => ?_)
      refine g_aloadN X8 hx hby d13_22 (pc' := 23) rfl rfl rfl ?_
      refine g_getF X8 hx hby hZ hown e8 (hw _ (List.mem_of_getElem? (i := 11) rfl)) F_o_addedFromj d13_23 (pc' := 26) rfl (fun T9 X9 e9 => ?_)
      refine g_aloadN X9 hx hby d13_26 (pc' := 27) rfl rfl rfl ?_
      refine g_getF X9 hx hby hZ hown e9 (hw _ (List.mem_of_getElem? (i := 117) rfl)) F_o_addedj d13_27 (pc' := 30) rfl (fun T10 X10 e10 => ?_)
      refine a_iaload X10 hx hby hZ e10 A_xaj (by omega) (by omega) (v := (.int (fr u1.toInt.toNat))) (rfl) d13_30 (pc' := 31) rfl ?_
      refine g_aloadN X10 hx hby d13_31 (pc' := 32) rfl rfl rfl ?_
      refine g_getF X10 hx hby hZ hown e10 (hw _ (List.mem_of_getElem? (i := 15) rfl)) F_o_earlierOutj d13_32 (pc' := 35) rfl (fun T11 X11 e11 => ?_)
      refine g_aloadN X11 hx hby d13_35 (pc' := 36) rfl rfl rfl ?_
      refine g_getF X11 hx hby hZ hown e11 (hw _ (List.mem_of_getElem? (i := 117) rfl)) F_o_addedj d13_36 (pc' := 39) rfl (fun T12 X12 e12 => ?_)
      refine a_iaload X12 hx hby hZ e12 A_xcj (by omega) (by omega) (v := (.int (eo u1.toInt.toNat))) (rfl) d13_39 (pc' := 40) rfl ?_
      refine a_iastore X12 hx hby hZ e12 A_yoj (by omega) (by omega) d13_40 (pc' := 41) rfl (fun T13 h13 X13 e13 W13 => ?_)
      replace E_oj := E_oj.wr W13
      replace E_pej := E_pej.wr W13
      replace E_pbj := E_pbj.wr W13
      replace F_o_addedFromj := F_o_addedFromj.other W13 (Or.inl ne_o_yo)
      replace F_o_addedToj := F_o_addedToj.other W13 (Or.inl ne_o_yo)
      replace F_o_earlierOutj := F_o_earlierOutj.other W13 (Or.inl ne_o_yo)
      replace F_o_earlierInj := F_o_earlierInj.other W13 (Or.inl ne_o_yo)
      replace F_o_pendingj := F_o_pendingj.other W13 (Or.inl ne_o_yo)
      replace F_o_pendingBackj := F_o_pendingBackj.other W13 (Or.inl ne_o_yo)
      replace F_o_firstOutj := F_o_firstOutj.other W13 (Or.inl ne_o_yo)
      replace F_o_firstInj := F_o_firstInj.other W13 (Or.inl ne_o_yo)
      replace F_o_placej := F_o_placej.other W13 (Or.inl ne_o_yo)
      replace F_o_latestOutj := F_o_latestOutj.other W13 (Or.inl ne_o_yo)
      replace F_o_latestInj := F_o_latestInj.other W13 (Or.inl ne_o_yo)
      replace F_o_metInj := F_o_metInj.other W13 (Or.inl ne_o_yo)
      replace F_o_metBackj := F_o_metBackj.other W13 (Or.inl ne_o_yo)
      replace F_o_addedj := F_o_addedj.other W13 (Or.inl ne_o_yo)
      replace F_o_searchesj := F_o_searchesj.other W13 (Or.inl ne_o_yo)
      replace F_pe_countj := F_pe_countj.other W13 (Or.inl ne_pe_yo)
      replace F_pe_nodesj := F_pe_nodesj.other W13 (Or.inl ne_pe_yo)
      replace F_pb_countj := F_pb_countj.other W13 (Or.inl ne_pb_yo)
      replace F_pb_nodesj := F_pb_nodesj.other W13 (Or.inl ne_pb_yo)
      replace A_xaj := A_xaj.other W13 ne_xa_yo
      replace A_xbj := A_xbj.other W13 ne_xb_yo
      replace A_xcj := A_xcj.other W13 ne_xc_yo
      replace A_xdj := A_xdj.other W13 ne_xd_yo
      replace A_xnj := A_xnj.other W13 ne_xn_yo
      replace A_xmj := A_xmj.other W13 ne_xm_yo
      replace A_foj := A_foj.other W13 ne_fo_yo
      replace A_fij := A_fij.other W13 ne_fi_yo
      replace A_plj := A_plj.other W13 ne_pl_yo
      replace A_yij := A_yij.other W13 (Ne.symm ne_yo_yi)
      replace A_ymj := A_ymj.other W13 (Ne.symm ne_yo_ym)
      replace A_ybj := A_ybj.other W13 (Ne.symm ne_yo_yb)
      have Z14 : n0 ≤ h13.size := by rw [W13.size]; exact Z6
      have N15 := Fr.snoc X13 N7 g_yo
      replace A_yoj : Ara Z h13 yo .int 3 (fun jz => .int ((own_ui gl (fr u1.toInt.toNat).toInt.toNat (eo u1.toInt.toNat)) jz)) := A_yoj.setI W13
      refine g_aloadN X13 hx hby d13_41 (pc' := 42) rfl rfl rfl ?_
      refine g_getF X13 hx hby hZ hown e13 (hw _ (List.mem_of_getElem? (i := 95) rfl)) F_o_latestInj d13_42 (pc' := 45) rfl (fun T16 X16 e16 => ?_)
      refine g_aloadN X16 hx hby d13_45 (pc' := 46) rfl rfl rfl ?_
      refine g_getF X16 hx hby hZ hown e16 (hw _ (List.mem_of_getElem? (i := 13) rfl)) F_o_addedToj d13_46 (pc' := 49) rfl (fun T17 X17 e17 => ?_)
      refine g_aloadN X17 hx hby d13_49 (pc' := 50) rfl rfl rfl ?_
      refine g_getF X17 hx hby hZ hown e17 (hw _ (List.mem_of_getElem? (i := 117) rfl)) F_o_addedj d13_50 (pc' := 53) rfl (fun T18 X18 e18 => ?_)
      refine a_iaload X18 hx hby hZ e18 A_xbj (by omega) (by omega) (v := (.int (tt u1.toInt.toNat))) (rfl) d13_53 (pc' := 54) rfl ?_
      refine g_aloadN X18 hx hby d13_54 (pc' := 55) rfl rfl rfl ?_
      refine g_getF X18 hx hby hZ hown e18 (hw _ (List.mem_of_getElem? (i := 17) rfl)) F_o_earlierInj d13_55 (pc' := 58) rfl (fun T19 X19 e19 => ?_)
      refine g_aloadN X19 hx hby d13_58 (pc' := 59) rfl rfl rfl ?_
      refine g_getF X19 hx hby hZ hown e19 (hw _ (List.mem_of_getElem? (i := 117) rfl)) F_o_addedj d13_59 (pc' := 62) rfl (fun T20 X20 e20 => ?_)
      refine a_iaload X20 hx hby hZ e20 A_xdj (by omega) (by omega) (v := (.int (ei u1.toInt.toNat))) (rfl) d13_62 (pc' := 63) rfl ?_
      refine a_iastore X20 hx hby hZ e20 A_yij (by omega) (by omega) d13_63 (pc' := 64) rfl (fun T21 h21 X21 e21 W21 => ?_)
      replace E_oj := E_oj.wr W21
      replace E_pej := E_pej.wr W21
      replace E_pbj := E_pbj.wr W21
      replace F_o_addedFromj := F_o_addedFromj.other W21 (Or.inl ne_o_yi)
      replace F_o_addedToj := F_o_addedToj.other W21 (Or.inl ne_o_yi)
      replace F_o_earlierOutj := F_o_earlierOutj.other W21 (Or.inl ne_o_yi)
      replace F_o_earlierInj := F_o_earlierInj.other W21 (Or.inl ne_o_yi)
      replace F_o_pendingj := F_o_pendingj.other W21 (Or.inl ne_o_yi)
      replace F_o_pendingBackj := F_o_pendingBackj.other W21 (Or.inl ne_o_yi)
      replace F_o_firstOutj := F_o_firstOutj.other W21 (Or.inl ne_o_yi)
      replace F_o_firstInj := F_o_firstInj.other W21 (Or.inl ne_o_yi)
      replace F_o_placej := F_o_placej.other W21 (Or.inl ne_o_yi)
      replace F_o_latestOutj := F_o_latestOutj.other W21 (Or.inl ne_o_yi)
      replace F_o_latestInj := F_o_latestInj.other W21 (Or.inl ne_o_yi)
      replace F_o_metInj := F_o_metInj.other W21 (Or.inl ne_o_yi)
      replace F_o_metBackj := F_o_metBackj.other W21 (Or.inl ne_o_yi)
      replace F_o_addedj := F_o_addedj.other W21 (Or.inl ne_o_yi)
      replace F_o_searchesj := F_o_searchesj.other W21 (Or.inl ne_o_yi)
      replace F_pe_countj := F_pe_countj.other W21 (Or.inl ne_pe_yi)
      replace F_pe_nodesj := F_pe_nodesj.other W21 (Or.inl ne_pe_yi)
      replace F_pb_countj := F_pb_countj.other W21 (Or.inl ne_pb_yi)
      replace F_pb_nodesj := F_pb_nodesj.other W21 (Or.inl ne_pb_yi)
      replace A_xaj := A_xaj.other W21 ne_xa_yi
      replace A_xbj := A_xbj.other W21 ne_xb_yi
      replace A_xcj := A_xcj.other W21 ne_xc_yi
      replace A_xdj := A_xdj.other W21 ne_xd_yi
      replace A_xnj := A_xnj.other W21 ne_xn_yi
      replace A_xmj := A_xmj.other W21 ne_xm_yi
      replace A_foj := A_foj.other W21 ne_fo_yi
      replace A_fij := A_fij.other W21 ne_fi_yi
      replace A_plj := A_plj.other W21 ne_pl_yi
      replace A_yoj := A_yoj.other W21 ne_yo_yi
      replace A_ymj := A_ymj.other W21 (Ne.symm ne_yi_ym)
      replace A_ybj := A_ybj.other W21 (Ne.symm ne_yi_yb)
      have Z22 : n0 ≤ h21.size := by rw [W21.size]; exact Z14
      have N23 := Fr.snoc X21 N15 g_yi
      replace A_yij : Ara Z h21 yi .int 3 (fun jz => .int ((own_ui gi (tt u1.toInt.toNat).toInt.toNat (ei u1.toInt.toNat)) jz)) := A_yij.setI W21
      refine g_goto X21 hx hby d13_64 (pc' := 0) (by decide) (by decide) ?_
      exact ih _ (by omega) _ _ X21 _ e21 N23 u1 _ _ E_oj E_pej E_pbj F_o_addedFromj F_o_addedToj F_o_earlierOutj F_o_earlierInj F_o_pendingj F_o_pendingBackj F_o_firstOutj F_o_firstInj F_o_placej F_o_latestOutj F_o_latestInj F_o_metInj F_o_metBackj F_o_addedj F_o_searchesj F_pe_countj F_pe_nodesj F_pb_countj F_pb_nodesj A_xaj A_xbj A_xcj A_xdj A_xnj A_xmj A_foj A_fij A_plj A_yoj A_yij A_ymj A_ybj Z22 (by rw [show uj.toInt.toNat = u1.toInt.toNat + 1 by omega] at Ij; exact own_inv_undo Ij) ⟨by omega, by omega⟩ rfl
theorem ef_14_rm_mark (m : MethodId) (o : Addr) : entryFrame m #[(.ref o)] 1 = mkF m 0 #[.val (.ref o)] [] := by first | (simp [entryFrame, mkF, argsToLocals, Value.category]; done) | rfl
theorem pn_14 : plainName "com/example/isolens/isolens/checker/DynamicOrder" = true := by first | (simp [plainName, overriddenIn]; done) | decide +kernel
theorem d14_0 : decode prog_17_method_15_code 0 = .ok (.aload_n 0, 1) := by decide +kernel
theorem d14_1 : decode prog_17_method_15_code 1 = .ok (.getfield 151, 3) := by decide +kernel
theorem d14_4 : decode prog_17_method_15_code 4 = .ok (.ireturn, 1) := by decide +kernel
set_option maxRecDepth 65536 in
set_option maxHeartbeats 40000000 in
theorem rm_mark (l : Launch) (Z : State) (a0 : Array Value) (hw : ∀ d ∈ tables_1, d.before a0 Z = true) (o : Addr) (uk : Int32) (h0 : Heap) (F1 : Fld Z h0 o "com/example/isolens/isolens/checker/DynamicOrder" "added" "I" (.int uk)) :
    Ct l Z (⟨"com/example/isolens/isolens/checker/DynamicOrder", "mark", "()I"⟩ : MethodName) prog_17_method_15_code 1 (some .int) ({ frames := 0, cells := 0, slots := 0, locals := 0 } : Room) #[(.ref o)] h0 (QI h0 (fun r => r = uk)) := by
  refine own_met (plainFor_of_name pn_14) (fun m => ef_14_rm_mark m o) ?_
  intro p e s m below meth c T0 EF X0 hx hby hml hown hnm hret hlk hZ hF e0
  refine g_aloadN X0 hx hby d14_0 (pc' := 1) rfl rfl rfl ?_
  refine g_getF X0 hx hby hZ hown e0 (hw _ (List.mem_of_getElem? (i := 117) rfl)) F1 d14_1 (pc' := 4) rfl (fun T1 X1 e1 => ?_)
  exact g_retI X1 hx hby hF (Nat.zero_le _) hlk hret d14_4 (by decide) (by decide) (⟨⟨_, rfl, rfl⟩, e1, rfl⟩)
theorem ef_18_rm_ns (m : MethodId) (o : Addr) : entryFrame m #[(.ref o)] 1 = mkF m 0 #[.val (.ref o)] [] := by first | (simp [entryFrame, mkF, argsToLocals, Value.category]; done) | rfl
theorem pn_18 : plainName "com/example/isolens/isolens/checker/DynamicOrder" = true := by first | (simp [plainName, overriddenIn]; done) | decide +kernel
theorem d18_0 : decode prog_17_method_6_code 0 = .ok (.aload_n 0, 1) := by decide +kernel
theorem d18_1 : decode prog_17_method_6_code 1 = .ok (.dup, 1) := by decide +kernel
theorem d18_2 : decode prog_17_method_6_code 2 = .ok (.getfield 134, 3) := by decide +kernel
theorem d18_5 : decode prog_17_method_6_code 5 = .ok (.iconst 1, 1) := by decide +kernel
theorem d18_6 : decode prog_17_method_6_code 6 = .ok (.iadd, 1) := by decide +kernel
theorem d18_7 : decode prog_17_method_6_code 7 = .ok (.dup_x1, 1) := by decide +kernel
theorem d18_8 : decode prog_17_method_6_code 8 = .ok (.putfield 134, 3) := by decide +kernel
theorem d18_11 : decode prog_17_method_6_code 11 = .ok (.ldc 139, 2) := by decide +kernel
theorem d18_13 : decode prog_17_method_6_code 13 = .ok (.if_icmp .ne 24, 3) := by decide +kernel
theorem d18_37 : decode prog_17_method_6_code 37 = .ok (.aload_n 0, 1) := by decide +kernel
theorem d18_38 : decode prog_17_method_6_code 38 = .ok (.getfield 134, 3) := by decide +kernel
theorem d18_41 : decode prog_17_method_6_code 41 = .ok (.ireturn, 1) := by decide +kernel
set_option maxRecDepth 65536 in
set_option maxHeartbeats 40000000 in
theorem rm_ns (l : Launch) (Z : State) (a0 : Array Value) (hw : ∀ d ∈ tables_1, d.before a0 Z = true) (o : Addr) (n0 : Nat) (sc : Int32) (h0 : Heap) (Z0 : n0 ≤ h0.size) (g_o : n0 ≤ o) (E_o : Exa Z h0 o "com/example/isolens/isolens/checker/DynamicOrder") (F_s : Fld Z h0 o "com/example/isolens/isolens/checker/DynamicOrder" "searches" "I" (.int sc)) (hs : 0 ≤ sc.toInt ∧ sc.toInt ≤ 1000) :
    Ct l Z (⟨"com/example/isolens/isolens/checker/DynamicOrder", "nextSearch", "()I"⟩ : MethodName) prog_17_method_6_code 1 (some .int) ({ frames := 0, cells := 0, slots := 0, locals := 0 } : Room) #[(.ref o)] h0 (QNs Z n0 h0 o sc) := by
  refine own_met (plainFor_of_name pn_18) (fun m => ef_18_rm_ns m o) ?_
  intro p e s m below meth c T0 EF X0 hx hby hml hown hnm hret hlk hZ hF e0
  have N0 := Fr.nil n0
  refine g_aloadN X0 hx hby d18_0 (pc' := 1) rfl rfl rfl ?_
  refine g_dup X0 hx hby d18_1 (pc' := 2) rfl rfl ?_
  refine g_getF X0 hx hby hZ hown e0 (hw _ (List.mem_of_getElem? (i := 145) rfl)) F_s d18_2 (pc' := 5) rfl (fun T1 X1 e1 => ?_)
  refine g_iconst X1 hx hby d18_5 (pc' := 6) rfl (n := (1 : Int32)) (by first | rfl | decide) ?_
  refine g_iadd X1 hx hby d18_6 (pc' := 7) rfl ?_
  refine g_nameI (fun us h_us => ?_)
  have f_us := own_inc sc (by omega)
  rw [← h_us] at f_us
  refine g_dup_x1 X1 hx hby d18_7 (pc' := 8) rfl rfl rfl ?_
  refine g_putF X1 hx hby hZ hown e1 (hw _ (List.mem_of_getElem? (i := 145) rfl)) F_s E_o (Or.inl (hw _ (List.mem_of_getElem? (i := 146) rfl))) (hw _ (List.mem_of_getElem? (i := 2) rfl)) (ty := .int) (by decide) rfl rfl d18_8 (pc' := 11) rfl (fun T2 h2 X2 e2 W2 => ?_)
  replace E_o := E_o.wr W2
  replace F_s := F_s.same W2
  have Z3 : n0 ≤ h2.size := by rw [W2.size]; exact Z0
  have N4 := Fr.snoc X2 N0 g_o
  refine g_ldcI X2 hx hby hZ hown (hw _ (List.mem_of_getElem? (i := 147) rfl)) d18_11 (pc' := 13) rfl ?_
  refine g_icmpne X2 hx hby d18_13 (pt := 37) (pf := 16) (by decide) (by decide) rfl (fun (h13 : ¬ us = (2147483647 : Int32)) => ?_) (fun (h13 : us = (2147483647 : Int32)) => (by exfalso; have z := congrArg Int32.toInt h13; have eM : (2147483647 : Int32).toInt = 2147483647 := rfl; omega))
  have h13i : ¬ us.toInt = 2147483647 := fun q => h13 (Int32.toInt_inj.mp q)
  refine g_aloadN X2 hx hby d18_37 (pc' := 38) rfl rfl rfl ?_
  refine g_getF X2 hx hby hZ hown e2 (hw _ (List.mem_of_getElem? (i := 145) rfl)) F_s d18_38 (pc' := 41) rfl (fun T5 X5 e5 => ?_)
  exact g_retI X5 hx hby hF (Nat.zero_le _) hlk hret d18_41 (by decide) (by decide) (by rw [e5]; exact ⟨_, rfl, f_us, N4, W2⟩)
theorem ef_19_rm_fa (m : MethodId) (o : Addr) (uv : Int32) : entryFrame m #[(.ref o), (.int uv)] 2 = mkF m 0 #[.val (.ref o), .val (.int uv)] [] := by first | (simp [entryFrame, mkF, argsToLocals, Value.category]; done) | rfl
theorem pn_19 : plainName "com/example/isolens/isolens/checker/DynamicOrder$Found" = true := by first | (simp [plainName, overriddenIn]; done) | decide +kernel
theorem d19_0 : decode prog_18_method_2_code 0 = .ok (.aload_n 0, 1) := by decide +kernel
theorem d19_1 : decode prog_18_method_2_code 1 = .ok (.getfield 13, 3) := by decide +kernel
theorem d19_4 : decode prog_18_method_2_code 4 = .ok (.aload_n 0, 1) := by decide +kernel
theorem d19_5 : decode prog_18_method_2_code 5 = .ok (.getfield 7, 3) := by decide +kernel
theorem d19_8 : decode prog_18_method_2_code 8 = .ok (.arraylength, 1) := by decide +kernel
theorem d19_9 : decode prog_18_method_2_code 9 = .ok (.if_icmp .ne 20, 3) := by decide +kernel
theorem d19_29 : decode prog_18_method_2_code 29 = .ok (.aload_n 0, 1) := by decide +kernel
theorem d19_30 : decode prog_18_method_2_code 30 = .ok (.getfield 7, 3) := by decide +kernel
theorem d19_33 : decode prog_18_method_2_code 33 = .ok (.aload_n 0, 1) := by decide +kernel
theorem d19_34 : decode prog_18_method_2_code 34 = .ok (.dup, 1) := by decide +kernel
theorem d19_35 : decode prog_18_method_2_code 35 = .ok (.getfield 13, 3) := by decide +kernel
theorem d19_38 : decode prog_18_method_2_code 38 = .ok (.dup_x1, 1) := by decide +kernel
theorem d19_39 : decode prog_18_method_2_code 39 = .ok (.iconst 1, 1) := by decide +kernel
theorem d19_40 : decode prog_18_method_2_code 40 = .ok (.iadd, 1) := by decide +kernel
theorem d19_41 : decode prog_18_method_2_code 41 = .ok (.putfield 13, 3) := by decide +kernel
theorem sn_163 {a0 : Array Value} {Z : State} (hw : ∀ d ∈ tables_1, d.before a0 Z = true) : Jvm.RoadKit.slotOf Z "com/example/isolens/isolens/checker/DynamicOrder$Found" "nodes" "[I" ≠ Jvm.RoadKit.slotOf Z "com/example/isolens/isolens/checker/DynamicOrder$Found" "count" "I" := slot_ne (Or.inl (hw _ (List.mem_of_getElem? (i := 27) rfl))) (Or.inl (hw _ (List.mem_of_getElem? (i := 149) rfl))) (by decide) (t := (.array .int)) (t' := .int) (by decide) (by decide)
theorem d19_44 : decode prog_18_method_2_code 44 = .ok (.iload_n 1, 1) := by decide +kernel
theorem d19_45 : decode prog_18_method_2_code 45 = .ok (.iastore, 1) := by decide +kernel
theorem d19_46 : decode prog_18_method_2_code 46 = .ok (.return_, 1) := by decide +kernel
set_option maxRecDepth 65536 in
set_option maxHeartbeats 40000000 in
theorem rm_fa (l : Launch) (Z : State) (a0 : Array Value) (hw : ∀ d ∈ tables_1, d.before a0 Z = true) (o : Addr) (uv : Int32) (n0 : Nat) (xn : Addr) (cn : Int32) (g : Nat → Int32) (h0 : Heap) (Z0 : n0 ≤ h0.size) (g_o : n0 ≤ o) (g_x : n0 ≤ xn) (E_o : Exa Z h0 o "com/example/isolens/isolens/checker/DynamicOrder$Found") (F_c : Fld Z h0 o "com/example/isolens/isolens/checker/DynamicOrder$Found" "count" "I" (.int cn)) (F_n : Fld Z h0 o "com/example/isolens/isolens/checker/DynamicOrder$Found" "nodes" "[I" (.ref xn)) (A_xn : Ara Z h0 xn .int 16 (fun jz => .int (g jz))) (hne : o ≠ xn) (hcn : 0 ≤ cn.toInt ∧ cn.toInt < 15) :
    Ct l Z (⟨"com/example/isolens/isolens/checker/DynamicOrder$Found", "add", "(I)V"⟩ : MethodName) prog_18_method_2_code 2 none ({ frames := 0, cells := 0, slots := 0, locals := 0 } : Room) #[(.ref o), (.int uv)] h0 (QFa Z n0 h0 o xn cn uv g) := by
  refine own_met (plainFor_of_name pn_19) (fun m => ef_19_rm_fa m o uv) ?_
  intro p e s m below meth c T0 EF X0 hx hby hml hown hnm hret hlk hZ hF e0
  have N0 := Fr.nil n0
  refine g_aloadN X0 hx hby d19_0 (pc' := 1) rfl rfl rfl ?_
  refine g_getF X0 hx hby hZ hown e0 (hw _ (List.mem_of_getElem? (i := 155) rfl)) F_c d19_1 (pc' := 4) rfl (fun T1 X1 e1 => ?_)
  refine g_aloadN X1 hx hby d19_4 (pc' := 5) rfl rfl rfl ?_
  refine g_getF X1 hx hby hZ hown e1 (hw _ (List.mem_of_getElem? (i := 26) rfl)) F_n d19_5 (pc' := 8) rfl (fun T2 X2 e2 => ?_)
  refine a_arraylength X2 hx hby hZ e2 A_xn (N := (16 : Int32)) rfl d19_8 (pc' := 9) rfl ?_
  refine g_icmpne X2 hx hby d19_9 (pt := 29) (pf := 12) (by decide) (by decide) rfl (fun (h9 : ¬ cn = (16 : Int32)) => ?_) (fun (h9 : cn = (16 : Int32)) => (by exfalso; have z := congrArg Int32.toInt h9; have e16 : (16 : Int32).toInt = 16 := rfl; omega))
  have h9i : ¬ cn.toInt = 16 := fun q => h9 (Int32.toInt_inj.mp q)
  refine g_aloadN X2 hx hby d19_29 (pc' := 30) rfl rfl rfl ?_
  refine g_getF X2 hx hby hZ hown e2 (hw _ (List.mem_of_getElem? (i := 26) rfl)) F_n d19_30 (pc' := 33) rfl (fun T3 X3 e3 => ?_)
  refine g_aloadN X3 hx hby d19_33 (pc' := 34) rfl rfl rfl ?_
  refine g_dup X3 hx hby d19_34 (pc' := 35) rfl rfl ?_
  refine g_getF X3 hx hby hZ hown e3 (hw _ (List.mem_of_getElem? (i := 155) rfl)) F_c d19_35 (pc' := 38) rfl (fun T4 X4 e4 => ?_)
  refine g_dup_x1 X4 hx hby d19_38 (pc' := 39) rfl rfl rfl ?_
  refine g_iconst X4 hx hby d19_39 (pc' := 40) rfl (n := (1 : Int32)) (by first | rfl | decide) ?_
  refine g_iadd X4 hx hby d19_40 (pc' := 41) rfl ?_
  refine g_putF X4 hx hby hZ hown e4 (hw _ (List.mem_of_getElem? (i := 155) rfl)) F_c E_o (Or.inl (hw _ (List.mem_of_getElem? (i := 149) rfl))) (hw _ (List.mem_of_getElem? (i := 20) rfl)) (ty := .int) (by decide) rfl rfl d19_41 (pc' := 44) rfl (fun T5 h5 X5 e5 W5 => ?_)
  replace E_o := E_o.wr W5
  replace F_c := F_c.same W5
  replace F_n := F_n.other W5 (Or.inr (sn_163 hw))
  replace A_xn := A_xn.other W5 (Ne.symm hne)
  have Z6 : n0 ≤ h5.size := by rw [W5.size]; exact Z0
  have K7 := (Keep.refl h0 [o, xn]).wr W5 (Or.inl (List.mem_of_getElem? (i := 0) rfl))
  have N8 := Fr.snoc X5 N0 g_o
  refine g_iloadN X5 hx hby d19_44 (pc' := 45) rfl rfl ?_
  refine a_iastore X5 hx hby hZ e5 A_xn (by omega) (by omega) d19_45 (pc' := 46) rfl (fun T9 h9 X9 e9 W9 => ?_)
  replace E_o := E_o.wr W9
  replace F_c := F_c.other W9 (Or.inl hne)
  replace F_n := F_n.other W9 (Or.inl hne)
  have Z10 : n0 ≤ h9.size := by rw [W9.size]; exact Z6
  have K11 := K7.wr W9 (Or.inl (List.mem_of_getElem? (i := 1) rfl))
  have N12 := Fr.snoc X9 N8 g_x
  replace A_xn : Ara Z h9 xn .int 16 (fun jz => .int ((own_ui g cn.toInt.toNat uv) jz)) := A_xn.setI W9
  exact g_retV X9 hx hby hF (Nat.zero_le _) hlk hret d19_46 (by decide) (by decide) (by rw [e9]; exact ⟨rfl, N12, F_c, F_n, A_xn, K11⟩)
theorem ef_20_rm_mx (m : MethodId) (u : Int32) (w : Int32) : entryFrame m #[(.int u), (.int w)] 2 = mkF m 0 #[.val (.int u), .val (.int w)] [] := by first | (simp [entryFrame, mkF, argsToLocals, Value.category]; done) | rfl
theorem d20_0 : decode jdk_29_method_65_code 0 = .ok (.iload_n 0, 1) := by decide +kernel
theorem d20_1 : decode jdk_29_method_65_code 1 = .ok (.iload_n 1, 1) := by decide +kernel
theorem d20_2 : decode jdk_29_method_65_code 2 = .ok (.if_icmp .lt 7, 3) := by decide +kernel
theorem d20_9 : decode jdk_29_method_65_code 9 = .ok (.iload_n 1, 1) := by decide +kernel
theorem d20_10 : decode jdk_29_method_65_code 10 = .ok (.ireturn, 1) := by decide +kernel
theorem d20_5 : decode jdk_29_method_65_code 5 = .ok (.iload_n 0, 1) := by decide +kernel
theorem d20_6 : decode jdk_29_method_65_code 6 = .ok (.goto 4, 3) := by decide +kernel
set_option maxRecDepth 65536 in
set_option maxHeartbeats 40000000 in
theorem rm_mx (l : Launch) (Z : State) (a0 : Array Value) (hw : ∀ d ∈ tables_1, d.before a0 Z = true) (u : Int32) (w : Int32) (h0 : Heap)  :
    Ct l Z (⟨"java/lang/Math", "max", "(II)I"⟩ : MethodName) jdk_29_method_65_code 2 (some .int) ({ frames := 0, cells := 0, slots := 0, locals := 0 } : Room) #[(.int u), (.int w)] h0 (QI h0 (fun r => r.toInt = max u.toInt w.toInt)) := by
  refine own_met (Jvm.Free.JP.mathPlain rfl (by decide +kernel)) (fun m => ef_20_rm_mx m u w) ?_
  intro p e s m below meth c T0 EF X0 hx hby hml hown hnm hret hlk hZ hF e0
  refine g_iloadN X0 hx hby d20_0 (pc' := 1) rfl rfl ?_
  refine g_iloadN X0 hx hby d20_1 (pc' := 2) rfl rfl ?_
  refine g_icmplt X0 hx hby d20_2 (pt := 9) (pf := 5) (by decide) (by decide) rfl (fun (h2 : u.toInt < w.toInt) => ?_) (fun (h2 : w.toInt ≤ u.toInt) => ?_)
  · refine g_iloadN X0 hx hby d20_9 (pc' := 10) rfl rfl ?_
    exact g_retI X0 hx hby hF (Nat.zero_le _) hlk hret d20_10 (by decide) (by decide) (⟨⟨_, rfl, by omega⟩, e0, rfl⟩)
  · refine g_iloadN X0 hx hby d20_5 (pc' := 6) rfl rfl ?_
    refine g_goto X0 hx hby d20_6 (pc' := 10) (by decide) (by decide) ?_
    exact g_retI X0 hx hby hF (Nat.zero_le _) hlk hret d20_10 (by decide) (by decide) (⟨⟨_, rfl, by omega⟩, e0, rfl⟩)
theorem ef_21_rm_meetOn (m : MethodId) (o : Addr) (uv : Int32) (on : Int32) (bk : Int32) (tp : Int32) : entryFrame m #[(.ref o), (.int uv), (.int on), (.int bk), (.int tp)] 5 = mkF m 0 #[.val (.ref o), .val (.int uv), .val (.int on), .val (.int bk), .val (.int tp)] [] := by first | (simp [entryFrame, mkF, argsToLocals, Value.category]; done) | rfl
theorem pn_21 : plainName "com/example/isolens/isolens/checker/DynamicOrder" = true := by first | (simp [plainName, overriddenIn]; done) | decide +kernel
theorem d21_0 : decode prog_17_method_4_code 0 = .ok (.aload_n 0, 1) := by decide +kernel
theorem d21_1 : decode prog_17_method_4_code 1 = .ok (.getfield 99, 3) := by decide +kernel
theorem d21_4 : decode prog_17_method_4_code 4 = .ok (.iload_n 1, 1) := by decide +kernel
theorem d21_5 : decode prog_17_method_4_code 5 = .ok (.iaload, 1) := by decide +kernel
theorem d21_6 : decode prog_17_method_4_code 6 = .ok (.iload_n 3, 1) := by decide +kernel
theorem d21_7 : decode prog_17_method_4_code 7 = .ok (.if_icmp .ne 5, 3) := by decide +kernel
theorem d21_12 : decode prog_17_method_4_code 12 = .ok (.aload_n 0, 1) := by decide +kernel
theorem d21_13 : decode prog_17_method_4_code 13 = .ok (.getfield 96, 3) := by decide +kernel
theorem d21_16 : decode prog_17_method_4_code 16 = .ok (.iload_n 1, 1) := by decide +kernel
theorem d21_17 : decode prog_17_method_4_code 17 = .ok (.iaload, 1) := by decide +kernel
theorem d21_18 : decode prog_17_method_4_code 18 = .ok (.iload_n 2, 1) := by decide +kernel
theorem d21_19 : decode prog_17_method_4_code 19 = .ok (.if_icmp .eq 29, 3) := by decide +kernel
theorem d21_48 : decode prog_17_method_4_code 48 = .ok (.iconst 0, 1) := by decide +kernel
theorem d21_49 : decode prog_17_method_4_code 49 = .ok (.ireturn, 1) := by decide +kernel
theorem d21_22 : decode prog_17_method_4_code 22 = .ok (.aload_n 0, 1) := by decide +kernel
theorem d21_23 : decode prog_17_method_4_code 23 = .ok (.getfield 81, 3) := by decide +kernel
theorem d21_26 : decode prog_17_method_4_code 26 = .ok (.iload_n 1, 1) := by decide +kernel
theorem d21_27 : decode prog_17_method_4_code 27 = .ok (.iaload, 1) := by decide +kernel
theorem d21_28 : decode prog_17_method_4_code 28 = .ok (.iload 4, 2) := by decide +kernel
theorem d21_30 : decode prog_17_method_4_code 30 = .ok (.if_icmp .ge 18, 3) := by decide +kernel
theorem d21_33 : decode prog_17_method_4_code 33 = .ok (.aload_n 0, 1) := by decide +kernel
theorem d21_34 : decode prog_17_method_4_code 34 = .ok (.getfield 96, 3) := by decide +kernel
theorem d21_37 : decode prog_17_method_4_code 37 = .ok (.iload_n 1, 1) := by decide +kernel
theorem d21_38 : decode prog_17_method_4_code 38 = .ok (.iload_n 2, 1) := by decide +kernel
theorem d21_39 : decode prog_17_method_4_code 39 = .ok (.iastore, 1) := by decide +kernel
theorem d21_40 : decode prog_17_method_4_code 40 = .ok (.aload_n 0, 1) := by decide +kernel
theorem d21_41 : decode prog_17_method_4_code 41 = .ok (.getfield 32, 3) := by decide +kernel
theorem d21_44 : decode prog_17_method_4_code 44 = .ok (.iload_n 1, 1) := by decide +kernel
theorem d21_45 : decode prog_17_method_4_code 45 = .ok (.invokevirtual 114, 3) := by decide +kernel
theorem d21_10 : decode prog_17_method_4_code 10 = .ok (.iconst 1, 1) := by decide +kernel
theorem d21_11 : decode prog_17_method_4_code 11 = .ok (.ireturn, 1) := by decide +kernel
set_option maxRecDepth 65536 in
set_option maxHeartbeats 40000000 in
theorem rm_meetOn (l : Launch) (Z : State) (a0 : Array Value) (hw : ∀ d ∈ tables_1, d.before a0 Z = true) (o : Addr) (uv : Int32) (on : Int32) (bk : Int32) (tp : Int32) (n0 : Nat) (pe xn pl ym yb : Addr) (cp : Int32) (pn mi mb : Nat → Int32) (h0 : Heap) (Z0 : n0 ≤ h0.size) (g_o : n0 ≤ o) (k1 : o < pe) (k2 : pe < xn) (k3 : xn < pl) (k4 : pl < ym) (k5 : ym < yb) (E_o : Exa Z h0 o "com/example/isolens/isolens/checker/DynamicOrder") (E_pe : Exa Z h0 pe "com/example/isolens/isolens/checker/DynamicOrder$Found") (F_o_pending : Fld Z h0 o "com/example/isolens/isolens/checker/DynamicOrder" "pending" "Lcom/example/isolens/isolens/checker/DynamicOrder$Found;" (.ref pe)) (F_o_place : Fld Z h0 o "com/example/isolens/isolens/checker/DynamicOrder" "place" "[I" (.ref pl)) (F_o_metIn : Fld Z h0 o "com/example/isolens/isolens/checker/DynamicOrder" "metIn" "[I" (.ref ym)) (F_o_metBack : Fld Z h0 o "com/example/isolens/isolens/checker/DynamicOrder" "metBack" "[I" (.ref yb)) (F_pe_count : Fld Z h0 pe "com/example/isolens/isolens/checker/DynamicOrder$Found" "count" "I" (.int cp)) (F_pe_nodes : Fld Z h0 pe "com/example/isolens/isolens/checker/DynamicOrder$Found" "nodes" "[I" (.ref xn)) (A_xn : Ara Z h0 xn .int 16 (fun jz => .int (pn jz))) (A_pl : Ara Z h0 pl .int 3 (fun jz => .int (own_id jz))) (A_ym : Ara Z h0 ym .int 3 (fun jz => .int (mi jz))) (A_yb : Ara Z h0 yb .int 3 (fun jz => .int (mb jz))) (hv : 0 ≤ uv.toInt ∧ uv.toInt ≤ 2) (hcp : 0 ≤ cp.toInt ∧ cp.toInt < 15) :
    Ct l Z (⟨"com/example/isolens/isolens/checker/DynamicOrder", "meetOn", "(IIII)Z"⟩ : MethodName) prog_17_method_4_code 5 (some .boolean) ({ frames := 1, cells := 0, slots := 0, locals := 14 } : Room) #[(.ref o), (.int uv), (.int on), (.int bk), (.int tp)] h0 (QMt Z n0 h0 pe xn ym uv cp mi (mb uv.toInt.toNat = bk) (mi uv.toInt.toNat = on ∨ tp.toInt ≤ uv.toInt) (mi uv.toInt.toNat ≠ on ∧ uv.toInt < tp.toInt) on) := by
  refine own_met (plainFor_of_name pn_21) (fun m => ef_21_rm_meetOn m o uv on bk tp) ?_
  intro p e s m below meth c T0 EF X0 hx hby hml hown hnm hret hlk hZ hF e0
  have N0 := Fr.nil n0
  have ne_o_pe : o ≠ pe := Nat.ne_of_lt k1
  have ne_o_xn : o ≠ xn := Nat.ne_of_lt (Nat.lt_trans k1 k2)
  have ne_o_pl : o ≠ pl := Nat.ne_of_lt (Nat.lt_trans (Nat.lt_trans k1 k2) k3)
  have ne_o_ym : o ≠ ym := Nat.ne_of_lt (Nat.lt_trans (Nat.lt_trans (Nat.lt_trans k1 k2) k3) k4)
  have ne_o_yb : o ≠ yb := Nat.ne_of_lt (Nat.lt_trans (Nat.lt_trans (Nat.lt_trans (Nat.lt_trans k1 k2) k3) k4) k5)
  have ne_pe_xn : pe ≠ xn := Nat.ne_of_lt k2
  have ne_pe_pl : pe ≠ pl := Nat.ne_of_lt (Nat.lt_trans k2 k3)
  have ne_pe_ym : pe ≠ ym := Nat.ne_of_lt (Nat.lt_trans (Nat.lt_trans k2 k3) k4)
  have ne_pe_yb : pe ≠ yb := Nat.ne_of_lt (Nat.lt_trans (Nat.lt_trans (Nat.lt_trans k2 k3) k4) k5)
  have ne_xn_pl : xn ≠ pl := Nat.ne_of_lt k3
  have ne_xn_ym : xn ≠ ym := Nat.ne_of_lt (Nat.lt_trans k3 k4)
  have ne_xn_yb : xn ≠ yb := Nat.ne_of_lt (Nat.lt_trans (Nat.lt_trans k3 k4) k5)
  have ne_pl_ym : pl ≠ ym := Nat.ne_of_lt k4
  have ne_pl_yb : pl ≠ yb := Nat.ne_of_lt (Nat.lt_trans k4 k5)
  have ne_ym_yb : ym ≠ yb := Nat.ne_of_lt k5
  have g_pe : n0 ≤ pe := Nat.le_trans g_o (Nat.le_of_lt k1)
  have g_xn : n0 ≤ xn := Nat.le_trans g_o (Nat.le_of_lt (Nat.lt_trans k1 k2))
  have g_pl : n0 ≤ pl := Nat.le_trans g_o (Nat.le_of_lt (Nat.lt_trans (Nat.lt_trans k1 k2) k3))
  have g_ym : n0 ≤ ym := Nat.le_trans g_o (Nat.le_of_lt (Nat.lt_trans (Nat.lt_trans (Nat.lt_trans k1 k2) k3) k4))
  have g_yb : n0 ≤ yb := Nat.le_trans g_o (Nat.le_of_lt (Nat.lt_trans (Nat.lt_trans (Nat.lt_trans (Nat.lt_trans k1 k2) k3) k4) k5))
  refine g_aloadN X0 hx hby d21_0 (pc' := 1) rfl rfl rfl ?_
  refine g_getF X0 hx hby hZ hown e0 (hw _ (List.mem_of_getElem? (i := 103) rfl)) F_o_metBack d21_1 (pc' := 4) rfl (fun T1 X1 e1 => ?_)
  refine g_iloadN X1 hx hby d21_4 (pc' := 5) rfl rfl ?_
  refine a_iaload X1 hx hby hZ e1 A_yb (by omega) (by omega) (v := (.int (mb uv.toInt.toNat))) (rfl) d21_5 (pc' := 6) rfl ?_
  refine g_iloadN X1 hx hby d21_6 (pc' := 7) rfl rfl ?_
  refine g_icmpne X1 hx hby d21_7 (pt := 12) (pf := 10) (by decide) (by decide) rfl (fun (h7 : ¬ (mb uv.toInt.toNat) = bk) => ?_) (fun (h7 : (mb uv.toInt.toNat) = bk) => ?_)
  · have h7i : ¬ (mb uv.toInt.toNat).toInt = bk.toInt := fun q => h7 (Int32.toInt_inj.mp q)
    refine g_aloadN X1 hx hby d21_12 (pc' := 13) rfl rfl rfl ?_
    refine g_getF X1 hx hby hZ hown e1 (hw _ (List.mem_of_getElem? (i := 101) rfl)) F_o_metIn d21_13 (pc' := 16) rfl (fun T2 X2 e2 => ?_)
    refine g_iloadN X2 hx hby d21_16 (pc' := 17) rfl rfl ?_
    refine a_iaload X2 hx hby hZ e2 A_ym (by omega) (by omega) (v := (.int (mi uv.toInt.toNat))) (rfl) d21_17 (pc' := 18) rfl ?_
    refine g_iloadN X2 hx hby d21_18 (pc' := 19) rfl rfl ?_
    refine g_icmpeq X2 hx hby d21_19 (pt := 48) (pf := 22) (by decide) (by decide) rfl (fun (h19 : (mi uv.toInt.toNat) = on) => ?_) (fun (h19 : ¬ (mi uv.toInt.toNat) = on) => ?_)
    · have h19i : (mi uv.toInt.toNat).toInt = on.toInt := congrArg Int32.toInt h19
      refine g_iconst X2 hx hby d21_48 (pc' := 49) rfl (n := (0 : Int32)) (by first | rfl | decide) ?_
      exact g_retZ X2 hx hby hF (Nat.zero_le _) hlk (Or.inl rfl) hret d21_49 (by decide) (by decide) (by rw [e2]; exact ⟨_, mi, pn, cp, rfl, N0, F_pe_count, F_pe_nodes, A_ym, A_xn, (Keep.refl h0 [ym, pe, xn]), Or.inr ⟨rfl, h7, Or.inl ⟨Or.inl h19, rfl, rfl⟩⟩⟩)
    · have h19i : ¬ (mi uv.toInt.toNat).toInt = on.toInt := fun q => h19 (Int32.toInt_inj.mp q)
      refine g_aloadN X2 hx hby d21_22 (pc' := 23) rfl rfl rfl ?_
      refine g_getF X2 hx hby hZ hown e2 (hw _ (List.mem_of_getElem? (i := 91) rfl)) F_o_place d21_23 (pc' := 26) rfl (fun T3 X3 e3 => ?_)
      refine g_iloadN X3 hx hby d21_26 (pc' := 27) rfl rfl ?_
      refine a_iaload X3 hx hby hZ e3 A_pl (by omega) (by omega) (v := (.int uv)) (own_idv uv (by omega)) d21_27 (pc' := 28) rfl ?_
      refine g_iload X3 hx hby d21_28 (pc' := 30) rfl rfl ?_
      refine g_icmpge X3 hx hby d21_30 (pt := 48) (pf := 33) (by decide) (by decide) rfl (fun (h30 : tp.toInt ≤ uv.toInt) => ?_) (fun (h30 : uv.toInt < tp.toInt) => ?_)
      · refine g_iconst X3 hx hby d21_48 (pc' := 49) rfl (n := (0 : Int32)) (by first | rfl | decide) ?_
        exact g_retZ X3 hx hby hF (Nat.zero_le _) hlk (Or.inl rfl) hret d21_49 (by decide) (by decide) (by rw [e3]; exact ⟨_, mi, pn, cp, rfl, N0, F_pe_count, F_pe_nodes, A_ym, A_xn, (Keep.refl h0 [ym, pe, xn]), Or.inr ⟨rfl, h7, Or.inl ⟨Or.inr h30, rfl, rfl⟩⟩⟩)
      · refine g_aloadN X3 hx hby d21_33 (pc' := 34) rfl rfl rfl ?_
        refine g_getF X3 hx hby hZ hown e3 (hw _ (List.mem_of_getElem? (i := 101) rfl)) F_o_metIn d21_34 (pc' := 37) rfl (fun T4 X4 e4 => ?_)
        refine g_iloadN X4 hx hby d21_37 (pc' := 38) rfl rfl ?_
        refine g_iloadN X4 hx hby d21_38 (pc' := 39) rfl rfl ?_
        refine a_iastore X4 hx hby hZ e4 A_ym (by omega) (by omega) d21_39 (pc' := 40) rfl (fun T5 h5 X5 e5 W5 => ?_)
        replace E_o := E_o.wr W5
        replace E_pe := E_pe.wr W5
        replace F_o_pending := F_o_pending.other W5 (Or.inl ne_o_ym)
        replace F_o_place := F_o_place.other W5 (Or.inl ne_o_ym)
        replace F_o_metIn := F_o_metIn.other W5 (Or.inl ne_o_ym)
        replace F_o_metBack := F_o_metBack.other W5 (Or.inl ne_o_ym)
        replace F_pe_count := F_pe_count.other W5 (Or.inl ne_pe_ym)
        replace F_pe_nodes := F_pe_nodes.other W5 (Or.inl ne_pe_ym)
        replace A_xn := A_xn.other W5 ne_xn_ym
        replace A_pl := A_pl.other W5 ne_pl_ym
        replace A_yb := A_yb.other W5 (Ne.symm ne_ym_yb)
        have Z6 : n0 ≤ h5.size := by rw [W5.size]; exact Z0
        have K7 := (Keep.refl h0 [ym, pe, xn]).wr W5 (Or.inl (List.mem_of_getElem? (i := 0) rfl))
        have N8 := Fr.snoc X5 N0 g_ym
        replace A_ym : Ara Z h5 ym .int 3 (fun jz => .int ((own_ui mi uv.toInt.toNat on) jz)) := A_ym.setI W5
        refine g_aloadN X5 hx hby d21_40 (pc' := 41) rfl rfl rfl ?_
        refine g_getF X5 hx hby hZ hown e5 (hw _ (List.mem_of_getElem? (i := 32) rfl)) F_o_pending d21_41 (pc' := 44) rfl (fun T9 X9 e9 => ?_)
        refine g_iloadN X9 hx hby d21_44 (pc' := 45) rfl rfl ?_
        refine g_virtual X9 hx hby hZ hown hml rfl (hw _ (List.mem_of_getElem? (i := 150) rfl)) (hw _ (List.mem_of_getElem? (i := 151) rfl)) (hw _ (List.mem_of_getElem? (i := 153) rfl)) (hw _ (List.mem_of_getElem? (i := 152) rfl)) (hw _ (List.mem_of_getElem? (i := 21) rfl)) (hw _ (List.mem_of_getElem? (i := 154) rfl)) (by decide) e9 (rm_fa l Z a0 hw pe uv n0 xn cp pn h5 Z6 g_pe g_xn E_pe F_pe_count F_pe_nodes A_xn ne_pe_xn hcp) pd__I_V_240 E_pe (argsL := [(.int uv)]) (rest := []) rfl rfl rfl d21_45 (pc' := 48) rfl (by decide) (Nat.le_of_ble_eq_true rfl) (by decide) (by decide) ?_
        intro Tp45 vp45 Lp45 Xp45 qp45
        obtain ⟨rfl, Nqp45, Fcp45, Fnp45, Axp45, Kqp45⟩ := qp45
        replace Fcp45 : Fld Z Tp45.heap pe "com/example/isolens/isolens/checker/DynamicOrder$Found" "count" "I" (.int (cp + (1 : Int32))) := Fcp45
        replace Xp45 : Stand p l e ({ frames := 1, cells := 0, slots := 0, locals := 14 } : Room) s m _ below meth c Tp45 _ 0 0 := Xp45
        replace E_o := E_o.keep Kqp45
        replace E_pe := E_pe.keep Kqp45
        replace F_o_pending := F_o_pending.keep Kqp45 (ninS ne_o_pe (ninS ne_o_xn nin0))
        replace F_o_place := F_o_place.keep Kqp45 (ninS ne_o_pe (ninS ne_o_xn nin0))
        replace F_o_metIn := F_o_metIn.keep Kqp45 (ninS ne_o_pe (ninS ne_o_xn nin0))
        replace F_o_metBack := F_o_metBack.keep Kqp45 (ninS ne_o_pe (ninS ne_o_xn nin0))
        replace A_pl := A_pl.keep Kqp45 (ninS (Ne.symm ne_pe_pl) (ninS (Ne.symm ne_xn_pl) nin0))
        replace A_ym := A_ym.keep Kqp45 (ninS (Ne.symm ne_pe_ym) (ninS (Ne.symm ne_xn_ym) nin0))
        replace A_yb := A_yb.keep Kqp45 (ninS (Ne.symm ne_pe_yb) (ninS (Ne.symm ne_xn_yb) nin0))
        have Z10 : n0 ≤ Tp45.heap.size := Nat.le_trans Z6 Kqp45.1
        have K11 := K7.trans Kqp45 (allS (Or.inl (List.mem_of_getElem? (i := 1) rfl)) (allS (Or.inl (List.mem_of_getElem? (i := 2) rfl)) all0))
        have Np45 := Fr.app N8 Nqp45
        show Go p e below EF (QMt Z n0 h0 pe xn ym uv cp mi (mb uv.toInt.toNat = bk) (mi uv.toInt.toNat = on ∨ tp.toInt ≤ uv.toInt) (mi uv.toInt.toNat ≠ on ∧ uv.toInt < tp.toInt) on) m Tp45 48 #[.val (.ref o), .val (.int uv), .val (.int on), .val (.int bk), .val (.int tp)] []
        refine g_iconst Xp45 hx hby d21_48 (pc' := 49) rfl (n := (0 : Int32)) (by first | rfl | decide) ?_
        exact g_retZ Xp45 hx hby hF (Nat.zero_le _) hlk (Or.inl rfl) hret d21_49 (by decide) (by decide) (⟨_, (own_ui mi uv.toInt.toNat on), (own_ui pn cp.toInt.toNat uv), (cp + (1 : Int32)), rfl, Np45, Fcp45, Fnp45, A_ym, Axp45, K11, Or.inr ⟨rfl, h7, Or.inr ⟨⟨h19, h30⟩, rfl, rfl⟩⟩⟩)
  · have h7i : (mb uv.toInt.toNat).toInt = bk.toInt := congrArg Int32.toInt h7
    refine g_iconst X1 hx hby d21_10 (pc' := 11) rfl (n := (1 : Int32)) (by first | rfl | decide) ?_
    exact g_retZ X1 hx hby hF (Nat.zero_le _) hlk (Or.inr rfl) hret d21_11 (by decide) (by decide) (by rw [e1]; exact ⟨_, mi, pn, cp, rfl, N0, F_pe_count, F_pe_nodes, A_ym, A_xn, (Keep.refl h0 [ym, pe, xn]), Or.inl ⟨rfl, h7, rfl, rfl⟩⟩)
theorem ef_22_rm_meetBack (m : MethodId) (o : Addr) (uv : Int32) (on : Int32) (bk : Int32) (tp : Int32) : entryFrame m #[(.ref o), (.int uv), (.int on), (.int bk), (.int tp)] 5 = mkF m 0 #[.val (.ref o), .val (.int uv), .val (.int on), .val (.int bk), .val (.int tp)] [] := by first | (simp [entryFrame, mkF, argsToLocals, Value.category]; done) | rfl
theorem pn_22 : plainName "com/example/isolens/isolens/checker/DynamicOrder" = true := by first | (simp [plainName, overriddenIn]; done) | decide +kernel
theorem d22_0 : decode prog_17_method_5_code 0 = .ok (.aload_n 0, 1) := by decide +kernel
theorem d22_1 : decode prog_17_method_5_code 1 = .ok (.getfield 96, 3) := by decide +kernel
theorem d22_4 : decode prog_17_method_5_code 4 = .ok (.iload_n 1, 1) := by decide +kernel
theorem d22_5 : decode prog_17_method_5_code 5 = .ok (.iaload, 1) := by decide +kernel
theorem d22_6 : decode prog_17_method_5_code 6 = .ok (.iload_n 2, 1) := by decide +kernel
theorem d22_7 : decode prog_17_method_5_code 7 = .ok (.if_icmp .ne 5, 3) := by decide +kernel
theorem d22_12 : decode prog_17_method_5_code 12 = .ok (.aload_n 0, 1) := by decide +kernel
theorem d22_13 : decode prog_17_method_5_code 13 = .ok (.getfield 99, 3) := by decide +kernel
theorem d22_16 : decode prog_17_method_5_code 16 = .ok (.iload_n 1, 1) := by decide +kernel
theorem d22_17 : decode prog_17_method_5_code 17 = .ok (.iaload, 1) := by decide +kernel
theorem d22_18 : decode prog_17_method_5_code 18 = .ok (.iload_n 3, 1) := by decide +kernel
theorem d22_19 : decode prog_17_method_5_code 19 = .ok (.if_icmp .eq 29, 3) := by decide +kernel
theorem d22_48 : decode prog_17_method_5_code 48 = .ok (.iconst 0, 1) := by decide +kernel
theorem d22_49 : decode prog_17_method_5_code 49 = .ok (.ireturn, 1) := by decide +kernel
theorem d22_22 : decode prog_17_method_5_code 22 = .ok (.aload_n 0, 1) := by decide +kernel
theorem d22_23 : decode prog_17_method_5_code 23 = .ok (.getfield 81, 3) := by decide +kernel
theorem d22_26 : decode prog_17_method_5_code 26 = .ok (.iload_n 1, 1) := by decide +kernel
theorem d22_27 : decode prog_17_method_5_code 27 = .ok (.iaload, 1) := by decide +kernel
theorem d22_28 : decode prog_17_method_5_code 28 = .ok (.iload 4, 2) := by decide +kernel
theorem d22_30 : decode prog_17_method_5_code 30 = .ok (.if_icmp .le 18, 3) := by decide +kernel
theorem d22_33 : decode prog_17_method_5_code 33 = .ok (.aload_n 0, 1) := by decide +kernel
theorem d22_34 : decode prog_17_method_5_code 34 = .ok (.getfield 99, 3) := by decide +kernel
theorem d22_37 : decode prog_17_method_5_code 37 = .ok (.iload_n 1, 1) := by decide +kernel
theorem d22_38 : decode prog_17_method_5_code 38 = .ok (.iload_n 3, 1) := by decide +kernel
theorem d22_39 : decode prog_17_method_5_code 39 = .ok (.iastore, 1) := by decide +kernel
theorem d22_40 : decode prog_17_method_5_code 40 = .ok (.aload_n 0, 1) := by decide +kernel
theorem d22_41 : decode prog_17_method_5_code 41 = .ok (.getfield 35, 3) := by decide +kernel
theorem d22_44 : decode prog_17_method_5_code 44 = .ok (.iload_n 1, 1) := by decide +kernel
theorem d22_45 : decode prog_17_method_5_code 45 = .ok (.invokevirtual 114, 3) := by decide +kernel
theorem d22_10 : decode prog_17_method_5_code 10 = .ok (.iconst 1, 1) := by decide +kernel
theorem d22_11 : decode prog_17_method_5_code 11 = .ok (.ireturn, 1) := by decide +kernel
set_option maxRecDepth 65536 in
set_option maxHeartbeats 40000000 in
theorem rm_meetBack (l : Launch) (Z : State) (a0 : Array Value) (hw : ∀ d ∈ tables_1, d.before a0 Z = true) (o : Addr) (uv : Int32) (on : Int32) (bk : Int32) (tp : Int32) (n0 : Nat) (pb xm pl ym yb : Addr) (cb : Int32) (pq mi mb : Nat → Int32) (h0 : Heap) (Z0 : n0 ≤ h0.size) (g_o : n0 ≤ o) (k1 : o < pb) (k2 : pb < xm) (k3 : xm < pl) (k4 : pl < ym) (k5 : ym < yb) (E_o : Exa Z h0 o "com/example/isolens/isolens/checker/DynamicOrder") (E_pb : Exa Z h0 pb "com/example/isolens/isolens/checker/DynamicOrder$Found") (F_o_pendingBack : Fld Z h0 o "com/example/isolens/isolens/checker/DynamicOrder" "pendingBack" "Lcom/example/isolens/isolens/checker/DynamicOrder$Found;" (.ref pb)) (F_o_place : Fld Z h0 o "com/example/isolens/isolens/checker/DynamicOrder" "place" "[I" (.ref pl)) (F_o_metIn : Fld Z h0 o "com/example/isolens/isolens/checker/DynamicOrder" "metIn" "[I" (.ref ym)) (F_o_metBack : Fld Z h0 o "com/example/isolens/isolens/checker/DynamicOrder" "metBack" "[I" (.ref yb)) (F_pb_count : Fld Z h0 pb "com/example/isolens/isolens/checker/DynamicOrder$Found" "count" "I" (.int cb)) (F_pb_nodes : Fld Z h0 pb "com/example/isolens/isolens/checker/DynamicOrder$Found" "nodes" "[I" (.ref xm)) (A_xm : Ara Z h0 xm .int 16 (fun jz => .int (pq jz))) (A_pl : Ara Z h0 pl .int 3 (fun jz => .int (own_id jz))) (A_ym : Ara Z h0 ym .int 3 (fun jz => .int (mi jz))) (A_yb : Ara Z h0 yb .int 3 (fun jz => .int (mb jz))) (hv : 0 ≤ uv.toInt ∧ uv.toInt ≤ 2) (hcp : 0 ≤ cb.toInt ∧ cb.toInt < 15) :
    Ct l Z (⟨"com/example/isolens/isolens/checker/DynamicOrder", "meetBack", "(IIII)Z"⟩ : MethodName) prog_17_method_5_code 5 (some .boolean) ({ frames := 1, cells := 0, slots := 0, locals := 14 } : Room) #[(.ref o), (.int uv), (.int on), (.int bk), (.int tp)] h0 (QMt Z n0 h0 pb xm yb uv cb mb (mi uv.toInt.toNat = on) (mb uv.toInt.toNat = bk ∨ uv.toInt ≤ tp.toInt) (mb uv.toInt.toNat ≠ bk ∧ tp.toInt < uv.toInt) bk) := by
  refine own_met (plainFor_of_name pn_22) (fun m => ef_22_rm_meetBack m o uv on bk tp) ?_
  intro p e s m below meth c T0 EF X0 hx hby hml hown hnm hret hlk hZ hF e0
  have N0 := Fr.nil n0
  have ne_o_pb : o ≠ pb := Nat.ne_of_lt k1
  have ne_o_xm : o ≠ xm := Nat.ne_of_lt (Nat.lt_trans k1 k2)
  have ne_o_pl : o ≠ pl := Nat.ne_of_lt (Nat.lt_trans (Nat.lt_trans k1 k2) k3)
  have ne_o_ym : o ≠ ym := Nat.ne_of_lt (Nat.lt_trans (Nat.lt_trans (Nat.lt_trans k1 k2) k3) k4)
  have ne_o_yb : o ≠ yb := Nat.ne_of_lt (Nat.lt_trans (Nat.lt_trans (Nat.lt_trans (Nat.lt_trans k1 k2) k3) k4) k5)
  have ne_pb_xm : pb ≠ xm := Nat.ne_of_lt k2
  have ne_pb_pl : pb ≠ pl := Nat.ne_of_lt (Nat.lt_trans k2 k3)
  have ne_pb_ym : pb ≠ ym := Nat.ne_of_lt (Nat.lt_trans (Nat.lt_trans k2 k3) k4)
  have ne_pb_yb : pb ≠ yb := Nat.ne_of_lt (Nat.lt_trans (Nat.lt_trans (Nat.lt_trans k2 k3) k4) k5)
  have ne_xm_pl : xm ≠ pl := Nat.ne_of_lt k3
  have ne_xm_ym : xm ≠ ym := Nat.ne_of_lt (Nat.lt_trans k3 k4)
  have ne_xm_yb : xm ≠ yb := Nat.ne_of_lt (Nat.lt_trans (Nat.lt_trans k3 k4) k5)
  have ne_pl_ym : pl ≠ ym := Nat.ne_of_lt k4
  have ne_pl_yb : pl ≠ yb := Nat.ne_of_lt (Nat.lt_trans k4 k5)
  have ne_ym_yb : ym ≠ yb := Nat.ne_of_lt k5
  have g_pb : n0 ≤ pb := Nat.le_trans g_o (Nat.le_of_lt k1)
  have g_xm : n0 ≤ xm := Nat.le_trans g_o (Nat.le_of_lt (Nat.lt_trans k1 k2))
  have g_pl : n0 ≤ pl := Nat.le_trans g_o (Nat.le_of_lt (Nat.lt_trans (Nat.lt_trans k1 k2) k3))
  have g_ym : n0 ≤ ym := Nat.le_trans g_o (Nat.le_of_lt (Nat.lt_trans (Nat.lt_trans (Nat.lt_trans k1 k2) k3) k4))
  have g_yb : n0 ≤ yb := Nat.le_trans g_o (Nat.le_of_lt (Nat.lt_trans (Nat.lt_trans (Nat.lt_trans (Nat.lt_trans k1 k2) k3) k4) k5))
  refine g_aloadN X0 hx hby d22_0 (pc' := 1) rfl rfl rfl ?_
  refine g_getF X0 hx hby hZ hown e0 (hw _ (List.mem_of_getElem? (i := 101) rfl)) F_o_metIn d22_1 (pc' := 4) rfl (fun T1 X1 e1 => ?_)
  refine g_iloadN X1 hx hby d22_4 (pc' := 5) rfl rfl ?_
  refine a_iaload X1 hx hby hZ e1 A_ym (by omega) (by omega) (v := (.int (mi uv.toInt.toNat))) (rfl) d22_5 (pc' := 6) rfl ?_
  refine g_iloadN X1 hx hby d22_6 (pc' := 7) rfl rfl ?_
  refine g_icmpne X1 hx hby d22_7 (pt := 12) (pf := 10) (by decide) (by decide) rfl (fun (h7 : ¬ (mi uv.toInt.toNat) = on) => ?_) (fun (h7 : (mi uv.toInt.toNat) = on) => ?_)
  · have h7i : ¬ (mi uv.toInt.toNat).toInt = on.toInt := fun q => h7 (Int32.toInt_inj.mp q)
    refine g_aloadN X1 hx hby d22_12 (pc' := 13) rfl rfl rfl ?_
    refine g_getF X1 hx hby hZ hown e1 (hw _ (List.mem_of_getElem? (i := 103) rfl)) F_o_metBack d22_13 (pc' := 16) rfl (fun T2 X2 e2 => ?_)
    refine g_iloadN X2 hx hby d22_16 (pc' := 17) rfl rfl ?_
    refine a_iaload X2 hx hby hZ e2 A_yb (by omega) (by omega) (v := (.int (mb uv.toInt.toNat))) (rfl) d22_17 (pc' := 18) rfl ?_
    refine g_iloadN X2 hx hby d22_18 (pc' := 19) rfl rfl ?_
    refine g_icmpeq X2 hx hby d22_19 (pt := 48) (pf := 22) (by decide) (by decide) rfl (fun (h19 : (mb uv.toInt.toNat) = bk) => ?_) (fun (h19 : ¬ (mb uv.toInt.toNat) = bk) => ?_)
    · have h19i : (mb uv.toInt.toNat).toInt = bk.toInt := congrArg Int32.toInt h19
      refine g_iconst X2 hx hby d22_48 (pc' := 49) rfl (n := (0 : Int32)) (by first | rfl | decide) ?_
      exact g_retZ X2 hx hby hF (Nat.zero_le _) hlk (Or.inl rfl) hret d22_49 (by decide) (by decide) (by rw [e2]; exact ⟨_, mb, pq, cb, rfl, N0, F_pb_count, F_pb_nodes, A_yb, A_xm, (Keep.refl h0 [yb, pb, xm]), Or.inr ⟨rfl, h7, Or.inl ⟨Or.inl h19, rfl, rfl⟩⟩⟩)
    · have h19i : ¬ (mb uv.toInt.toNat).toInt = bk.toInt := fun q => h19 (Int32.toInt_inj.mp q)
      refine g_aloadN X2 hx hby d22_22 (pc' := 23) rfl rfl rfl ?_
      refine g_getF X2 hx hby hZ hown e2 (hw _ (List.mem_of_getElem? (i := 91) rfl)) F_o_place d22_23 (pc' := 26) rfl (fun T3 X3 e3 => ?_)
      refine g_iloadN X3 hx hby d22_26 (pc' := 27) rfl rfl ?_
      refine a_iaload X3 hx hby hZ e3 A_pl (by omega) (by omega) (v := (.int uv)) (own_idv uv (by omega)) d22_27 (pc' := 28) rfl ?_
      refine g_iload X3 hx hby d22_28 (pc' := 30) rfl rfl ?_
      refine g_icmple X3 hx hby d22_30 (pt := 48) (pf := 33) (by decide) (by decide) rfl (fun (h30 : uv.toInt ≤ tp.toInt) => ?_) (fun (h30 : tp.toInt < uv.toInt) => ?_)
      · refine g_iconst X3 hx hby d22_48 (pc' := 49) rfl (n := (0 : Int32)) (by first | rfl | decide) ?_
        exact g_retZ X3 hx hby hF (Nat.zero_le _) hlk (Or.inl rfl) hret d22_49 (by decide) (by decide) (by rw [e3]; exact ⟨_, mb, pq, cb, rfl, N0, F_pb_count, F_pb_nodes, A_yb, A_xm, (Keep.refl h0 [yb, pb, xm]), Or.inr ⟨rfl, h7, Or.inl ⟨Or.inr h30, rfl, rfl⟩⟩⟩)
      · refine g_aloadN X3 hx hby d22_33 (pc' := 34) rfl rfl rfl ?_
        refine g_getF X3 hx hby hZ hown e3 (hw _ (List.mem_of_getElem? (i := 103) rfl)) F_o_metBack d22_34 (pc' := 37) rfl (fun T4 X4 e4 => ?_)
        refine g_iloadN X4 hx hby d22_37 (pc' := 38) rfl rfl ?_
        refine g_iloadN X4 hx hby d22_38 (pc' := 39) rfl rfl ?_
        refine a_iastore X4 hx hby hZ e4 A_yb (by omega) (by omega) d22_39 (pc' := 40) rfl (fun T5 h5 X5 e5 W5 => ?_)
        replace E_o := E_o.wr W5
        replace E_pb := E_pb.wr W5
        replace F_o_pendingBack := F_o_pendingBack.other W5 (Or.inl ne_o_yb)
        replace F_o_place := F_o_place.other W5 (Or.inl ne_o_yb)
        replace F_o_metIn := F_o_metIn.other W5 (Or.inl ne_o_yb)
        replace F_o_metBack := F_o_metBack.other W5 (Or.inl ne_o_yb)
        replace F_pb_count := F_pb_count.other W5 (Or.inl ne_pb_yb)
        replace F_pb_nodes := F_pb_nodes.other W5 (Or.inl ne_pb_yb)
        replace A_xm := A_xm.other W5 ne_xm_yb
        replace A_pl := A_pl.other W5 ne_pl_yb
        replace A_ym := A_ym.other W5 ne_ym_yb
        have Z6 : n0 ≤ h5.size := by rw [W5.size]; exact Z0
        have K7 := (Keep.refl h0 [yb, pb, xm]).wr W5 (Or.inl (List.mem_of_getElem? (i := 0) rfl))
        have N8 := Fr.snoc X5 N0 g_yb
        replace A_yb : Ara Z h5 yb .int 3 (fun jz => .int ((own_ui mb uv.toInt.toNat bk) jz)) := A_yb.setI W5
        refine g_aloadN X5 hx hby d22_40 (pc' := 41) rfl rfl rfl ?_
        refine g_getF X5 hx hby hZ hown e5 (hw _ (List.mem_of_getElem? (i := 34) rfl)) F_o_pendingBack d22_41 (pc' := 44) rfl (fun T9 X9 e9 => ?_)
        refine g_iloadN X9 hx hby d22_44 (pc' := 45) rfl rfl ?_
        refine g_virtual X9 hx hby hZ hown hml rfl (hw _ (List.mem_of_getElem? (i := 150) rfl)) (hw _ (List.mem_of_getElem? (i := 151) rfl)) (hw _ (List.mem_of_getElem? (i := 153) rfl)) (hw _ (List.mem_of_getElem? (i := 152) rfl)) (hw _ (List.mem_of_getElem? (i := 21) rfl)) (hw _ (List.mem_of_getElem? (i := 154) rfl)) (by decide) e9 (rm_fa l Z a0 hw pb uv n0 xm cb pq h5 Z6 g_pb g_xm E_pb F_pb_count F_pb_nodes A_xm ne_pb_xm hcp) pd__I_V_240 E_pb (argsL := [(.int uv)]) (rest := []) rfl rfl rfl d22_45 (pc' := 48) rfl (by decide) (Nat.le_of_ble_eq_true rfl) (by decide) (by decide) ?_
        intro Tp45 vp45 Lp45 Xp45 qp45
        obtain ⟨rfl, Nqp45, Fcp45, Fnp45, Axp45, Kqp45⟩ := qp45
        replace Fcp45 : Fld Z Tp45.heap pb "com/example/isolens/isolens/checker/DynamicOrder$Found" "count" "I" (.int (cb + (1 : Int32))) := Fcp45
        replace Xp45 : Stand p l e ({ frames := 1, cells := 0, slots := 0, locals := 14 } : Room) s m _ below meth c Tp45 _ 0 0 := Xp45
        replace E_o := E_o.keep Kqp45
        replace E_pb := E_pb.keep Kqp45
        replace F_o_pendingBack := F_o_pendingBack.keep Kqp45 (ninS ne_o_pb (ninS ne_o_xm nin0))
        replace F_o_place := F_o_place.keep Kqp45 (ninS ne_o_pb (ninS ne_o_xm nin0))
        replace F_o_metIn := F_o_metIn.keep Kqp45 (ninS ne_o_pb (ninS ne_o_xm nin0))
        replace F_o_metBack := F_o_metBack.keep Kqp45 (ninS ne_o_pb (ninS ne_o_xm nin0))
        replace A_pl := A_pl.keep Kqp45 (ninS (Ne.symm ne_pb_pl) (ninS (Ne.symm ne_xm_pl) nin0))
        replace A_ym := A_ym.keep Kqp45 (ninS (Ne.symm ne_pb_ym) (ninS (Ne.symm ne_xm_ym) nin0))
        replace A_yb := A_yb.keep Kqp45 (ninS (Ne.symm ne_pb_yb) (ninS (Ne.symm ne_xm_yb) nin0))
        have Z10 : n0 ≤ Tp45.heap.size := Nat.le_trans Z6 Kqp45.1
        have K11 := K7.trans Kqp45 (allS (Or.inl (List.mem_of_getElem? (i := 1) rfl)) (allS (Or.inl (List.mem_of_getElem? (i := 2) rfl)) all0))
        have Np45 := Fr.app N8 Nqp45
        show Go p e below EF (QMt Z n0 h0 pb xm yb uv cb mb (mi uv.toInt.toNat = on) (mb uv.toInt.toNat = bk ∨ uv.toInt ≤ tp.toInt) (mb uv.toInt.toNat ≠ bk ∧ tp.toInt < uv.toInt) bk) m Tp45 48 #[.val (.ref o), .val (.int uv), .val (.int on), .val (.int bk), .val (.int tp)] []
        refine g_iconst Xp45 hx hby d22_48 (pc' := 49) rfl (n := (0 : Int32)) (by first | rfl | decide) ?_
        exact g_retZ Xp45 hx hby hF (Nat.zero_le _) hlk (Or.inl rfl) hret d22_49 (by decide) (by decide) (⟨_, (own_ui mb uv.toInt.toNat bk), (own_ui pq cb.toInt.toNat uv), (cb + (1 : Int32)), rfl, Np45, Fcp45, Fnp45, A_yb, Axp45, K11, Or.inr ⟨rfl, h7, Or.inr ⟨⟨h19, h30⟩, rfl, rfl⟩⟩⟩)
  · have h7i : (mi uv.toInt.toNat).toInt = on.toInt := congrArg Int32.toInt h7
    refine g_iconst X1 hx hby d22_10 (pc' := 11) rfl (n := (1 : Int32)) (by first | rfl | decide) ?_
    exact g_retZ X1 hx hby hF (Nat.zero_le _) hlk (Or.inr rfl) hret d22_11 (by decide) (by decide) (by rw [e1]; exact ⟨_, mb, pq, cb, rfl, N0, F_pb_count, F_pb_nodes, A_yb, A_xm, (Keep.refl h0 [yb, pb, xm]), Or.inl ⟨rfl, h7, rfl, rfl⟩⟩)
theorem ef_17_rm_ra (m : MethodId) (o : Addr) (uf : Int32) (ta : Addr) : entryFrame m #[(.ref o), (.int uf), (.ref ta), (.int (0 : Int32)), (.int (1 : Int32))] 11 = mkF m 0 #[.val (.ref o), .val (.int uf), .val (.ref ta), .val (.int (0 : Int32)), .val (.int (1 : Int32)), .unset, .unset, .unset, .unset, .unset, .unset] [] := by first | (simp [entryFrame, mkF, argsToLocals, Value.category]; done) | rfl
theorem pn_17 : plainName "com/example/isolens/isolens/checker/DynamicOrder" = true := by first | (simp [plainName, overriddenIn]; done) | decide +kernel
theorem d17_0 : decode prog_17_method_3_code 0 = .ok (.aload_n 0, 1) := by decide +kernel
theorem d17_1 : decode prog_17_method_3_code 1 = .ok (.getfield 81, 3) := by decide +kernel
theorem d17_4 : decode prog_17_method_3_code 4 = .ok (.iload_n 1, 1) := by decide +kernel
theorem d17_5 : decode prog_17_method_3_code 5 = .ok (.iaload, 1) := by decide +kernel
theorem d17_6 : decode prog_17_method_3_code 6 = .ok (.istore 5, 2) := by decide +kernel
theorem d17_8 : decode prog_17_method_3_code 8 = .ok (.aload_n 0, 1) := by decide +kernel
theorem d17_9 : decode prog_17_method_3_code 9 = .ok (.invokevirtual 106, 3) := by decide +kernel
theorem pd___I_154 : parseMethodDescriptor "()I" = some ⟨[], some .int⟩ := by decide +kernel
theorem sn_164 {a0 : Array Value} {Z : State} (hw : ∀ d ∈ tables_1, d.before a0 Z = true) : Jvm.RoadKit.slotOf Z "com/example/isolens/isolens/checker/DynamicOrder" "addedFrom" "[I" ≠ Jvm.RoadKit.slotOf Z "com/example/isolens/isolens/checker/DynamicOrder" "searches" "I" := slot_ne (Or.inl (hw _ (List.mem_of_getElem? (i := 12) rfl))) (Or.inl (hw _ (List.mem_of_getElem? (i := 146) rfl))) (by decide) (t := (.array .int)) (t' := .int) (by decide) (by decide)
theorem sn_165 {a0 : Array Value} {Z : State} (hw : ∀ d ∈ tables_1, d.before a0 Z = true) : Jvm.RoadKit.slotOf Z "com/example/isolens/isolens/checker/DynamicOrder" "addedTo" "[I" ≠ Jvm.RoadKit.slotOf Z "com/example/isolens/isolens/checker/DynamicOrder" "searches" "I" := slot_ne (Or.inl (hw _ (List.mem_of_getElem? (i := 14) rfl))) (Or.inl (hw _ (List.mem_of_getElem? (i := 146) rfl))) (by decide) (t := (.array .int)) (t' := .int) (by decide) (by decide)
theorem sn_166 {a0 : Array Value} {Z : State} (hw : ∀ d ∈ tables_1, d.before a0 Z = true) : Jvm.RoadKit.slotOf Z "com/example/isolens/isolens/checker/DynamicOrder" "earlierOut" "[I" ≠ Jvm.RoadKit.slotOf Z "com/example/isolens/isolens/checker/DynamicOrder" "searches" "I" := slot_ne (Or.inl (hw _ (List.mem_of_getElem? (i := 16) rfl))) (Or.inl (hw _ (List.mem_of_getElem? (i := 146) rfl))) (by decide) (t := (.array .int)) (t' := .int) (by decide) (by decide)
theorem sn_167 {a0 : Array Value} {Z : State} (hw : ∀ d ∈ tables_1, d.before a0 Z = true) : Jvm.RoadKit.slotOf Z "com/example/isolens/isolens/checker/DynamicOrder" "earlierIn" "[I" ≠ Jvm.RoadKit.slotOf Z "com/example/isolens/isolens/checker/DynamicOrder" "searches" "I" := slot_ne (Or.inl (hw _ (List.mem_of_getElem? (i := 18) rfl))) (Or.inl (hw _ (List.mem_of_getElem? (i := 146) rfl))) (by decide) (t := (.array .int)) (t' := .int) (by decide) (by decide)
theorem sn_168 {a0 : Array Value} {Z : State} (hw : ∀ d ∈ tables_1, d.before a0 Z = true) : Jvm.RoadKit.slotOf Z "com/example/isolens/isolens/checker/DynamicOrder" "pending" "Lcom/example/isolens/isolens/checker/DynamicOrder$Found;" ≠ Jvm.RoadKit.slotOf Z "com/example/isolens/isolens/checker/DynamicOrder" "searches" "I" := slot_ne (Or.inr (hw _ (List.mem_of_getElem? (i := 33) rfl))) (Or.inl (hw _ (List.mem_of_getElem? (i := 146) rfl))) (by decide) (t := (.object "com/example/isolens/isolens/checker/DynamicOrder$Found")) (t' := .int) (by decide) (by decide)
theorem sn_169 {a0 : Array Value} {Z : State} (hw : ∀ d ∈ tables_1, d.before a0 Z = true) : Jvm.RoadKit.slotOf Z "com/example/isolens/isolens/checker/DynamicOrder" "pendingBack" "Lcom/example/isolens/isolens/checker/DynamicOrder$Found;" ≠ Jvm.RoadKit.slotOf Z "com/example/isolens/isolens/checker/DynamicOrder" "searches" "I" := slot_ne (Or.inr (hw _ (List.mem_of_getElem? (i := 35) rfl))) (Or.inl (hw _ (List.mem_of_getElem? (i := 146) rfl))) (by decide) (t := (.object "com/example/isolens/isolens/checker/DynamicOrder$Found")) (t' := .int) (by decide) (by decide)
theorem sn_170 {a0 : Array Value} {Z : State} (hw : ∀ d ∈ tables_1, d.before a0 Z = true) : Jvm.RoadKit.slotOf Z "com/example/isolens/isolens/checker/DynamicOrder" "firstOut" "[I" ≠ Jvm.RoadKit.slotOf Z "com/example/isolens/isolens/checker/DynamicOrder" "searches" "I" := slot_ne (Or.inr (hw _ (List.mem_of_getElem? (i := 73) rfl))) (Or.inl (hw _ (List.mem_of_getElem? (i := 146) rfl))) (by decide) (t := (.array .int)) (t' := .int) (by decide) (by decide)
theorem sn_171 {a0 : Array Value} {Z : State} (hw : ∀ d ∈ tables_1, d.before a0 Z = true) : Jvm.RoadKit.slotOf Z "com/example/isolens/isolens/checker/DynamicOrder" "firstIn" "[I" ≠ Jvm.RoadKit.slotOf Z "com/example/isolens/isolens/checker/DynamicOrder" "searches" "I" := slot_ne (Or.inr (hw _ (List.mem_of_getElem? (i := 88) rfl))) (Or.inl (hw _ (List.mem_of_getElem? (i := 146) rfl))) (by decide) (t := (.array .int)) (t' := .int) (by decide) (by decide)
theorem sn_172 {a0 : Array Value} {Z : State} (hw : ∀ d ∈ tables_1, d.before a0 Z = true) : Jvm.RoadKit.slotOf Z "com/example/isolens/isolens/checker/DynamicOrder" "place" "[I" ≠ Jvm.RoadKit.slotOf Z "com/example/isolens/isolens/checker/DynamicOrder" "searches" "I" := slot_ne (Or.inr (hw _ (List.mem_of_getElem? (i := 92) rfl))) (Or.inl (hw _ (List.mem_of_getElem? (i := 146) rfl))) (by decide) (t := (.array .int)) (t' := .int) (by decide) (by decide)
theorem sn_173 {a0 : Array Value} {Z : State} (hw : ∀ d ∈ tables_1, d.before a0 Z = true) : Jvm.RoadKit.slotOf Z "com/example/isolens/isolens/checker/DynamicOrder" "latestOut" "[I" ≠ Jvm.RoadKit.slotOf Z "com/example/isolens/isolens/checker/DynamicOrder" "searches" "I" := slot_ne (Or.inr (hw _ (List.mem_of_getElem? (i := 94) rfl))) (Or.inl (hw _ (List.mem_of_getElem? (i := 146) rfl))) (by decide) (t := (.array .int)) (t' := .int) (by decide) (by decide)
theorem sn_174 {a0 : Array Value} {Z : State} (hw : ∀ d ∈ tables_1, d.before a0 Z = true) : Jvm.RoadKit.slotOf Z "com/example/isolens/isolens/checker/DynamicOrder" "latestIn" "[I" ≠ Jvm.RoadKit.slotOf Z "com/example/isolens/isolens/checker/DynamicOrder" "searches" "I" := slot_ne (Or.inr (hw _ (List.mem_of_getElem? (i := 96) rfl))) (Or.inl (hw _ (List.mem_of_getElem? (i := 146) rfl))) (by decide) (t := (.array .int)) (t' := .int) (by decide) (by decide)
theorem sn_175 {a0 : Array Value} {Z : State} (hw : ∀ d ∈ tables_1, d.before a0 Z = true) : Jvm.RoadKit.slotOf Z "com/example/isolens/isolens/checker/DynamicOrder" "metIn" "[I" ≠ Jvm.RoadKit.slotOf Z "com/example/isolens/isolens/checker/DynamicOrder" "searches" "I" := slot_ne (Or.inr (hw _ (List.mem_of_getElem? (i := 102) rfl))) (Or.inl (hw _ (List.mem_of_getElem? (i := 146) rfl))) (by decide) (t := (.array .int)) (t' := .int) (by decide) (by decide)
theorem sn_176 {a0 : Array Value} {Z : State} (hw : ∀ d ∈ tables_1, d.before a0 Z = true) : Jvm.RoadKit.slotOf Z "com/example/isolens/isolens/checker/DynamicOrder" "metBack" "[I" ≠ Jvm.RoadKit.slotOf Z "com/example/isolens/isolens/checker/DynamicOrder" "searches" "I" := slot_ne (Or.inr (hw _ (List.mem_of_getElem? (i := 104) rfl))) (Or.inl (hw _ (List.mem_of_getElem? (i := 146) rfl))) (by decide) (t := (.array .int)) (t' := .int) (by decide) (by decide)
theorem sn_177 {a0 : Array Value} {Z : State} (hw : ∀ d ∈ tables_1, d.before a0 Z = true) : Jvm.RoadKit.slotOf Z "com/example/isolens/isolens/checker/DynamicOrder" "added" "I" ≠ Jvm.RoadKit.slotOf Z "com/example/isolens/isolens/checker/DynamicOrder" "searches" "I" := slot_ne (Or.inl (hw _ (List.mem_of_getElem? (i := 118) rfl))) (Or.inl (hw _ (List.mem_of_getElem? (i := 146) rfl))) (by decide) (t := .int) (t' := .int) (by decide) (by decide)
theorem d17_12 : decode prog_17_method_3_code 12 = .ok (.istore 6, 2) := by decide +kernel
theorem d17_14 : decode prog_17_method_3_code 14 = .ok (.aload_n 0, 1) := by decide +kernel
theorem d17_15 : decode prog_17_method_3_code 15 = .ok (.invokevirtual 106, 3) := by decide +kernel
theorem d17_18 : decode prog_17_method_3_code 18 = .ok (.istore 7, 2) := by decide +kernel
theorem d17_20 : decode prog_17_method_3_code 20 = .ok (.aload_n 0, 1) := by decide +kernel
theorem d17_21 : decode prog_17_method_3_code 21 = .ok (.getfield 35, 3) := by decide +kernel
theorem d17_24 : decode prog_17_method_3_code 24 = .ok (.iconst 0, 1) := by decide +kernel
theorem d17_25 : decode prog_17_method_3_code 25 = .ok (.putfield 110, 3) := by decide +kernel
theorem d17_28 : decode prog_17_method_3_code 28 = .ok (.iconst (-1), 1) := by decide +kernel
theorem d17_29 : decode prog_17_method_3_code 29 = .ok (.istore 8, 2) := by decide +kernel
theorem d17_31 : decode prog_17_method_3_code 31 = .ok (.iload_n 3, 1) := by decide +kernel
theorem d17_32 : decode prog_17_method_3_code 32 = .ok (.istore 9, 2) := by decide +kernel
theorem d17_34 : decode prog_17_method_3_code 34 = .ok (.iload 9, 2) := by decide +kernel
theorem d17_36 : decode prog_17_method_3_code 36 = .ok (.iload 4, 2) := by decide +kernel
theorem d17_38 : decode prog_17_method_3_code 38 = .ok (.if_icmp .ge 75, 3) := by decide +kernel
theorem d17_41 : decode prog_17_method_3_code 41 = .ok (.aload_n 0, 1) := by decide +kernel
theorem d17_42 : decode prog_17_method_3_code 42 = .ok (.getfield 81, 3) := by decide +kernel
theorem d17_45 : decode prog_17_method_3_code 45 = .ok (.aload_n 2, 1) := by decide +kernel
theorem d17_46 : decode prog_17_method_3_code 46 = .ok (.iload 9, 2) := by decide +kernel
theorem d17_48 : decode prog_17_method_3_code 48 = .ok (.iaload, 1) := by decide +kernel
theorem d17_49 : decode prog_17_method_3_code 49 = .ok (.iaload, 1) := by decide +kernel
theorem d17_50 : decode prog_17_method_3_code 50 = .ok (.iload 5, 2) := by decide +kernel
theorem d17_52 : decode prog_17_method_3_code 52 = .ok (.if_icmp .le 55, 3) := by decide +kernel
theorem d17_55 : decode prog_17_method_3_code 55 = .ok (.aload_n 0, 1) := by decide +kernel
theorem d17_56 : decode prog_17_method_3_code 56 = .ok (.getfield 99, 3) := by decide +kernel
theorem d17_59 : decode prog_17_method_3_code 59 = .ok (.aload_n 2, 1) := by decide +kernel
theorem d17_60 : decode prog_17_method_3_code 60 = .ok (.iload 9, 2) := by decide +kernel
theorem d17_62 : decode prog_17_method_3_code 62 = .ok (.iaload, 1) := by decide +kernel
theorem d17_63 : decode prog_17_method_3_code 63 = .ok (.iaload, 1) := by decide +kernel
theorem d17_64 : decode prog_17_method_3_code 64 = .ok (.iload 7, 2) := by decide +kernel
theorem d17_66 : decode prog_17_method_3_code 66 = .ok (.if_icmp .eq 41, 3) := by decide +kernel
theorem d17_69 : decode prog_17_method_3_code 69 = .ok (.aload_n 0, 1) := by decide +kernel
theorem d17_70 : decode prog_17_method_3_code 70 = .ok (.getfield 99, 3) := by decide +kernel
theorem d17_73 : decode prog_17_method_3_code 73 = .ok (.aload_n 2, 1) := by decide +kernel
theorem d17_74 : decode prog_17_method_3_code 74 = .ok (.iload 9, 2) := by decide +kernel
theorem d17_76 : decode prog_17_method_3_code 76 = .ok (.iaload, 1) := by decide +kernel
theorem d17_77 : decode prog_17_method_3_code 77 = .ok (.iload 7, 2) := by decide +kernel
theorem d17_79 : decode prog_17_method_3_code 79 = .ok (.iastore, 1) := by decide +kernel
theorem d17_80 : decode prog_17_method_3_code 80 = .ok (.aload_n 0, 1) := by decide +kernel
theorem d17_81 : decode prog_17_method_3_code 81 = .ok (.getfield 35, 3) := by decide +kernel
theorem d17_84 : decode prog_17_method_3_code 84 = .ok (.aload_n 2, 1) := by decide +kernel
theorem d17_85 : decode prog_17_method_3_code 85 = .ok (.iload 9, 2) := by decide +kernel
theorem d17_87 : decode prog_17_method_3_code 87 = .ok (.iaload, 1) := by decide +kernel
theorem d17_88 : decode prog_17_method_3_code 88 = .ok (.invokevirtual 114, 3) := by decide +kernel
theorem d17_91 : decode prog_17_method_3_code 91 = .ok (.iload 8, 2) := by decide +kernel
theorem d17_93 : decode prog_17_method_3_code 93 = .ok (.aload_n 0, 1) := by decide +kernel
theorem d17_94 : decode prog_17_method_3_code 94 = .ok (.getfield 81, 3) := by decide +kernel
theorem d17_97 : decode prog_17_method_3_code 97 = .ok (.aload_n 2, 1) := by decide +kernel
theorem d17_98 : decode prog_17_method_3_code 98 = .ok (.iload 9, 2) := by decide +kernel
theorem d17_100 : decode prog_17_method_3_code 100 = .ok (.iaload, 1) := by decide +kernel
theorem d17_101 : decode prog_17_method_3_code 101 = .ok (.iaload, 1) := by decide +kernel
theorem d17_102 : decode prog_17_method_3_code 102 = .ok (.invokestatic 118, 3) := by decide +kernel
theorem pd__II_I_300 : parseMethodDescriptor "(II)I" = some ⟨[.int, .int], some .int⟩ := by decide +kernel
theorem d17_105 : decode prog_17_method_3_code 105 = .ok (.istore 8, 2) := by decide +kernel
theorem d17_107 : decode prog_17_method_3_code 107 = .ok (.iinc 9 1, 3) := by decide +kernel
theorem d17_110 : decode prog_17_method_3_code 110 = .ok (.goto (-76), 3) := by decide +kernel
theorem d17_113 : decode prog_17_method_3_code 113 = .ok (.aload_n 0, 1) := by decide +kernel
theorem d17_114 : decode prog_17_method_3_code 114 = .ok (.getfield 35, 3) := by decide +kernel
theorem d17_117 : decode prog_17_method_3_code 117 = .ok (.getfield 110, 3) := by decide +kernel
theorem d17_120 : decode prog_17_method_3_code 120 = .ok (.ifCond .ne 5, 3) := by decide +kernel
theorem d17_125 : decode prog_17_method_3_code 125 = .ok (.aload_n 0, 1) := by decide +kernel
theorem d17_126 : decode prog_17_method_3_code 126 = .ok (.getfield 96, 3) := by decide +kernel
theorem d17_129 : decode prog_17_method_3_code 129 = .ok (.iload_n 1, 1) := by decide +kernel
theorem d17_130 : decode prog_17_method_3_code 130 = .ok (.iload 6, 2) := by decide +kernel
theorem d17_132 : decode prog_17_method_3_code 132 = .ok (.iastore, 1) := by decide +kernel
theorem d17_133 : decode prog_17_method_3_code 133 = .ok (.aload_n 0, 1) := by decide +kernel
theorem d17_134 : decode prog_17_method_3_code 134 = .ok (.getfield 32, 3) := by decide +kernel
theorem d17_137 : decode prog_17_method_3_code 137 = .ok (.iconst 0, 1) := by decide +kernel
theorem d17_138 : decode prog_17_method_3_code 138 = .ok (.putfield 110, 3) := by decide +kernel
theorem d17_141 : decode prog_17_method_3_code 141 = .ok (.aload_n 0, 1) := by decide +kernel
theorem d17_142 : decode prog_17_method_3_code 142 = .ok (.getfield 32, 3) := by decide +kernel
theorem d17_145 : decode prog_17_method_3_code 145 = .ok (.iload_n 1, 1) := by decide +kernel
theorem d17_146 : decode prog_17_method_3_code 146 = .ok (.invokevirtual 114, 3) := by decide +kernel
theorem d17_149 : decode prog_17_method_3_code 149 = .ok (.aload_n 0, 1) := by decide +kernel
theorem d17_150 : decode prog_17_method_3_code 150 = .ok (.getfield 32, 3) := by decide +kernel
theorem d17_153 : decode prog_17_method_3_code 153 = .ok (.getfield 110, 3) := by decide +kernel
theorem d17_156 : decode prog_17_method_3_code 156 = .ok (.ifCond .le 262, 3) := by decide +kernel
theorem d17_159 : decode prog_17_method_3_code 159 = .ok (.aload_n 0, 1) := by decide +kernel
theorem d17_160 : decode prog_17_method_3_code 160 = .ok (.getfield 35, 3) := by decide +kernel
theorem d17_163 : decode prog_17_method_3_code 163 = .ok (.getfield 110, 3) := by decide +kernel
theorem d17_166 : decode prog_17_method_3_code 166 = .ok (.ifCond .le 252, 3) := by decide +kernel
theorem d17_169 : decode prog_17_method_3_code 169 = .ok (.aload_n 0, 1) := by decide +kernel
theorem d17_170 : decode prog_17_method_3_code 170 = .ok (.getfield 32, 3) := by decide +kernel
theorem d17_173 : decode prog_17_method_3_code 173 = .ok (.getfield 124, 3) := by decide +kernel
theorem d17_176 : decode prog_17_method_3_code 176 = .ok (.aload_n 0, 1) := by decide +kernel
theorem d17_177 : decode prog_17_method_3_code 177 = .ok (.getfield 32, 3) := by decide +kernel
theorem d17_180 : decode prog_17_method_3_code 180 = .ok (.dup, 1) := by decide +kernel
theorem d17_181 : decode prog_17_method_3_code 181 = .ok (.getfield 110, 3) := by decide +kernel
theorem d17_184 : decode prog_17_method_3_code 184 = .ok (.iconst 1, 1) := by decide +kernel
theorem d17_185 : decode prog_17_method_3_code 185 = .ok (.isub, 1) := by decide +kernel
theorem d17_186 : decode prog_17_method_3_code 186 = .ok (.dup_x1, 1) := by decide +kernel
theorem d17_187 : decode prog_17_method_3_code 187 = .ok (.putfield 110, 3) := by decide +kernel
theorem d17_190 : decode prog_17_method_3_code 190 = .ok (.iaload, 1) := by decide +kernel
theorem d17_191 : decode prog_17_method_3_code 191 = .ok (.istore 9, 2) := by decide +kernel
theorem d17_193 : decode prog_17_method_3_code 193 = .ok (.aload_n 0, 1) := by decide +kernel
theorem d17_194 : decode prog_17_method_3_code 194 = .ok (.getfield 63, 3) := by decide +kernel
theorem d17_197 : decode prog_17_method_3_code 197 = .ok (.iload 9, 2) := by decide +kernel
theorem d17_199 : decode prog_17_method_3_code 199 = .ok (.iaload, 1) := by decide +kernel
theorem d17_200 : decode prog_17_method_3_code 200 = .ok (.istore 10, 2) := by decide +kernel
theorem d17_202 : decode prog_17_method_3_code 202 = .ok (.iload 10, 2) := by decide +kernel
theorem d17_204 : decode prog_17_method_3_code 204 = .ok (.aload_n 0, 1) := by decide +kernel
theorem d17_205 : decode prog_17_method_3_code 205 = .ok (.getfield 63, 3) := by decide +kernel
theorem d17_208 : decode prog_17_method_3_code 208 = .ok (.iload 9, 2) := by decide +kernel
theorem d17_210 : decode prog_17_method_3_code 210 = .ok (.iconst 1, 1) := by decide +kernel
theorem d17_211 : decode prog_17_method_3_code 211 = .ok (.iadd, 1) := by decide +kernel
theorem d17_212 : decode prog_17_method_3_code 212 = .ok (.iaload, 1) := by decide +kernel
theorem d17_213 : decode prog_17_method_3_code 213 = .ok (.if_icmp .ge 31, 3) := by decide +kernel
theorem d17_244 : decode prog_17_method_3_code 244 = .ok (.aload_n 0, 1) := by decide +kernel
theorem d17_245 : decode prog_17_method_3_code 245 = .ok (.getfield 84, 3) := by decide +kernel
theorem d17_248 : decode prog_17_method_3_code 248 = .ok (.iload 9, 2) := by decide +kernel
theorem d17_250 : decode prog_17_method_3_code 250 = .ok (.iaload, 1) := by decide +kernel
theorem d17_251 : decode prog_17_method_3_code 251 = .ok (.istore 10, 2) := by decide +kernel
theorem d17_253 : decode prog_17_method_3_code 253 = .ok (.iload 10, 2) := by decide +kernel
theorem d17_255 : decode prog_17_method_3_code 255 = .ok (.ifCond .lt 37, 3) := by decide +kernel
theorem d17_292 : decode prog_17_method_3_code 292 = .ok (.aload_n 0, 1) := by decide +kernel
theorem d17_293 : decode prog_17_method_3_code 293 = .ok (.getfield 35, 3) := by decide +kernel
theorem d17_296 : decode prog_17_method_3_code 296 = .ok (.getfield 124, 3) := by decide +kernel
theorem d17_299 : decode prog_17_method_3_code 299 = .ok (.aload_n 0, 1) := by decide +kernel
theorem d17_300 : decode prog_17_method_3_code 300 = .ok (.getfield 35, 3) := by decide +kernel
theorem d17_303 : decode prog_17_method_3_code 303 = .ok (.dup, 1) := by decide +kernel
theorem d17_304 : decode prog_17_method_3_code 304 = .ok (.getfield 110, 3) := by decide +kernel
theorem d17_307 : decode prog_17_method_3_code 307 = .ok (.iconst 1, 1) := by decide +kernel
theorem d17_308 : decode prog_17_method_3_code 308 = .ok (.isub, 1) := by decide +kernel
theorem d17_309 : decode prog_17_method_3_code 309 = .ok (.dup_x1, 1) := by decide +kernel
theorem d17_310 : decode prog_17_method_3_code 310 = .ok (.putfield 110, 3) := by decide +kernel
theorem d17_313 : decode prog_17_method_3_code 313 = .ok (.iaload, 1) := by decide +kernel
theorem d17_314 : decode prog_17_method_3_code 314 = .ok (.istore 9, 2) := by decide +kernel
theorem d17_316 : decode prog_17_method_3_code 316 = .ok (.aload_n 0, 1) := by decide +kernel
theorem d17_317 : decode prog_17_method_3_code 317 = .ok (.getfield 75, 3) := by decide +kernel
theorem d17_320 : decode prog_17_method_3_code 320 = .ok (.iload 9, 2) := by decide +kernel
theorem d17_322 : decode prog_17_method_3_code 322 = .ok (.iaload, 1) := by decide +kernel
theorem d17_323 : decode prog_17_method_3_code 323 = .ok (.istore 10, 2) := by decide +kernel
theorem d17_325 : decode prog_17_method_3_code 325 = .ok (.iload 10, 2) := by decide +kernel
theorem d17_327 : decode prog_17_method_3_code 327 = .ok (.aload_n 0, 1) := by decide +kernel
theorem d17_328 : decode prog_17_method_3_code 328 = .ok (.getfield 75, 3) := by decide +kernel
theorem d17_331 : decode prog_17_method_3_code 331 = .ok (.iload 9, 2) := by decide +kernel
theorem d17_333 : decode prog_17_method_3_code 333 = .ok (.iconst 1, 1) := by decide +kernel
theorem d17_334 : decode prog_17_method_3_code 334 = .ok (.iadd, 1) := by decide +kernel
theorem d17_335 : decode prog_17_method_3_code 335 = .ok (.iaload, 1) := by decide +kernel
theorem d17_336 : decode prog_17_method_3_code 336 = .ok (.if_icmp .ge 31, 3) := by decide +kernel
theorem d17_367 : decode prog_17_method_3_code 367 = .ok (.aload_n 0, 1) := by decide +kernel
theorem d17_368 : decode prog_17_method_3_code 368 = .ok (.getfield 87, 3) := by decide +kernel
theorem d17_371 : decode prog_17_method_3_code 371 = .ok (.iload 9, 2) := by decide +kernel
theorem d17_373 : decode prog_17_method_3_code 373 = .ok (.iaload, 1) := by decide +kernel
theorem d17_374 : decode prog_17_method_3_code 374 = .ok (.istore 10, 2) := by decide +kernel
theorem d17_376 : decode prog_17_method_3_code 376 = .ok (.iload 10, 2) := by decide +kernel
theorem d17_378 : decode prog_17_method_3_code 378 = .ok (.ifCond .lt 37, 3) := by decide +kernel
theorem d17_415 : decode prog_17_method_3_code 415 = .ok (.goto (-266), 3) := by decide +kernel
theorem d17_418 : decode prog_17_method_3_code 418 = .ok (.iconst 0, 1) := by decide +kernel
theorem d17_419 : decode prog_17_method_3_code 419 = .ok (.ireturn, 1) := by decide +kernel
theorem d17_381 : decode prog_17_method_3_code 381 = .ok (.aload_n 0, 1) := by decide +kernel
theorem d17_382 : decode prog_17_method_3_code 382 = .ok (.aload_n 0, 1) := by decide +kernel
theorem d17_383 : decode prog_17_method_3_code 383 = .ok (.getfield 7, 3) := by decide +kernel
theorem d17_386 : decode prog_17_method_3_code 386 = .ok (.iload 10, 2) := by decide +kernel
theorem d17_388 : decode prog_17_method_3_code 388 = .ok (.iaload, 1) := by decide +kernel
theorem d17_389 : decode prog_17_method_3_code 389 = .ok (.iload 6, 2) := by decide +kernel
theorem d17_391 : decode prog_17_method_3_code 391 = .ok (.iload 7, 2) := by decide +kernel
theorem d17_393 : decode prog_17_method_3_code 393 = .ok (.iload 5, 2) := by decide +kernel
theorem d17_395 : decode prog_17_method_3_code 395 = .ok (.invokevirtual 131, 3) := by decide +kernel
theorem pd__IIII_Z_463 : parseMethodDescriptor "(IIII)Z" = some ⟨[.int, .int, .int, .int], some .boolean⟩ := by decide +kernel
theorem d17_398 : decode prog_17_method_3_code 398 = .ok (.ifCond .eq 5, 3) := by decide +kernel
theorem d17_403 : decode prog_17_method_3_code 403 = .ok (.aload_n 0, 1) := by decide +kernel
theorem d17_404 : decode prog_17_method_3_code 404 = .ok (.getfield 19, 3) := by decide +kernel
theorem d17_407 : decode prog_17_method_3_code 407 = .ok (.iload 10, 2) := by decide +kernel
theorem d17_409 : decode prog_17_method_3_code 409 = .ok (.iaload, 1) := by decide +kernel
theorem d17_410 : decode prog_17_method_3_code 410 = .ok (.istore 10, 2) := by decide +kernel
theorem d17_412 : decode prog_17_method_3_code 412 = .ok (.goto (-36), 3) := by decide +kernel
theorem d17_401 : decode prog_17_method_3_code 401 = .ok (.iconst 1, 1) := by decide +kernel
theorem d17_402 : decode prog_17_method_3_code 402 = .ok (.ireturn, 1) := by decide +kernel
theorem d17_258 : decode prog_17_method_3_code 258 = .ok (.aload_n 0, 1) := by decide +kernel
theorem d17_259 : decode prog_17_method_3_code 259 = .ok (.aload_n 0, 1) := by decide +kernel
theorem d17_260 : decode prog_17_method_3_code 260 = .ok (.getfield 13, 3) := by decide +kernel
theorem d17_263 : decode prog_17_method_3_code 263 = .ok (.iload 10, 2) := by decide +kernel
theorem d17_265 : decode prog_17_method_3_code 265 = .ok (.iaload, 1) := by decide +kernel
theorem d17_266 : decode prog_17_method_3_code 266 = .ok (.iload 6, 2) := by decide +kernel
theorem d17_268 : decode prog_17_method_3_code 268 = .ok (.iload 7, 2) := by decide +kernel
theorem d17_270 : decode prog_17_method_3_code 270 = .ok (.iload 8, 2) := by decide +kernel
theorem d17_272 : decode prog_17_method_3_code 272 = .ok (.invokevirtual 127, 3) := by decide +kernel
theorem d17_275 : decode prog_17_method_3_code 275 = .ok (.ifCond .eq 5, 3) := by decide +kernel
theorem d17_280 : decode prog_17_method_3_code 280 = .ok (.aload_n 0, 1) := by decide +kernel
theorem d17_281 : decode prog_17_method_3_code 281 = .ok (.getfield 16, 3) := by decide +kernel
theorem d17_284 : decode prog_17_method_3_code 284 = .ok (.iload 10, 2) := by decide +kernel
theorem d17_286 : decode prog_17_method_3_code 286 = .ok (.iaload, 1) := by decide +kernel
theorem d17_287 : decode prog_17_method_3_code 287 = .ok (.istore 10, 2) := by decide +kernel
theorem d17_289 : decode prog_17_method_3_code 289 = .ok (.goto (-36), 3) := by decide +kernel
theorem d17_278 : decode prog_17_method_3_code 278 = .ok (.iconst 1, 1) := by decide +kernel
theorem d17_279 : decode prog_17_method_3_code 279 = .ok (.ireturn, 1) := by decide +kernel
set_option maxRecDepth 65536 in
set_option maxHeartbeats 40000000 in
theorem rm_ra (l : Launch) (Z : State) (a0 : Array Value) (hw : ∀ d ∈ tables_1, d.before a0 Z = true) (o : Addr) (uf : Int32) (ta : Addr) (n0 q : Nat) (ut uk sc cp cb : Int32) (cd fr tt eo ei lo li mi mb pn pq gt : Nat → Int32) (xa xb xc xd pe xn pb xm fo fi pl yo yi ym yb : Addr) (h0 : Heap) (Z0 : n0 ≤ h0.size) (g_o : n0 ≤ o) (k1 : o < xa) (k2 : xa < xb) (k3 : xb < xc) (k4 : xc < xd) (k5 : xd < pe) (k6 : pe < xn) (k7 : xn < pb) (k8 : pb < xm) (k9 : xm < fo) (k10 : fo < fi) (k11 : fi < pl) (k12 : pl < yo) (k13 : yo < yi) (k14 : yi < ym) (k15 : ym < yb) (E_o : Exa Z h0 o "com/example/isolens/isolens/checker/DynamicOrder") (E_pe : Exa Z h0 pe "com/example/isolens/isolens/checker/DynamicOrder$Found") (E_pb : Exa Z h0 pb "com/example/isolens/isolens/checker/DynamicOrder$Found") (F_o_addedFrom : Fld Z h0 o "com/example/isolens/isolens/checker/DynamicOrder" "addedFrom" "[I" (.ref xa)) (F_o_addedTo : Fld Z h0 o "com/example/isolens/isolens/checker/DynamicOrder" "addedTo" "[I" (.ref xb)) (F_o_earlierOut : Fld Z h0 o "com/example/isolens/isolens/checker/DynamicOrder" "earlierOut" "[I" (.ref xc)) (F_o_earlierIn : Fld Z h0 o "com/example/isolens/isolens/checker/DynamicOrder" "earlierIn" "[I" (.ref xd)) (F_o_pending : Fld Z h0 o "com/example/isolens/isolens/checker/DynamicOrder" "pending" "Lcom/example/isolens/isolens/checker/DynamicOrder$Found;" (.ref pe)) (F_o_pendingBack : Fld Z h0 o "com/example/isolens/isolens/checker/DynamicOrder" "pendingBack" "Lcom/example/isolens/isolens/checker/DynamicOrder$Found;" (.ref pb)) (F_o_firstOut : Fld Z h0 o "com/example/isolens/isolens/checker/DynamicOrder" "firstOut" "[I" (.ref fo)) (F_o_firstIn : Fld Z h0 o "com/example/isolens/isolens/checker/DynamicOrder" "firstIn" "[I" (.ref fi)) (F_o_place : Fld Z h0 o "com/example/isolens/isolens/checker/DynamicOrder" "place" "[I" (.ref pl)) (F_o_latestOut : Fld Z h0 o "com/example/isolens/isolens/checker/DynamicOrder" "latestOut" "[I" (.ref yo)) (F_o_latestIn : Fld Z h0 o "com/example/isolens/isolens/checker/DynamicOrder" "latestIn" "[I" (.ref yi)) (F_o_metIn : Fld Z h0 o "com/example/isolens/isolens/checker/DynamicOrder" "metIn" "[I" (.ref ym)) (F_o_metBack : Fld Z h0 o "com/example/isolens/isolens/checker/DynamicOrder" "metBack" "[I" (.ref yb)) (F_o_added : Fld Z h0 o "com/example/isolens/isolens/checker/DynamicOrder" "added" "I" (.int uk)) (F_o_searches : Fld Z h0 o "com/example/isolens/isolens/checker/DynamicOrder" "searches" "I" (.int sc)) (F_pe_count : Fld Z h0 pe "com/example/isolens/isolens/checker/DynamicOrder$Found" "count" "I" (.int cp)) (F_pe_nodes : Fld Z h0 pe "com/example/isolens/isolens/checker/DynamicOrder$Found" "nodes" "[I" (.ref xn)) (F_pb_count : Fld Z h0 pb "com/example/isolens/isolens/checker/DynamicOrder$Found" "count" "I" (.int cb)) (F_pb_nodes : Fld Z h0 pb "com/example/isolens/isolens/checker/DynamicOrder$Found" "nodes" "[I" (.ref xm)) (A_xa : Ara Z h0 xa .int 16 (fun jz => .int (fr jz))) (A_xb : Ara Z h0 xb .int 16 (fun jz => .int (tt jz))) (A_xc : Ara Z h0 xc .int 16 (fun jz => .int (eo jz))) (A_xd : Ara Z h0 xd .int 16 (fun jz => .int (ei jz))) (A_xn : Ara Z h0 xn .int 16 (fun jz => .int (pn jz))) (A_xm : Ara Z h0 xm .int 16 (fun jz => .int (pq jz))) (A_fo : Ara Z h0 fo .int 4 (fun jz => .int ((fun _ => (0 : Int32)) jz))) (A_fi : Ara Z h0 fi .int 4 (fun jz => .int ((fun _ => (0 : Int32)) jz))) (A_pl : Ara Z h0 pl .int 3 (fun jz => .int (own_id jz))) (A_yo : Ara Z h0 yo .int 3 (fun jz => .int (lo jz))) (A_yi : Ara Z h0 yi .int 3 (fun jz => .int (li jz))) (A_ym : Ara Z h0 ym .int 3 (fun jz => .int (mi jz))) (A_yb : Ara Z h0 yb .int 3 (fun jz => .int (mb jz))) (A_ta : Ara Z h0 ta .int 1 (fun jz => .int (gt jz))) (kta : yb < ta) (hgt : gt 0 = ut) (I : own_inv uk.toInt.toNat q sc cd fr tt eo ei lo li mi mb) (hk0 : 0 ≤ uk.toInt) (hft : 0 ≤ uf.toInt ∧ uf.toInt < ut.toInt ∧ ut.toInt ≤ 2) (hq : q < 10) :
    Ct l Z (⟨"com/example/isolens/isolens/checker/DynamicOrder", "reachesAny", "(I[III)Z"⟩ : MethodName) prog_17_method_3_code 11 (some .boolean) ({ frames := 2, cells := 0, slots := 0, locals := 32 } : Room) #[(.ref o), (.int uf), (.ref ta), (.int (0 : Int32)), (.int (1 : Int32))] h0 (QDr Z n0 o (q + 1) uk cd (own_PRg uf ut uk.toInt.toNat fr tt)) := by
  refine own_met (plainFor_of_name pn_17) (fun m => ef_17_rm_ra m o uf ta) ?_
  intro p e s m below meth c T0 EF X0 hx hby hml hown hnm hret hlk hZ hF e0
  have N0 := Fr.nil n0
  have ne_o_xa : o ≠ xa := Nat.ne_of_lt k1
  have ne_o_xb : o ≠ xb := Nat.ne_of_lt (Nat.lt_trans k1 k2)
  have ne_o_xc : o ≠ xc := Nat.ne_of_lt (Nat.lt_trans (Nat.lt_trans k1 k2) k3)
  have ne_o_xd : o ≠ xd := Nat.ne_of_lt (Nat.lt_trans (Nat.lt_trans (Nat.lt_trans k1 k2) k3) k4)
  have ne_o_pe : o ≠ pe := Nat.ne_of_lt (Nat.lt_trans (Nat.lt_trans (Nat.lt_trans (Nat.lt_trans k1 k2) k3) k4) k5)
  have ne_o_xn : o ≠ xn := Nat.ne_of_lt (Nat.lt_trans (Nat.lt_trans (Nat.lt_trans (Nat.lt_trans (Nat.lt_trans k1 k2) k3) k4) k5) k6)
  have ne_o_pb : o ≠ pb := Nat.ne_of_lt (Nat.lt_trans (Nat.lt_trans (Nat.lt_trans (Nat.lt_trans (Nat.lt_trans (Nat.lt_trans k1 k2) k3) k4) k5) k6) k7)
  have ne_o_xm : o ≠ xm := Nat.ne_of_lt (Nat.lt_trans (Nat.lt_trans (Nat.lt_trans (Nat.lt_trans (Nat.lt_trans (Nat.lt_trans (Nat.lt_trans k1 k2) k3) k4) k5) k6) k7) k8)
  have ne_o_fo : o ≠ fo := Nat.ne_of_lt (Nat.lt_trans (Nat.lt_trans (Nat.lt_trans (Nat.lt_trans (Nat.lt_trans (Nat.lt_trans (Nat.lt_trans (Nat.lt_trans k1 k2) k3) k4) k5) k6) k7) k8) k9)
  have ne_o_fi : o ≠ fi := Nat.ne_of_lt (Nat.lt_trans (Nat.lt_trans (Nat.lt_trans (Nat.lt_trans (Nat.lt_trans (Nat.lt_trans (Nat.lt_trans (Nat.lt_trans (Nat.lt_trans k1 k2) k3) k4) k5) k6) k7) k8) k9) k10)
  have ne_o_pl : o ≠ pl := Nat.ne_of_lt (Nat.lt_trans (Nat.lt_trans (Nat.lt_trans (Nat.lt_trans (Nat.lt_trans (Nat.lt_trans (Nat.lt_trans (Nat.lt_trans (Nat.lt_trans (Nat.lt_trans k1 k2) k3) k4) k5) k6) k7) k8) k9) k10) k11)
  have ne_o_yo : o ≠ yo := Nat.ne_of_lt (Nat.lt_trans (Nat.lt_trans (Nat.lt_trans (Nat.lt_trans (Nat.lt_trans (Nat.lt_trans (Nat.lt_trans (Nat.lt_trans (Nat.lt_trans (Nat.lt_trans (Nat.lt_trans k1 k2) k3) k4) k5) k6) k7) k8) k9) k10) k11) k12)
  have ne_o_yi : o ≠ yi := Nat.ne_of_lt (Nat.lt_trans (Nat.lt_trans (Nat.lt_trans (Nat.lt_trans (Nat.lt_trans (Nat.lt_trans (Nat.lt_trans (Nat.lt_trans (Nat.lt_trans (Nat.lt_trans (Nat.lt_trans (Nat.lt_trans k1 k2) k3) k4) k5) k6) k7) k8) k9) k10) k11) k12) k13)
  have ne_o_ym : o ≠ ym := Nat.ne_of_lt (Nat.lt_trans (Nat.lt_trans (Nat.lt_trans (Nat.lt_trans (Nat.lt_trans (Nat.lt_trans (Nat.lt_trans (Nat.lt_trans (Nat.lt_trans (Nat.lt_trans (Nat.lt_trans (Nat.lt_trans (Nat.lt_trans k1 k2) k3) k4) k5) k6) k7) k8) k9) k10) k11) k12) k13) k14)
  have ne_o_yb : o ≠ yb := Nat.ne_of_lt (Nat.lt_trans (Nat.lt_trans (Nat.lt_trans (Nat.lt_trans (Nat.lt_trans (Nat.lt_trans (Nat.lt_trans (Nat.lt_trans (Nat.lt_trans (Nat.lt_trans (Nat.lt_trans (Nat.lt_trans (Nat.lt_trans (Nat.lt_trans k1 k2) k3) k4) k5) k6) k7) k8) k9) k10) k11) k12) k13) k14) k15)
  have ne_xa_xb : xa ≠ xb := Nat.ne_of_lt k2
  have ne_xa_xc : xa ≠ xc := Nat.ne_of_lt (Nat.lt_trans k2 k3)
  have ne_xa_xd : xa ≠ xd := Nat.ne_of_lt (Nat.lt_trans (Nat.lt_trans k2 k3) k4)
  have ne_xa_pe : xa ≠ pe := Nat.ne_of_lt (Nat.lt_trans (Nat.lt_trans (Nat.lt_trans k2 k3) k4) k5)
  have ne_xa_xn : xa ≠ xn := Nat.ne_of_lt (Nat.lt_trans (Nat.lt_trans (Nat.lt_trans (Nat.lt_trans k2 k3) k4) k5) k6)
  have ne_xa_pb : xa ≠ pb := Nat.ne_of_lt (Nat.lt_trans (Nat.lt_trans (Nat.lt_trans (Nat.lt_trans (Nat.lt_trans k2 k3) k4) k5) k6) k7)
  have ne_xa_xm : xa ≠ xm := Nat.ne_of_lt (Nat.lt_trans (Nat.lt_trans (Nat.lt_trans (Nat.lt_trans (Nat.lt_trans (Nat.lt_trans k2 k3) k4) k5) k6) k7) k8)
  have ne_xa_fo : xa ≠ fo := Nat.ne_of_lt (Nat.lt_trans (Nat.lt_trans (Nat.lt_trans (Nat.lt_trans (Nat.lt_trans (Nat.lt_trans (Nat.lt_trans k2 k3) k4) k5) k6) k7) k8) k9)
  have ne_xa_fi : xa ≠ fi := Nat.ne_of_lt (Nat.lt_trans (Nat.lt_trans (Nat.lt_trans (Nat.lt_trans (Nat.lt_trans (Nat.lt_trans (Nat.lt_trans (Nat.lt_trans k2 k3) k4) k5) k6) k7) k8) k9) k10)
  have ne_xa_pl : xa ≠ pl := Nat.ne_of_lt (Nat.lt_trans (Nat.lt_trans (Nat.lt_trans (Nat.lt_trans (Nat.lt_trans (Nat.lt_trans (Nat.lt_trans (Nat.lt_trans (Nat.lt_trans k2 k3) k4) k5) k6) k7) k8) k9) k10) k11)
  have ne_xa_yo : xa ≠ yo := Nat.ne_of_lt (Nat.lt_trans (Nat.lt_trans (Nat.lt_trans (Nat.lt_trans (Nat.lt_trans (Nat.lt_trans (Nat.lt_trans (Nat.lt_trans (Nat.lt_trans (Nat.lt_trans k2 k3) k4) k5) k6) k7) k8) k9) k10) k11) k12)
  have ne_xa_yi : xa ≠ yi := Nat.ne_of_lt (Nat.lt_trans (Nat.lt_trans (Nat.lt_trans (Nat.lt_trans (Nat.lt_trans (Nat.lt_trans (Nat.lt_trans (Nat.lt_trans (Nat.lt_trans (Nat.lt_trans (Nat.lt_trans k2 k3) k4) k5) k6) k7) k8) k9) k10) k11) k12) k13)
  have ne_xa_ym : xa ≠ ym := Nat.ne_of_lt (Nat.lt_trans (Nat.lt_trans (Nat.lt_trans (Nat.lt_trans (Nat.lt_trans (Nat.lt_trans (Nat.lt_trans (Nat.lt_trans (Nat.lt_trans (Nat.lt_trans (Nat.lt_trans (Nat.lt_trans k2 k3) k4) k5) k6) k7) k8) k9) k10) k11) k12) k13) k14)
  have ne_xa_yb : xa ≠ yb := Nat.ne_of_lt (Nat.lt_trans (Nat.lt_trans (Nat.lt_trans (Nat.lt_trans (Nat.lt_trans (Nat.lt_trans (Nat.lt_trans (Nat.lt_trans (Nat.lt_trans (Nat.lt_trans (Nat.lt_trans (Nat.lt_trans (Nat.lt_trans k2 k3) k4) k5) k6) k7) k8) k9) k10) k11) k12) k13) k14) k15)
  have ne_xb_xc : xb ≠ xc := Nat.ne_of_lt k3
  have ne_xb_xd : xb ≠ xd := Nat.ne_of_lt (Nat.lt_trans k3 k4)
  have ne_xb_pe : xb ≠ pe := Nat.ne_of_lt (Nat.lt_trans (Nat.lt_trans k3 k4) k5)
  have ne_xb_xn : xb ≠ xn := Nat.ne_of_lt (Nat.lt_trans (Nat.lt_trans (Nat.lt_trans k3 k4) k5) k6)
  have ne_xb_pb : xb ≠ pb := Nat.ne_of_lt (Nat.lt_trans (Nat.lt_trans (Nat.lt_trans (Nat.lt_trans k3 k4) k5) k6) k7)
  have ne_xb_xm : xb ≠ xm := Nat.ne_of_lt (Nat.lt_trans (Nat.lt_trans (Nat.lt_trans (Nat.lt_trans (Nat.lt_trans k3 k4) k5) k6) k7) k8)
  have ne_xb_fo : xb ≠ fo := Nat.ne_of_lt (Nat.lt_trans (Nat.lt_trans (Nat.lt_trans (Nat.lt_trans (Nat.lt_trans (Nat.lt_trans k3 k4) k5) k6) k7) k8) k9)
  have ne_xb_fi : xb ≠ fi := Nat.ne_of_lt (Nat.lt_trans (Nat.lt_trans (Nat.lt_trans (Nat.lt_trans (Nat.lt_trans (Nat.lt_trans (Nat.lt_trans k3 k4) k5) k6) k7) k8) k9) k10)
  have ne_xb_pl : xb ≠ pl := Nat.ne_of_lt (Nat.lt_trans (Nat.lt_trans (Nat.lt_trans (Nat.lt_trans (Nat.lt_trans (Nat.lt_trans (Nat.lt_trans (Nat.lt_trans k3 k4) k5) k6) k7) k8) k9) k10) k11)
  have ne_xb_yo : xb ≠ yo := Nat.ne_of_lt (Nat.lt_trans (Nat.lt_trans (Nat.lt_trans (Nat.lt_trans (Nat.lt_trans (Nat.lt_trans (Nat.lt_trans (Nat.lt_trans (Nat.lt_trans k3 k4) k5) k6) k7) k8) k9) k10) k11) k12)
  have ne_xb_yi : xb ≠ yi := Nat.ne_of_lt (Nat.lt_trans (Nat.lt_trans (Nat.lt_trans (Nat.lt_trans (Nat.lt_trans (Nat.lt_trans (Nat.lt_trans (Nat.lt_trans (Nat.lt_trans (Nat.lt_trans k3 k4) k5) k6) k7) k8) k9) k10) k11) k12) k13)
  have ne_xb_ym : xb ≠ ym := Nat.ne_of_lt (Nat.lt_trans (Nat.lt_trans (Nat.lt_trans (Nat.lt_trans (Nat.lt_trans (Nat.lt_trans (Nat.lt_trans (Nat.lt_trans (Nat.lt_trans (Nat.lt_trans (Nat.lt_trans k3 k4) k5) k6) k7) k8) k9) k10) k11) k12) k13) k14)
  have ne_xb_yb : xb ≠ yb := Nat.ne_of_lt (Nat.lt_trans (Nat.lt_trans (Nat.lt_trans (Nat.lt_trans (Nat.lt_trans (Nat.lt_trans (Nat.lt_trans (Nat.lt_trans (Nat.lt_trans (Nat.lt_trans (Nat.lt_trans (Nat.lt_trans k3 k4) k5) k6) k7) k8) k9) k10) k11) k12) k13) k14) k15)
  have ne_xc_xd : xc ≠ xd := Nat.ne_of_lt k4
  have ne_xc_pe : xc ≠ pe := Nat.ne_of_lt (Nat.lt_trans k4 k5)
  have ne_xc_xn : xc ≠ xn := Nat.ne_of_lt (Nat.lt_trans (Nat.lt_trans k4 k5) k6)
  have ne_xc_pb : xc ≠ pb := Nat.ne_of_lt (Nat.lt_trans (Nat.lt_trans (Nat.lt_trans k4 k5) k6) k7)
  have ne_xc_xm : xc ≠ xm := Nat.ne_of_lt (Nat.lt_trans (Nat.lt_trans (Nat.lt_trans (Nat.lt_trans k4 k5) k6) k7) k8)
  have ne_xc_fo : xc ≠ fo := Nat.ne_of_lt (Nat.lt_trans (Nat.lt_trans (Nat.lt_trans (Nat.lt_trans (Nat.lt_trans k4 k5) k6) k7) k8) k9)
  have ne_xc_fi : xc ≠ fi := Nat.ne_of_lt (Nat.lt_trans (Nat.lt_trans (Nat.lt_trans (Nat.lt_trans (Nat.lt_trans (Nat.lt_trans k4 k5) k6) k7) k8) k9) k10)
  have ne_xc_pl : xc ≠ pl := Nat.ne_of_lt (Nat.lt_trans (Nat.lt_trans (Nat.lt_trans (Nat.lt_trans (Nat.lt_trans (Nat.lt_trans (Nat.lt_trans k4 k5) k6) k7) k8) k9) k10) k11)
  have ne_xc_yo : xc ≠ yo := Nat.ne_of_lt (Nat.lt_trans (Nat.lt_trans (Nat.lt_trans (Nat.lt_trans (Nat.lt_trans (Nat.lt_trans (Nat.lt_trans (Nat.lt_trans k4 k5) k6) k7) k8) k9) k10) k11) k12)
  have ne_xc_yi : xc ≠ yi := Nat.ne_of_lt (Nat.lt_trans (Nat.lt_trans (Nat.lt_trans (Nat.lt_trans (Nat.lt_trans (Nat.lt_trans (Nat.lt_trans (Nat.lt_trans (Nat.lt_trans k4 k5) k6) k7) k8) k9) k10) k11) k12) k13)
  have ne_xc_ym : xc ≠ ym := Nat.ne_of_lt (Nat.lt_trans (Nat.lt_trans (Nat.lt_trans (Nat.lt_trans (Nat.lt_trans (Nat.lt_trans (Nat.lt_trans (Nat.lt_trans (Nat.lt_trans (Nat.lt_trans k4 k5) k6) k7) k8) k9) k10) k11) k12) k13) k14)
  have ne_xc_yb : xc ≠ yb := Nat.ne_of_lt (Nat.lt_trans (Nat.lt_trans (Nat.lt_trans (Nat.lt_trans (Nat.lt_trans (Nat.lt_trans (Nat.lt_trans (Nat.lt_trans (Nat.lt_trans (Nat.lt_trans (Nat.lt_trans k4 k5) k6) k7) k8) k9) k10) k11) k12) k13) k14) k15)
  have ne_xd_pe : xd ≠ pe := Nat.ne_of_lt k5
  have ne_xd_xn : xd ≠ xn := Nat.ne_of_lt (Nat.lt_trans k5 k6)
  have ne_xd_pb : xd ≠ pb := Nat.ne_of_lt (Nat.lt_trans (Nat.lt_trans k5 k6) k7)
  have ne_xd_xm : xd ≠ xm := Nat.ne_of_lt (Nat.lt_trans (Nat.lt_trans (Nat.lt_trans k5 k6) k7) k8)
  have ne_xd_fo : xd ≠ fo := Nat.ne_of_lt (Nat.lt_trans (Nat.lt_trans (Nat.lt_trans (Nat.lt_trans k5 k6) k7) k8) k9)
  have ne_xd_fi : xd ≠ fi := Nat.ne_of_lt (Nat.lt_trans (Nat.lt_trans (Nat.lt_trans (Nat.lt_trans (Nat.lt_trans k5 k6) k7) k8) k9) k10)
  have ne_xd_pl : xd ≠ pl := Nat.ne_of_lt (Nat.lt_trans (Nat.lt_trans (Nat.lt_trans (Nat.lt_trans (Nat.lt_trans (Nat.lt_trans k5 k6) k7) k8) k9) k10) k11)
  have ne_xd_yo : xd ≠ yo := Nat.ne_of_lt (Nat.lt_trans (Nat.lt_trans (Nat.lt_trans (Nat.lt_trans (Nat.lt_trans (Nat.lt_trans (Nat.lt_trans k5 k6) k7) k8) k9) k10) k11) k12)
  have ne_xd_yi : xd ≠ yi := Nat.ne_of_lt (Nat.lt_trans (Nat.lt_trans (Nat.lt_trans (Nat.lt_trans (Nat.lt_trans (Nat.lt_trans (Nat.lt_trans (Nat.lt_trans k5 k6) k7) k8) k9) k10) k11) k12) k13)
  have ne_xd_ym : xd ≠ ym := Nat.ne_of_lt (Nat.lt_trans (Nat.lt_trans (Nat.lt_trans (Nat.lt_trans (Nat.lt_trans (Nat.lt_trans (Nat.lt_trans (Nat.lt_trans (Nat.lt_trans k5 k6) k7) k8) k9) k10) k11) k12) k13) k14)
  have ne_xd_yb : xd ≠ yb := Nat.ne_of_lt (Nat.lt_trans (Nat.lt_trans (Nat.lt_trans (Nat.lt_trans (Nat.lt_trans (Nat.lt_trans (Nat.lt_trans (Nat.lt_trans (Nat.lt_trans (Nat.lt_trans k5 k6) k7) k8) k9) k10) k11) k12) k13) k14) k15)
  have ne_pe_xn : pe ≠ xn := Nat.ne_of_lt k6
  have ne_pe_pb : pe ≠ pb := Nat.ne_of_lt (Nat.lt_trans k6 k7)
  have ne_pe_xm : pe ≠ xm := Nat.ne_of_lt (Nat.lt_trans (Nat.lt_trans k6 k7) k8)
  have ne_pe_fo : pe ≠ fo := Nat.ne_of_lt (Nat.lt_trans (Nat.lt_trans (Nat.lt_trans k6 k7) k8) k9)
  have ne_pe_fi : pe ≠ fi := Nat.ne_of_lt (Nat.lt_trans (Nat.lt_trans (Nat.lt_trans (Nat.lt_trans k6 k7) k8) k9) k10)
  have ne_pe_pl : pe ≠ pl := Nat.ne_of_lt (Nat.lt_trans (Nat.lt_trans (Nat.lt_trans (Nat.lt_trans (Nat.lt_trans k6 k7) k8) k9) k10) k11)
  have ne_pe_yo : pe ≠ yo := Nat.ne_of_lt (Nat.lt_trans (Nat.lt_trans (Nat.lt_trans (Nat.lt_trans (Nat.lt_trans (Nat.lt_trans k6 k7) k8) k9) k10) k11) k12)
  have ne_pe_yi : pe ≠ yi := Nat.ne_of_lt (Nat.lt_trans (Nat.lt_trans (Nat.lt_trans (Nat.lt_trans (Nat.lt_trans (Nat.lt_trans (Nat.lt_trans k6 k7) k8) k9) k10) k11) k12) k13)
  have ne_pe_ym : pe ≠ ym := Nat.ne_of_lt (Nat.lt_trans (Nat.lt_trans (Nat.lt_trans (Nat.lt_trans (Nat.lt_trans (Nat.lt_trans (Nat.lt_trans (Nat.lt_trans k6 k7) k8) k9) k10) k11) k12) k13) k14)
  have ne_pe_yb : pe ≠ yb := Nat.ne_of_lt (Nat.lt_trans (Nat.lt_trans (Nat.lt_trans (Nat.lt_trans (Nat.lt_trans (Nat.lt_trans (Nat.lt_trans (Nat.lt_trans (Nat.lt_trans k6 k7) k8) k9) k10) k11) k12) k13) k14) k15)
  have ne_xn_pb : xn ≠ pb := Nat.ne_of_lt k7
  have ne_xn_xm : xn ≠ xm := Nat.ne_of_lt (Nat.lt_trans k7 k8)
  have ne_xn_fo : xn ≠ fo := Nat.ne_of_lt (Nat.lt_trans (Nat.lt_trans k7 k8) k9)
  have ne_xn_fi : xn ≠ fi := Nat.ne_of_lt (Nat.lt_trans (Nat.lt_trans (Nat.lt_trans k7 k8) k9) k10)
  have ne_xn_pl : xn ≠ pl := Nat.ne_of_lt (Nat.lt_trans (Nat.lt_trans (Nat.lt_trans (Nat.lt_trans k7 k8) k9) k10) k11)
  have ne_xn_yo : xn ≠ yo := Nat.ne_of_lt (Nat.lt_trans (Nat.lt_trans (Nat.lt_trans (Nat.lt_trans (Nat.lt_trans k7 k8) k9) k10) k11) k12)
  have ne_xn_yi : xn ≠ yi := Nat.ne_of_lt (Nat.lt_trans (Nat.lt_trans (Nat.lt_trans (Nat.lt_trans (Nat.lt_trans (Nat.lt_trans k7 k8) k9) k10) k11) k12) k13)
  have ne_xn_ym : xn ≠ ym := Nat.ne_of_lt (Nat.lt_trans (Nat.lt_trans (Nat.lt_trans (Nat.lt_trans (Nat.lt_trans (Nat.lt_trans (Nat.lt_trans k7 k8) k9) k10) k11) k12) k13) k14)
  have ne_xn_yb : xn ≠ yb := Nat.ne_of_lt (Nat.lt_trans (Nat.lt_trans (Nat.lt_trans (Nat.lt_trans (Nat.lt_trans (Nat.lt_trans (Nat.lt_trans (Nat.lt_trans k7 k8) k9) k10) k11) k12) k13) k14) k15)
  have ne_pb_xm : pb ≠ xm := Nat.ne_of_lt k8
  have ne_pb_fo : pb ≠ fo := Nat.ne_of_lt (Nat.lt_trans k8 k9)
  have ne_pb_fi : pb ≠ fi := Nat.ne_of_lt (Nat.lt_trans (Nat.lt_trans k8 k9) k10)
  have ne_pb_pl : pb ≠ pl := Nat.ne_of_lt (Nat.lt_trans (Nat.lt_trans (Nat.lt_trans k8 k9) k10) k11)
  have ne_pb_yo : pb ≠ yo := Nat.ne_of_lt (Nat.lt_trans (Nat.lt_trans (Nat.lt_trans (Nat.lt_trans k8 k9) k10) k11) k12)
  have ne_pb_yi : pb ≠ yi := Nat.ne_of_lt (Nat.lt_trans (Nat.lt_trans (Nat.lt_trans (Nat.lt_trans (Nat.lt_trans k8 k9) k10) k11) k12) k13)
  have ne_pb_ym : pb ≠ ym := Nat.ne_of_lt (Nat.lt_trans (Nat.lt_trans (Nat.lt_trans (Nat.lt_trans (Nat.lt_trans (Nat.lt_trans k8 k9) k10) k11) k12) k13) k14)
  have ne_pb_yb : pb ≠ yb := Nat.ne_of_lt (Nat.lt_trans (Nat.lt_trans (Nat.lt_trans (Nat.lt_trans (Nat.lt_trans (Nat.lt_trans (Nat.lt_trans k8 k9) k10) k11) k12) k13) k14) k15)
  have ne_xm_fo : xm ≠ fo := Nat.ne_of_lt k9
  have ne_xm_fi : xm ≠ fi := Nat.ne_of_lt (Nat.lt_trans k9 k10)
  have ne_xm_pl : xm ≠ pl := Nat.ne_of_lt (Nat.lt_trans (Nat.lt_trans k9 k10) k11)
  have ne_xm_yo : xm ≠ yo := Nat.ne_of_lt (Nat.lt_trans (Nat.lt_trans (Nat.lt_trans k9 k10) k11) k12)
  have ne_xm_yi : xm ≠ yi := Nat.ne_of_lt (Nat.lt_trans (Nat.lt_trans (Nat.lt_trans (Nat.lt_trans k9 k10) k11) k12) k13)
  have ne_xm_ym : xm ≠ ym := Nat.ne_of_lt (Nat.lt_trans (Nat.lt_trans (Nat.lt_trans (Nat.lt_trans (Nat.lt_trans k9 k10) k11) k12) k13) k14)
  have ne_xm_yb : xm ≠ yb := Nat.ne_of_lt (Nat.lt_trans (Nat.lt_trans (Nat.lt_trans (Nat.lt_trans (Nat.lt_trans (Nat.lt_trans k9 k10) k11) k12) k13) k14) k15)
  have ne_fo_fi : fo ≠ fi := Nat.ne_of_lt k10
  have ne_fo_pl : fo ≠ pl := Nat.ne_of_lt (Nat.lt_trans k10 k11)
  have ne_fo_yo : fo ≠ yo := Nat.ne_of_lt (Nat.lt_trans (Nat.lt_trans k10 k11) k12)
  have ne_fo_yi : fo ≠ yi := Nat.ne_of_lt (Nat.lt_trans (Nat.lt_trans (Nat.lt_trans k10 k11) k12) k13)
  have ne_fo_ym : fo ≠ ym := Nat.ne_of_lt (Nat.lt_trans (Nat.lt_trans (Nat.lt_trans (Nat.lt_trans k10 k11) k12) k13) k14)
  have ne_fo_yb : fo ≠ yb := Nat.ne_of_lt (Nat.lt_trans (Nat.lt_trans (Nat.lt_trans (Nat.lt_trans (Nat.lt_trans k10 k11) k12) k13) k14) k15)
  have ne_fi_pl : fi ≠ pl := Nat.ne_of_lt k11
  have ne_fi_yo : fi ≠ yo := Nat.ne_of_lt (Nat.lt_trans k11 k12)
  have ne_fi_yi : fi ≠ yi := Nat.ne_of_lt (Nat.lt_trans (Nat.lt_trans k11 k12) k13)
  have ne_fi_ym : fi ≠ ym := Nat.ne_of_lt (Nat.lt_trans (Nat.lt_trans (Nat.lt_trans k11 k12) k13) k14)
  have ne_fi_yb : fi ≠ yb := Nat.ne_of_lt (Nat.lt_trans (Nat.lt_trans (Nat.lt_trans (Nat.lt_trans k11 k12) k13) k14) k15)
  have ne_pl_yo : pl ≠ yo := Nat.ne_of_lt k12
  have ne_pl_yi : pl ≠ yi := Nat.ne_of_lt (Nat.lt_trans k12 k13)
  have ne_pl_ym : pl ≠ ym := Nat.ne_of_lt (Nat.lt_trans (Nat.lt_trans k12 k13) k14)
  have ne_pl_yb : pl ≠ yb := Nat.ne_of_lt (Nat.lt_trans (Nat.lt_trans (Nat.lt_trans k12 k13) k14) k15)
  have ne_yo_yi : yo ≠ yi := Nat.ne_of_lt k13
  have ne_yo_ym : yo ≠ ym := Nat.ne_of_lt (Nat.lt_trans k13 k14)
  have ne_yo_yb : yo ≠ yb := Nat.ne_of_lt (Nat.lt_trans (Nat.lt_trans k13 k14) k15)
  have ne_yi_ym : yi ≠ ym := Nat.ne_of_lt k14
  have ne_yi_yb : yi ≠ yb := Nat.ne_of_lt (Nat.lt_trans k14 k15)
  have ne_ym_yb : ym ≠ yb := Nat.ne_of_lt k15
  have g_xa : n0 ≤ xa := Nat.le_trans g_o (Nat.le_of_lt k1)
  have g_xb : n0 ≤ xb := Nat.le_trans g_o (Nat.le_of_lt (Nat.lt_trans k1 k2))
  have g_xc : n0 ≤ xc := Nat.le_trans g_o (Nat.le_of_lt (Nat.lt_trans (Nat.lt_trans k1 k2) k3))
  have g_xd : n0 ≤ xd := Nat.le_trans g_o (Nat.le_of_lt (Nat.lt_trans (Nat.lt_trans (Nat.lt_trans k1 k2) k3) k4))
  have g_pe : n0 ≤ pe := Nat.le_trans g_o (Nat.le_of_lt (Nat.lt_trans (Nat.lt_trans (Nat.lt_trans (Nat.lt_trans k1 k2) k3) k4) k5))
  have g_xn : n0 ≤ xn := Nat.le_trans g_o (Nat.le_of_lt (Nat.lt_trans (Nat.lt_trans (Nat.lt_trans (Nat.lt_trans (Nat.lt_trans k1 k2) k3) k4) k5) k6))
  have g_pb : n0 ≤ pb := Nat.le_trans g_o (Nat.le_of_lt (Nat.lt_trans (Nat.lt_trans (Nat.lt_trans (Nat.lt_trans (Nat.lt_trans (Nat.lt_trans k1 k2) k3) k4) k5) k6) k7))
  have g_xm : n0 ≤ xm := Nat.le_trans g_o (Nat.le_of_lt (Nat.lt_trans (Nat.lt_trans (Nat.lt_trans (Nat.lt_trans (Nat.lt_trans (Nat.lt_trans (Nat.lt_trans k1 k2) k3) k4) k5) k6) k7) k8))
  have g_fo : n0 ≤ fo := Nat.le_trans g_o (Nat.le_of_lt (Nat.lt_trans (Nat.lt_trans (Nat.lt_trans (Nat.lt_trans (Nat.lt_trans (Nat.lt_trans (Nat.lt_trans (Nat.lt_trans k1 k2) k3) k4) k5) k6) k7) k8) k9))
  have g_fi : n0 ≤ fi := Nat.le_trans g_o (Nat.le_of_lt (Nat.lt_trans (Nat.lt_trans (Nat.lt_trans (Nat.lt_trans (Nat.lt_trans (Nat.lt_trans (Nat.lt_trans (Nat.lt_trans (Nat.lt_trans k1 k2) k3) k4) k5) k6) k7) k8) k9) k10))
  have g_pl : n0 ≤ pl := Nat.le_trans g_o (Nat.le_of_lt (Nat.lt_trans (Nat.lt_trans (Nat.lt_trans (Nat.lt_trans (Nat.lt_trans (Nat.lt_trans (Nat.lt_trans (Nat.lt_trans (Nat.lt_trans (Nat.lt_trans k1 k2) k3) k4) k5) k6) k7) k8) k9) k10) k11))
  have g_yo : n0 ≤ yo := Nat.le_trans g_o (Nat.le_of_lt (Nat.lt_trans (Nat.lt_trans (Nat.lt_trans (Nat.lt_trans (Nat.lt_trans (Nat.lt_trans (Nat.lt_trans (Nat.lt_trans (Nat.lt_trans (Nat.lt_trans (Nat.lt_trans k1 k2) k3) k4) k5) k6) k7) k8) k9) k10) k11) k12))
  have g_yi : n0 ≤ yi := Nat.le_trans g_o (Nat.le_of_lt (Nat.lt_trans (Nat.lt_trans (Nat.lt_trans (Nat.lt_trans (Nat.lt_trans (Nat.lt_trans (Nat.lt_trans (Nat.lt_trans (Nat.lt_trans (Nat.lt_trans (Nat.lt_trans (Nat.lt_trans k1 k2) k3) k4) k5) k6) k7) k8) k9) k10) k11) k12) k13))
  have g_ym : n0 ≤ ym := Nat.le_trans g_o (Nat.le_of_lt (Nat.lt_trans (Nat.lt_trans (Nat.lt_trans (Nat.lt_trans (Nat.lt_trans (Nat.lt_trans (Nat.lt_trans (Nat.lt_trans (Nat.lt_trans (Nat.lt_trans (Nat.lt_trans (Nat.lt_trans (Nat.lt_trans k1 k2) k3) k4) k5) k6) k7) k8) k9) k10) k11) k12) k13) k14))
  have g_yb : n0 ≤ yb := Nat.le_trans g_o (Nat.le_of_lt (Nat.lt_trans (Nat.lt_trans (Nat.lt_trans (Nat.lt_trans (Nat.lt_trans (Nat.lt_trans (Nat.lt_trans (Nat.lt_trans (Nat.lt_trans (Nat.lt_trans (Nat.lt_trans (Nat.lt_trans (Nat.lt_trans (Nat.lt_trans k1 k2) k3) k4) k5) k6) k7) k8) k9) k10) k11) k12) k13) k14) k15))
  have ne_o_ta : o ≠ ta := Nat.ne_of_lt (Nat.lt_of_le_of_lt (Nat.le_refl _) (Nat.lt_trans (Nat.lt_trans (Nat.lt_trans (Nat.lt_trans (Nat.lt_trans (Nat.lt_trans (Nat.lt_trans (Nat.lt_trans (Nat.lt_trans (Nat.lt_trans (Nat.lt_trans (Nat.lt_trans (Nat.lt_trans (Nat.lt_trans (Nat.lt_trans k1 k2) k3) k4) k5) k6) k7) k8) k9) k10) k11) k12) k13) k14) k15) kta))
  have ne_xa_ta : xa ≠ ta := Nat.ne_of_lt (Nat.lt_of_le_of_lt (Nat.le_refl _) (Nat.lt_trans (Nat.lt_trans (Nat.lt_trans (Nat.lt_trans (Nat.lt_trans (Nat.lt_trans (Nat.lt_trans (Nat.lt_trans (Nat.lt_trans (Nat.lt_trans (Nat.lt_trans (Nat.lt_trans (Nat.lt_trans (Nat.lt_trans k2 k3) k4) k5) k6) k7) k8) k9) k10) k11) k12) k13) k14) k15) kta))
  have ne_xb_ta : xb ≠ ta := Nat.ne_of_lt (Nat.lt_of_le_of_lt (Nat.le_refl _) (Nat.lt_trans (Nat.lt_trans (Nat.lt_trans (Nat.lt_trans (Nat.lt_trans (Nat.lt_trans (Nat.lt_trans (Nat.lt_trans (Nat.lt_trans (Nat.lt_trans (Nat.lt_trans (Nat.lt_trans (Nat.lt_trans k3 k4) k5) k6) k7) k8) k9) k10) k11) k12) k13) k14) k15) kta))
  have ne_xc_ta : xc ≠ ta := Nat.ne_of_lt (Nat.lt_of_le_of_lt (Nat.le_refl _) (Nat.lt_trans (Nat.lt_trans (Nat.lt_trans (Nat.lt_trans (Nat.lt_trans (Nat.lt_trans (Nat.lt_trans (Nat.lt_trans (Nat.lt_trans (Nat.lt_trans (Nat.lt_trans (Nat.lt_trans k4 k5) k6) k7) k8) k9) k10) k11) k12) k13) k14) k15) kta))
  have ne_xd_ta : xd ≠ ta := Nat.ne_of_lt (Nat.lt_of_le_of_lt (Nat.le_refl _) (Nat.lt_trans (Nat.lt_trans (Nat.lt_trans (Nat.lt_trans (Nat.lt_trans (Nat.lt_trans (Nat.lt_trans (Nat.lt_trans (Nat.lt_trans (Nat.lt_trans (Nat.lt_trans k5 k6) k7) k8) k9) k10) k11) k12) k13) k14) k15) kta))
  have ne_pe_ta : pe ≠ ta := Nat.ne_of_lt (Nat.lt_of_le_of_lt (Nat.le_refl _) (Nat.lt_trans (Nat.lt_trans (Nat.lt_trans (Nat.lt_trans (Nat.lt_trans (Nat.lt_trans (Nat.lt_trans (Nat.lt_trans (Nat.lt_trans (Nat.lt_trans k6 k7) k8) k9) k10) k11) k12) k13) k14) k15) kta))
  have ne_xn_ta : xn ≠ ta := Nat.ne_of_lt (Nat.lt_of_le_of_lt (Nat.le_refl _) (Nat.lt_trans (Nat.lt_trans (Nat.lt_trans (Nat.lt_trans (Nat.lt_trans (Nat.lt_trans (Nat.lt_trans (Nat.lt_trans (Nat.lt_trans k7 k8) k9) k10) k11) k12) k13) k14) k15) kta))
  have ne_pb_ta : pb ≠ ta := Nat.ne_of_lt (Nat.lt_of_le_of_lt (Nat.le_refl _) (Nat.lt_trans (Nat.lt_trans (Nat.lt_trans (Nat.lt_trans (Nat.lt_trans (Nat.lt_trans (Nat.lt_trans (Nat.lt_trans k8 k9) k10) k11) k12) k13) k14) k15) kta))
  have ne_xm_ta : xm ≠ ta := Nat.ne_of_lt (Nat.lt_of_le_of_lt (Nat.le_refl _) (Nat.lt_trans (Nat.lt_trans (Nat.lt_trans (Nat.lt_trans (Nat.lt_trans (Nat.lt_trans (Nat.lt_trans k9 k10) k11) k12) k13) k14) k15) kta))
  have ne_fo_ta : fo ≠ ta := Nat.ne_of_lt (Nat.lt_of_le_of_lt (Nat.le_refl _) (Nat.lt_trans (Nat.lt_trans (Nat.lt_trans (Nat.lt_trans (Nat.lt_trans (Nat.lt_trans k10 k11) k12) k13) k14) k15) kta))
  have ne_fi_ta : fi ≠ ta := Nat.ne_of_lt (Nat.lt_of_le_of_lt (Nat.le_refl _) (Nat.lt_trans (Nat.lt_trans (Nat.lt_trans (Nat.lt_trans (Nat.lt_trans k11 k12) k13) k14) k15) kta))
  have ne_pl_ta : pl ≠ ta := Nat.ne_of_lt (Nat.lt_of_le_of_lt (Nat.le_refl _) (Nat.lt_trans (Nat.lt_trans (Nat.lt_trans (Nat.lt_trans k12 k13) k14) k15) kta))
  have ne_yo_ta : yo ≠ ta := Nat.ne_of_lt (Nat.lt_of_le_of_lt (Nat.le_refl _) (Nat.lt_trans (Nat.lt_trans (Nat.lt_trans k13 k14) k15) kta))
  have ne_yi_ta : yi ≠ ta := Nat.ne_of_lt (Nat.lt_of_le_of_lt (Nat.le_refl _) (Nat.lt_trans (Nat.lt_trans k14 k15) kta))
  have ne_ym_ta : ym ≠ ta := Nat.ne_of_lt (Nat.lt_of_le_of_lt (Nat.le_refl _) (Nat.lt_trans k15 kta))
  have ne_yb_ta : yb ≠ ta := Nat.ne_of_lt (Nat.lt_of_le_of_lt (Nat.le_refl _) kta)
  refine g_aloadN X0 hx hby d17_0 (pc' := 1) rfl rfl rfl ?_
  refine g_getF X0 hx hby hZ hown e0 (hw _ (List.mem_of_getElem? (i := 91) rfl)) F_o_place d17_1 (pc' := 4) rfl (fun T1 X1 e1 => ?_)
  refine g_iloadN X1 hx hby d17_4 (pc' := 5) rfl rfl ?_
  refine a_iaload X1 hx hby hZ e1 A_pl (by omega) (by omega) (v := (.int uf)) (own_idv uf (by omega)) d17_5 (pc' := 6) rfl ?_
  refine g_istore X1 hx hby d17_6 (pc' := 8) rfl (Ls' := #[.val (.ref o), .val (.int uf), .val (.ref ta), .val (.int (0 : Int32)), .val (.int (1 : Int32)), .val (.int uf), .unset, .unset, .unset, .unset, .unset]) rfl ?_
  have hsc := I.2.1
  have hk4 := I.1
  refine g_aloadN X1 hx hby d17_8 (pc' := 9) rfl rfl rfl ?_
  refine g_private X1 hx hby hZ hown hml rfl (hw _ (List.mem_of_getElem? (i := 141) rfl)) (hw _ (List.mem_of_getElem? (i := 142) rfl)) (own_selP (hw _ (List.mem_of_getElem? (i := 115) rfl)) (hw _ (List.mem_of_getElem? (i := 114) rfl)) rfl (hw _ (List.mem_of_getElem? (i := 143) rfl)) (hw _ (List.mem_of_getElem? (i := 142) rfl)) (by decide)) (hw _ (List.mem_of_getElem? (i := 143) rfl)) (hw _ (List.mem_of_getElem? (i := 3) rfl)) (hw _ (List.mem_of_getElem? (i := 144) rfl)) (by decide) e1 (rm_ns l Z a0 hw o n0 sc h0 Z0 g_o E_o F_o_searches (by omega)) pd___I_154 E_o (argsL := []) (rest := []) rfl rfl rfl d17_9 (pc' := 12) rfl (by decide) (Nat.le_of_ble_eq_true rfl) (by decide) (by decide) ?_
  intro Tp9 vp9 Lp9 Xp9 qp9
  obtain ⟨rp9, rfl, f_rp9, Nqp9, Wqp9⟩ := qp9
  replace Xp9 : Stand p l e ({ frames := 2, cells := 0, slots := 0, locals := 32 } : Room) s m _ below meth c Tp9 _ 0 0 := Xp9
  replace E_o := E_o.wr Wqp9
  replace E_pe := E_pe.wr Wqp9
  replace E_pb := E_pb.wr Wqp9
  replace F_o_addedFrom := F_o_addedFrom.other Wqp9 (Or.inr (sn_164 hw))
  replace F_o_addedTo := F_o_addedTo.other Wqp9 (Or.inr (sn_165 hw))
  replace F_o_earlierOut := F_o_earlierOut.other Wqp9 (Or.inr (sn_166 hw))
  replace F_o_earlierIn := F_o_earlierIn.other Wqp9 (Or.inr (sn_167 hw))
  replace F_o_pending := F_o_pending.other Wqp9 (Or.inr (sn_168 hw))
  replace F_o_pendingBack := F_o_pendingBack.other Wqp9 (Or.inr (sn_169 hw))
  replace F_o_firstOut := F_o_firstOut.other Wqp9 (Or.inr (sn_170 hw))
  replace F_o_firstIn := F_o_firstIn.other Wqp9 (Or.inr (sn_171 hw))
  replace F_o_place := F_o_place.other Wqp9 (Or.inr (sn_172 hw))
  replace F_o_latestOut := F_o_latestOut.other Wqp9 (Or.inr (sn_173 hw))
  replace F_o_latestIn := F_o_latestIn.other Wqp9 (Or.inr (sn_174 hw))
  replace F_o_metIn := F_o_metIn.other Wqp9 (Or.inr (sn_175 hw))
  replace F_o_metBack := F_o_metBack.other Wqp9 (Or.inr (sn_176 hw))
  replace F_o_added := F_o_added.other Wqp9 (Or.inr (sn_177 hw))
  replace F_o_searches := F_o_searches.same Wqp9
  replace F_pe_count := F_pe_count.other Wqp9 (Or.inl (Ne.symm ne_o_pe))
  replace F_pe_nodes := F_pe_nodes.other Wqp9 (Or.inl (Ne.symm ne_o_pe))
  replace F_pb_count := F_pb_count.other Wqp9 (Or.inl (Ne.symm ne_o_pb))
  replace F_pb_nodes := F_pb_nodes.other Wqp9 (Or.inl (Ne.symm ne_o_pb))
  replace A_xa := A_xa.other Wqp9 (Ne.symm ne_o_xa)
  replace A_xb := A_xb.other Wqp9 (Ne.symm ne_o_xb)
  replace A_xc := A_xc.other Wqp9 (Ne.symm ne_o_xc)
  replace A_xd := A_xd.other Wqp9 (Ne.symm ne_o_xd)
  replace A_xn := A_xn.other Wqp9 (Ne.symm ne_o_xn)
  replace A_xm := A_xm.other Wqp9 (Ne.symm ne_o_xm)
  replace A_fo := A_fo.other Wqp9 (Ne.symm ne_o_fo)
  replace A_fi := A_fi.other Wqp9 (Ne.symm ne_o_fi)
  replace A_pl := A_pl.other Wqp9 (Ne.symm ne_o_pl)
  replace A_yo := A_yo.other Wqp9 (Ne.symm ne_o_yo)
  replace A_yi := A_yi.other Wqp9 (Ne.symm ne_o_yi)
  replace A_ym := A_ym.other Wqp9 (Ne.symm ne_o_ym)
  replace A_yb := A_yb.other Wqp9 (Ne.symm ne_o_yb)
  replace A_ta := A_ta.other Wqp9 (Ne.symm ne_o_ta)
  have Z2 : n0 ≤ Tp9.heap.size := by rw [Wqp9.size]; exact Z0
  have Np9 := Fr.app N0 Nqp9
  show Go p e below EF (QDr Z n0 o (q + 1) uk cd (own_PRg uf ut uk.toInt.toNat fr tt)) m Tp9 12 #[.val (.ref o), .val (.int uf), .val (.ref ta), .val (.int (0 : Int32)), .val (.int (1 : Int32)), .val (.int uf), .unset, .unset, .unset, .unset, .unset] [(.int rp9)]
  refine g_istore Xp9 hx hby d17_12 (pc' := 14) rfl (Ls' := #[.val (.ref o), .val (.int uf), .val (.ref ta), .val (.int (0 : Int32)), .val (.int (1 : Int32)), .val (.int uf), .val (.int rp9), .unset, .unset, .unset, .unset]) rfl ?_
  refine g_aloadN Xp9 hx hby d17_14 (pc' := 15) rfl rfl rfl ?_
  refine g_private Xp9 hx hby hZ hown hml rfl (hw _ (List.mem_of_getElem? (i := 141) rfl)) (hw _ (List.mem_of_getElem? (i := 142) rfl)) (own_selP (hw _ (List.mem_of_getElem? (i := 115) rfl)) (hw _ (List.mem_of_getElem? (i := 114) rfl)) rfl (hw _ (List.mem_of_getElem? (i := 143) rfl)) (hw _ (List.mem_of_getElem? (i := 142) rfl)) (by decide)) (hw _ (List.mem_of_getElem? (i := 143) rfl)) (hw _ (List.mem_of_getElem? (i := 3) rfl)) (hw _ (List.mem_of_getElem? (i := 144) rfl)) (by decide) rfl (rm_ns l Z a0 hw o n0 rp9 Tp9.heap Z2 g_o E_o F_o_searches (by omega)) pd___I_154 E_o (argsL := []) (rest := []) rfl rfl rfl d17_15 (pc' := 18) rfl (by decide) (Nat.le_of_ble_eq_true rfl) (by decide) (by decide) ?_
  intro Tp15 vp15 Lp15 Xp15 qp15
  obtain ⟨rp15, rfl, f_rp15, Nqp15, Wqp15⟩ := qp15
  replace Xp15 : Stand p l e ({ frames := 2, cells := 0, slots := 0, locals := 32 } : Room) s m _ below meth c Tp15 _ 0 0 := Xp15
  replace E_o := E_o.wr Wqp15
  replace E_pe := E_pe.wr Wqp15
  replace E_pb := E_pb.wr Wqp15
  replace F_o_addedFrom := F_o_addedFrom.other Wqp15 (Or.inr (sn_164 hw))
  replace F_o_addedTo := F_o_addedTo.other Wqp15 (Or.inr (sn_165 hw))
  replace F_o_earlierOut := F_o_earlierOut.other Wqp15 (Or.inr (sn_166 hw))
  replace F_o_earlierIn := F_o_earlierIn.other Wqp15 (Or.inr (sn_167 hw))
  replace F_o_pending := F_o_pending.other Wqp15 (Or.inr (sn_168 hw))
  replace F_o_pendingBack := F_o_pendingBack.other Wqp15 (Or.inr (sn_169 hw))
  replace F_o_firstOut := F_o_firstOut.other Wqp15 (Or.inr (sn_170 hw))
  replace F_o_firstIn := F_o_firstIn.other Wqp15 (Or.inr (sn_171 hw))
  replace F_o_place := F_o_place.other Wqp15 (Or.inr (sn_172 hw))
  replace F_o_latestOut := F_o_latestOut.other Wqp15 (Or.inr (sn_173 hw))
  replace F_o_latestIn := F_o_latestIn.other Wqp15 (Or.inr (sn_174 hw))
  replace F_o_metIn := F_o_metIn.other Wqp15 (Or.inr (sn_175 hw))
  replace F_o_metBack := F_o_metBack.other Wqp15 (Or.inr (sn_176 hw))
  replace F_o_added := F_o_added.other Wqp15 (Or.inr (sn_177 hw))
  replace F_o_searches := F_o_searches.same Wqp15
  replace F_pe_count := F_pe_count.other Wqp15 (Or.inl (Ne.symm ne_o_pe))
  replace F_pe_nodes := F_pe_nodes.other Wqp15 (Or.inl (Ne.symm ne_o_pe))
  replace F_pb_count := F_pb_count.other Wqp15 (Or.inl (Ne.symm ne_o_pb))
  replace F_pb_nodes := F_pb_nodes.other Wqp15 (Or.inl (Ne.symm ne_o_pb))
  replace A_xa := A_xa.other Wqp15 (Ne.symm ne_o_xa)
  replace A_xb := A_xb.other Wqp15 (Ne.symm ne_o_xb)
  replace A_xc := A_xc.other Wqp15 (Ne.symm ne_o_xc)
  replace A_xd := A_xd.other Wqp15 (Ne.symm ne_o_xd)
  replace A_xn := A_xn.other Wqp15 (Ne.symm ne_o_xn)
  replace A_xm := A_xm.other Wqp15 (Ne.symm ne_o_xm)
  replace A_fo := A_fo.other Wqp15 (Ne.symm ne_o_fo)
  replace A_fi := A_fi.other Wqp15 (Ne.symm ne_o_fi)
  replace A_pl := A_pl.other Wqp15 (Ne.symm ne_o_pl)
  replace A_yo := A_yo.other Wqp15 (Ne.symm ne_o_yo)
  replace A_yi := A_yi.other Wqp15 (Ne.symm ne_o_yi)
  replace A_ym := A_ym.other Wqp15 (Ne.symm ne_o_ym)
  replace A_yb := A_yb.other Wqp15 (Ne.symm ne_o_yb)
  replace A_ta := A_ta.other Wqp15 (Ne.symm ne_o_ta)
  have Z3 : n0 ≤ Tp15.heap.size := by rw [Wqp15.size]; exact Z2
  have Np15 := Fr.app Np9 Nqp15
  show Go p e below EF (QDr Z n0 o (q + 1) uk cd (own_PRg uf ut uk.toInt.toNat fr tt)) m Tp15 18 #[.val (.ref o), .val (.int uf), .val (.ref ta), .val (.int (0 : Int32)), .val (.int (1 : Int32)), .val (.int uf), .val (.int rp9), .unset, .unset, .unset, .unset] [(.int rp15)]
  refine g_istore Xp15 hx hby d17_18 (pc' := 20) rfl (Ls' := #[.val (.ref o), .val (.int uf), .val (.ref ta), .val (.int (0 : Int32)), .val (.int (1 : Int32)), .val (.int uf), .val (.int rp9), .val (.int rp15), .unset, .unset, .unset]) rfl ?_
  refine g_aloadN Xp15 hx hby d17_20 (pc' := 21) rfl rfl rfl ?_
  refine g_getF Xp15 hx hby hZ hown rfl (hw _ (List.mem_of_getElem? (i := 34) rfl)) F_o_pendingBack d17_21 (pc' := 24) rfl (fun T4 X4 e4 => ?_)
  refine g_iconst X4 hx hby d17_24 (pc' := 25) rfl (n := (0 : Int32)) (by first | rfl | decide) ?_
  refine g_putFR X4 hx hby hZ hown e4 (hw _ (List.mem_of_getElem? (i := 148) rfl)) F_pb_count E_pb (hw _ (List.mem_of_getElem? (i := 149) rfl)) (hw _ (List.mem_of_getElem? (i := 20) rfl)) (ty := .int) (by decide) rfl rfl d17_25 (pc' := 28) rfl (fun T5 h5 X5 e5 W5 => ?_)
  replace E_o := E_o.wr W5
  replace E_pe := E_pe.wr W5
  replace E_pb := E_pb.wr W5
  replace F_o_addedFrom := F_o_addedFrom.other W5 (Or.inl ne_o_pb)
  replace F_o_addedTo := F_o_addedTo.other W5 (Or.inl ne_o_pb)
  replace F_o_earlierOut := F_o_earlierOut.other W5 (Or.inl ne_o_pb)
  replace F_o_earlierIn := F_o_earlierIn.other W5 (Or.inl ne_o_pb)
  replace F_o_pending := F_o_pending.other W5 (Or.inl ne_o_pb)
  replace F_o_pendingBack := F_o_pendingBack.other W5 (Or.inl ne_o_pb)
  replace F_o_firstOut := F_o_firstOut.other W5 (Or.inl ne_o_pb)
  replace F_o_firstIn := F_o_firstIn.other W5 (Or.inl ne_o_pb)
  replace F_o_place := F_o_place.other W5 (Or.inl ne_o_pb)
  replace F_o_latestOut := F_o_latestOut.other W5 (Or.inl ne_o_pb)
  replace F_o_latestIn := F_o_latestIn.other W5 (Or.inl ne_o_pb)
  replace F_o_metIn := F_o_metIn.other W5 (Or.inl ne_o_pb)
  replace F_o_metBack := F_o_metBack.other W5 (Or.inl ne_o_pb)
  replace F_o_added := F_o_added.other W5 (Or.inl ne_o_pb)
  replace F_o_searches := F_o_searches.other W5 (Or.inl ne_o_pb)
  replace F_pe_count := F_pe_count.other W5 (Or.inl ne_pe_pb)
  replace F_pe_nodes := F_pe_nodes.other W5 (Or.inl ne_pe_pb)
  replace F_pb_count := F_pb_count.same W5
  replace F_pb_nodes := F_pb_nodes.other W5 (Or.inr (sn_163 hw))
  replace A_xa := A_xa.other W5 ne_xa_pb
  replace A_xb := A_xb.other W5 ne_xb_pb
  replace A_xc := A_xc.other W5 ne_xc_pb
  replace A_xd := A_xd.other W5 ne_xd_pb
  replace A_xn := A_xn.other W5 ne_xn_pb
  replace A_xm := A_xm.other W5 (Ne.symm ne_pb_xm)
  replace A_fo := A_fo.other W5 (Ne.symm ne_pb_fo)
  replace A_fi := A_fi.other W5 (Ne.symm ne_pb_fi)
  replace A_pl := A_pl.other W5 (Ne.symm ne_pb_pl)
  replace A_yo := A_yo.other W5 (Ne.symm ne_pb_yo)
  replace A_yi := A_yi.other W5 (Ne.symm ne_pb_yi)
  replace A_ym := A_ym.other W5 (Ne.symm ne_pb_ym)
  replace A_yb := A_yb.other W5 (Ne.symm ne_pb_yb)
  replace A_ta := A_ta.other W5 (Ne.symm ne_pb_ta)
  have Z6 : n0 ≤ h5.size := by rw [W5.size]; exact Z3
  have N7 := Fr.snoc X5 Np15 g_pb
  refine g_iconst X5 hx hby d17_28 (pc' := 29) rfl (n := (-1 : Int32)) (by first | rfl | decide) ?_
  refine g_istore X5 hx hby d17_29 (pc' := 31) rfl (Ls' := #[.val (.ref o), .val (.int uf), .val (.ref ta), .val (.int (0 : Int32)), .val (.int (1 : Int32)), .val (.int uf), .val (.int rp9), .val (.int rp15), .val (.int (-1 : Int32)), .unset, .unset]) rfl ?_
  refine g_iloadN X5 hx hby d17_31 (pc' := 32) rfl rfl ?_
  refine g_istore X5 hx hby d17_32 (pc' := 34) rfl (Ls' := #[.val (.ref o), .val (.int uf), .val (.ref ta), .val (.int (0 : Int32)), .val (.int (1 : Int32)), .val (.int uf), .val (.int rp9), .val (.int rp15), .val (.int (-1 : Int32)), .val (.int (0 : Int32)), .unset]) rfl ?_
  refine g_iload X5 hx hby d17_34 (pc' := 36) rfl rfl ?_
  refine g_iload X5 hx hby d17_36 (pc' := 38) rfl rfl ?_
  refine g_icmpge X5 hx hby d17_38 (pt := 113) (pf := 41) (by decide) (by decide) rfl (fun (h38 : 1 ≤ 0) => (by exfalso; revert h38; decide)) (fun (h38 : 0 < 1) => ?_)
  refine g_aloadN X5 hx hby d17_41 (pc' := 42) rfl rfl rfl ?_
  refine g_getF X5 hx hby hZ hown e5 (hw _ (List.mem_of_getElem? (i := 91) rfl)) F_o_place d17_42 (pc' := 45) rfl (fun T8 X8 e8 => ?_)
  refine g_aloadN X8 hx hby d17_45 (pc' := 46) rfl rfl rfl ?_
  refine g_iload X8 hx hby d17_46 (pc' := 48) rfl rfl ?_
  refine a_iaload X8 hx hby hZ e8 A_ta (by decide) (by decide) (v := (.int ut)) (congrArg Value.int hgt) d17_48 (pc' := 49) rfl ?_
  refine a_iaload X8 hx hby hZ e8 A_pl (by omega) (by omega) (v := (.int ut)) (own_idv ut (by omega)) d17_49 (pc' := 50) rfl ?_
  refine g_iload X8 hx hby d17_50 (pc' := 52) rfl rfl ?_
  refine g_icmple X8 hx hby d17_52 (pt := 107) (pf := 55) (by decide) (by decide) rfl (fun (h52 : ut.toInt ≤ uf.toInt) => (by exfalso; omega)) (fun (h52 : uf.toInt < ut.toInt) => ?_)
  refine g_aloadN X8 hx hby d17_55 (pc' := 56) rfl rfl rfl ?_
  refine g_getF X8 hx hby hZ hown e8 (hw _ (List.mem_of_getElem? (i := 103) rfl)) F_o_metBack d17_56 (pc' := 59) rfl (fun T9 X9 e9 => ?_)
  refine g_aloadN X9 hx hby d17_59 (pc' := 60) rfl rfl rfl ?_
  refine g_iload X9 hx hby d17_60 (pc' := 62) rfl rfl ?_
  refine a_iaload X9 hx hby hZ e9 A_ta (by decide) (by decide) (v := (.int ut)) (congrArg Value.int hgt) d17_62 (pc' := 63) rfl ?_
  refine a_iaload X9 hx hby hZ e9 A_yb (by omega) (by omega) (v := (.int (mb ut.toInt.toNat))) (rfl) d17_63 (pc' := 64) rfl ?_
  refine g_iload X9 hx hby d17_64 (pc' := 66) rfl rfl ?_
  refine g_icmpeq X9 hx hby d17_66 (pt := 107) (pf := 69) (by decide) (by decide) rfl (fun (h66 : (mb ut.toInt.toNat) = rp15) => (by exfalso; have z := congrArg Int32.toInt h66; have b := (I.2.2.2.2.2.2.2 ut.toInt.toNat (by omega)).2; omega)) (fun (h66 : ¬ (mb ut.toInt.toNat) = rp15) => ?_)
  have h66i : ¬ (mb ut.toInt.toNat).toInt = rp15.toInt := fun q => h66 (Int32.toInt_inj.mp q)
  refine g_aloadN X9 hx hby d17_69 (pc' := 70) rfl rfl rfl ?_
  refine g_getF X9 hx hby hZ hown e9 (hw _ (List.mem_of_getElem? (i := 103) rfl)) F_o_metBack d17_70 (pc' := 73) rfl (fun T10 X10 e10 => ?_)
  refine g_aloadN X10 hx hby d17_73 (pc' := 74) rfl rfl rfl ?_
  refine g_iload X10 hx hby d17_74 (pc' := 76) rfl rfl ?_
  refine a_iaload X10 hx hby hZ e10 A_ta (by decide) (by decide) (v := (.int ut)) (congrArg Value.int hgt) d17_76 (pc' := 77) rfl ?_
  refine g_iload X10 hx hby d17_77 (pc' := 79) rfl rfl ?_
  refine a_iastore X10 hx hby hZ e10 A_yb (by omega) (by omega) d17_79 (pc' := 80) rfl (fun T11 h11 X11 e11 W11 => ?_)
  replace E_o := E_o.wr W11
  replace E_pe := E_pe.wr W11
  replace E_pb := E_pb.wr W11
  replace F_o_addedFrom := F_o_addedFrom.other W11 (Or.inl ne_o_yb)
  replace F_o_addedTo := F_o_addedTo.other W11 (Or.inl ne_o_yb)
  replace F_o_earlierOut := F_o_earlierOut.other W11 (Or.inl ne_o_yb)
  replace F_o_earlierIn := F_o_earlierIn.other W11 (Or.inl ne_o_yb)
  replace F_o_pending := F_o_pending.other W11 (Or.inl ne_o_yb)
  replace F_o_pendingBack := F_o_pendingBack.other W11 (Or.inl ne_o_yb)
  replace F_o_firstOut := F_o_firstOut.other W11 (Or.inl ne_o_yb)
  replace F_o_firstIn := F_o_firstIn.other W11 (Or.inl ne_o_yb)
  replace F_o_place := F_o_place.other W11 (Or.inl ne_o_yb)
  replace F_o_latestOut := F_o_latestOut.other W11 (Or.inl ne_o_yb)
  replace F_o_latestIn := F_o_latestIn.other W11 (Or.inl ne_o_yb)
  replace F_o_metIn := F_o_metIn.other W11 (Or.inl ne_o_yb)
  replace F_o_metBack := F_o_metBack.other W11 (Or.inl ne_o_yb)
  replace F_o_added := F_o_added.other W11 (Or.inl ne_o_yb)
  replace F_o_searches := F_o_searches.other W11 (Or.inl ne_o_yb)
  replace F_pe_count := F_pe_count.other W11 (Or.inl ne_pe_yb)
  replace F_pe_nodes := F_pe_nodes.other W11 (Or.inl ne_pe_yb)
  replace F_pb_count := F_pb_count.other W11 (Or.inl ne_pb_yb)
  replace F_pb_nodes := F_pb_nodes.other W11 (Or.inl ne_pb_yb)
  replace A_xa := A_xa.other W11 ne_xa_yb
  replace A_xb := A_xb.other W11 ne_xb_yb
  replace A_xc := A_xc.other W11 ne_xc_yb
  replace A_xd := A_xd.other W11 ne_xd_yb
  replace A_xn := A_xn.other W11 ne_xn_yb
  replace A_xm := A_xm.other W11 ne_xm_yb
  replace A_fo := A_fo.other W11 ne_fo_yb
  replace A_fi := A_fi.other W11 ne_fi_yb
  replace A_pl := A_pl.other W11 ne_pl_yb
  replace A_yo := A_yo.other W11 ne_yo_yb
  replace A_yi := A_yi.other W11 ne_yi_yb
  replace A_ym := A_ym.other W11 ne_ym_yb
  replace A_ta := A_ta.other W11 (Ne.symm ne_yb_ta)
  have Z12 : n0 ≤ h11.size := by rw [W11.size]; exact Z6
  have N13 := Fr.snoc X11 N7 g_yb
  replace A_yb : Ara Z h11 yb .int 3 (fun jz => .int ((own_ui mb ut.toInt.toNat rp15) jz)) := A_yb.setI W11
  refine g_aloadN X11 hx hby d17_80 (pc' := 81) rfl rfl rfl ?_
  refine g_getF X11 hx hby hZ hown e11 (hw _ (List.mem_of_getElem? (i := 34) rfl)) F_o_pendingBack d17_81 (pc' := 84) rfl (fun T14 X14 e14 => ?_)
  refine g_aloadN X14 hx hby d17_84 (pc' := 85) rfl rfl rfl ?_
  refine g_iload X14 hx hby d17_85 (pc' := 87) rfl rfl ?_
  refine a_iaload X14 hx hby hZ e14 A_ta (by decide) (by decide) (v := (.int ut)) (congrArg Value.int hgt) d17_87 (pc' := 88) rfl ?_
  refine g_virtual X14 hx hby hZ hown hml rfl (hw _ (List.mem_of_getElem? (i := 150) rfl)) (hw _ (List.mem_of_getElem? (i := 151) rfl)) (hw _ (List.mem_of_getElem? (i := 153) rfl)) (hw _ (List.mem_of_getElem? (i := 152) rfl)) (hw _ (List.mem_of_getElem? (i := 21) rfl)) (hw _ (List.mem_of_getElem? (i := 154) rfl)) (by decide) e14 (rm_fa l Z a0 hw pb ut n0 xm (0 : Int32) pq h11 Z12 g_pb g_xm E_pb F_pb_count F_pb_nodes A_xm ne_pb_xm (by decide)) pd__I_V_240 E_pb (argsL := [(.int ut)]) (rest := []) rfl rfl rfl d17_88 (pc' := 91) rfl (by decide) (Nat.le_of_ble_eq_true rfl) (by decide) (by decide) ?_
  intro Tp88 vp88 Lp88 Xp88 qp88
  obtain ⟨rfl, Nqp88, Fcp88, Fnp88, Axp88, Kqp88⟩ := qp88
  replace Fcp88 : Fld Z Tp88.heap pb "com/example/isolens/isolens/checker/DynamicOrder$Found" "count" "I" (.int (1 : Int32)) := Fcp88
  replace Xp88 : Stand p l e ({ frames := 2, cells := 0, slots := 0, locals := 32 } : Room) s m _ below meth c Tp88 _ 0 0 := Xp88
  replace E_o := E_o.keep Kqp88
  replace E_pe := E_pe.keep Kqp88
  replace E_pb := E_pb.keep Kqp88
  replace F_o_addedFrom := F_o_addedFrom.keep Kqp88 (ninS ne_o_pb (ninS ne_o_xm nin0))
  replace F_o_addedTo := F_o_addedTo.keep Kqp88 (ninS ne_o_pb (ninS ne_o_xm nin0))
  replace F_o_earlierOut := F_o_earlierOut.keep Kqp88 (ninS ne_o_pb (ninS ne_o_xm nin0))
  replace F_o_earlierIn := F_o_earlierIn.keep Kqp88 (ninS ne_o_pb (ninS ne_o_xm nin0))
  replace F_o_pending := F_o_pending.keep Kqp88 (ninS ne_o_pb (ninS ne_o_xm nin0))
  replace F_o_pendingBack := F_o_pendingBack.keep Kqp88 (ninS ne_o_pb (ninS ne_o_xm nin0))
  replace F_o_firstOut := F_o_firstOut.keep Kqp88 (ninS ne_o_pb (ninS ne_o_xm nin0))
  replace F_o_firstIn := F_o_firstIn.keep Kqp88 (ninS ne_o_pb (ninS ne_o_xm nin0))
  replace F_o_place := F_o_place.keep Kqp88 (ninS ne_o_pb (ninS ne_o_xm nin0))
  replace F_o_latestOut := F_o_latestOut.keep Kqp88 (ninS ne_o_pb (ninS ne_o_xm nin0))
  replace F_o_latestIn := F_o_latestIn.keep Kqp88 (ninS ne_o_pb (ninS ne_o_xm nin0))
  replace F_o_metIn := F_o_metIn.keep Kqp88 (ninS ne_o_pb (ninS ne_o_xm nin0))
  replace F_o_metBack := F_o_metBack.keep Kqp88 (ninS ne_o_pb (ninS ne_o_xm nin0))
  replace F_o_added := F_o_added.keep Kqp88 (ninS ne_o_pb (ninS ne_o_xm nin0))
  replace F_o_searches := F_o_searches.keep Kqp88 (ninS ne_o_pb (ninS ne_o_xm nin0))
  replace F_pe_count := F_pe_count.keep Kqp88 (ninS ne_pe_pb (ninS ne_pe_xm nin0))
  replace F_pe_nodes := F_pe_nodes.keep Kqp88 (ninS ne_pe_pb (ninS ne_pe_xm nin0))
  replace A_xa := A_xa.keep Kqp88 (ninS ne_xa_pb (ninS ne_xa_xm nin0))
  replace A_xb := A_xb.keep Kqp88 (ninS ne_xb_pb (ninS ne_xb_xm nin0))
  replace A_xc := A_xc.keep Kqp88 (ninS ne_xc_pb (ninS ne_xc_xm nin0))
  replace A_xd := A_xd.keep Kqp88 (ninS ne_xd_pb (ninS ne_xd_xm nin0))
  replace A_xn := A_xn.keep Kqp88 (ninS ne_xn_pb (ninS ne_xn_xm nin0))
  replace A_fo := A_fo.keep Kqp88 (ninS (Ne.symm ne_pb_fo) (ninS (Ne.symm ne_xm_fo) nin0))
  replace A_fi := A_fi.keep Kqp88 (ninS (Ne.symm ne_pb_fi) (ninS (Ne.symm ne_xm_fi) nin0))
  replace A_pl := A_pl.keep Kqp88 (ninS (Ne.symm ne_pb_pl) (ninS (Ne.symm ne_xm_pl) nin0))
  replace A_yo := A_yo.keep Kqp88 (ninS (Ne.symm ne_pb_yo) (ninS (Ne.symm ne_xm_yo) nin0))
  replace A_yi := A_yi.keep Kqp88 (ninS (Ne.symm ne_pb_yi) (ninS (Ne.symm ne_xm_yi) nin0))
  replace A_ym := A_ym.keep Kqp88 (ninS (Ne.symm ne_pb_ym) (ninS (Ne.symm ne_xm_ym) nin0))
  replace A_yb := A_yb.keep Kqp88 (ninS (Ne.symm ne_pb_yb) (ninS (Ne.symm ne_xm_yb) nin0))
  replace A_ta := A_ta.keep Kqp88 (ninS (Ne.symm ne_pb_ta) (ninS (Ne.symm ne_xm_ta) nin0))
  have Z15 : n0 ≤ Tp88.heap.size := Nat.le_trans Z12 Kqp88.1
  have Np88 := Fr.app N13 Nqp88
  show Go p e below EF (QDr Z n0 o (q + 1) uk cd (own_PRg uf ut uk.toInt.toNat fr tt)) m Tp88 91 #[.val (.ref o), .val (.int uf), .val (.ref ta), .val (.int (0 : Int32)), .val (.int (1 : Int32)), .val (.int uf), .val (.int rp9), .val (.int rp15), .val (.int (-1 : Int32)), .val (.int (0 : Int32)), .unset] []
  refine g_iload Xp88 hx hby d17_91 (pc' := 93) rfl rfl ?_
  refine g_aloadN Xp88 hx hby d17_93 (pc' := 94) rfl rfl rfl ?_
  refine g_getF Xp88 hx hby hZ hown rfl (hw _ (List.mem_of_getElem? (i := 91) rfl)) F_o_place d17_94 (pc' := 97) rfl (fun T16 X16 e16 => ?_)
  refine g_aloadN X16 hx hby d17_97 (pc' := 98) rfl rfl rfl ?_
  refine g_iload X16 hx hby d17_98 (pc' := 100) rfl rfl ?_
  refine a_iaload X16 hx hby hZ e16 A_ta (by decide) (by decide) (v := (.int ut)) (congrArg Value.int hgt) d17_100 (pc' := 101) rfl ?_
  refine a_iaload X16 hx hby hZ e16 A_pl (by omega) (by omega) (v := (.int ut)) (own_idv ut (by omega)) d17_101 (pc' := 102) rfl ?_
  refine g_static X16 hx hby hZ hown hml rfl (hw _ (List.mem_of_getElem? (i := 156) rfl)) (hw _ (List.mem_of_getElem? (i := 157) rfl)) (hw _ (List.mem_of_getElem? (i := 158) rfl)) (hw _ (List.mem_of_getElem? (i := 159) rfl)) (by decide) e16 (rm_mx l Z a0 hw (-1 : Int32) ut Tp88.heap) pd__II_I_300 (argsL := [(.int (-1 : Int32)), (.int ut)]) (rest := []) rfl rfl rfl d17_102 (pc' := 105) rfl (by decide) (Nat.le_of_ble_eq_true rfl) (by decide) (by decide) ?_
  intro Tp102 vp102 Lp102 Xp102 qp102
  obtain ⟨⟨rp102, rfl, h_rp102⟩, ep102, rfl⟩ := qp102
  have emp102 : ut = rp102 := Int32.toInt_inj.mp (by rw [h_rp102]; have eM : (-1 : Int32).toInt = -1 := rfl; omega)
  subst emp102
  rw [List.append_nil] at Xp102
  replace Xp102 : Stand p l e ({ frames := 2, cells := 0, slots := 0, locals := 32 } : Room) s m _ below meth c Tp102 _ 0 0 := Xp102
  show Go p e below EF (QDr Z n0 o (q + 1) uk cd (own_PRg uf ut uk.toInt.toNat fr tt)) m Tp102 105 #[.val (.ref o), .val (.int uf), .val (.ref ta), .val (.int (0 : Int32)), .val (.int (1 : Int32)), .val (.int uf), .val (.int rp9), .val (.int rp15), .val (.int (-1 : Int32)), .val (.int (0 : Int32)), .unset] [(.int ut)]
  refine g_istore Xp102 hx hby d17_105 (pc' := 107) rfl (Ls' := #[.val (.ref o), .val (.int uf), .val (.ref ta), .val (.int (0 : Int32)), .val (.int (1 : Int32)), .val (.int uf), .val (.int rp9), .val (.int rp15), .val (.int ut), .val (.int (0 : Int32)), .unset]) rfl ?_
  refine g_iinc Xp102 hx hby d17_107 (pc' := 110) rfl rfl (Ls' := #[.val (.ref o), .val (.int uf), .val (.ref ta), .val (.int (0 : Int32)), .val (.int (1 : Int32)), .val (.int uf), .val (.int rp9), .val (.int rp15), .val (.int ut), .val (.int (1 : Int32)), .unset]) rfl ?_
  refine g_goto Xp102 hx hby d17_110 (pc' := 34) (by decide) (by decide) ?_
  refine g_iload Xp102 hx hby d17_34 (pc' := 36) rfl rfl ?_
  refine g_iload Xp102 hx hby d17_36 (pc' := 38) rfl rfl ?_
  refine g_icmpge Xp102 hx hby d17_38 (pt := 113) (pf := 41) (by decide) (by decide) rfl (fun (h38 : 1 ≤ 1) => ?_) (fun (h38 : 1 < 1) => (by exfalso; revert h38; decide))
  refine g_aloadN Xp102 hx hby d17_113 (pc' := 114) rfl rfl rfl ?_
  refine g_getF Xp102 hx hby hZ hown ep102 (hw _ (List.mem_of_getElem? (i := 34) rfl)) F_o_pendingBack d17_114 (pc' := 117) rfl (fun T17 X17 e17 => ?_)
  refine g_getFR X17 hx hby hZ hown e17 (hw _ (List.mem_of_getElem? (i := 148) rfl)) Fcp88 d17_117 (pc' := 120) rfl ?_
  refine g_ifne X17 hx hby d17_120 (pt := 125) (pf := 123) (by decide) (by decide) rfl (fun (h120 : ¬ (1 : Int32) = (0 : Int32)) => ?_) (fun (h120 : (1 : Int32) = (0 : Int32)) => (by exfalso; revert h120; decide))
  refine g_aloadN X17 hx hby d17_125 (pc' := 126) rfl rfl rfl ?_
  refine g_getF X17 hx hby hZ hown e17 (hw _ (List.mem_of_getElem? (i := 101) rfl)) F_o_metIn d17_126 (pc' := 129) rfl (fun T18 X18 e18 => ?_)
  refine g_iloadN X18 hx hby d17_129 (pc' := 130) rfl rfl ?_
  refine g_iload X18 hx hby d17_130 (pc' := 132) rfl rfl ?_
  refine a_iastore X18 hx hby hZ e18 A_ym (by omega) (by omega) d17_132 (pc' := 133) rfl (fun T19 h19 X19 e19 W19 => ?_)
  replace E_o := E_o.wr W19
  replace E_pe := E_pe.wr W19
  replace E_pb := E_pb.wr W19
  replace F_o_addedFrom := F_o_addedFrom.other W19 (Or.inl ne_o_ym)
  replace F_o_addedTo := F_o_addedTo.other W19 (Or.inl ne_o_ym)
  replace F_o_earlierOut := F_o_earlierOut.other W19 (Or.inl ne_o_ym)
  replace F_o_earlierIn := F_o_earlierIn.other W19 (Or.inl ne_o_ym)
  replace F_o_pending := F_o_pending.other W19 (Or.inl ne_o_ym)
  replace F_o_pendingBack := F_o_pendingBack.other W19 (Or.inl ne_o_ym)
  replace F_o_firstOut := F_o_firstOut.other W19 (Or.inl ne_o_ym)
  replace F_o_firstIn := F_o_firstIn.other W19 (Or.inl ne_o_ym)
  replace F_o_place := F_o_place.other W19 (Or.inl ne_o_ym)
  replace F_o_latestOut := F_o_latestOut.other W19 (Or.inl ne_o_ym)
  replace F_o_latestIn := F_o_latestIn.other W19 (Or.inl ne_o_ym)
  replace F_o_metIn := F_o_metIn.other W19 (Or.inl ne_o_ym)
  replace F_o_metBack := F_o_metBack.other W19 (Or.inl ne_o_ym)
  replace F_o_added := F_o_added.other W19 (Or.inl ne_o_ym)
  replace F_o_searches := F_o_searches.other W19 (Or.inl ne_o_ym)
  replace F_pe_count := F_pe_count.other W19 (Or.inl ne_pe_ym)
  replace F_pe_nodes := F_pe_nodes.other W19 (Or.inl ne_pe_ym)
  replace A_xa := A_xa.other W19 ne_xa_ym
  replace A_xb := A_xb.other W19 ne_xb_ym
  replace A_xc := A_xc.other W19 ne_xc_ym
  replace A_xd := A_xd.other W19 ne_xd_ym
  replace A_xn := A_xn.other W19 ne_xn_ym
  replace A_fo := A_fo.other W19 ne_fo_ym
  replace A_fi := A_fi.other W19 ne_fi_ym
  replace A_pl := A_pl.other W19 ne_pl_ym
  replace A_yo := A_yo.other W19 ne_yo_ym
  replace A_yi := A_yi.other W19 ne_yi_ym
  replace A_yb := A_yb.other W19 (Ne.symm ne_ym_yb)
  replace Fcp88 := Fcp88.other W19 (Or.inl ne_pb_ym)
  replace Fnp88 := Fnp88.other W19 (Or.inl ne_pb_ym)
  replace Axp88 := Axp88.other W19 ne_xm_ym
  have Z20 : n0 ≤ h19.size := by rw [W19.size]; exact Z15
  have N21 := Fr.snoc X19 Np88 g_ym
  replace A_ym : Ara Z h19 ym .int 3 (fun jz => .int ((own_ui mi uf.toInt.toNat rp9) jz)) := A_ym.setI W19
  refine g_aloadN X19 hx hby d17_133 (pc' := 134) rfl rfl rfl ?_
  refine g_getF X19 hx hby hZ hown e19 (hw _ (List.mem_of_getElem? (i := 32) rfl)) F_o_pending d17_134 (pc' := 137) rfl (fun T22 X22 e22 => ?_)
  refine g_iconst X22 hx hby d17_137 (pc' := 138) rfl (n := (0 : Int32)) (by first | rfl | decide) ?_
  refine g_putFR X22 hx hby hZ hown e22 (hw _ (List.mem_of_getElem? (i := 148) rfl)) F_pe_count E_pe (hw _ (List.mem_of_getElem? (i := 149) rfl)) (hw _ (List.mem_of_getElem? (i := 20) rfl)) (ty := .int) (by decide) rfl rfl d17_138 (pc' := 141) rfl (fun T23 h23 X23 e23 W23 => ?_)
  replace E_o := E_o.wr W23
  replace E_pe := E_pe.wr W23
  replace E_pb := E_pb.wr W23
  replace F_o_addedFrom := F_o_addedFrom.other W23 (Or.inl ne_o_pe)
  replace F_o_addedTo := F_o_addedTo.other W23 (Or.inl ne_o_pe)
  replace F_o_earlierOut := F_o_earlierOut.other W23 (Or.inl ne_o_pe)
  replace F_o_earlierIn := F_o_earlierIn.other W23 (Or.inl ne_o_pe)
  replace F_o_pending := F_o_pending.other W23 (Or.inl ne_o_pe)
  replace F_o_pendingBack := F_o_pendingBack.other W23 (Or.inl ne_o_pe)
  replace F_o_firstOut := F_o_firstOut.other W23 (Or.inl ne_o_pe)
  replace F_o_firstIn := F_o_firstIn.other W23 (Or.inl ne_o_pe)
  replace F_o_place := F_o_place.other W23 (Or.inl ne_o_pe)
  replace F_o_latestOut := F_o_latestOut.other W23 (Or.inl ne_o_pe)
  replace F_o_latestIn := F_o_latestIn.other W23 (Or.inl ne_o_pe)
  replace F_o_metIn := F_o_metIn.other W23 (Or.inl ne_o_pe)
  replace F_o_metBack := F_o_metBack.other W23 (Or.inl ne_o_pe)
  replace F_o_added := F_o_added.other W23 (Or.inl ne_o_pe)
  replace F_o_searches := F_o_searches.other W23 (Or.inl ne_o_pe)
  replace F_pe_count := F_pe_count.same W23
  replace F_pe_nodes := F_pe_nodes.other W23 (Or.inr (sn_163 hw))
  replace A_xa := A_xa.other W23 ne_xa_pe
  replace A_xb := A_xb.other W23 ne_xb_pe
  replace A_xc := A_xc.other W23 ne_xc_pe
  replace A_xd := A_xd.other W23 ne_xd_pe
  replace A_xn := A_xn.other W23 (Ne.symm ne_pe_xn)
  replace A_fo := A_fo.other W23 (Ne.symm ne_pe_fo)
  replace A_fi := A_fi.other W23 (Ne.symm ne_pe_fi)
  replace A_pl := A_pl.other W23 (Ne.symm ne_pe_pl)
  replace A_yo := A_yo.other W23 (Ne.symm ne_pe_yo)
  replace A_yi := A_yi.other W23 (Ne.symm ne_pe_yi)
  replace A_ym := A_ym.other W23 (Ne.symm ne_pe_ym)
  replace A_yb := A_yb.other W23 (Ne.symm ne_pe_yb)
  replace Fcp88 := Fcp88.other W23 (Or.inl (Ne.symm ne_pe_pb))
  replace Fnp88 := Fnp88.other W23 (Or.inl (Ne.symm ne_pe_pb))
  replace Axp88 := Axp88.other W23 (Ne.symm ne_pe_xm)
  have Z24 : n0 ≤ h23.size := by rw [W23.size]; exact Z20
  have N25 := Fr.snoc X23 N21 g_pe
  refine g_aloadN X23 hx hby d17_141 (pc' := 142) rfl rfl rfl ?_
  refine g_getF X23 hx hby hZ hown e23 (hw _ (List.mem_of_getElem? (i := 32) rfl)) F_o_pending d17_142 (pc' := 145) rfl (fun T26 X26 e26 => ?_)
  refine g_iloadN X26 hx hby d17_145 (pc' := 146) rfl rfl ?_
  refine g_virtual X26 hx hby hZ hown hml rfl (hw _ (List.mem_of_getElem? (i := 150) rfl)) (hw _ (List.mem_of_getElem? (i := 151) rfl)) (hw _ (List.mem_of_getElem? (i := 153) rfl)) (hw _ (List.mem_of_getElem? (i := 152) rfl)) (hw _ (List.mem_of_getElem? (i := 21) rfl)) (hw _ (List.mem_of_getElem? (i := 154) rfl)) (by decide) e26 (rm_fa l Z a0 hw pe uf n0 xn (0 : Int32) pn h23 Z24 g_pe g_xn E_pe F_pe_count F_pe_nodes A_xn ne_pe_xn (by decide)) pd__I_V_240 E_pe (argsL := [(.int uf)]) (rest := []) rfl rfl rfl d17_146 (pc' := 149) rfl (by decide) (Nat.le_of_ble_eq_true rfl) (by decide) (by decide) ?_
  intro Tp146 vp146 Lp146 Xp146 qp146
  obtain ⟨rfl, Nqp146, Fcp146, Fnp146, Axp146, Kqp146⟩ := qp146
  replace Fcp146 : Fld Z Tp146.heap pe "com/example/isolens/isolens/checker/DynamicOrder$Found" "count" "I" (.int (1 : Int32)) := Fcp146
  replace Xp146 : Stand p l e ({ frames := 2, cells := 0, slots := 0, locals := 32 } : Room) s m _ below meth c Tp146 _ 0 0 := Xp146
  replace E_o := E_o.keep Kqp146
  replace E_pe := E_pe.keep Kqp146
  replace E_pb := E_pb.keep Kqp146
  replace F_o_addedFrom := F_o_addedFrom.keep Kqp146 (ninS ne_o_pe (ninS ne_o_xn nin0))
  replace F_o_addedTo := F_o_addedTo.keep Kqp146 (ninS ne_o_pe (ninS ne_o_xn nin0))
  replace F_o_earlierOut := F_o_earlierOut.keep Kqp146 (ninS ne_o_pe (ninS ne_o_xn nin0))
  replace F_o_earlierIn := F_o_earlierIn.keep Kqp146 (ninS ne_o_pe (ninS ne_o_xn nin0))
  replace F_o_pending := F_o_pending.keep Kqp146 (ninS ne_o_pe (ninS ne_o_xn nin0))
  replace F_o_pendingBack := F_o_pendingBack.keep Kqp146 (ninS ne_o_pe (ninS ne_o_xn nin0))
  replace F_o_firstOut := F_o_firstOut.keep Kqp146 (ninS ne_o_pe (ninS ne_o_xn nin0))
  replace F_o_firstIn := F_o_firstIn.keep Kqp146 (ninS ne_o_pe (ninS ne_o_xn nin0))
  replace F_o_place := F_o_place.keep Kqp146 (ninS ne_o_pe (ninS ne_o_xn nin0))
  replace F_o_latestOut := F_o_latestOut.keep Kqp146 (ninS ne_o_pe (ninS ne_o_xn nin0))
  replace F_o_latestIn := F_o_latestIn.keep Kqp146 (ninS ne_o_pe (ninS ne_o_xn nin0))
  replace F_o_metIn := F_o_metIn.keep Kqp146 (ninS ne_o_pe (ninS ne_o_xn nin0))
  replace F_o_metBack := F_o_metBack.keep Kqp146 (ninS ne_o_pe (ninS ne_o_xn nin0))
  replace F_o_added := F_o_added.keep Kqp146 (ninS ne_o_pe (ninS ne_o_xn nin0))
  replace F_o_searches := F_o_searches.keep Kqp146 (ninS ne_o_pe (ninS ne_o_xn nin0))
  replace A_xa := A_xa.keep Kqp146 (ninS ne_xa_pe (ninS ne_xa_xn nin0))
  replace A_xb := A_xb.keep Kqp146 (ninS ne_xb_pe (ninS ne_xb_xn nin0))
  replace A_xc := A_xc.keep Kqp146 (ninS ne_xc_pe (ninS ne_xc_xn nin0))
  replace A_xd := A_xd.keep Kqp146 (ninS ne_xd_pe (ninS ne_xd_xn nin0))
  replace A_fo := A_fo.keep Kqp146 (ninS (Ne.symm ne_pe_fo) (ninS (Ne.symm ne_xn_fo) nin0))
  replace A_fi := A_fi.keep Kqp146 (ninS (Ne.symm ne_pe_fi) (ninS (Ne.symm ne_xn_fi) nin0))
  replace A_pl := A_pl.keep Kqp146 (ninS (Ne.symm ne_pe_pl) (ninS (Ne.symm ne_xn_pl) nin0))
  replace A_yo := A_yo.keep Kqp146 (ninS (Ne.symm ne_pe_yo) (ninS (Ne.symm ne_xn_yo) nin0))
  replace A_yi := A_yi.keep Kqp146 (ninS (Ne.symm ne_pe_yi) (ninS (Ne.symm ne_xn_yi) nin0))
  replace A_ym := A_ym.keep Kqp146 (ninS (Ne.symm ne_pe_ym) (ninS (Ne.symm ne_xn_ym) nin0))
  replace A_yb := A_yb.keep Kqp146 (ninS (Ne.symm ne_pe_yb) (ninS (Ne.symm ne_xn_yb) nin0))
  replace Fcp88 := Fcp88.keep Kqp146 (ninS (Ne.symm ne_pe_pb) (ninS (Ne.symm ne_xn_pb) nin0))
  replace Fnp88 := Fnp88.keep Kqp146 (ninS (Ne.symm ne_pe_pb) (ninS (Ne.symm ne_xn_pb) nin0))
  replace Axp88 := Axp88.keep Kqp146 (ninS (Ne.symm ne_pe_xm) (ninS (Ne.symm ne_xn_xm) nin0))
  have Z27 : n0 ≤ Tp146.heap.size := Nat.le_trans Z24 Kqp146.1
  have Np146 := Fr.app N25 Nqp146
  show Go p e below EF (QDr Z n0 o (q + 1) uk cd (own_PRg uf ut uk.toInt.toNat fr tt)) m Tp146 149 #[.val (.ref o), .val (.int uf), .val (.ref ta), .val (.int (0 : Int32)), .val (.int (1 : Int32)), .val (.int uf), .val (.int rp9), .val (.int rp15), .val (.int ut), .val (.int (1 : Int32)), .unset] []
  refine g_aloadN Xp146 hx hby d17_149 (pc' := 150) rfl rfl rfl ?_
  refine g_getF Xp146 hx hby hZ hown rfl (hw _ (List.mem_of_getElem? (i := 32) rfl)) F_o_pending d17_150 (pc' := 153) rfl (fun T28 X28 e28 => ?_)
  refine g_getFR X28 hx hby hZ hown e28 (hw _ (List.mem_of_getElem? (i := 148) rfl)) Fcp146 d17_153 (pc' := 156) rfl ?_
  refine g_ifle X28 hx hby d17_156 (pt := 418) (pf := 159) (by decide) (by decide) rfl (fun (h156 : 1 ≤ 0) => (by exfalso; revert h156; decide)) (fun (h156 : 0 < 1) => ?_)
  refine g_aloadN X28 hx hby d17_159 (pc' := 160) rfl rfl rfl ?_
  refine g_getF X28 hx hby hZ hown e28 (hw _ (List.mem_of_getElem? (i := 34) rfl)) F_o_pendingBack d17_160 (pc' := 163) rfl (fun T29 X29 e29 => ?_)
  refine g_getFR X29 hx hby hZ hown e29 (hw _ (List.mem_of_getElem? (i := 148) rfl)) Fcp88 d17_163 (pc' := 166) rfl ?_
  refine g_ifle X29 hx hby d17_166 (pt := 418) (pf := 169) (by decide) (by decide) rfl (fun (h166 : 1 ≤ 0) => (by exfalso; revert h166; decide)) (fun (h166 : 0 < 1) => ?_)
  refine g_aloadN X29 hx hby d17_169 (pc' := 170) rfl rfl rfl ?_
  refine g_getF X29 hx hby hZ hown e29 (hw _ (List.mem_of_getElem? (i := 32) rfl)) F_o_pending d17_170 (pc' := 173) rfl (fun T30 X30 e30 => ?_)
  refine g_getFR X30 hx hby hZ hown e30 (hw _ (List.mem_of_getElem? (i := 160) rfl)) Fnp146 d17_173 (pc' := 176) rfl ?_
  refine g_aloadN X30 hx hby d17_176 (pc' := 177) rfl rfl rfl ?_
  refine g_getF X30 hx hby hZ hown e30 (hw _ (List.mem_of_getElem? (i := 32) rfl)) F_o_pending d17_177 (pc' := 180) rfl (fun T31 X31 e31 => ?_)
  refine g_dup X31 hx hby d17_180 (pc' := 181) rfl rfl ?_
  refine g_getFR X31 hx hby hZ hown e31 (hw _ (List.mem_of_getElem? (i := 148) rfl)) Fcp146 d17_181 (pc' := 184) rfl ?_
  refine g_iconst X31 hx hby d17_184 (pc' := 185) rfl (n := (1 : Int32)) (by first | rfl | decide) ?_
  refine g_isub X31 hx hby d17_185 (pc' := 186) rfl ?_
  show Go p e below EF (QDr Z n0 o (q + 1) uk cd (own_PRg uf ut uk.toInt.toNat fr tt)) m T31 186 #[.val (.ref o), .val (.int uf), .val (.ref ta), .val (.int (0 : Int32)), .val (.int (1 : Int32)), .val (.int uf), .val (.int rp9), .val (.int rp15), .val (.int ut), .val (.int (1 : Int32)), .unset] [(.int (0 : Int32)), (.ref pe), (.ref xn)]
  refine g_dup_x1 X31 hx hby d17_186 (pc' := 187) rfl rfl rfl ?_
  refine g_putFR X31 hx hby hZ hown e31 (hw _ (List.mem_of_getElem? (i := 148) rfl)) Fcp146 E_pe (hw _ (List.mem_of_getElem? (i := 149) rfl)) (hw _ (List.mem_of_getElem? (i := 20) rfl)) (ty := .int) (by decide) rfl rfl d17_187 (pc' := 190) rfl (fun T32 h32 X32 e32 W32 => ?_)
  replace E_o := E_o.wr W32
  replace E_pe := E_pe.wr W32
  replace E_pb := E_pb.wr W32
  replace F_o_addedFrom := F_o_addedFrom.other W32 (Or.inl ne_o_pe)
  replace F_o_addedTo := F_o_addedTo.other W32 (Or.inl ne_o_pe)
  replace F_o_earlierOut := F_o_earlierOut.other W32 (Or.inl ne_o_pe)
  replace F_o_earlierIn := F_o_earlierIn.other W32 (Or.inl ne_o_pe)
  replace F_o_pending := F_o_pending.other W32 (Or.inl ne_o_pe)
  replace F_o_pendingBack := F_o_pendingBack.other W32 (Or.inl ne_o_pe)
  replace F_o_firstOut := F_o_firstOut.other W32 (Or.inl ne_o_pe)
  replace F_o_firstIn := F_o_firstIn.other W32 (Or.inl ne_o_pe)
  replace F_o_place := F_o_place.other W32 (Or.inl ne_o_pe)
  replace F_o_latestOut := F_o_latestOut.other W32 (Or.inl ne_o_pe)
  replace F_o_latestIn := F_o_latestIn.other W32 (Or.inl ne_o_pe)
  replace F_o_metIn := F_o_metIn.other W32 (Or.inl ne_o_pe)
  replace F_o_metBack := F_o_metBack.other W32 (Or.inl ne_o_pe)
  replace F_o_added := F_o_added.other W32 (Or.inl ne_o_pe)
  replace F_o_searches := F_o_searches.other W32 (Or.inl ne_o_pe)
  replace A_xa := A_xa.other W32 ne_xa_pe
  replace A_xb := A_xb.other W32 ne_xb_pe
  replace A_xc := A_xc.other W32 ne_xc_pe
  replace A_xd := A_xd.other W32 ne_xd_pe
  replace A_fo := A_fo.other W32 (Ne.symm ne_pe_fo)
  replace A_fi := A_fi.other W32 (Ne.symm ne_pe_fi)
  replace A_pl := A_pl.other W32 (Ne.symm ne_pe_pl)
  replace A_yo := A_yo.other W32 (Ne.symm ne_pe_yo)
  replace A_yi := A_yi.other W32 (Ne.symm ne_pe_yi)
  replace A_ym := A_ym.other W32 (Ne.symm ne_pe_ym)
  replace A_yb := A_yb.other W32 (Ne.symm ne_pe_yb)
  replace Fcp88 := Fcp88.other W32 (Or.inl (Ne.symm ne_pe_pb))
  replace Fnp88 := Fnp88.other W32 (Or.inl (Ne.symm ne_pe_pb))
  replace Axp88 := Axp88.other W32 (Ne.symm ne_pe_xm)
  replace Fcp146 := Fcp146.same W32
  replace Fnp146 := Fnp146.other W32 (Or.inr (sn_163 hw))
  replace Axp146 := Axp146.other W32 (Ne.symm ne_pe_xn)
  have Z33 : n0 ≤ h32.size := by rw [W32.size]; exact Z27
  have N34 := Fr.snoc X32 Np146 g_pe
  refine a_iaload X32 hx hby hZ e32 Axp146 (by decide) (by decide) (v := (.int uf)) (congrArg Value.int (own_uis _ _ _)) d17_190 (pc' := 191) rfl ?_
  refine g_istore X32 hx hby d17_191 (pc' := 193) rfl (Ls' := #[.val (.ref o), .val (.int uf), .val (.ref ta), .val (.int (0 : Int32)), .val (.int (1 : Int32)), .val (.int uf), .val (.int rp9), .val (.int rp15), .val (.int ut), .val (.int uf), .unset]) rfl ?_
  refine g_aloadN X32 hx hby d17_193 (pc' := 194) rfl rfl rfl ?_
  refine g_getF X32 hx hby hZ hown e32 (hw _ (List.mem_of_getElem? (i := 72) rfl)) F_o_firstOut d17_194 (pc' := 197) rfl (fun T35 X35 e35 => ?_)
  refine g_iload X35 hx hby d17_197 (pc' := 199) rfl rfl ?_
  refine a_iaload X35 hx hby hZ e35 A_fo (by omega) (by omega) (v := (.int (0 : Int32))) (rfl) d17_199 (pc' := 200) rfl ?_
  refine g_istore X35 hx hby d17_200 (pc' := 202) rfl (Ls' := #[.val (.ref o), .val (.int uf), .val (.ref ta), .val (.int (0 : Int32)), .val (.int (1 : Int32)), .val (.int uf), .val (.int rp9), .val (.int rp15), .val (.int ut), .val (.int uf), .val (.int (0 : Int32))]) rfl ?_
  refine g_iload X35 hx hby d17_202 (pc' := 204) rfl rfl ?_
  refine g_aloadN X35 hx hby d17_204 (pc' := 205) rfl rfl rfl ?_
  refine g_getF X35 hx hby hZ hown e35 (hw _ (List.mem_of_getElem? (i := 72) rfl)) F_o_firstOut d17_205 (pc' := 208) rfl (fun T36 X36 e36 => ?_)
  refine g_iload X36 hx hby d17_208 (pc' := 210) rfl rfl ?_
  refine g_iconst X36 hx hby d17_210 (pc' := 211) rfl (n := (1 : Int32)) (by first | rfl | decide) ?_
  refine g_iadd X36 hx hby d17_211 (pc' := 212) rfl ?_
  refine a_iaload X36 hx hby hZ e36 A_fo (by have z := own_inc uf (by omega); omega) (by have z := own_inc uf (by omega); omega) (v := (.int (0 : Int32))) (rfl) d17_212 (pc' := 213) rfl ?_
  refine g_icmpge X36 hx hby d17_213 (pt := 244) (pf := 216) (by decide) (by decide) rfl (fun (h213 : 0 ≤ 0) => ?_) (fun (h213 : 0 < 0) => (by exfalso; revert h213; decide))
  refine g_aloadN X36 hx hby d17_244 (pc' := 245) rfl rfl rfl ?_
  refine g_getF X36 hx hby hZ hown e36 (hw _ (List.mem_of_getElem? (i := 93) rfl)) F_o_latestOut d17_245 (pc' := 248) rfl (fun T37 X37 e37 => ?_)
  refine g_iload X37 hx hby d17_248 (pc' := 250) rfl rfl ?_
  refine a_iaload X37 hx hby hZ e37 A_yo (by omega) (by omega) (v := (.int (lo uf.toInt.toNat))) (rfl) d17_250 (pc' := 251) rfl ?_
  refine g_istore X37 hx hby d17_251 (pc' := 253) rfl (Ls' := #[.val (.ref o), .val (.int uf), .val (.ref ta), .val (.int (0 : Int32)), .val (.int (1 : Int32)), .val (.int uf), .val (.int rp9), .val (.int rp15), .val (.int ut), .val (.int uf), .val (.int (lo uf.toInt.toNat))]) rfl ?_
  suffices J253_38 : ∀ (nn : Nat) (locs39 : List Loc) (T39 : State) (X39 : Stand p l e ({ frames := 2, cells := 0, slots := 0, locals := 32 } : Room) s m #[(.ref o), (.int uf), (.ref ta), (.int (0 : Int32)), (.int (1 : Int32))] below meth c T39 locs39 0 0) (hp39 : Heap) (e39 : T39.heap = hp39) (N39 : Fr n0 locs39) (ed : Int32) (mj : Nat → Int32) (pj : Nat → Int32) (cj : Int32) (E_oj : Exa Z hp39 o "com/example/isolens/isolens/checker/DynamicOrder") (E_pej : Exa Z hp39 pe "com/example/isolens/isolens/checker/DynamicOrder$Found") (E_pbj : Exa Z hp39 pb "com/example/isolens/isolens/checker/DynamicOrder$Found") (F_o_addedFromj : Fld Z hp39 o "com/example/isolens/isolens/checker/DynamicOrder" "addedFrom" "[I" (.ref xa)) (F_o_addedToj : Fld Z hp39 o "com/example/isolens/isolens/checker/DynamicOrder" "addedTo" "[I" (.ref xb)) (F_o_earlierOutj : Fld Z hp39 o "com/example/isolens/isolens/checker/DynamicOrder" "earlierOut" "[I" (.ref xc)) (F_o_earlierInj : Fld Z hp39 o "com/example/isolens/isolens/checker/DynamicOrder" "earlierIn" "[I" (.ref xd)) (F_o_pendingj : Fld Z hp39 o "com/example/isolens/isolens/checker/DynamicOrder" "pending" "Lcom/example/isolens/isolens/checker/DynamicOrder$Found;" (.ref pe)) (F_o_pendingBackj : Fld Z hp39 o "com/example/isolens/isolens/checker/DynamicOrder" "pendingBack" "Lcom/example/isolens/isolens/checker/DynamicOrder$Found;" (.ref pb)) (F_o_firstOutj : Fld Z hp39 o "com/example/isolens/isolens/checker/DynamicOrder" "firstOut" "[I" (.ref fo)) (F_o_firstInj : Fld Z hp39 o "com/example/isolens/isolens/checker/DynamicOrder" "firstIn" "[I" (.ref fi)) (F_o_placej : Fld Z hp39 o "com/example/isolens/isolens/checker/DynamicOrder" "place" "[I" (.ref pl)) (F_o_latestOutj : Fld Z hp39 o "com/example/isolens/isolens/checker/DynamicOrder" "latestOut" "[I" (.ref yo)) (F_o_latestInj : Fld Z hp39 o "com/example/isolens/isolens/checker/DynamicOrder" "latestIn" "[I" (.ref yi)) (F_o_metInj : Fld Z hp39 o "com/example/isolens/isolens/checker/DynamicOrder" "metIn" "[I" (.ref ym)) (F_o_metBackj : Fld Z hp39 o "com/example/isolens/isolens/checker/DynamicOrder" "metBack" "[I" (.ref yb)) (F_o_addedj : Fld Z hp39 o "com/example/isolens/isolens/checker/DynamicOrder" "added" "I" (.int uk)) (F_o_searchesj : Fld Z hp39 o "com/example/isolens/isolens/checker/DynamicOrder" "searches" "I" (.int rp15)) (F_pe_countj : Fld Z hp39 pe "com/example/isolens/isolens/checker/DynamicOrder$Found" "count" "I" (.int cj)) (F_pe_nodesj : Fld Z hp39 pe "com/example/isolens/isolens/checker/DynamicOrder$Found" "nodes" "[I" (.ref xn)) (F_pb_countj : Fld Z hp39 pb "com/example/isolens/isolens/checker/DynamicOrder$Found" "count" "I" (.int (1 : Int32))) (F_pb_nodesj : Fld Z hp39 pb "com/example/isolens/isolens/checker/DynamicOrder$Found" "nodes" "[I" (.ref xm)) (A_xaj : Ara Z hp39 xa .int 16 (fun jz => .int (fr jz))) (A_xbj : Ara Z hp39 xb .int 16 (fun jz => .int (tt jz))) (A_xcj : Ara Z hp39 xc .int 16 (fun jz => .int (eo jz))) (A_xdj : Ara Z hp39 xd .int 16 (fun jz => .int (ei jz))) (A_xnj : Ara Z hp39 xn .int 16 (fun jz => .int (pj jz))) (A_xmj : Ara Z hp39 xm .int 16 (fun jz => .int ((own_ui pq (0 : Int32).toInt.toNat ut) jz))) (A_foj : Ara Z hp39 fo .int 4 (fun jz => .int ((fun _ => (0 : Int32)) jz))) (A_fij : Ara Z hp39 fi .int 4 (fun jz => .int ((fun _ => (0 : Int32)) jz))) (A_plj : Ara Z hp39 pl .int 3 (fun jz => .int (own_id jz))) (A_yoj : Ara Z hp39 yo .int 3 (fun jz => .int (lo jz))) (A_yij : Ara Z hp39 yi .int 3 (fun jz => .int (li jz))) (A_ymj : Ara Z hp39 ym .int 3 (fun jz => .int (mj jz))) (A_ybj : Ara Z hp39 yb .int 3 (fun jz => .int ((own_ui mb ut.toInt.toNat rp15) jz))) (Zj : n0 ≤ hp39.size) (H1 : own_H1 uf ut rp9 uk.toInt.toNat fr tt mj cj ed) (hnn : (ed.toInt + 1).toNat = nn), Go p e below EF (QDr Z n0 o (q + 1) uk cd (own_PRg uf ut uk.toInt.toNat fr tt)) m T39 253 #[.val (.ref o), .val (.int uf), .val (.ref ta), .val (.int (0 : Int32)), .val (.int (1 : Int32)), .val (.int uf), .val (.int rp9), .val (.int rp15), .val (.int ut), .val (.int uf), .val (.int ed)] [] by
    exact J253_38 _ _ _ X37 _ e37 N34 (lo uf.toInt.toNat) (own_ui mi uf.toInt.toNat rp9) (own_ui pn (0 : Int32).toInt.toNat uf) (0 : Int32) E_o E_pe E_pb F_o_addedFrom F_o_addedTo F_o_earlierOut F_o_earlierIn F_o_pending F_o_pendingBack F_o_firstOut F_o_firstIn F_o_place F_o_latestOut F_o_latestIn F_o_metIn F_o_metBack F_o_added F_o_searches Fcp146 Fnp146 Fcp88 Fnp88 A_xa A_xb A_xc A_xd Axp146 Axp88 A_fo A_fi A_pl A_yo A_yi A_ym A_yb Z33 (own_H1_start I ⟨hft.1, by omega⟩ (by omega)) rfl
  intro nn
  induction nn using Nat.strongRecOn with
  | _ nn ih =>
    intro locs39 T39 X39 hp39 e39 N39 ed mj pj cj E_oj E_pej E_pbj F_o_addedFromj F_o_addedToj F_o_earlierOutj F_o_earlierInj F_o_pendingj F_o_pendingBackj F_o_firstOutj F_o_firstInj F_o_placej F_o_latestOutj F_o_latestInj F_o_metInj F_o_metBackj F_o_addedj F_o_searchesj F_pe_countj F_pe_nodesj F_pb_countj F_pb_nodesj A_xaj A_xbj A_xcj A_xdj A_xnj A_xmj A_foj A_fij A_plj A_yoj A_yij A_ymj A_ybj Zj H1 hnn
    have hb1 := H1.1
    have hcj := H1.2.2.2.2.2.2
    refine g_iload X39 hx hby d17_253 (pc' := 255) rfl rfl ?_
    refine g_iflt X39 hx hby d17_255 (pt := 292) (pf := 258) (by decide) (by decide) rfl (fun (h255 : ed.toInt < 0) => ?_) (fun (h255 : 0 ≤ ed.toInt) => ?_)
    · refine g_aloadN X39 hx hby d17_292 (pc' := 293) rfl rfl rfl ?_
      refine g_getF X39 hx hby hZ hown e39 (hw _ (List.mem_of_getElem? (i := 34) rfl)) F_o_pendingBackj d17_293 (pc' := 296) rfl (fun T40 X40 e40 => ?_)
      refine g_getFR X40 hx hby hZ hown e40 (hw _ (List.mem_of_getElem? (i := 160) rfl)) F_pb_nodesj d17_296 (pc' := 299) rfl ?_
      refine g_aloadN X40 hx hby d17_299 (pc' := 300) rfl rfl rfl ?_
      refine g_getF X40 hx hby hZ hown e40 (hw _ (List.mem_of_getElem? (i := 34) rfl)) F_o_pendingBackj d17_300 (pc' := 303) rfl (fun T41 X41 e41 => ?_)
      refine g_dup X41 hx hby d17_303 (pc' := 304) rfl rfl ?_
      refine g_getFR X41 hx hby hZ hown e41 (hw _ (List.mem_of_getElem? (i := 148) rfl)) F_pb_countj d17_304 (pc' := 307) rfl ?_
      refine g_iconst X41 hx hby d17_307 (pc' := 308) rfl (n := (1 : Int32)) (by first | rfl | decide) ?_
      refine g_isub X41 hx hby d17_308 (pc' := 309) rfl ?_
      show Go p e below EF (QDr Z n0 o (q + 1) uk cd (own_PRg uf ut uk.toInt.toNat fr tt)) m T41 309 #[.val (.ref o), .val (.int uf), .val (.ref ta), .val (.int (0 : Int32)), .val (.int (1 : Int32)), .val (.int uf), .val (.int rp9), .val (.int rp15), .val (.int ut), .val (.int uf), .val (.int ed)] [(.int (0 : Int32)), (.ref pb), (.ref xm)]
      refine g_dup_x1 X41 hx hby d17_309 (pc' := 310) rfl rfl rfl ?_
      refine g_putFR X41 hx hby hZ hown e41 (hw _ (List.mem_of_getElem? (i := 148) rfl)) F_pb_countj E_pbj (hw _ (List.mem_of_getElem? (i := 149) rfl)) (hw _ (List.mem_of_getElem? (i := 20) rfl)) (ty := .int) (by decide) rfl rfl d17_310 (pc' := 313) rfl (fun T42 h42 X42 e42 W42 => ?_)
      replace E_oj := E_oj.wr W42
      replace E_pej := E_pej.wr W42
      replace E_pbj := E_pbj.wr W42
      replace F_o_addedFromj := F_o_addedFromj.other W42 (Or.inl ne_o_pb)
      replace F_o_addedToj := F_o_addedToj.other W42 (Or.inl ne_o_pb)
      replace F_o_earlierOutj := F_o_earlierOutj.other W42 (Or.inl ne_o_pb)
      replace F_o_earlierInj := F_o_earlierInj.other W42 (Or.inl ne_o_pb)
      replace F_o_pendingj := F_o_pendingj.other W42 (Or.inl ne_o_pb)
      replace F_o_pendingBackj := F_o_pendingBackj.other W42 (Or.inl ne_o_pb)
      replace F_o_firstOutj := F_o_firstOutj.other W42 (Or.inl ne_o_pb)
      replace F_o_firstInj := F_o_firstInj.other W42 (Or.inl ne_o_pb)
      replace F_o_placej := F_o_placej.other W42 (Or.inl ne_o_pb)
      replace F_o_latestOutj := F_o_latestOutj.other W42 (Or.inl ne_o_pb)
      replace F_o_latestInj := F_o_latestInj.other W42 (Or.inl ne_o_pb)
      replace F_o_metInj := F_o_metInj.other W42 (Or.inl ne_o_pb)
      replace F_o_metBackj := F_o_metBackj.other W42 (Or.inl ne_o_pb)
      replace F_o_addedj := F_o_addedj.other W42 (Or.inl ne_o_pb)
      replace F_o_searchesj := F_o_searchesj.other W42 (Or.inl ne_o_pb)
      replace F_pe_countj := F_pe_countj.other W42 (Or.inl ne_pe_pb)
      replace F_pe_nodesj := F_pe_nodesj.other W42 (Or.inl ne_pe_pb)
      replace F_pb_countj := F_pb_countj.same W42
      replace F_pb_nodesj := F_pb_nodesj.other W42 (Or.inr (sn_163 hw))
      replace A_xaj := A_xaj.other W42 ne_xa_pb
      replace A_xbj := A_xbj.other W42 ne_xb_pb
      replace A_xcj := A_xcj.other W42 ne_xc_pb
      replace A_xdj := A_xdj.other W42 ne_xd_pb
      replace A_xnj := A_xnj.other W42 ne_xn_pb
      replace A_xmj := A_xmj.other W42 (Ne.symm ne_pb_xm)
      replace A_foj := A_foj.other W42 (Ne.symm ne_pb_fo)
      replace A_fij := A_fij.other W42 (Ne.symm ne_pb_fi)
      replace A_plj := A_plj.other W42 (Ne.symm ne_pb_pl)
      replace A_yoj := A_yoj.other W42 (Ne.symm ne_pb_yo)
      replace A_yij := A_yij.other W42 (Ne.symm ne_pb_yi)
      replace A_ymj := A_ymj.other W42 (Ne.symm ne_pb_ym)
      replace A_ybj := A_ybj.other W42 (Ne.symm ne_pb_yb)
      have Z43 : n0 ≤ h42.size := by rw [W42.size]; exact Zj
      have N44 := Fr.snoc X42 N39 g_pb
      refine a_iaload X42 hx hby hZ e42 A_xmj (by decide) (by decide) (v := (.int ut)) (congrArg Value.int (own_uis _ _ _)) d17_313 (pc' := 314) rfl ?_
      refine g_istore X42 hx hby d17_314 (pc' := 316) rfl (Ls' := #[.val (.ref o), .val (.int uf), .val (.ref ta), .val (.int (0 : Int32)), .val (.int (1 : Int32)), .val (.int uf), .val (.int rp9), .val (.int rp15), .val (.int ut), .val (.int ut), .val (.int ed)]) rfl ?_
      refine g_aloadN X42 hx hby d17_316 (pc' := 317) rfl rfl rfl ?_
      refine g_getF X42 hx hby hZ hown e42 (hw _ (List.mem_of_getElem? (i := 87) rfl)) F_o_firstInj d17_317 (pc' := 320) rfl (fun T45 X45 e45 => ?_)
      refine g_iload X45 hx hby d17_320 (pc' := 322) rfl rfl ?_
      refine a_iaload X45 hx hby hZ e45 A_fij (by omega) (by omega) (v := (.int (0 : Int32))) (rfl) d17_322 (pc' := 323) rfl ?_
      refine g_istore X45 hx hby d17_323 (pc' := 325) rfl (Ls' := #[.val (.ref o), .val (.int uf), .val (.ref ta), .val (.int (0 : Int32)), .val (.int (1 : Int32)), .val (.int uf), .val (.int rp9), .val (.int rp15), .val (.int ut), .val (.int ut), .val (.int (0 : Int32))]) rfl ?_
      refine g_iload X45 hx hby d17_325 (pc' := 327) rfl rfl ?_
      refine g_aloadN X45 hx hby d17_327 (pc' := 328) rfl rfl rfl ?_
      refine g_getF X45 hx hby hZ hown e45 (hw _ (List.mem_of_getElem? (i := 87) rfl)) F_o_firstInj d17_328 (pc' := 331) rfl (fun T46 X46 e46 => ?_)
      refine g_iload X46 hx hby d17_331 (pc' := 333) rfl rfl ?_
      refine g_iconst X46 hx hby d17_333 (pc' := 334) rfl (n := (1 : Int32)) (by first | rfl | decide) ?_
      refine g_iadd X46 hx hby d17_334 (pc' := 335) rfl ?_
      refine a_iaload X46 hx hby hZ e46 A_fij (by have z := own_inc ut (by omega); omega) (by have z := own_inc ut (by omega); omega) (v := (.int (0 : Int32))) (rfl) d17_335 (pc' := 336) rfl ?_
      refine g_icmpge X46 hx hby d17_336 (pt := 367) (pf := 339) (by decide) (by decide) rfl (fun (h336 : 0 ≤ 0) => ?_) (fun (h336 : 0 < 0) => (by exfalso; revert h336; decide))
      refine g_aloadN X46 hx hby d17_367 (pc' := 368) rfl rfl rfl ?_
      refine g_getF X46 hx hby hZ hown e46 (hw _ (List.mem_of_getElem? (i := 95) rfl)) F_o_latestInj d17_368 (pc' := 371) rfl (fun T47 X47 e47 => ?_)
      refine g_iload X47 hx hby d17_371 (pc' := 373) rfl rfl ?_
      refine a_iaload X47 hx hby hZ e47 A_yij (by omega) (by omega) (v := (.int (li ut.toInt.toNat))) (rfl) d17_373 (pc' := 374) rfl ?_
      refine g_istore X47 hx hby d17_374 (pc' := 376) rfl (Ls' := #[.val (.ref o), .val (.int uf), .val (.ref ta), .val (.int (0 : Int32)), .val (.int (1 : Int32)), .val (.int uf), .val (.int rp9), .val (.int rp15), .val (.int ut), .val (.int ut), .val (.int (li ut.toInt.toNat))]) rfl ?_
      suffices J376_48 : ∀ (nn : Nat) (locs49 : List Loc) (T49 : State) (X49 : Stand p l e ({ frames := 2, cells := 0, slots := 0, locals := 32 } : Room) s m #[(.ref o), (.int uf), (.ref ta), (.int (0 : Int32)), (.int (1 : Int32))] below meth c T49 locs49 0 0) (hp49 : Heap) (e49 : T49.heap = hp49) (N49 : Fr n0 locs49) (eg : Int32) (mk : Nat → Int32) (pk : Nat → Int32) (ck : Int32) (E_ok : Exa Z hp49 o "com/example/isolens/isolens/checker/DynamicOrder") (E_pek : Exa Z hp49 pe "com/example/isolens/isolens/checker/DynamicOrder$Found") (E_pbk : Exa Z hp49 pb "com/example/isolens/isolens/checker/DynamicOrder$Found") (F_o_addedFromk : Fld Z hp49 o "com/example/isolens/isolens/checker/DynamicOrder" "addedFrom" "[I" (.ref xa)) (F_o_addedTok : Fld Z hp49 o "com/example/isolens/isolens/checker/DynamicOrder" "addedTo" "[I" (.ref xb)) (F_o_earlierOutk : Fld Z hp49 o "com/example/isolens/isolens/checker/DynamicOrder" "earlierOut" "[I" (.ref xc)) (F_o_earlierInk : Fld Z hp49 o "com/example/isolens/isolens/checker/DynamicOrder" "earlierIn" "[I" (.ref xd)) (F_o_pendingk : Fld Z hp49 o "com/example/isolens/isolens/checker/DynamicOrder" "pending" "Lcom/example/isolens/isolens/checker/DynamicOrder$Found;" (.ref pe)) (F_o_pendingBackk : Fld Z hp49 o "com/example/isolens/isolens/checker/DynamicOrder" "pendingBack" "Lcom/example/isolens/isolens/checker/DynamicOrder$Found;" (.ref pb)) (F_o_firstOutk : Fld Z hp49 o "com/example/isolens/isolens/checker/DynamicOrder" "firstOut" "[I" (.ref fo)) (F_o_firstInk : Fld Z hp49 o "com/example/isolens/isolens/checker/DynamicOrder" "firstIn" "[I" (.ref fi)) (F_o_placek : Fld Z hp49 o "com/example/isolens/isolens/checker/DynamicOrder" "place" "[I" (.ref pl)) (F_o_latestOutk : Fld Z hp49 o "com/example/isolens/isolens/checker/DynamicOrder" "latestOut" "[I" (.ref yo)) (F_o_latestInk : Fld Z hp49 o "com/example/isolens/isolens/checker/DynamicOrder" "latestIn" "[I" (.ref yi)) (F_o_metInk : Fld Z hp49 o "com/example/isolens/isolens/checker/DynamicOrder" "metIn" "[I" (.ref ym)) (F_o_metBackk : Fld Z hp49 o "com/example/isolens/isolens/checker/DynamicOrder" "metBack" "[I" (.ref yb)) (F_o_addedk : Fld Z hp49 o "com/example/isolens/isolens/checker/DynamicOrder" "added" "I" (.int uk)) (F_o_searchesk : Fld Z hp49 o "com/example/isolens/isolens/checker/DynamicOrder" "searches" "I" (.int rp15)) (F_pe_countk : Fld Z hp49 pe "com/example/isolens/isolens/checker/DynamicOrder$Found" "count" "I" (.int cj)) (F_pe_nodesk : Fld Z hp49 pe "com/example/isolens/isolens/checker/DynamicOrder$Found" "nodes" "[I" (.ref xn)) (F_pb_countk : Fld Z hp49 pb "com/example/isolens/isolens/checker/DynamicOrder$Found" "count" "I" (.int ck)) (F_pb_nodesk : Fld Z hp49 pb "com/example/isolens/isolens/checker/DynamicOrder$Found" "nodes" "[I" (.ref xm)) (A_xak : Ara Z hp49 xa .int 16 (fun jz => .int (fr jz))) (A_xbk : Ara Z hp49 xb .int 16 (fun jz => .int (tt jz))) (A_xck : Ara Z hp49 xc .int 16 (fun jz => .int (eo jz))) (A_xdk : Ara Z hp49 xd .int 16 (fun jz => .int (ei jz))) (A_xnk : Ara Z hp49 xn .int 16 (fun jz => .int (pj jz))) (A_xmk : Ara Z hp49 xm .int 16 (fun jz => .int (pk jz))) (A_fok : Ara Z hp49 fo .int 4 (fun jz => .int ((fun _ => (0 : Int32)) jz))) (A_fik : Ara Z hp49 fi .int 4 (fun jz => .int ((fun _ => (0 : Int32)) jz))) (A_plk : Ara Z hp49 pl .int 3 (fun jz => .int (own_id jz))) (A_yok : Ara Z hp49 yo .int 3 (fun jz => .int (lo jz))) (A_yik : Ara Z hp49 yi .int 3 (fun jz => .int (li jz))) (A_ymk : Ara Z hp49 ym .int 3 (fun jz => .int (mj jz))) (A_ybk : Ara Z hp49 yb .int 3 (fun jz => .int (mk jz))) (Zk : n0 ≤ hp49.size) (H2 : own_H2 ut rp9 rp15 uk.toInt.toNat fr tt mj mk ck eg) (hnn : (eg.toInt + 1).toNat = nn), Go p e below EF (QDr Z n0 o (q + 1) uk cd (own_PRg uf ut uk.toInt.toNat fr tt)) m T49 376 #[.val (.ref o), .val (.int uf), .val (.ref ta), .val (.int (0 : Int32)), .val (.int (1 : Int32)), .val (.int uf), .val (.int rp9), .val (.int rp15), .val (.int ut), .val (.int ut), .val (.int eg)] [] by
        exact J376_48 _ _ _ X47 _ e47 N44 (li ut.toInt.toNat) (own_ui mb ut.toInt.toNat rp15) (own_ui pq (0 : Int32).toInt.toNat ut) (0 : Int32) E_oj E_pej E_pbj F_o_addedFromj F_o_addedToj F_o_earlierOutj F_o_earlierInj F_o_pendingj F_o_pendingBackj F_o_firstOutj F_o_firstInj F_o_placej F_o_latestOutj F_o_latestInj F_o_metInj F_o_metBackj F_o_addedj F_o_searchesj F_pe_countj F_pe_nodesj F_pb_countj F_pb_nodesj A_xaj A_xbj A_xcj A_xdj A_xnj A_xmj A_foj A_fij A_plj A_yoj A_yij A_ymj A_ybj Z43 (own_H2_start I ⟨by omega, hft.2.2⟩ (by omega)) rfl
      intro nn
      induction nn using Nat.strongRecOn with
      | _ nn ih =>
        intro locs49 T49 X49 hp49 e49 N49 eg mk pk ck E_ok E_pek E_pbk F_o_addedFromk F_o_addedTok F_o_earlierOutk F_o_earlierInk F_o_pendingk F_o_pendingBackk F_o_firstOutk F_o_firstInk F_o_placek F_o_latestOutk F_o_latestInk F_o_metInk F_o_metBackk F_o_addedk F_o_searchesk F_pe_countk F_pe_nodesk F_pb_countk F_pb_nodesk A_xak A_xbk A_xck A_xdk A_xnk A_xmk A_fok A_fik A_plk A_yok A_yik A_ymk A_ybk Zk H2 hnn
        have hb2 := H2.1
        have hck := H2.2.2.2
        refine g_iload X49 hx hby d17_376 (pc' := 378) rfl rfl ?_
        refine g_iflt X49 hx hby d17_378 (pt := 415) (pf := 381) (by decide) (by decide) rfl (fun (h378 : eg.toInt < 0) => ?_) (fun (h378 : 0 ≤ eg.toInt) => ?_)
        · refine g_goto X49 hx hby d17_415 (pc' := 149) (by decide) (by decide) ?_
          refine g_aloadN X49 hx hby d17_149 (pc' := 150) rfl rfl rfl ?_
          refine g_getF X49 hx hby hZ hown e49 (hw _ (List.mem_of_getElem? (i := 32) rfl)) F_o_pendingk d17_150 (pc' := 153) rfl (fun T50 X50 e50 => ?_)
          refine g_getFR X50 hx hby hZ hown e50 (hw _ (List.mem_of_getElem? (i := 148) rfl)) F_pe_countk d17_153 (pc' := 156) rfl ?_
          refine g_ifle X50 hx hby d17_156 (pt := 418) (pf := 159) (by decide) (by decide) rfl (fun (h156 : cj.toInt ≤ 0) => ?_) (fun (h156 : 0 < cj.toInt) => ?_)
          · refine g_iconst X50 hx hby d17_418 (pc' := 419) rfl (n := (0 : Int32)) (by first | rfl | decide) ?_
            exact g_retZ X50 hx hby hF (Nat.zero_le _) hlk (Or.inl rfl) hret d17_419 (by decide) (by decide) (by rw [e50]; exact ⟨_, rfl, Or.inr ⟨rfl, own_ret0 H1 H2 (by omega) (by omega)⟩, N49, rp15, cj, ck, fr, tt, eo, ei, lo, li, mj, mk, pj, pk, xa, xb, xc, xd, pe, xn, pb, xm, fo, fi, pl, yo, yi, ym, yb, (own_inv_s I (by omega) (fun n hn => ⟨Int.le_trans (H1.2.2.2.2.2.1 n hn) (by omega), H2.2.2.1 n hn⟩)), hk0, g_o, k1, k2, k3, k4, k5, k6, k7, k8, k9, k10, k11, k12, k13, k14, k15, E_ok, E_pek, E_pbk, F_o_addedFromk, F_o_addedTok, F_o_earlierOutk, F_o_earlierInk, F_o_pendingk, F_o_pendingBackk, F_o_firstOutk, F_o_firstInk, F_o_placek, F_o_latestOutk, F_o_latestInk, F_o_metInk, F_o_metBackk, F_o_addedk, F_o_searchesk, F_pe_countk, F_pe_nodesk, F_pb_countk, F_pb_nodesk, A_xak, A_xbk, A_xck, A_xdk, A_xnk, A_xmk, A_fok, A_fik, A_plk, A_yok, A_yik, A_ymk, A_ybk⟩)
          · refine g_aloadN X50 hx hby d17_159 (pc' := 160) rfl rfl rfl ?_
            refine g_getF X50 hx hby hZ hown e50 (hw _ (List.mem_of_getElem? (i := 34) rfl)) F_o_pendingBackk d17_160 (pc' := 163) rfl (fun T51 X51 e51 => ?_)
            refine g_getFR X51 hx hby hZ hown e51 (hw _ (List.mem_of_getElem? (i := 148) rfl)) F_pb_countk d17_163 (pc' := 166) rfl ?_
            refine g_ifle X51 hx hby d17_166 (pt := 418) (pf := 169) (by decide) (by decide) rfl (fun (h166 : ck.toInt ≤ 0) => ?_) (fun (h166 : 0 < ck.toInt) => (by exfalso; rcases hcj with z | ⟨z, y⟩ <;> rcases hck with z' | ⟨z', y1, y'⟩ <;> first | omega | exact y' y))
            refine g_iconst X51 hx hby d17_418 (pc' := 419) rfl (n := (0 : Int32)) (by first | rfl | decide) ?_
            exact g_retZ X51 hx hby hF (Nat.zero_le _) hlk (Or.inl rfl) hret d17_419 (by decide) (by decide) (by rw [e51]; exact ⟨_, rfl, Or.inr ⟨rfl, own_ret0 H1 H2 (by omega) (by omega)⟩, N49, rp15, cj, ck, fr, tt, eo, ei, lo, li, mj, mk, pj, pk, xa, xb, xc, xd, pe, xn, pb, xm, fo, fi, pl, yo, yi, ym, yb, (own_inv_s I (by omega) (fun n hn => ⟨Int.le_trans (H1.2.2.2.2.2.1 n hn) (by omega), H2.2.2.1 n hn⟩)), hk0, g_o, k1, k2, k3, k4, k5, k6, k7, k8, k9, k10, k11, k12, k13, k14, k15, E_ok, E_pek, E_pbk, F_o_addedFromk, F_o_addedTok, F_o_earlierOutk, F_o_earlierInk, F_o_pendingk, F_o_pendingBackk, F_o_firstOutk, F_o_firstInk, F_o_placek, F_o_latestOutk, F_o_latestInk, F_o_metInk, F_o_metBackk, F_o_addedk, F_o_searchesk, F_pe_countk, F_pe_nodesk, F_pb_countk, F_pb_nodesk, A_xak, A_xbk, A_xck, A_xdk, A_xnk, A_xmk, A_fok, A_fik, A_plk, A_yok, A_yik, A_ymk, A_ybk⟩)
        · have bt2 := own_inv_ft I eg.toInt.toNat (by omega)
          refine g_aloadN X49 hx hby d17_381 (pc' := 382) rfl rfl rfl ?_
          refine g_aloadN X49 hx hby d17_382 (pc' := 383) rfl rfl rfl ?_
          refine g_getF X49 hx hby hZ hown e49 (hw _ (List.mem_of_getElem? (i := 11) rfl)) F_o_addedFromk d17_383 (pc' := 386) rfl (fun T52 X52 e52 => ?_)
          refine g_iload X52 hx hby d17_386 (pc' := 388) rfl rfl ?_
          refine a_iaload X52 hx hby hZ e52 A_xak (by omega) (by omega) (v := (.int (fr eg.toInt.toNat))) (rfl) d17_388 (pc' := 389) rfl ?_
          refine g_iload X52 hx hby d17_389 (pc' := 391) rfl rfl ?_
          refine g_iload X52 hx hby d17_391 (pc' := 393) rfl rfl ?_
          refine g_iload X52 hx hby d17_393 (pc' := 395) rfl rfl ?_
          refine g_private X52 hx hby hZ hown hml rfl (hw _ (List.mem_of_getElem? (i := 165) rfl)) (hw _ (List.mem_of_getElem? (i := 166) rfl)) (own_selP (hw _ (List.mem_of_getElem? (i := 115) rfl)) (hw _ (List.mem_of_getElem? (i := 114) rfl)) rfl (hw _ (List.mem_of_getElem? (i := 167) rfl)) (hw _ (List.mem_of_getElem? (i := 166) rfl)) (by decide)) (hw _ (List.mem_of_getElem? (i := 167) rfl)) (hw _ (List.mem_of_getElem? (i := 3) rfl)) (hw _ (List.mem_of_getElem? (i := 168) rfl)) (by decide) e52 (rm_meetBack l Z a0 hw o (fr eg.toInt.toNat) rp9 rp15 uf n0 pb xm pl ym yb ck pk mj mk hp49 Zk g_o (Nat.lt_trans (Nat.lt_trans (Nat.lt_trans (Nat.lt_trans (Nat.lt_trans (Nat.lt_trans k1 k2) k3) k4) k5) k6) k7) k8 (Nat.lt_trans (Nat.lt_trans k9 k10) k11) (Nat.lt_trans (Nat.lt_trans k12 k13) k14) k15 E_ok E_pbk F_o_pendingBackk F_o_placek F_o_metInk F_o_metBackk F_pb_countk F_pb_nodesk A_xmk A_plk A_ymk A_ybk ⟨by omega, by omega⟩ (by rcases hck with z | ⟨z, -⟩ <;> omega)) pd__IIII_Z_463 E_ok (argsL := [(.int (fr eg.toInt.toNat)), (.int rp9), (.int rp15), (.int uf)]) (rest := []) rfl rfl rfl d17_395 (pc' := 398) rfl (by decide) (Nat.le_of_ble_eq_true rfl) (by decide) (by decide) ?_
          intro Tp395 vp395 Lp395 Xp395 qp395
          obtain ⟨rp395, mjp395, pjp395, cjp395, rfl, Nqp395, Fcp395, Fnp395, Amp395, Axp395, Kqp395, hqp395⟩ := qp395
          replace Xp395 : Stand p l e ({ frames := 2, cells := 0, slots := 0, locals := 32 } : Room) s m _ below meth c Tp395 _ 0 0 := Xp395
          replace E_ok := E_ok.keep Kqp395
          replace E_pek := E_pek.keep Kqp395
          replace E_pbk := E_pbk.keep Kqp395
          replace F_o_addedFromk := F_o_addedFromk.keep Kqp395 (ninS ne_o_yb (ninS ne_o_pb (ninS ne_o_xm nin0)))
          replace F_o_addedTok := F_o_addedTok.keep Kqp395 (ninS ne_o_yb (ninS ne_o_pb (ninS ne_o_xm nin0)))
          replace F_o_earlierOutk := F_o_earlierOutk.keep Kqp395 (ninS ne_o_yb (ninS ne_o_pb (ninS ne_o_xm nin0)))
          replace F_o_earlierInk := F_o_earlierInk.keep Kqp395 (ninS ne_o_yb (ninS ne_o_pb (ninS ne_o_xm nin0)))
          replace F_o_pendingk := F_o_pendingk.keep Kqp395 (ninS ne_o_yb (ninS ne_o_pb (ninS ne_o_xm nin0)))
          replace F_o_pendingBackk := F_o_pendingBackk.keep Kqp395 (ninS ne_o_yb (ninS ne_o_pb (ninS ne_o_xm nin0)))
          replace F_o_firstOutk := F_o_firstOutk.keep Kqp395 (ninS ne_o_yb (ninS ne_o_pb (ninS ne_o_xm nin0)))
          replace F_o_firstInk := F_o_firstInk.keep Kqp395 (ninS ne_o_yb (ninS ne_o_pb (ninS ne_o_xm nin0)))
          replace F_o_placek := F_o_placek.keep Kqp395 (ninS ne_o_yb (ninS ne_o_pb (ninS ne_o_xm nin0)))
          replace F_o_latestOutk := F_o_latestOutk.keep Kqp395 (ninS ne_o_yb (ninS ne_o_pb (ninS ne_o_xm nin0)))
          replace F_o_latestInk := F_o_latestInk.keep Kqp395 (ninS ne_o_yb (ninS ne_o_pb (ninS ne_o_xm nin0)))
          replace F_o_metInk := F_o_metInk.keep Kqp395 (ninS ne_o_yb (ninS ne_o_pb (ninS ne_o_xm nin0)))
          replace F_o_metBackk := F_o_metBackk.keep Kqp395 (ninS ne_o_yb (ninS ne_o_pb (ninS ne_o_xm nin0)))
          replace F_o_addedk := F_o_addedk.keep Kqp395 (ninS ne_o_yb (ninS ne_o_pb (ninS ne_o_xm nin0)))
          replace F_o_searchesk := F_o_searchesk.keep Kqp395 (ninS ne_o_yb (ninS ne_o_pb (ninS ne_o_xm nin0)))
          replace F_pe_countk := F_pe_countk.keep Kqp395 (ninS ne_pe_yb (ninS ne_pe_pb (ninS ne_pe_xm nin0)))
          replace F_pe_nodesk := F_pe_nodesk.keep Kqp395 (ninS ne_pe_yb (ninS ne_pe_pb (ninS ne_pe_xm nin0)))
          replace A_xak := A_xak.keep Kqp395 (ninS ne_xa_yb (ninS ne_xa_pb (ninS ne_xa_xm nin0)))
          replace A_xbk := A_xbk.keep Kqp395 (ninS ne_xb_yb (ninS ne_xb_pb (ninS ne_xb_xm nin0)))
          replace A_xck := A_xck.keep Kqp395 (ninS ne_xc_yb (ninS ne_xc_pb (ninS ne_xc_xm nin0)))
          replace A_xdk := A_xdk.keep Kqp395 (ninS ne_xd_yb (ninS ne_xd_pb (ninS ne_xd_xm nin0)))
          replace A_xnk := A_xnk.keep Kqp395 (ninS ne_xn_yb (ninS ne_xn_pb (ninS ne_xn_xm nin0)))
          replace A_fok := A_fok.keep Kqp395 (ninS ne_fo_yb (ninS (Ne.symm ne_pb_fo) (ninS (Ne.symm ne_xm_fo) nin0)))
          replace A_fik := A_fik.keep Kqp395 (ninS ne_fi_yb (ninS (Ne.symm ne_pb_fi) (ninS (Ne.symm ne_xm_fi) nin0)))
          replace A_plk := A_plk.keep Kqp395 (ninS ne_pl_yb (ninS (Ne.symm ne_pb_pl) (ninS (Ne.symm ne_xm_pl) nin0)))
          replace A_yok := A_yok.keep Kqp395 (ninS ne_yo_yb (ninS (Ne.symm ne_pb_yo) (ninS (Ne.symm ne_xm_yo) nin0)))
          replace A_yik := A_yik.keep Kqp395 (ninS ne_yi_yb (ninS (Ne.symm ne_pb_yi) (ninS (Ne.symm ne_xm_yi) nin0)))
          replace A_ymk := A_ymk.keep Kqp395 (ninS ne_ym_yb (ninS (Ne.symm ne_pb_ym) (ninS (Ne.symm ne_xm_ym) nin0)))
          have Z53 : n0 ≤ Tp395.heap.size := Nat.le_trans Zk Kqp395.1
          have Np395 := Fr.app N49 Nqp395
          show Go p e below EF (QDr Z n0 o (q + 1) uk cd (own_PRg uf ut uk.toInt.toNat fr tt)) m Tp395 398 #[.val (.ref o), .val (.int uf), .val (.ref ta), .val (.int (0 : Int32)), .val (.int (1 : Int32)), .val (.int uf), .val (.int rp9), .val (.int rp15), .val (.int ut), .val (.int ut), .val (.int eg)] [(.int rp395)]
          refine g_ifeq Xp395 hx hby d17_398 (pt := 403) (pf := 401) (by decide) (by decide) rfl (fun (h398 : rp395 = (0 : Int32)) => ?_) (fun (h398 : ¬ rp395 = (0 : Int32)) => ?_)
          · have h398i : rp395.toInt = 0 := congrArg Int32.toInt h398
            have hstep2 : own_H2 ut rp9 rp15 uk.toInt.toNat fr tt mj mjp395 cjp395 (ei eg.toInt.toNat) := by
              rcases hqp395 with ⟨z, -⟩ | ⟨-, z, z2⟩
              · exact absurd (z.symm.trans h398) (by decide)
              · refine own_H2_step (uf := uf) I H2 (by omega) hft.1 z ?_
                rcases z2 with ⟨-, y2, y3⟩ | ⟨⟨y1, y2⟩, y3, y4⟩
                · exact Or.inl ⟨y2, y3⟩
                · exact Or.inr ⟨y1, y2, y3, y4⟩
            have hpr := (I.2.2.2.2.2.2.1 eg.toInt.toNat (by omega))
            have hpr1 := hpr.1
            have hpr2 := hpr.2.1
            refine g_aloadN Xp395 hx hby d17_403 (pc' := 404) rfl rfl rfl ?_
            refine g_getF Xp395 hx hby hZ hown rfl (hw _ (List.mem_of_getElem? (i := 17) rfl)) F_o_earlierInk d17_404 (pc' := 407) rfl (fun T54 X54 e54 => ?_)
            refine g_iload X54 hx hby d17_407 (pc' := 409) rfl rfl ?_
            refine a_iaload X54 hx hby hZ e54 A_xdk (by omega) (by omega) (v := (.int (ei eg.toInt.toNat))) (rfl) d17_409 (pc' := 410) rfl ?_
            refine g_istore X54 hx hby d17_410 (pc' := 412) rfl (Ls' := #[.val (.ref o), .val (.int uf), .val (.ref ta), .val (.int (0 : Int32)), .val (.int (1 : Int32)), .val (.int uf), .val (.int rp9), .val (.int rp15), .val (.int ut), .val (.int ut), .val (.int (ei eg.toInt.toNat))]) rfl ?_
            refine g_goto X54 hx hby d17_412 (pc' := 376) (by decide) (by decide) ?_
            exact ih _ (by omega) _ _ X54 _ e54 Np395 (ei eg.toInt.toNat) _ _ _ E_ok E_pek E_pbk F_o_addedFromk F_o_addedTok F_o_earlierOutk F_o_earlierInk F_o_pendingk F_o_pendingBackk F_o_firstOutk F_o_firstInk F_o_placek F_o_latestOutk F_o_latestInk F_o_metInk F_o_metBackk F_o_addedk F_o_searchesk F_pe_countk F_pe_nodesk Fcp395 Fnp395 A_xak A_xbk A_xck A_xdk A_xnk Axp395 A_fok A_fik A_plk A_yok A_yik A_ymk Amp395 Z53 hstep2 rfl
          · have h398i : ¬ rp395.toInt = 0 := fun q => h398 (Int32.toInt_inj.mp q)
            have hfound2 : mj (fr eg.toInt.toNat).toInt.toNat = rp9 := by
              rcases hqp395 with ⟨-, z, -, -⟩ | ⟨z, -⟩
              · exact z
              · exact absurd z h398
            have hble2 : ∀ n, n < 3 → (mjp395 n).toInt ≤ rp15.toInt := by
              rcases hqp395 with ⟨-, -, z, -⟩ | ⟨z, -⟩
              · intro n hn; rw [z]; exact H2.2.2.1 n hn
              · exact absurd z h398
            refine g_iconst Xp395 hx hby d17_401 (pc' := 402) rfl (n := (1 : Int32)) (by first | rfl | decide) ?_
            exact g_retZ Xp395 hx hby hF (Nat.zero_le _) hlk (Or.inr rfl) hret d17_402 (by decide) (by decide) (⟨_, rfl, Or.inl ⟨rfl, own_ret2 I H1 ⟨by omega, by omega⟩ (hb2.2.2 (by omega)) hfound2⟩, Np395, rp15, cj, cjp395, fr, tt, eo, ei, lo, li, mj, mjp395, pj, pjp395, xa, xb, xc, xd, pe, xn, pb, xm, fo, fi, pl, yo, yi, ym, yb, (own_inv_s I (by omega) (fun n hn => ⟨Int.le_trans (H1.2.2.2.2.2.1 n hn) (by omega), hble2 n hn⟩)), hk0, g_o, k1, k2, k3, k4, k5, k6, k7, k8, k9, k10, k11, k12, k13, k14, k15, E_ok, E_pek, E_pbk, F_o_addedFromk, F_o_addedTok, F_o_earlierOutk, F_o_earlierInk, F_o_pendingk, F_o_pendingBackk, F_o_firstOutk, F_o_firstInk, F_o_placek, F_o_latestOutk, F_o_latestInk, F_o_metInk, F_o_metBackk, F_o_addedk, F_o_searchesk, F_pe_countk, F_pe_nodesk, Fcp395, Fnp395, A_xak, A_xbk, A_xck, A_xdk, A_xnk, Axp395, A_fok, A_fik, A_plk, A_yok, A_yik, A_ymk, Amp395⟩)
    · have bt := own_inv_ft I ed.toInt.toNat (by omega)
      refine g_aloadN X39 hx hby d17_258 (pc' := 259) rfl rfl rfl ?_
      refine g_aloadN X39 hx hby d17_259 (pc' := 260) rfl rfl rfl ?_
      refine g_getF X39 hx hby hZ hown e39 (hw _ (List.mem_of_getElem? (i := 13) rfl)) F_o_addedToj d17_260 (pc' := 263) rfl (fun T55 X55 e55 => ?_)
      refine g_iload X55 hx hby d17_263 (pc' := 265) rfl rfl ?_
      refine a_iaload X55 hx hby hZ e55 A_xbj (by omega) (by omega) (v := (.int (tt ed.toInt.toNat))) (rfl) d17_265 (pc' := 266) rfl ?_
      refine g_iload X55 hx hby d17_266 (pc' := 268) rfl rfl ?_
      refine g_iload X55 hx hby d17_268 (pc' := 270) rfl rfl ?_
      refine g_iload X55 hx hby d17_270 (pc' := 272) rfl rfl ?_
      refine g_private X55 hx hby hZ hown hml rfl (hw _ (List.mem_of_getElem? (i := 161) rfl)) (hw _ (List.mem_of_getElem? (i := 162) rfl)) (own_selP (hw _ (List.mem_of_getElem? (i := 115) rfl)) (hw _ (List.mem_of_getElem? (i := 114) rfl)) rfl (hw _ (List.mem_of_getElem? (i := 163) rfl)) (hw _ (List.mem_of_getElem? (i := 162) rfl)) (by decide)) (hw _ (List.mem_of_getElem? (i := 163) rfl)) (hw _ (List.mem_of_getElem? (i := 3) rfl)) (hw _ (List.mem_of_getElem? (i := 164) rfl)) (by decide) e55 (rm_meetOn l Z a0 hw o (tt ed.toInt.toNat) rp9 rp15 ut n0 pe xn pl ym yb cj pj mj (own_ui mb ut.toInt.toNat rp15) hp39 Zj g_o (Nat.lt_trans (Nat.lt_trans (Nat.lt_trans (Nat.lt_trans k1 k2) k3) k4) k5) k6 (Nat.lt_trans (Nat.lt_trans (Nat.lt_trans (Nat.lt_trans k7 k8) k9) k10) k11) (Nat.lt_trans (Nat.lt_trans k12 k13) k14) k15 E_oj E_pej F_o_pendingj F_o_placej F_o_metInj F_o_metBackj F_pe_countj F_pe_nodesj A_xnj A_plj A_ymj A_ybj ⟨by omega, by omega⟩ (by rcases hcj with z | ⟨z, -⟩ <;> omega)) pd__IIII_Z_463 E_oj (argsL := [(.int (tt ed.toInt.toNat)), (.int rp9), (.int rp15), (.int ut)]) (rest := []) rfl rfl rfl d17_272 (pc' := 275) rfl (by decide) (Nat.le_of_ble_eq_true rfl) (by decide) (by decide) ?_
      intro Tp272 vp272 Lp272 Xp272 qp272
      obtain ⟨rp272, mjp272, pjp272, cjp272, rfl, Nqp272, Fcp272, Fnp272, Amp272, Axp272, Kqp272, hqp272⟩ := qp272
      replace Xp272 : Stand p l e ({ frames := 2, cells := 0, slots := 0, locals := 32 } : Room) s m _ below meth c Tp272 _ 0 0 := Xp272
      replace E_oj := E_oj.keep Kqp272
      replace E_pej := E_pej.keep Kqp272
      replace E_pbj := E_pbj.keep Kqp272
      replace F_o_addedFromj := F_o_addedFromj.keep Kqp272 (ninS ne_o_ym (ninS ne_o_pe (ninS ne_o_xn nin0)))
      replace F_o_addedToj := F_o_addedToj.keep Kqp272 (ninS ne_o_ym (ninS ne_o_pe (ninS ne_o_xn nin0)))
      replace F_o_earlierOutj := F_o_earlierOutj.keep Kqp272 (ninS ne_o_ym (ninS ne_o_pe (ninS ne_o_xn nin0)))
      replace F_o_earlierInj := F_o_earlierInj.keep Kqp272 (ninS ne_o_ym (ninS ne_o_pe (ninS ne_o_xn nin0)))
      replace F_o_pendingj := F_o_pendingj.keep Kqp272 (ninS ne_o_ym (ninS ne_o_pe (ninS ne_o_xn nin0)))
      replace F_o_pendingBackj := F_o_pendingBackj.keep Kqp272 (ninS ne_o_ym (ninS ne_o_pe (ninS ne_o_xn nin0)))
      replace F_o_firstOutj := F_o_firstOutj.keep Kqp272 (ninS ne_o_ym (ninS ne_o_pe (ninS ne_o_xn nin0)))
      replace F_o_firstInj := F_o_firstInj.keep Kqp272 (ninS ne_o_ym (ninS ne_o_pe (ninS ne_o_xn nin0)))
      replace F_o_placej := F_o_placej.keep Kqp272 (ninS ne_o_ym (ninS ne_o_pe (ninS ne_o_xn nin0)))
      replace F_o_latestOutj := F_o_latestOutj.keep Kqp272 (ninS ne_o_ym (ninS ne_o_pe (ninS ne_o_xn nin0)))
      replace F_o_latestInj := F_o_latestInj.keep Kqp272 (ninS ne_o_ym (ninS ne_o_pe (ninS ne_o_xn nin0)))
      replace F_o_metInj := F_o_metInj.keep Kqp272 (ninS ne_o_ym (ninS ne_o_pe (ninS ne_o_xn nin0)))
      replace F_o_metBackj := F_o_metBackj.keep Kqp272 (ninS ne_o_ym (ninS ne_o_pe (ninS ne_o_xn nin0)))
      replace F_o_addedj := F_o_addedj.keep Kqp272 (ninS ne_o_ym (ninS ne_o_pe (ninS ne_o_xn nin0)))
      replace F_o_searchesj := F_o_searchesj.keep Kqp272 (ninS ne_o_ym (ninS ne_o_pe (ninS ne_o_xn nin0)))
      replace F_pb_countj := F_pb_countj.keep Kqp272 (ninS ne_pb_ym (ninS (Ne.symm ne_pe_pb) (ninS (Ne.symm ne_xn_pb) nin0)))
      replace F_pb_nodesj := F_pb_nodesj.keep Kqp272 (ninS ne_pb_ym (ninS (Ne.symm ne_pe_pb) (ninS (Ne.symm ne_xn_pb) nin0)))
      replace A_xaj := A_xaj.keep Kqp272 (ninS ne_xa_ym (ninS ne_xa_pe (ninS ne_xa_xn nin0)))
      replace A_xbj := A_xbj.keep Kqp272 (ninS ne_xb_ym (ninS ne_xb_pe (ninS ne_xb_xn nin0)))
      replace A_xcj := A_xcj.keep Kqp272 (ninS ne_xc_ym (ninS ne_xc_pe (ninS ne_xc_xn nin0)))
      replace A_xdj := A_xdj.keep Kqp272 (ninS ne_xd_ym (ninS ne_xd_pe (ninS ne_xd_xn nin0)))
      replace A_xmj := A_xmj.keep Kqp272 (ninS ne_xm_ym (ninS (Ne.symm ne_pe_xm) (ninS (Ne.symm ne_xn_xm) nin0)))
      replace A_foj := A_foj.keep Kqp272 (ninS ne_fo_ym (ninS (Ne.symm ne_pe_fo) (ninS (Ne.symm ne_xn_fo) nin0)))
      replace A_fij := A_fij.keep Kqp272 (ninS ne_fi_ym (ninS (Ne.symm ne_pe_fi) (ninS (Ne.symm ne_xn_fi) nin0)))
      replace A_plj := A_plj.keep Kqp272 (ninS ne_pl_ym (ninS (Ne.symm ne_pe_pl) (ninS (Ne.symm ne_xn_pl) nin0)))
      replace A_yoj := A_yoj.keep Kqp272 (ninS ne_yo_ym (ninS (Ne.symm ne_pe_yo) (ninS (Ne.symm ne_xn_yo) nin0)))
      replace A_yij := A_yij.keep Kqp272 (ninS ne_yi_ym (ninS (Ne.symm ne_pe_yi) (ninS (Ne.symm ne_xn_yi) nin0)))
      replace A_ybj := A_ybj.keep Kqp272 (ninS (Ne.symm ne_ym_yb) (ninS (Ne.symm ne_pe_yb) (ninS (Ne.symm ne_xn_yb) nin0)))
      have Z56 : n0 ≤ Tp272.heap.size := Nat.le_trans Zj Kqp272.1
      have Np272 := Fr.app N39 Nqp272
      show Go p e below EF (QDr Z n0 o (q + 1) uk cd (own_PRg uf ut uk.toInt.toNat fr tt)) m Tp272 275 #[.val (.ref o), .val (.int uf), .val (.ref ta), .val (.int (0 : Int32)), .val (.int (1 : Int32)), .val (.int uf), .val (.int rp9), .val (.int rp15), .val (.int ut), .val (.int uf), .val (.int ed)] [(.int rp272)]
      refine g_ifeq Xp272 hx hby d17_275 (pt := 280) (pf := 278) (by decide) (by decide) rfl (fun (h275 : rp272 = (0 : Int32)) => ?_) (fun (h275 : ¬ rp272 = (0 : Int32)) => ?_)
      · have h275i : rp272.toInt = 0 := congrArg Int32.toInt h275
        have hstep : own_H1 uf ut rp9 uk.toInt.toNat fr tt mjp272 cjp272 (eo ed.toInt.toNat) := by
          rcases hqp272 with ⟨z, -⟩ | ⟨-, z, z2⟩
          · exact absurd (z.symm.trans h275) (by decide)
          · refine own_H1_step I H1 (by omega) ⟨by omega, hft.2.2⟩ (fun y => z ((own_mark (b := sc.toInt) (fun n hn => (I.2.2.2.2.2.2.2 n hn).2) (by omega) ⟨by omega, hft.2.2⟩ (tt ed.toInt.toNat) ⟨by omega, by omega⟩).mpr y)) ?_
            rcases z2 with ⟨y1, y2, y3⟩ | ⟨⟨y1, y2⟩, y3, y4⟩
            · exact Or.inl ⟨y1, y2, y3⟩
            · exact Or.inr ⟨y1, y2, y3, y4⟩
        have hpr := (I.2.2.2.2.1 ed.toInt.toNat (by omega))
        have hpr1 := hpr.1
        have hpr2 := hpr.2.1
        refine g_aloadN Xp272 hx hby d17_280 (pc' := 281) rfl rfl rfl ?_
        refine g_getF Xp272 hx hby hZ hown rfl (hw _ (List.mem_of_getElem? (i := 15) rfl)) F_o_earlierOutj d17_281 (pc' := 284) rfl (fun T57 X57 e57 => ?_)
        refine g_iload X57 hx hby d17_284 (pc' := 286) rfl rfl ?_
        refine a_iaload X57 hx hby hZ e57 A_xcj (by omega) (by omega) (v := (.int (eo ed.toInt.toNat))) (rfl) d17_286 (pc' := 287) rfl ?_
        refine g_istore X57 hx hby d17_287 (pc' := 289) rfl (Ls' := #[.val (.ref o), .val (.int uf), .val (.ref ta), .val (.int (0 : Int32)), .val (.int (1 : Int32)), .val (.int uf), .val (.int rp9), .val (.int rp15), .val (.int ut), .val (.int uf), .val (.int (eo ed.toInt.toNat))]) rfl ?_
        refine g_goto X57 hx hby d17_289 (pc' := 253) (by decide) (by decide) ?_
        exact ih _ (by omega) _ _ X57 _ e57 Np272 (eo ed.toInt.toNat) _ _ _ E_oj E_pej E_pbj F_o_addedFromj F_o_addedToj F_o_earlierOutj F_o_earlierInj F_o_pendingj F_o_pendingBackj F_o_firstOutj F_o_firstInj F_o_placej F_o_latestOutj F_o_latestInj F_o_metInj F_o_metBackj F_o_addedj F_o_searchesj Fcp272 Fnp272 F_pb_countj F_pb_nodesj A_xaj A_xbj A_xcj A_xdj Axp272 A_xmj A_foj A_fij A_plj A_yoj A_yij Amp272 A_ybj Z56 hstep rfl
      · have h275i : ¬ rp272.toInt = 0 := fun q => h275 (Int32.toInt_inj.mp q)
        have hfound : tt ed.toInt.toNat = ut := by
          rcases hqp272 with ⟨-, z, -, -⟩ | ⟨z, -⟩
          · exact (own_mark (b := sc.toInt) (fun n hn => (I.2.2.2.2.2.2.2 n hn).2) (by omega) ⟨by omega, hft.2.2⟩ (tt ed.toInt.toNat) ⟨by omega, by omega⟩).mp z
          · exact absurd z h275
        have hjk : ed.toInt.toNat < uk.toInt.toNat := by omega
        have hmle : ∀ n, n < 3 → (mjp272 n).toInt ≤ rp15.toInt := by
          rcases hqp272 with ⟨-, -, z, -⟩ | ⟨z, -⟩
          · intro n hn; rw [z]; exact Int.le_trans (H1.2.2.2.2.2.1 n hn) (by omega)
          · exact absurd z h275
        have hble : ∀ n, n < 3 → ((own_ui mb ut.toInt.toNat rp15) n).toInt ≤ rp15.toInt := (own_H2_start (on := rp9) (mj := mj) I ⟨by omega, hft.2.2⟩ (by omega)).2.2.1
        refine g_iconst Xp272 hx hby d17_278 (pc' := 279) rfl (n := (1 : Int32)) (by first | rfl | decide) ?_
        exact g_retZ Xp272 hx hby hF (Nat.zero_le _) hlk (Or.inr rfl) hret d17_279 (by decide) (by decide) (⟨_, rfl, Or.inl ⟨rfl, Or.inl ⟨_, hjk, hb1.2.2 (by omega), hfound⟩⟩, Np272, rp15, cjp272, (1 : Int32), fr, tt, eo, ei, lo, li, mjp272, (own_ui mb ut.toInt.toNat rp15), pjp272, (own_ui pq (0 : Int32).toInt.toNat ut), xa, xb, xc, xd, pe, xn, pb, xm, fo, fi, pl, yo, yi, ym, yb, (own_inv_s I (by omega) (fun n hn => ⟨hmle n hn, hble n hn⟩)), hk0, g_o, k1, k2, k3, k4, k5, k6, k7, k8, k9, k10, k11, k12, k13, k14, k15, E_oj, E_pej, E_pbj, F_o_addedFromj, F_o_addedToj, F_o_earlierOutj, F_o_earlierInj, F_o_pendingj, F_o_pendingBackj, F_o_firstOutj, F_o_firstInj, F_o_placej, F_o_latestOutj, F_o_latestInj, F_o_metInj, F_o_metBackj, F_o_addedj, F_o_searchesj, Fcp272, Fnp272, F_pb_countj, F_pb_nodesj, A_xaj, A_xbj, A_xcj, A_xdj, Axp272, A_xmj, A_foj, A_fij, A_plj, A_yoj, A_yij, Amp272, A_ybj⟩)
theorem own_bool_iffc {b : Int32} {P P' : Prop} (h : own_bool b P) (i : P ↔ P') : own_bool b P' := h.elim (fun z => Or.inl ⟨z.1, i.mp z.2⟩) (fun z => Or.inr ⟨z.1, fun y => z.2 (i.mpr y)⟩)
theorem ef_16_rm_re (m : MethodId) (o : Addr) (uf : Int32) (ut : Int32) : entryFrame m #[(.ref o), (.int uf), (.int ut)] 3 = mkF m 0 #[.val (.ref o), .val (.int uf), .val (.int ut)] [] := by first | (simp [entryFrame, mkF, argsToLocals, Value.category]; done) | rfl
theorem pn_16 : plainName "com/example/isolens/isolens/checker/DynamicOrder" = true := by first | (simp [plainName, overriddenIn]; done) | decide +kernel
theorem d16_0 : decode prog_17_method_2_code 0 = .ok (.aload_n 0, 1) := by decide +kernel
theorem d16_1 : decode prog_17_method_2_code 1 = .ok (.iload_n 1, 1) := by decide +kernel
theorem d16_2 : decode prog_17_method_2_code 2 = .ok (.iconst 1, 1) := by decide +kernel
theorem d16_3 : decode prog_17_method_2_code 3 = .ok (.newarray .int, 2) := by decide +kernel
theorem d16_5 : decode prog_17_method_2_code 5 = .ok (.dup, 1) := by decide +kernel
theorem d16_6 : decode prog_17_method_2_code 6 = .ok (.iconst 0, 1) := by decide +kernel
theorem d16_7 : decode prog_17_method_2_code 7 = .ok (.iload_n 2, 1) := by decide +kernel
theorem d16_8 : decode prog_17_method_2_code 8 = .ok (.iastore, 1) := by decide +kernel
theorem d16_9 : decode prog_17_method_2_code 9 = .ok (.iconst 0, 1) := by decide +kernel
theorem d16_10 : decode prog_17_method_2_code 10 = .ok (.iconst 1, 1) := by decide +kernel
theorem d16_11 : decode prog_17_method_2_code 11 = .ok (.invokevirtual 102, 3) := by decide +kernel
theorem pd__I_III_Z_554 : parseMethodDescriptor "(I[III)Z" = some ⟨[.int, (.array .int), .int, .int], some .boolean⟩ := by decide +kernel
theorem d16_14 : decode prog_17_method_2_code 14 = .ok (.ireturn, 1) := by decide +kernel
set_option maxRecDepth 65536 in
set_option maxHeartbeats 40000000 in
theorem rm_re (l : Launch) (Z : State) (a0 : Array Value) (hw : ∀ d ∈ tables_1, d.before a0 Z = true) (o : Addr) (uf : Int32) (ut : Int32) (n0 q : Nat) (uk : Int32) (cd : Nat → Int32) (h0 : Heap) (Z0 : n0 ≤ h0.size) (D : DOL Z n0 h0 o q uk cd) (hft : 0 ≤ uf.toInt ∧ uf.toInt < ut.toInt ∧ ut.toInt ≤ 2) (hq : q < 10) :
    Ct l Z (⟨"com/example/isolens/isolens/checker/DynamicOrder", "reaches", "(II)Z"⟩ : MethodName) prog_17_method_2_code 3 (some .boolean) ({ frames := 3, cells := 1, slots := 1, locals := 56 } : Room) #[(.ref o), (.int uf), (.int ut)] h0 (QDr Z n0 o (q + 1) uk cd (own_PRg uf ut uk.toInt.toNat (fun j => own_fr (cd j)) (fun j => own_to (cd j)))) := by
  refine own_met (plainFor_of_name pn_16) (fun m => ef_16_rm_re m o uf ut) ?_
  intro p e s m below meth c T0 EF X0 hx hby hml hown hnm hret hlk hZ hF e0
  have N0 := Fr.nil n0
  obtain ⟨sc, cp, cb, fr, tt, eo, ei, lo, li, mi, mb, pn, pq, xa, xb, xc, xd, pe, xn, pb, xm, fo, fi, pl, yo, yi, ym, yb, I, hk0, g_o, k1, k2, k3, k4, k5, k6, k7, k8, k9, k10, k11, k12, k13, k14, k15, E_o, E_pe, E_pb, F_o_addedFrom, F_o_addedTo, F_o_earlierOut, F_o_earlierIn, F_o_pending, F_o_pendingBack, F_o_firstOut, F_o_firstIn, F_o_place, F_o_latestOut, F_o_latestIn, F_o_metIn, F_o_metBack, F_o_added, F_o_searches, F_pe_count, F_pe_nodes, F_pb_count, F_pb_nodes, A_xa, A_xb, A_xc, A_xd, A_xn, A_xm, A_fo, A_fi, A_pl, A_yo, A_yi, A_ym, A_yb⟩ := D
  have ne_o_xa : o ≠ xa := Nat.ne_of_lt k1
  have ne_o_xb : o ≠ xb := Nat.ne_of_lt (Nat.lt_trans k1 k2)
  have ne_o_xc : o ≠ xc := Nat.ne_of_lt (Nat.lt_trans (Nat.lt_trans k1 k2) k3)
  have ne_o_xd : o ≠ xd := Nat.ne_of_lt (Nat.lt_trans (Nat.lt_trans (Nat.lt_trans k1 k2) k3) k4)
  have ne_o_pe : o ≠ pe := Nat.ne_of_lt (Nat.lt_trans (Nat.lt_trans (Nat.lt_trans (Nat.lt_trans k1 k2) k3) k4) k5)
  have ne_o_xn : o ≠ xn := Nat.ne_of_lt (Nat.lt_trans (Nat.lt_trans (Nat.lt_trans (Nat.lt_trans (Nat.lt_trans k1 k2) k3) k4) k5) k6)
  have ne_o_pb : o ≠ pb := Nat.ne_of_lt (Nat.lt_trans (Nat.lt_trans (Nat.lt_trans (Nat.lt_trans (Nat.lt_trans (Nat.lt_trans k1 k2) k3) k4) k5) k6) k7)
  have ne_o_xm : o ≠ xm := Nat.ne_of_lt (Nat.lt_trans (Nat.lt_trans (Nat.lt_trans (Nat.lt_trans (Nat.lt_trans (Nat.lt_trans (Nat.lt_trans k1 k2) k3) k4) k5) k6) k7) k8)
  have ne_o_fo : o ≠ fo := Nat.ne_of_lt (Nat.lt_trans (Nat.lt_trans (Nat.lt_trans (Nat.lt_trans (Nat.lt_trans (Nat.lt_trans (Nat.lt_trans (Nat.lt_trans k1 k2) k3) k4) k5) k6) k7) k8) k9)
  have ne_o_fi : o ≠ fi := Nat.ne_of_lt (Nat.lt_trans (Nat.lt_trans (Nat.lt_trans (Nat.lt_trans (Nat.lt_trans (Nat.lt_trans (Nat.lt_trans (Nat.lt_trans (Nat.lt_trans k1 k2) k3) k4) k5) k6) k7) k8) k9) k10)
  have ne_o_pl : o ≠ pl := Nat.ne_of_lt (Nat.lt_trans (Nat.lt_trans (Nat.lt_trans (Nat.lt_trans (Nat.lt_trans (Nat.lt_trans (Nat.lt_trans (Nat.lt_trans (Nat.lt_trans (Nat.lt_trans k1 k2) k3) k4) k5) k6) k7) k8) k9) k10) k11)
  have ne_o_yo : o ≠ yo := Nat.ne_of_lt (Nat.lt_trans (Nat.lt_trans (Nat.lt_trans (Nat.lt_trans (Nat.lt_trans (Nat.lt_trans (Nat.lt_trans (Nat.lt_trans (Nat.lt_trans (Nat.lt_trans (Nat.lt_trans k1 k2) k3) k4) k5) k6) k7) k8) k9) k10) k11) k12)
  have ne_o_yi : o ≠ yi := Nat.ne_of_lt (Nat.lt_trans (Nat.lt_trans (Nat.lt_trans (Nat.lt_trans (Nat.lt_trans (Nat.lt_trans (Nat.lt_trans (Nat.lt_trans (Nat.lt_trans (Nat.lt_trans (Nat.lt_trans (Nat.lt_trans k1 k2) k3) k4) k5) k6) k7) k8) k9) k10) k11) k12) k13)
  have ne_o_ym : o ≠ ym := Nat.ne_of_lt (Nat.lt_trans (Nat.lt_trans (Nat.lt_trans (Nat.lt_trans (Nat.lt_trans (Nat.lt_trans (Nat.lt_trans (Nat.lt_trans (Nat.lt_trans (Nat.lt_trans (Nat.lt_trans (Nat.lt_trans (Nat.lt_trans k1 k2) k3) k4) k5) k6) k7) k8) k9) k10) k11) k12) k13) k14)
  have ne_o_yb : o ≠ yb := Nat.ne_of_lt (Nat.lt_trans (Nat.lt_trans (Nat.lt_trans (Nat.lt_trans (Nat.lt_trans (Nat.lt_trans (Nat.lt_trans (Nat.lt_trans (Nat.lt_trans (Nat.lt_trans (Nat.lt_trans (Nat.lt_trans (Nat.lt_trans (Nat.lt_trans k1 k2) k3) k4) k5) k6) k7) k8) k9) k10) k11) k12) k13) k14) k15)
  have ne_xa_xb : xa ≠ xb := Nat.ne_of_lt k2
  have ne_xa_xc : xa ≠ xc := Nat.ne_of_lt (Nat.lt_trans k2 k3)
  have ne_xa_xd : xa ≠ xd := Nat.ne_of_lt (Nat.lt_trans (Nat.lt_trans k2 k3) k4)
  have ne_xa_pe : xa ≠ pe := Nat.ne_of_lt (Nat.lt_trans (Nat.lt_trans (Nat.lt_trans k2 k3) k4) k5)
  have ne_xa_xn : xa ≠ xn := Nat.ne_of_lt (Nat.lt_trans (Nat.lt_trans (Nat.lt_trans (Nat.lt_trans k2 k3) k4) k5) k6)
  have ne_xa_pb : xa ≠ pb := Nat.ne_of_lt (Nat.lt_trans (Nat.lt_trans (Nat.lt_trans (Nat.lt_trans (Nat.lt_trans k2 k3) k4) k5) k6) k7)
  have ne_xa_xm : xa ≠ xm := Nat.ne_of_lt (Nat.lt_trans (Nat.lt_trans (Nat.lt_trans (Nat.lt_trans (Nat.lt_trans (Nat.lt_trans k2 k3) k4) k5) k6) k7) k8)
  have ne_xa_fo : xa ≠ fo := Nat.ne_of_lt (Nat.lt_trans (Nat.lt_trans (Nat.lt_trans (Nat.lt_trans (Nat.lt_trans (Nat.lt_trans (Nat.lt_trans k2 k3) k4) k5) k6) k7) k8) k9)
  have ne_xa_fi : xa ≠ fi := Nat.ne_of_lt (Nat.lt_trans (Nat.lt_trans (Nat.lt_trans (Nat.lt_trans (Nat.lt_trans (Nat.lt_trans (Nat.lt_trans (Nat.lt_trans k2 k3) k4) k5) k6) k7) k8) k9) k10)
  have ne_xa_pl : xa ≠ pl := Nat.ne_of_lt (Nat.lt_trans (Nat.lt_trans (Nat.lt_trans (Nat.lt_trans (Nat.lt_trans (Nat.lt_trans (Nat.lt_trans (Nat.lt_trans (Nat.lt_trans k2 k3) k4) k5) k6) k7) k8) k9) k10) k11)
  have ne_xa_yo : xa ≠ yo := Nat.ne_of_lt (Nat.lt_trans (Nat.lt_trans (Nat.lt_trans (Nat.lt_trans (Nat.lt_trans (Nat.lt_trans (Nat.lt_trans (Nat.lt_trans (Nat.lt_trans (Nat.lt_trans k2 k3) k4) k5) k6) k7) k8) k9) k10) k11) k12)
  have ne_xa_yi : xa ≠ yi := Nat.ne_of_lt (Nat.lt_trans (Nat.lt_trans (Nat.lt_trans (Nat.lt_trans (Nat.lt_trans (Nat.lt_trans (Nat.lt_trans (Nat.lt_trans (Nat.lt_trans (Nat.lt_trans (Nat.lt_trans k2 k3) k4) k5) k6) k7) k8) k9) k10) k11) k12) k13)
  have ne_xa_ym : xa ≠ ym := Nat.ne_of_lt (Nat.lt_trans (Nat.lt_trans (Nat.lt_trans (Nat.lt_trans (Nat.lt_trans (Nat.lt_trans (Nat.lt_trans (Nat.lt_trans (Nat.lt_trans (Nat.lt_trans (Nat.lt_trans (Nat.lt_trans k2 k3) k4) k5) k6) k7) k8) k9) k10) k11) k12) k13) k14)
  have ne_xa_yb : xa ≠ yb := Nat.ne_of_lt (Nat.lt_trans (Nat.lt_trans (Nat.lt_trans (Nat.lt_trans (Nat.lt_trans (Nat.lt_trans (Nat.lt_trans (Nat.lt_trans (Nat.lt_trans (Nat.lt_trans (Nat.lt_trans (Nat.lt_trans (Nat.lt_trans k2 k3) k4) k5) k6) k7) k8) k9) k10) k11) k12) k13) k14) k15)
  have ne_xb_xc : xb ≠ xc := Nat.ne_of_lt k3
  have ne_xb_xd : xb ≠ xd := Nat.ne_of_lt (Nat.lt_trans k3 k4)
  have ne_xb_pe : xb ≠ pe := Nat.ne_of_lt (Nat.lt_trans (Nat.lt_trans k3 k4) k5)
  have ne_xb_xn : xb ≠ xn := Nat.ne_of_lt (Nat.lt_trans (Nat.lt_trans (Nat.lt_trans k3 k4) k5) k6)
  have ne_xb_pb : xb ≠ pb := Nat.ne_of_lt (Nat.lt_trans (Nat.lt_trans (Nat.lt_trans (Nat.lt_trans k3 k4) k5) k6) k7)
  have ne_xb_xm : xb ≠ xm := Nat.ne_of_lt (Nat.lt_trans (Nat.lt_trans (Nat.lt_trans (Nat.lt_trans (Nat.lt_trans k3 k4) k5) k6) k7) k8)
  have ne_xb_fo : xb ≠ fo := Nat.ne_of_lt (Nat.lt_trans (Nat.lt_trans (Nat.lt_trans (Nat.lt_trans (Nat.lt_trans (Nat.lt_trans k3 k4) k5) k6) k7) k8) k9)
  have ne_xb_fi : xb ≠ fi := Nat.ne_of_lt (Nat.lt_trans (Nat.lt_trans (Nat.lt_trans (Nat.lt_trans (Nat.lt_trans (Nat.lt_trans (Nat.lt_trans k3 k4) k5) k6) k7) k8) k9) k10)
  have ne_xb_pl : xb ≠ pl := Nat.ne_of_lt (Nat.lt_trans (Nat.lt_trans (Nat.lt_trans (Nat.lt_trans (Nat.lt_trans (Nat.lt_trans (Nat.lt_trans (Nat.lt_trans k3 k4) k5) k6) k7) k8) k9) k10) k11)
  have ne_xb_yo : xb ≠ yo := Nat.ne_of_lt (Nat.lt_trans (Nat.lt_trans (Nat.lt_trans (Nat.lt_trans (Nat.lt_trans (Nat.lt_trans (Nat.lt_trans (Nat.lt_trans (Nat.lt_trans k3 k4) k5) k6) k7) k8) k9) k10) k11) k12)
  have ne_xb_yi : xb ≠ yi := Nat.ne_of_lt (Nat.lt_trans (Nat.lt_trans (Nat.lt_trans (Nat.lt_trans (Nat.lt_trans (Nat.lt_trans (Nat.lt_trans (Nat.lt_trans (Nat.lt_trans (Nat.lt_trans k3 k4) k5) k6) k7) k8) k9) k10) k11) k12) k13)
  have ne_xb_ym : xb ≠ ym := Nat.ne_of_lt (Nat.lt_trans (Nat.lt_trans (Nat.lt_trans (Nat.lt_trans (Nat.lt_trans (Nat.lt_trans (Nat.lt_trans (Nat.lt_trans (Nat.lt_trans (Nat.lt_trans (Nat.lt_trans k3 k4) k5) k6) k7) k8) k9) k10) k11) k12) k13) k14)
  have ne_xb_yb : xb ≠ yb := Nat.ne_of_lt (Nat.lt_trans (Nat.lt_trans (Nat.lt_trans (Nat.lt_trans (Nat.lt_trans (Nat.lt_trans (Nat.lt_trans (Nat.lt_trans (Nat.lt_trans (Nat.lt_trans (Nat.lt_trans (Nat.lt_trans k3 k4) k5) k6) k7) k8) k9) k10) k11) k12) k13) k14) k15)
  have ne_xc_xd : xc ≠ xd := Nat.ne_of_lt k4
  have ne_xc_pe : xc ≠ pe := Nat.ne_of_lt (Nat.lt_trans k4 k5)
  have ne_xc_xn : xc ≠ xn := Nat.ne_of_lt (Nat.lt_trans (Nat.lt_trans k4 k5) k6)
  have ne_xc_pb : xc ≠ pb := Nat.ne_of_lt (Nat.lt_trans (Nat.lt_trans (Nat.lt_trans k4 k5) k6) k7)
  have ne_xc_xm : xc ≠ xm := Nat.ne_of_lt (Nat.lt_trans (Nat.lt_trans (Nat.lt_trans (Nat.lt_trans k4 k5) k6) k7) k8)
  have ne_xc_fo : xc ≠ fo := Nat.ne_of_lt (Nat.lt_trans (Nat.lt_trans (Nat.lt_trans (Nat.lt_trans (Nat.lt_trans k4 k5) k6) k7) k8) k9)
  have ne_xc_fi : xc ≠ fi := Nat.ne_of_lt (Nat.lt_trans (Nat.lt_trans (Nat.lt_trans (Nat.lt_trans (Nat.lt_trans (Nat.lt_trans k4 k5) k6) k7) k8) k9) k10)
  have ne_xc_pl : xc ≠ pl := Nat.ne_of_lt (Nat.lt_trans (Nat.lt_trans (Nat.lt_trans (Nat.lt_trans (Nat.lt_trans (Nat.lt_trans (Nat.lt_trans k4 k5) k6) k7) k8) k9) k10) k11)
  have ne_xc_yo : xc ≠ yo := Nat.ne_of_lt (Nat.lt_trans (Nat.lt_trans (Nat.lt_trans (Nat.lt_trans (Nat.lt_trans (Nat.lt_trans (Nat.lt_trans (Nat.lt_trans k4 k5) k6) k7) k8) k9) k10) k11) k12)
  have ne_xc_yi : xc ≠ yi := Nat.ne_of_lt (Nat.lt_trans (Nat.lt_trans (Nat.lt_trans (Nat.lt_trans (Nat.lt_trans (Nat.lt_trans (Nat.lt_trans (Nat.lt_trans (Nat.lt_trans k4 k5) k6) k7) k8) k9) k10) k11) k12) k13)
  have ne_xc_ym : xc ≠ ym := Nat.ne_of_lt (Nat.lt_trans (Nat.lt_trans (Nat.lt_trans (Nat.lt_trans (Nat.lt_trans (Nat.lt_trans (Nat.lt_trans (Nat.lt_trans (Nat.lt_trans (Nat.lt_trans k4 k5) k6) k7) k8) k9) k10) k11) k12) k13) k14)
  have ne_xc_yb : xc ≠ yb := Nat.ne_of_lt (Nat.lt_trans (Nat.lt_trans (Nat.lt_trans (Nat.lt_trans (Nat.lt_trans (Nat.lt_trans (Nat.lt_trans (Nat.lt_trans (Nat.lt_trans (Nat.lt_trans (Nat.lt_trans k4 k5) k6) k7) k8) k9) k10) k11) k12) k13) k14) k15)
  have ne_xd_pe : xd ≠ pe := Nat.ne_of_lt k5
  have ne_xd_xn : xd ≠ xn := Nat.ne_of_lt (Nat.lt_trans k5 k6)
  have ne_xd_pb : xd ≠ pb := Nat.ne_of_lt (Nat.lt_trans (Nat.lt_trans k5 k6) k7)
  have ne_xd_xm : xd ≠ xm := Nat.ne_of_lt (Nat.lt_trans (Nat.lt_trans (Nat.lt_trans k5 k6) k7) k8)
  have ne_xd_fo : xd ≠ fo := Nat.ne_of_lt (Nat.lt_trans (Nat.lt_trans (Nat.lt_trans (Nat.lt_trans k5 k6) k7) k8) k9)
  have ne_xd_fi : xd ≠ fi := Nat.ne_of_lt (Nat.lt_trans (Nat.lt_trans (Nat.lt_trans (Nat.lt_trans (Nat.lt_trans k5 k6) k7) k8) k9) k10)
  have ne_xd_pl : xd ≠ pl := Nat.ne_of_lt (Nat.lt_trans (Nat.lt_trans (Nat.lt_trans (Nat.lt_trans (Nat.lt_trans (Nat.lt_trans k5 k6) k7) k8) k9) k10) k11)
  have ne_xd_yo : xd ≠ yo := Nat.ne_of_lt (Nat.lt_trans (Nat.lt_trans (Nat.lt_trans (Nat.lt_trans (Nat.lt_trans (Nat.lt_trans (Nat.lt_trans k5 k6) k7) k8) k9) k10) k11) k12)
  have ne_xd_yi : xd ≠ yi := Nat.ne_of_lt (Nat.lt_trans (Nat.lt_trans (Nat.lt_trans (Nat.lt_trans (Nat.lt_trans (Nat.lt_trans (Nat.lt_trans (Nat.lt_trans k5 k6) k7) k8) k9) k10) k11) k12) k13)
  have ne_xd_ym : xd ≠ ym := Nat.ne_of_lt (Nat.lt_trans (Nat.lt_trans (Nat.lt_trans (Nat.lt_trans (Nat.lt_trans (Nat.lt_trans (Nat.lt_trans (Nat.lt_trans (Nat.lt_trans k5 k6) k7) k8) k9) k10) k11) k12) k13) k14)
  have ne_xd_yb : xd ≠ yb := Nat.ne_of_lt (Nat.lt_trans (Nat.lt_trans (Nat.lt_trans (Nat.lt_trans (Nat.lt_trans (Nat.lt_trans (Nat.lt_trans (Nat.lt_trans (Nat.lt_trans (Nat.lt_trans k5 k6) k7) k8) k9) k10) k11) k12) k13) k14) k15)
  have ne_pe_xn : pe ≠ xn := Nat.ne_of_lt k6
  have ne_pe_pb : pe ≠ pb := Nat.ne_of_lt (Nat.lt_trans k6 k7)
  have ne_pe_xm : pe ≠ xm := Nat.ne_of_lt (Nat.lt_trans (Nat.lt_trans k6 k7) k8)
  have ne_pe_fo : pe ≠ fo := Nat.ne_of_lt (Nat.lt_trans (Nat.lt_trans (Nat.lt_trans k6 k7) k8) k9)
  have ne_pe_fi : pe ≠ fi := Nat.ne_of_lt (Nat.lt_trans (Nat.lt_trans (Nat.lt_trans (Nat.lt_trans k6 k7) k8) k9) k10)
  have ne_pe_pl : pe ≠ pl := Nat.ne_of_lt (Nat.lt_trans (Nat.lt_trans (Nat.lt_trans (Nat.lt_trans (Nat.lt_trans k6 k7) k8) k9) k10) k11)
  have ne_pe_yo : pe ≠ yo := Nat.ne_of_lt (Nat.lt_trans (Nat.lt_trans (Nat.lt_trans (Nat.lt_trans (Nat.lt_trans (Nat.lt_trans k6 k7) k8) k9) k10) k11) k12)
  have ne_pe_yi : pe ≠ yi := Nat.ne_of_lt (Nat.lt_trans (Nat.lt_trans (Nat.lt_trans (Nat.lt_trans (Nat.lt_trans (Nat.lt_trans (Nat.lt_trans k6 k7) k8) k9) k10) k11) k12) k13)
  have ne_pe_ym : pe ≠ ym := Nat.ne_of_lt (Nat.lt_trans (Nat.lt_trans (Nat.lt_trans (Nat.lt_trans (Nat.lt_trans (Nat.lt_trans (Nat.lt_trans (Nat.lt_trans k6 k7) k8) k9) k10) k11) k12) k13) k14)
  have ne_pe_yb : pe ≠ yb := Nat.ne_of_lt (Nat.lt_trans (Nat.lt_trans (Nat.lt_trans (Nat.lt_trans (Nat.lt_trans (Nat.lt_trans (Nat.lt_trans (Nat.lt_trans (Nat.lt_trans k6 k7) k8) k9) k10) k11) k12) k13) k14) k15)
  have ne_xn_pb : xn ≠ pb := Nat.ne_of_lt k7
  have ne_xn_xm : xn ≠ xm := Nat.ne_of_lt (Nat.lt_trans k7 k8)
  have ne_xn_fo : xn ≠ fo := Nat.ne_of_lt (Nat.lt_trans (Nat.lt_trans k7 k8) k9)
  have ne_xn_fi : xn ≠ fi := Nat.ne_of_lt (Nat.lt_trans (Nat.lt_trans (Nat.lt_trans k7 k8) k9) k10)
  have ne_xn_pl : xn ≠ pl := Nat.ne_of_lt (Nat.lt_trans (Nat.lt_trans (Nat.lt_trans (Nat.lt_trans k7 k8) k9) k10) k11)
  have ne_xn_yo : xn ≠ yo := Nat.ne_of_lt (Nat.lt_trans (Nat.lt_trans (Nat.lt_trans (Nat.lt_trans (Nat.lt_trans k7 k8) k9) k10) k11) k12)
  have ne_xn_yi : xn ≠ yi := Nat.ne_of_lt (Nat.lt_trans (Nat.lt_trans (Nat.lt_trans (Nat.lt_trans (Nat.lt_trans (Nat.lt_trans k7 k8) k9) k10) k11) k12) k13)
  have ne_xn_ym : xn ≠ ym := Nat.ne_of_lt (Nat.lt_trans (Nat.lt_trans (Nat.lt_trans (Nat.lt_trans (Nat.lt_trans (Nat.lt_trans (Nat.lt_trans k7 k8) k9) k10) k11) k12) k13) k14)
  have ne_xn_yb : xn ≠ yb := Nat.ne_of_lt (Nat.lt_trans (Nat.lt_trans (Nat.lt_trans (Nat.lt_trans (Nat.lt_trans (Nat.lt_trans (Nat.lt_trans (Nat.lt_trans k7 k8) k9) k10) k11) k12) k13) k14) k15)
  have ne_pb_xm : pb ≠ xm := Nat.ne_of_lt k8
  have ne_pb_fo : pb ≠ fo := Nat.ne_of_lt (Nat.lt_trans k8 k9)
  have ne_pb_fi : pb ≠ fi := Nat.ne_of_lt (Nat.lt_trans (Nat.lt_trans k8 k9) k10)
  have ne_pb_pl : pb ≠ pl := Nat.ne_of_lt (Nat.lt_trans (Nat.lt_trans (Nat.lt_trans k8 k9) k10) k11)
  have ne_pb_yo : pb ≠ yo := Nat.ne_of_lt (Nat.lt_trans (Nat.lt_trans (Nat.lt_trans (Nat.lt_trans k8 k9) k10) k11) k12)
  have ne_pb_yi : pb ≠ yi := Nat.ne_of_lt (Nat.lt_trans (Nat.lt_trans (Nat.lt_trans (Nat.lt_trans (Nat.lt_trans k8 k9) k10) k11) k12) k13)
  have ne_pb_ym : pb ≠ ym := Nat.ne_of_lt (Nat.lt_trans (Nat.lt_trans (Nat.lt_trans (Nat.lt_trans (Nat.lt_trans (Nat.lt_trans k8 k9) k10) k11) k12) k13) k14)
  have ne_pb_yb : pb ≠ yb := Nat.ne_of_lt (Nat.lt_trans (Nat.lt_trans (Nat.lt_trans (Nat.lt_trans (Nat.lt_trans (Nat.lt_trans (Nat.lt_trans k8 k9) k10) k11) k12) k13) k14) k15)
  have ne_xm_fo : xm ≠ fo := Nat.ne_of_lt k9
  have ne_xm_fi : xm ≠ fi := Nat.ne_of_lt (Nat.lt_trans k9 k10)
  have ne_xm_pl : xm ≠ pl := Nat.ne_of_lt (Nat.lt_trans (Nat.lt_trans k9 k10) k11)
  have ne_xm_yo : xm ≠ yo := Nat.ne_of_lt (Nat.lt_trans (Nat.lt_trans (Nat.lt_trans k9 k10) k11) k12)
  have ne_xm_yi : xm ≠ yi := Nat.ne_of_lt (Nat.lt_trans (Nat.lt_trans (Nat.lt_trans (Nat.lt_trans k9 k10) k11) k12) k13)
  have ne_xm_ym : xm ≠ ym := Nat.ne_of_lt (Nat.lt_trans (Nat.lt_trans (Nat.lt_trans (Nat.lt_trans (Nat.lt_trans k9 k10) k11) k12) k13) k14)
  have ne_xm_yb : xm ≠ yb := Nat.ne_of_lt (Nat.lt_trans (Nat.lt_trans (Nat.lt_trans (Nat.lt_trans (Nat.lt_trans (Nat.lt_trans k9 k10) k11) k12) k13) k14) k15)
  have ne_fo_fi : fo ≠ fi := Nat.ne_of_lt k10
  have ne_fo_pl : fo ≠ pl := Nat.ne_of_lt (Nat.lt_trans k10 k11)
  have ne_fo_yo : fo ≠ yo := Nat.ne_of_lt (Nat.lt_trans (Nat.lt_trans k10 k11) k12)
  have ne_fo_yi : fo ≠ yi := Nat.ne_of_lt (Nat.lt_trans (Nat.lt_trans (Nat.lt_trans k10 k11) k12) k13)
  have ne_fo_ym : fo ≠ ym := Nat.ne_of_lt (Nat.lt_trans (Nat.lt_trans (Nat.lt_trans (Nat.lt_trans k10 k11) k12) k13) k14)
  have ne_fo_yb : fo ≠ yb := Nat.ne_of_lt (Nat.lt_trans (Nat.lt_trans (Nat.lt_trans (Nat.lt_trans (Nat.lt_trans k10 k11) k12) k13) k14) k15)
  have ne_fi_pl : fi ≠ pl := Nat.ne_of_lt k11
  have ne_fi_yo : fi ≠ yo := Nat.ne_of_lt (Nat.lt_trans k11 k12)
  have ne_fi_yi : fi ≠ yi := Nat.ne_of_lt (Nat.lt_trans (Nat.lt_trans k11 k12) k13)
  have ne_fi_ym : fi ≠ ym := Nat.ne_of_lt (Nat.lt_trans (Nat.lt_trans (Nat.lt_trans k11 k12) k13) k14)
  have ne_fi_yb : fi ≠ yb := Nat.ne_of_lt (Nat.lt_trans (Nat.lt_trans (Nat.lt_trans (Nat.lt_trans k11 k12) k13) k14) k15)
  have ne_pl_yo : pl ≠ yo := Nat.ne_of_lt k12
  have ne_pl_yi : pl ≠ yi := Nat.ne_of_lt (Nat.lt_trans k12 k13)
  have ne_pl_ym : pl ≠ ym := Nat.ne_of_lt (Nat.lt_trans (Nat.lt_trans k12 k13) k14)
  have ne_pl_yb : pl ≠ yb := Nat.ne_of_lt (Nat.lt_trans (Nat.lt_trans (Nat.lt_trans k12 k13) k14) k15)
  have ne_yo_yi : yo ≠ yi := Nat.ne_of_lt k13
  have ne_yo_ym : yo ≠ ym := Nat.ne_of_lt (Nat.lt_trans k13 k14)
  have ne_yo_yb : yo ≠ yb := Nat.ne_of_lt (Nat.lt_trans (Nat.lt_trans k13 k14) k15)
  have ne_yi_ym : yi ≠ ym := Nat.ne_of_lt k14
  have ne_yi_yb : yi ≠ yb := Nat.ne_of_lt (Nat.lt_trans k14 k15)
  have ne_ym_yb : ym ≠ yb := Nat.ne_of_lt k15
  have g_xa : n0 ≤ xa := Nat.le_trans g_o (Nat.le_of_lt k1)
  have g_xb : n0 ≤ xb := Nat.le_trans g_o (Nat.le_of_lt (Nat.lt_trans k1 k2))
  have g_xc : n0 ≤ xc := Nat.le_trans g_o (Nat.le_of_lt (Nat.lt_trans (Nat.lt_trans k1 k2) k3))
  have g_xd : n0 ≤ xd := Nat.le_trans g_o (Nat.le_of_lt (Nat.lt_trans (Nat.lt_trans (Nat.lt_trans k1 k2) k3) k4))
  have g_pe : n0 ≤ pe := Nat.le_trans g_o (Nat.le_of_lt (Nat.lt_trans (Nat.lt_trans (Nat.lt_trans (Nat.lt_trans k1 k2) k3) k4) k5))
  have g_xn : n0 ≤ xn := Nat.le_trans g_o (Nat.le_of_lt (Nat.lt_trans (Nat.lt_trans (Nat.lt_trans (Nat.lt_trans (Nat.lt_trans k1 k2) k3) k4) k5) k6))
  have g_pb : n0 ≤ pb := Nat.le_trans g_o (Nat.le_of_lt (Nat.lt_trans (Nat.lt_trans (Nat.lt_trans (Nat.lt_trans (Nat.lt_trans (Nat.lt_trans k1 k2) k3) k4) k5) k6) k7))
  have g_xm : n0 ≤ xm := Nat.le_trans g_o (Nat.le_of_lt (Nat.lt_trans (Nat.lt_trans (Nat.lt_trans (Nat.lt_trans (Nat.lt_trans (Nat.lt_trans (Nat.lt_trans k1 k2) k3) k4) k5) k6) k7) k8))
  have g_fo : n0 ≤ fo := Nat.le_trans g_o (Nat.le_of_lt (Nat.lt_trans (Nat.lt_trans (Nat.lt_trans (Nat.lt_trans (Nat.lt_trans (Nat.lt_trans (Nat.lt_trans (Nat.lt_trans k1 k2) k3) k4) k5) k6) k7) k8) k9))
  have g_fi : n0 ≤ fi := Nat.le_trans g_o (Nat.le_of_lt (Nat.lt_trans (Nat.lt_trans (Nat.lt_trans (Nat.lt_trans (Nat.lt_trans (Nat.lt_trans (Nat.lt_trans (Nat.lt_trans (Nat.lt_trans k1 k2) k3) k4) k5) k6) k7) k8) k9) k10))
  have g_pl : n0 ≤ pl := Nat.le_trans g_o (Nat.le_of_lt (Nat.lt_trans (Nat.lt_trans (Nat.lt_trans (Nat.lt_trans (Nat.lt_trans (Nat.lt_trans (Nat.lt_trans (Nat.lt_trans (Nat.lt_trans (Nat.lt_trans k1 k2) k3) k4) k5) k6) k7) k8) k9) k10) k11))
  have g_yo : n0 ≤ yo := Nat.le_trans g_o (Nat.le_of_lt (Nat.lt_trans (Nat.lt_trans (Nat.lt_trans (Nat.lt_trans (Nat.lt_trans (Nat.lt_trans (Nat.lt_trans (Nat.lt_trans (Nat.lt_trans (Nat.lt_trans (Nat.lt_trans k1 k2) k3) k4) k5) k6) k7) k8) k9) k10) k11) k12))
  have g_yi : n0 ≤ yi := Nat.le_trans g_o (Nat.le_of_lt (Nat.lt_trans (Nat.lt_trans (Nat.lt_trans (Nat.lt_trans (Nat.lt_trans (Nat.lt_trans (Nat.lt_trans (Nat.lt_trans (Nat.lt_trans (Nat.lt_trans (Nat.lt_trans (Nat.lt_trans k1 k2) k3) k4) k5) k6) k7) k8) k9) k10) k11) k12) k13))
  have g_ym : n0 ≤ ym := Nat.le_trans g_o (Nat.le_of_lt (Nat.lt_trans (Nat.lt_trans (Nat.lt_trans (Nat.lt_trans (Nat.lt_trans (Nat.lt_trans (Nat.lt_trans (Nat.lt_trans (Nat.lt_trans (Nat.lt_trans (Nat.lt_trans (Nat.lt_trans (Nat.lt_trans k1 k2) k3) k4) k5) k6) k7) k8) k9) k10) k11) k12) k13) k14))
  have g_yb : n0 ≤ yb := Nat.le_trans g_o (Nat.le_of_lt (Nat.lt_trans (Nat.lt_trans (Nat.lt_trans (Nat.lt_trans (Nat.lt_trans (Nat.lt_trans (Nat.lt_trans (Nat.lt_trans (Nat.lt_trans (Nat.lt_trans (Nat.lt_trans (Nat.lt_trans (Nat.lt_trans (Nat.lt_trans k1 k2) k3) k4) k5) k6) k7) k8) k9) k10) k11) k12) k13) k14) k15))
  refine g_aloadN X0 hx hby d16_0 (pc' := 1) rfl rfl rfl ?_
  refine g_iloadN X0 hx hby d16_1 (pc' := 2) rfl rfl ?_
  refine g_iconst X0 hx hby d16_2 (pc' := 3) rfl (n := (1 : Int32)) (by first | rfl | decide) ?_
  refine g_newA X0 hx hby hZ e0 (N := 1) (hw _ (List.mem_of_getElem? (i := 4) rfl)) d16_3 (pc' := 5) rfl rfl (cap := 1) (Nat.le_refl _) (by decide) (by decide) (by decide) (fun T1 h1 ta g1 X1 e1 E1 A_ta => ?_)
  have lne2 : o < ta := by rw [g1]; exact E_o.lt
  have ne2 : o ≠ ta := Nat.ne_of_lt lne2
  have lne3 : pe < ta := by rw [g1]; exact E_pe.lt
  have ne3 : pe ≠ ta := Nat.ne_of_lt lne3
  have lne4 : pb < ta := by rw [g1]; exact E_pb.lt
  have ne4 : pb ≠ ta := Nat.ne_of_lt lne4
  have lne5 : xa < ta := by rw [g1]; exact A_xa.lt
  have ne5 : xa ≠ ta := Nat.ne_of_lt lne5
  have lne6 : xb < ta := by rw [g1]; exact A_xb.lt
  have ne6 : xb ≠ ta := Nat.ne_of_lt lne6
  have lne7 : xc < ta := by rw [g1]; exact A_xc.lt
  have ne7 : xc ≠ ta := Nat.ne_of_lt lne7
  have lne8 : xd < ta := by rw [g1]; exact A_xd.lt
  have ne8 : xd ≠ ta := Nat.ne_of_lt lne8
  have lne9 : xn < ta := by rw [g1]; exact A_xn.lt
  have ne9 : xn ≠ ta := Nat.ne_of_lt lne9
  have lne10 : xm < ta := by rw [g1]; exact A_xm.lt
  have ne10 : xm ≠ ta := Nat.ne_of_lt lne10
  have lne11 : fo < ta := by rw [g1]; exact A_fo.lt
  have ne11 : fo ≠ ta := Nat.ne_of_lt lne11
  have lne12 : fi < ta := by rw [g1]; exact A_fi.lt
  have ne12 : fi ≠ ta := Nat.ne_of_lt lne12
  have lne13 : pl < ta := by rw [g1]; exact A_pl.lt
  have ne13 : pl ≠ ta := Nat.ne_of_lt lne13
  have lne14 : yo < ta := by rw [g1]; exact A_yo.lt
  have ne14 : yo ≠ ta := Nat.ne_of_lt lne14
  have lne15 : yi < ta := by rw [g1]; exact A_yi.lt
  have ne15 : yi ≠ ta := Nat.ne_of_lt lne15
  have lne16 : ym < ta := by rw [g1]; exact A_ym.lt
  have ne16 : ym ≠ ta := Nat.ne_of_lt lne16
  have lne17 : yb < ta := by rw [g1]; exact A_yb.lt
  have ne17 : yb ≠ ta := Nat.ne_of_lt lne17
  have g18 : n0 ≤ ta := by rw [g1]; exact Z0
  replace E_o := E_o.ext E1
  replace E_pe := E_pe.ext E1
  replace E_pb := E_pb.ext E1
  replace F_o_addedFrom := F_o_addedFrom.ext E1
  replace F_o_addedTo := F_o_addedTo.ext E1
  replace F_o_earlierOut := F_o_earlierOut.ext E1
  replace F_o_earlierIn := F_o_earlierIn.ext E1
  replace F_o_pending := F_o_pending.ext E1
  replace F_o_pendingBack := F_o_pendingBack.ext E1
  replace F_o_firstOut := F_o_firstOut.ext E1
  replace F_o_firstIn := F_o_firstIn.ext E1
  replace F_o_place := F_o_place.ext E1
  replace F_o_latestOut := F_o_latestOut.ext E1
  replace F_o_latestIn := F_o_latestIn.ext E1
  replace F_o_metIn := F_o_metIn.ext E1
  replace F_o_metBack := F_o_metBack.ext E1
  replace F_o_added := F_o_added.ext E1
  replace F_o_searches := F_o_searches.ext E1
  replace F_pe_count := F_pe_count.ext E1
  replace F_pe_nodes := F_pe_nodes.ext E1
  replace F_pb_count := F_pb_count.ext E1
  replace F_pb_nodes := F_pb_nodes.ext E1
  replace A_xa := A_xa.ext E1
  replace A_xb := A_xb.ext E1
  replace A_xc := A_xc.ext E1
  replace A_xd := A_xd.ext E1
  replace A_xn := A_xn.ext E1
  replace A_xm := A_xm.ext E1
  replace A_fo := A_fo.ext E1
  replace A_fi := A_fi.ext E1
  replace A_pl := A_pl.ext E1
  replace A_yo := A_yo.ext E1
  replace A_yi := A_yi.ext E1
  replace A_ym := A_ym.ext E1
  replace A_yb := A_yb.ext E1
  have Z19 : n0 ≤ h1.size := Nat.le_trans Z0 E1.1
  replace X1 : Stand p l e ({ frames := 3, cells := 1, slots := 1, locals := 56 } : Room) s m _ below meth c T1 _ 1 1 := X1
  replace A_ta : Ara Z h1 ta .int 1 (fun jz => .int ((fun _ => (0 : Int32)) jz)) := A_ta
  refine g_dup X1 hx hby d16_5 (pc' := 6) rfl rfl ?_
  refine g_iconst X1 hx hby d16_6 (pc' := 7) rfl (n := (0 : Int32)) (by first | rfl | decide) ?_
  refine g_iloadN X1 hx hby d16_7 (pc' := 8) rfl rfl ?_
  refine a_iastore X1 hx hby hZ e1 A_ta (by decide) (by decide) d16_8 (pc' := 9) rfl (fun T20 h20 X20 e20 W20 => ?_)
  replace E_o := E_o.wr W20
  replace E_pe := E_pe.wr W20
  replace E_pb := E_pb.wr W20
  replace F_o_addedFrom := F_o_addedFrom.other W20 (Or.inl ne2)
  replace F_o_addedTo := F_o_addedTo.other W20 (Or.inl ne2)
  replace F_o_earlierOut := F_o_earlierOut.other W20 (Or.inl ne2)
  replace F_o_earlierIn := F_o_earlierIn.other W20 (Or.inl ne2)
  replace F_o_pending := F_o_pending.other W20 (Or.inl ne2)
  replace F_o_pendingBack := F_o_pendingBack.other W20 (Or.inl ne2)
  replace F_o_firstOut := F_o_firstOut.other W20 (Or.inl ne2)
  replace F_o_firstIn := F_o_firstIn.other W20 (Or.inl ne2)
  replace F_o_place := F_o_place.other W20 (Or.inl ne2)
  replace F_o_latestOut := F_o_latestOut.other W20 (Or.inl ne2)
  replace F_o_latestIn := F_o_latestIn.other W20 (Or.inl ne2)
  replace F_o_metIn := F_o_metIn.other W20 (Or.inl ne2)
  replace F_o_metBack := F_o_metBack.other W20 (Or.inl ne2)
  replace F_o_added := F_o_added.other W20 (Or.inl ne2)
  replace F_o_searches := F_o_searches.other W20 (Or.inl ne2)
  replace F_pe_count := F_pe_count.other W20 (Or.inl ne3)
  replace F_pe_nodes := F_pe_nodes.other W20 (Or.inl ne3)
  replace F_pb_count := F_pb_count.other W20 (Or.inl ne4)
  replace F_pb_nodes := F_pb_nodes.other W20 (Or.inl ne4)
  replace A_xa := A_xa.other W20 ne5
  replace A_xb := A_xb.other W20 ne6
  replace A_xc := A_xc.other W20 ne7
  replace A_xd := A_xd.other W20 ne8
  replace A_xn := A_xn.other W20 ne9
  replace A_xm := A_xm.other W20 ne10
  replace A_fo := A_fo.other W20 ne11
  replace A_fi := A_fi.other W20 ne12
  replace A_pl := A_pl.other W20 ne13
  replace A_yo := A_yo.other W20 ne14
  replace A_yi := A_yi.other W20 ne15
  replace A_ym := A_ym.other W20 ne16
  replace A_yb := A_yb.other W20 ne17
  have Z21 : n0 ≤ h20.size := by rw [W20.size]; exact Z19
  have N22 := Fr.snoc X20 N0 g18
  replace A_ta : Ara Z h20 ta .int 1 (fun jz => .int ((own_ui (fun _ => (0 : Int32)) 0 ut) jz)) := A_ta.setI W20
  refine g_iconst X20 hx hby d16_9 (pc' := 10) rfl (n := (0 : Int32)) (by first | rfl | decide) ?_
  refine g_iconst X20 hx hby d16_10 (pc' := 11) rfl (n := (1 : Int32)) (by first | rfl | decide) ?_
  refine g_private X20 hx hby hZ hown hml rfl (hw _ (List.mem_of_getElem? (i := 137) rfl)) (hw _ (List.mem_of_getElem? (i := 138) rfl)) (own_selP (hw _ (List.mem_of_getElem? (i := 115) rfl)) (hw _ (List.mem_of_getElem? (i := 114) rfl)) rfl (hw _ (List.mem_of_getElem? (i := 139) rfl)) (hw _ (List.mem_of_getElem? (i := 138) rfl)) (by decide)) (hw _ (List.mem_of_getElem? (i := 139) rfl)) (hw _ (List.mem_of_getElem? (i := 3) rfl)) (hw _ (List.mem_of_getElem? (i := 140) rfl)) (by decide) e20 (rm_ra l Z a0 hw o uf ta n0 q ut uk sc cp cb cd fr tt eo ei lo li mi mb pn pq (own_ui (fun _ => (0 : Int32)) 0 ut) xa xb xc xd pe xn pb xm fo fi pl yo yi ym yb h20 Z21 g_o k1 k2 k3 k4 k5 k6 k7 k8 k9 k10 k11 k12 k13 k14 k15 E_o E_pe E_pb F_o_addedFrom F_o_addedTo F_o_earlierOut F_o_earlierIn F_o_pending F_o_pendingBack F_o_firstOut F_o_firstIn F_o_place F_o_latestOut F_o_latestIn F_o_metIn F_o_metBack F_o_added F_o_searches F_pe_count F_pe_nodes F_pb_count F_pb_nodes A_xa A_xb A_xc A_xd A_xn A_xm A_fo A_fi A_pl A_yo A_yi A_ym A_yb A_ta lne17 (own_uis _ _ _) I hk0 hft hq) pd__I_III_Z_554 E_o (argsL := [(.int uf), (.ref ta), (.int (0 : Int32)), (.int (1 : Int32))]) (rest := []) rfl rfl rfl d16_11 (pc' := 14) rfl (by decide) (Nat.le_of_ble_eq_true rfl) (by decide) (by decide) ?_
  intro Tp11 vp11 Lp11 Xp11 qp11
  obtain ⟨rp11, rfl, h_rp11, Nqp11, Dp11⟩ := qp11
  replace Xp11 : Stand p l e ({ frames := 3, cells := 1, slots := 1, locals := 56 } : Room) s m _ below meth c Tp11 _ 1 1 := Xp11
  have Np11 := Fr.app N22 Nqp11
  show Go p e below EF (QDr Z n0 o (q + 1) uk cd (own_PRg uf ut uk.toInt.toNat (fun j => own_fr (cd j)) (fun j => own_to (cd j)))) m Tp11 14 #[.val (.ref o), .val (.int uf), .val (.int ut)] [(.int rp11)]
  have Zsp11 := own_D_sz Dp11
  exact g_retZ Xp11 hx hby hF (Nat.zero_le _) hlk (own_bool_01 h_rp11) hret d16_14 (by decide) (by decide) (⟨_, rfl, own_bool_iffc h_rp11 (own_PRg_cd I), Np11, Dp11⟩)
theorem ef_0 (m : MethodId) (ua : Int32) (ub : Int32) (uc : Int32) (ud : Int32) (ue : Int32) (ug : Int32) : entryFrame m #[(.int ua), (.int ub), (.int uc), (.int ud), (.int ue), (.int ug)] maxLocals = mkF m 0 #[.val (.int ua), .val (.int ub), .val (.int uc), .val (.int ud), .val (.int ue), .val (.int ug), .unset, .unset, .unset, .unset, .unset, .unset, .unset, .unset, .unset, .unset, .unset, .unset] [] := by first | (simp [entryFrame, mkF, argsToLocals, Value.category, maxLocals]; done) | rfl
theorem pn_0 : plainName "com/example/isolens/isolens/checker/DynamicOrderUndoPinLaw" = true := by first | (simp [plainName, overriddenIn]; done) | decide +kernel
theorem pd___I_II_I_V_732 : parseMethodDescriptor "([I[II[I)V" = some ⟨[(.array .int), (.array .int), .int, (.array .int)], none⟩ := by decide +kernel
theorem pd__II_Z_317 : parseMethodDescriptor "(II)Z" = some ⟨[.int, .int], some .boolean⟩ := by decide +kernel
theorem pd__IIIII_Z_536 : parseMethodDescriptor "(IIIII)Z" = some ⟨[.int, .int, .int, .int, .int], some .boolean⟩ := by decide +kernel
set_option maxRecDepth 65536 in
set_option maxHeartbeats 40000000 in
theorem law0 (l : Launch) (Z : State) (a0 : Array Value) (hw : ∀ d ∈ tables_1, d.before a0 Z = true) (ws : List Jvm.Cond) (ua : Int32) (ub : Int32) (uc : Int32) (ud : Int32) (ue : Int32) (ug : Int32) (n0 : Nat) (h0 : Heap) (Z0 : n0 ≤ h0.size) :
    MetFree l x (head1 (Jvm.Cond.code x code maxLocals ret :: ws) room_1) (fun a U => a = #[(.int ua), (.int ub), (.int uc), (.int ud), (.int ue), (.int ug)] ∧ Z.Warmed39 U.vm ∧ U.heap = h0) (fun _ _ _ _ _ => True) (fun _ U o U' => ∃ v L, o = .returned v ∧ (Q0 n0) v U'.heap L ∧ FrameEnd U o U' L room_1.cells room_1.slots) := by
  refine own_met (plainFor_of_name pn_0) (fun m => ef_0 m ua ub uc ud ue ug) ?_
  intro p e s m below meth c T0 EF X0 hx hby hml hown hnm hret hlk hZ hF e0
  have N0 := Fr.nil n0
  refine g_iloadN X0 hx hby at_0 (pc' := 1) rfl rfl ?_
  refine g_ldcI X0 hx hby hZ hown (hw _ (List.mem_of_getElem? (i := 0) rfl)) at_1 (pc' := 3) rfl ?_
  refine g_iand X0 hx hby at_3 (pc' := 4) rfl ?_
  refine g_iconst X0 hx hby at_4 (pc' := 5) rfl (n := (3 : Int32)) (by first | rfl | decide) ?_
  refine g_irem X0 hx hby at_5 (pc' := 6) rfl (by decide) ?_
  refine g_nameI (fun ca h_ca => ?_)
  have hca := own_mod3 _ ca h_ca
  refine g_istore X0 hx hby at_6 (pc' := 8) rfl (Ls' := #[.val (.int ua), .val (.int ub), .val (.int uc), .val (.int ud), .val (.int ue), .val (.int ug), .val (.int ca), .unset, .unset, .unset, .unset, .unset, .unset, .unset, .unset, .unset, .unset, .unset]) rfl ?_
  refine g_iloadN X0 hx hby at_8 (pc' := 9) rfl rfl ?_
  refine g_ldcI X0 hx hby hZ hown (hw _ (List.mem_of_getElem? (i := 0) rfl)) at_9 (pc' := 11) rfl ?_
  refine g_iand X0 hx hby at_11 (pc' := 12) rfl ?_
  refine g_iconst X0 hx hby at_12 (pc' := 13) rfl (n := (3 : Int32)) (by first | rfl | decide) ?_
  refine g_irem X0 hx hby at_13 (pc' := 14) rfl (by decide) ?_
  refine g_nameI (fun cb h_cb => ?_)
  have hcb := own_mod3 _ cb h_cb
  refine g_istore X0 hx hby at_14 (pc' := 16) rfl (Ls' := #[.val (.int ua), .val (.int ub), .val (.int uc), .val (.int ud), .val (.int ue), .val (.int ug), .val (.int ca), .val (.int cb), .unset, .unset, .unset, .unset, .unset, .unset, .unset, .unset, .unset, .unset]) rfl ?_
  refine g_iloadN X0 hx hby at_16 (pc' := 17) rfl rfl ?_
  refine g_ldcI X0 hx hby hZ hown (hw _ (List.mem_of_getElem? (i := 0) rfl)) at_17 (pc' := 19) rfl ?_
  refine g_iand X0 hx hby at_19 (pc' := 20) rfl ?_
  refine g_iconst X0 hx hby at_20 (pc' := 21) rfl (n := (3 : Int32)) (by first | rfl | decide) ?_
  refine g_irem X0 hx hby at_21 (pc' := 22) rfl (by decide) ?_
  refine g_nameI (fun cc h_cc => ?_)
  have hcc := own_mod3 _ cc h_cc
  refine g_istore X0 hx hby at_22 (pc' := 24) rfl (Ls' := #[.val (.int ua), .val (.int ub), .val (.int uc), .val (.int ud), .val (.int ue), .val (.int ug), .val (.int ca), .val (.int cb), .val (.int cc), .unset, .unset, .unset, .unset, .unset, .unset, .unset, .unset, .unset]) rfl ?_
  refine g_iload X0 hx hby at_24 (pc' := 26) rfl rfl ?_
  refine g_ldcI X0 hx hby hZ hown (hw _ (List.mem_of_getElem? (i := 0) rfl)) at_26 (pc' := 28) rfl ?_
  refine g_iand X0 hx hby at_28 (pc' := 29) rfl ?_
  refine g_iconst X0 hx hby at_29 (pc' := 30) rfl (n := (3 : Int32)) (by first | rfl | decide) ?_
  refine g_irem X0 hx hby at_30 (pc' := 31) rfl (by decide) ?_
  refine g_nameI (fun cx h_cx => ?_)
  have hcx := own_mod3 _ cx h_cx
  refine g_istore X0 hx hby at_31 (pc' := 33) rfl (Ls' := #[.val (.int ua), .val (.int ub), .val (.int uc), .val (.int ud), .val (.int ue), .val (.int ug), .val (.int ca), .val (.int cb), .val (.int cc), .val (.int cx), .unset, .unset, .unset, .unset, .unset, .unset, .unset, .unset]) rfl ?_
  refine g_iloadN X0 hx hby at_33 (pc' := 34) rfl rfl ?_
  refine g_ldcI X0 hx hby hZ hown (hw _ (List.mem_of_getElem? (i := 0) rfl)) at_34 (pc' := 36) rfl ?_
  refine g_iand X0 hx hby at_36 (pc' := 37) rfl ?_
  refine g_iconst X0 hx hby at_37 (pc' := 38) rfl (n := (4 : Int32)) (by first | rfl | decide) ?_
  refine g_irem X0 hx hby at_38 (pc' := 39) rfl (by decide) ?_
  refine g_nameI (fun um h_um => ?_)
  have hum := own_mod4 _ um h_um
  refine g_istore X0 hx hby at_39 (pc' := 41) rfl (Ls' := #[.val (.int ua), .val (.int ub), .val (.int uc), .val (.int ud), .val (.int ue), .val (.int ug), .val (.int ca), .val (.int cb), .val (.int cc), .val (.int cx), .val (.int um), .unset, .unset, .unset, .unset, .unset, .unset, .unset]) rfl ?_
  refine g_iload X0 hx hby at_41 (pc' := 43) rfl rfl ?_
  refine g_iconst X0 hx hby at_43 (pc' := 44) rfl (n := (1 : Int32)) (by first | rfl | decide) ?_
  refine g_iand X0 hx hby at_44 (pc' := 45) rfl ?_
  refine g_ifeq X0 hx hby at_45 (pt := 52) (pf := 48) (by decide) (by decide) rfl (fun (h45 : (ug &&& (1 : Int32)) = (0 : Int32)) => ?_) (fun (h45 : ¬ (ug &&& (1 : Int32)) = (0 : Int32)) => ?_)
  · have h45i : (ug &&& (1 : Int32)).toInt = 0 := congrArg Int32.toInt h45
    refine g_iconst X0 hx hby at_52 (pc' := 53) rfl (n := (0 : Int32)) (by first | rfl | decide) ?_
    refine g_istore X0 hx hby at_53 (pc' := 55) rfl (Ls' := #[.val (.int ua), .val (.int ub), .val (.int uc), .val (.int ud), .val (.int ue), .val (.int ug), .val (.int ca), .val (.int cb), .val (.int cc), .val (.int cx), .val (.int um), .val (.int (0 : Int32)), .unset, .unset, .unset, .unset, .unset, .unset]) rfl ?_
    refine g_new X0 hx hby hZ hown e0 (hw _ (List.mem_of_getElem? (i := 1) rfl)) (hw _ (List.mem_of_getElem? (i := 2) rfl)) (hw _ (List.mem_of_getElem? (i := 3) rfl)) at_55 (pc' := 58) rfl (by decide) (by decide) (fun T1 h1 o g1 X1 e1 E1 A1 D1 => ?_)
    have g2 : n0 ≤ o := by rw [g1]; exact Z0
    have Z3 : n0 ≤ h1.size := Nat.le_trans Z0 E1.1
    replace X1 : Stand p l e room_1 s m _ below meth c T1 _ 1 36 := X1
    have E_o : Exa Z h1 o "com/example/isolens/isolens/checker/DynamicOrder" := A1
    have U_o : Unw Z a0 h1 o "com/example/isolens/isolens/checker/DynamicOrder" [] := fun O nm d ty L _ p => D1 L p
    refine g_dup X1 hx hby at_58 (pc' := 59) rfl rfl ?_
    refine g_iconst X1 hx hby at_59 (pc' := 60) rfl (n := (0 : Int32)) (by first | rfl | decide) ?_
    refine g_newA X1 hx hby hZ e1 (N := 0) (hw _ (List.mem_of_getElem? (i := 4) rfl)) at_60 (pc' := 62) rfl rfl (cap := 0) (Nat.le_refl _) (by decide) (by decide) (by decide) (fun T4 h4 sa g4 X4 e4 E4 A_sa => ?_)
    have lne5 : o < sa := by rw [g4]; exact E_o.lt
    have ne5 : o ≠ sa := Nat.ne_of_lt lne5
    have g6 : n0 ≤ sa := by rw [g4]; exact Z3
    replace E_o := E_o.ext E4
    replace U_o := U_o.ext E4
    have Z7 : n0 ≤ h4.size := Nat.le_trans Z3 E4.1
    replace X4 : Stand p l e room_1 s m _ below meth c T4 _ 2 36 := X4
    replace A_sa : Ara Z h4 sa .int 0 (fun jz => .int ((fun _ => (0 : Int32)) jz)) := A_sa
    refine g_iconst X4 hx hby at_62 (pc' := 63) rfl (n := (0 : Int32)) (by first | rfl | decide) ?_
    refine g_newA X4 hx hby hZ e4 (N := 0) (hw _ (List.mem_of_getElem? (i := 4) rfl)) at_63 (pc' := 65) rfl rfl (cap := 0) (Nat.le_refl _) (by decide) (by decide) (by decide) (fun T8 h8 sb g8 X8 e8 E8 A_sb => ?_)
    have lne9 : o < sb := by rw [g8]; exact E_o.lt
    have ne9 : o ≠ sb := Nat.ne_of_lt lne9
    have lne10 : sa < sb := by rw [g8]; exact A_sa.lt
    have ne10 : sa ≠ sb := Nat.ne_of_lt lne10
    have g11 : n0 ≤ sb := by rw [g8]; exact Z7
    replace E_o := E_o.ext E8
    replace U_o := U_o.ext E8
    replace A_sa := A_sa.ext E8
    have Z12 : n0 ≤ h8.size := Nat.le_trans Z7 E8.1
    replace X8 : Stand p l e room_1 s m _ below meth c T8 _ 3 36 := X8
    replace A_sb : Ara Z h8 sb .int 0 (fun jz => .int ((fun _ => (0 : Int32)) jz)) := A_sb
    refine g_iconst X8 hx hby at_65 (pc' := 66) rfl (n := (0 : Int32)) (by first | rfl | decide) ?_
    refine g_iconst X8 hx hby at_66 (pc' := 67) rfl (n := (3 : Int32)) (by first | rfl | decide) ?_
    refine g_newA X8 hx hby hZ e8 (N := 3) (hw _ (List.mem_of_getElem? (i := 4) rfl)) at_67 (pc' := 69) rfl rfl (cap := 3) (Nat.le_refl _) (by decide) (by decide) (by decide) (fun T13 h13 ar g13 X13 e13 E13 A_ar => ?_)
    have lne14 : o < ar := by rw [g13]; exact E_o.lt
    have ne14 : o ≠ ar := Nat.ne_of_lt lne14
    have lne15 : sa < ar := by rw [g13]; exact A_sa.lt
    have ne15 : sa ≠ ar := Nat.ne_of_lt lne15
    have lne16 : sb < ar := by rw [g13]; exact A_sb.lt
    have ne16 : sb ≠ ar := Nat.ne_of_lt lne16
    have g17 : n0 ≤ ar := by rw [g13]; exact Z12
    replace E_o := E_o.ext E13
    replace U_o := U_o.ext E13
    replace A_sa := A_sa.ext E13
    replace A_sb := A_sb.ext E13
    have Z18 : n0 ≤ h13.size := Nat.le_trans Z12 E13.1
    replace X13 : Stand p l e room_1 s m _ below meth c T13 _ 4 39 := X13
    replace A_ar : Ara Z h13 ar .int 3 (fun jz => .int ((fun _ => (0 : Int32)) jz)) := A_ar
    refine g_dup X13 hx hby at_69 (pc' := 70) rfl rfl ?_
    refine g_iconst X13 hx hby at_70 (pc' := 71) rfl (n := (0 : Int32)) (by first | rfl | decide) ?_
    refine g_iconst X13 hx hby at_71 (pc' := 72) rfl (n := (0 : Int32)) (by first | rfl | decide) ?_
    refine a_iastore X13 hx hby hZ e13 A_ar (by decide) (by decide) at_72 (pc' := 73) rfl (fun T19 h19 X19 e19 W19 => ?_)
    replace E_o := E_o.wr W19
    replace U_o := U_o.other W19 ne14
    replace A_sa := A_sa.other W19 ne15
    replace A_sb := A_sb.other W19 ne16
    have Z20 : n0 ≤ h19.size := by rw [W19.size]; exact Z18
    have N21 := Fr.snoc X19 N0 g17
    replace A_ar : Ara Z h19 ar .int 3 (fun jz => .int ((own_ui (fun _ => (0 : Int32)) 0 (0 : Int32)) jz)) := A_ar.setI W19
    refine g_dup X19 hx hby at_73 (pc' := 74) rfl rfl ?_
    refine g_iconst X19 hx hby at_74 (pc' := 75) rfl (n := (1 : Int32)) (by first | rfl | decide) ?_
    refine g_iconst X19 hx hby at_75 (pc' := 76) rfl (n := (1 : Int32)) (by first | rfl | decide) ?_
    refine a_iastore X19 hx hby hZ e19 A_ar (by decide) (by decide) at_76 (pc' := 77) rfl (fun T22 h22 X22 e22 W22 => ?_)
    replace E_o := E_o.wr W22
    replace U_o := U_o.other W22 ne14
    replace A_sa := A_sa.other W22 ne15
    replace A_sb := A_sb.other W22 ne16
    have Z23 : n0 ≤ h22.size := by rw [W22.size]; exact Z20
    have N24 := Fr.snoc X22 N21 g17
    replace A_ar : Ara Z h22 ar .int 3 (fun jz => .int ((own_ui (own_ui (fun _ => (0 : Int32)) 0 (0 : Int32)) 1 (1 : Int32)) jz)) := A_ar.setI W22
    refine g_dup X22 hx hby at_77 (pc' := 78) rfl rfl ?_
    refine g_iconst X22 hx hby at_78 (pc' := 79) rfl (n := (2 : Int32)) (by first | rfl | decide) ?_
    refine g_iconst X22 hx hby at_79 (pc' := 80) rfl (n := (2 : Int32)) (by first | rfl | decide) ?_
    refine a_iastore X22 hx hby hZ e22 A_ar (by decide) (by decide) at_80 (pc' := 81) rfl (fun T25 h25 X25 e25 W25 => ?_)
    replace E_o := E_o.wr W25
    replace U_o := U_o.other W25 ne14
    replace A_sa := A_sa.other W25 ne15
    replace A_sb := A_sb.other W25 ne16
    have Z26 : n0 ≤ h25.size := by rw [W25.size]; exact Z23
    have N27 := Fr.snoc X25 N24 g17
    replace A_ar : Ara Z h25 ar .int 3 (fun jz => .int ((own_ui (own_ui (own_ui (fun _ => (0 : Int32)) 0 (0 : Int32)) 1 (1 : Int32)) 2 (2 : Int32)) jz)) := A_ar.setI W25
    refine g_special X25 hx hby hZ hown rfl hml rfl (hw _ (List.mem_of_getElem? (i := 5) rfl)) (hw _ (List.mem_of_getElem? (i := 6) rfl)) (hw _ (List.mem_of_getElem? (i := 3) rfl)) rfl (hw _ (List.mem_of_getElem? (i := 7) rfl)) (by decide) e25 (rm_ctor l Z a0 hw o sa sb ar n0 h25 Z26 g2 E_o U_o A_ar ne14) pd___I_II_I_V_732 (a := o) (argsL := [(.ref sa), (.ref sb), (.int (0 : Int32)), (.ref ar)]) (rest := [(.ref o)]) rfl rfl rfl at_81 (pc' := 84) rfl (by decide) (Nat.le_of_ble_eq_true rfl) (by decide) (by decide) ?_
    intro Tp81 vp81 Lp81 Xp81 qp81
    obtain ⟨rfl, Nqp81, Dp81⟩ := qp81
    replace Xp81 : Stand p l e room_1 s m _ below meth c Tp81 _ 35 302 := Xp81
    have Np81 := Fr.app N27 Nqp81
    show Go p e below EF (Q0 n0) m Tp81 84 #[.val (.int ua), .val (.int ub), .val (.int uc), .val (.int ud), .val (.int ue), .val (.int ug), .val (.int ca), .val (.int cb), .val (.int cc), .val (.int cx), .val (.int um), .val (.int (0 : Int32)), .unset, .unset, .unset, .unset, .unset, .unset] [(.ref o)]
    have Zsp81 := own_D_sz Dp81
    refine g_astore Xp81 hx hby at_84 (pc' := 86) rfl rfl (Ls' := #[.val (.int ua), .val (.int ub), .val (.int uc), .val (.int ud), .val (.int ue), .val (.int ug), .val (.int ca), .val (.int cb), .val (.int cc), .val (.int cx), .val (.int um), .val (.int (0 : Int32)), .val (.ref o), .unset, .unset, .unset, .unset, .unset]) rfl ?_
    refine g_aload Xp81 hx hby at_86 (pc' := 88) rfl rfl rfl ?_
    refine g_iload Xp81 hx hby at_88 (pc' := 90) rfl rfl ?_
    refine g_static Xp81 hx hby hZ hown hml rfl (hw _ (List.mem_of_getElem? (i := 105) rfl)) (hw _ (List.mem_of_getElem? (i := 106) rfl)) (hw _ (List.mem_of_getElem? (i := 107) rfl)) (hw _ (List.mem_of_getElem? (i := 108) rfl)) (by decide) rfl (rm_fr l Z a0 hw ca Tp81.heap ) pd__I_I_227 (argsL := [(.int ca)]) (rest := [(.ref o)]) rfl rfl rfl at_90 (pc' := 93) rfl (by decide) (Nat.le_of_ble_eq_true rfl) (by decide) (by decide) ?_
    intro Tp90 vp90 Lp90 Xp90 qp90
    obtain ⟨⟨rp90, rfl, h_rp90⟩, ep90, rfl⟩ := qp90
    rw [List.append_nil] at Xp90
    replace Xp90 : Stand p l e room_1 s m _ below meth c Tp90 _ 35 302 := Xp90
    show Go p e below EF (Q0 n0) m Tp90 93 #[.val (.int ua), .val (.int ub), .val (.int uc), .val (.int ud), .val (.int ue), .val (.int ug), .val (.int ca), .val (.int cb), .val (.int cc), .val (.int cx), .val (.int um), .val (.int (0 : Int32)), .val (.ref o), .unset, .unset, .unset, .unset, .unset] [(.int rp90), (.ref o)]
    refine g_iload Xp90 hx hby at_93 (pc' := 95) rfl rfl ?_
    refine g_static Xp90 hx hby hZ hown hml rfl (hw _ (List.mem_of_getElem? (i := 109) rfl)) (hw _ (List.mem_of_getElem? (i := 110) rfl)) (hw _ (List.mem_of_getElem? (i := 107) rfl)) (hw _ (List.mem_of_getElem? (i := 111) rfl)) (by decide) ep90 (rm_to l Z a0 hw ca Tp81.heap ) pd__I_I_227 (argsL := [(.int ca)]) (rest := [(.int rp90), (.ref o)]) rfl rfl rfl at_95 (pc' := 98) rfl (by decide) (Nat.le_of_ble_eq_true rfl) (by decide) (by decide) ?_
    intro Tp95 vp95 Lp95 Xp95 qp95
    obtain ⟨⟨rp95, rfl, h_rp95⟩, ep95, rfl⟩ := qp95
    rw [List.append_nil] at Xp95
    replace Xp95 : Stand p l e room_1 s m _ below meth c Tp95 _ 35 302 := Xp95
    show Go p e below EF (Q0 n0) m Tp95 98 #[.val (.int ua), .val (.int ub), .val (.int uc), .val (.int ud), .val (.int ue), .val (.int ug), .val (.int ca), .val (.int cb), .val (.int cc), .val (.int cx), .val (.int um), .val (.int (0 : Int32)), .val (.ref o), .unset, .unset, .unset, .unset, .unset] [(.int rp95), (.int rp90), (.ref o)]
    refine g_virtual Xp95 hx hby hZ hown hml rfl (hw _ (List.mem_of_getElem? (i := 112) rfl)) (hw _ (List.mem_of_getElem? (i := 113) rfl)) (hw _ (List.mem_of_getElem? (i := 115) rfl)) (hw _ (List.mem_of_getElem? (i := 114) rfl)) (hw _ (List.mem_of_getElem? (i := 3) rfl)) (hw _ (List.mem_of_getElem? (i := 116) rfl)) (by decide) ep95 (rm_add l Z a0 hw o rp90 rp95 n0 0 (0 : Int32) (fun _ => (0 : Int32)) (1 : Int32) ca Tp81.heap Zsp81 Dp81 hca h_rp90 h_rp95 (by decide) (by decide)) pd__II_Z_317 (own_D_exa Dp81) (argsL := [(.int rp90), (.int rp95)]) (rest := []) rfl rfl rfl at_98 (pc' := 101) rfl (by decide) (Nat.le_of_ble_eq_true rfl) (by decide) (by decide) ?_
    intro Tp98 vp98 Lp98 Xp98 qp98
    obtain ⟨rfl, Nqp98, Dp98⟩ := qp98
    replace Xp98 : Stand p l e room_1 s m _ below meth c Tp98 _ 35 302 := Xp98
    have Np98 := Fr.app Np81 Nqp98
    show Go p e below EF (Q0 n0) m Tp98 101 #[.val (.int ua), .val (.int ub), .val (.int uc), .val (.int ud), .val (.int ue), .val (.int ug), .val (.int ca), .val (.int cb), .val (.int cc), .val (.int cx), .val (.int um), .val (.int (0 : Int32)), .val (.ref o), .unset, .unset, .unset, .unset, .unset] [(.int (1 : Int32))]
    have Zsp98 := own_D_sz Dp98
    refine g_istore Xp98 hx hby at_101 (pc' := 103) rfl (Ls' := #[.val (.int ua), .val (.int ub), .val (.int uc), .val (.int ud), .val (.int ue), .val (.int ug), .val (.int ca), .val (.int cb), .val (.int cc), .val (.int cx), .val (.int um), .val (.int (0 : Int32)), .val (.ref o), .val (.int (1 : Int32)), .unset, .unset, .unset, .unset]) rfl ?_
    refine g_iload Xp98 hx hby at_103 (pc' := 105) rfl rfl ?_
    refine g_aload Xp98 hx hby at_105 (pc' := 107) rfl rfl rfl ?_
    refine g_iload Xp98 hx hby at_107 (pc' := 109) rfl rfl ?_
    refine g_static Xp98 hx hby hZ hown hml rfl (hw _ (List.mem_of_getElem? (i := 105) rfl)) (hw _ (List.mem_of_getElem? (i := 106) rfl)) (hw _ (List.mem_of_getElem? (i := 107) rfl)) (hw _ (List.mem_of_getElem? (i := 108) rfl)) (by decide) rfl (rm_fr l Z a0 hw cb Tp98.heap ) pd__I_I_227 (argsL := [(.int cb)]) (rest := [(.ref o), (.int (1 : Int32))]) rfl rfl rfl at_109 (pc' := 112) rfl (by decide) (Nat.le_of_ble_eq_true rfl) (by decide) (by decide) ?_
    intro Tp109 vp109 Lp109 Xp109 qp109
    obtain ⟨⟨rp109, rfl, h_rp109⟩, ep109, rfl⟩ := qp109
    rw [List.append_nil] at Xp109
    replace Xp109 : Stand p l e room_1 s m _ below meth c Tp109 _ 35 302 := Xp109
    show Go p e below EF (Q0 n0) m Tp109 112 #[.val (.int ua), .val (.int ub), .val (.int uc), .val (.int ud), .val (.int ue), .val (.int ug), .val (.int ca), .val (.int cb), .val (.int cc), .val (.int cx), .val (.int um), .val (.int (0 : Int32)), .val (.ref o), .val (.int (1 : Int32)), .unset, .unset, .unset, .unset] [(.int rp109), (.ref o), (.int (1 : Int32))]
    refine g_iload Xp109 hx hby at_112 (pc' := 114) rfl rfl ?_
    refine g_static Xp109 hx hby hZ hown hml rfl (hw _ (List.mem_of_getElem? (i := 109) rfl)) (hw _ (List.mem_of_getElem? (i := 110) rfl)) (hw _ (List.mem_of_getElem? (i := 107) rfl)) (hw _ (List.mem_of_getElem? (i := 111) rfl)) (by decide) ep109 (rm_to l Z a0 hw cb Tp98.heap ) pd__I_I_227 (argsL := [(.int cb)]) (rest := [(.int rp109), (.ref o), (.int (1 : Int32))]) rfl rfl rfl at_114 (pc' := 117) rfl (by decide) (Nat.le_of_ble_eq_true rfl) (by decide) (by decide) ?_
    intro Tp114 vp114 Lp114 Xp114 qp114
    obtain ⟨⟨rp114, rfl, h_rp114⟩, ep114, rfl⟩ := qp114
    rw [List.append_nil] at Xp114
    replace Xp114 : Stand p l e room_1 s m _ below meth c Tp114 _ 35 302 := Xp114
    show Go p e below EF (Q0 n0) m Tp114 117 #[.val (.int ua), .val (.int ub), .val (.int uc), .val (.int ud), .val (.int ue), .val (.int ug), .val (.int ca), .val (.int cb), .val (.int cc), .val (.int cx), .val (.int um), .val (.int (0 : Int32)), .val (.ref o), .val (.int (1 : Int32)), .unset, .unset, .unset, .unset] [(.int rp114), (.int rp109), (.ref o), (.int (1 : Int32))]
    refine g_virtual Xp114 hx hby hZ hown hml rfl (hw _ (List.mem_of_getElem? (i := 112) rfl)) (hw _ (List.mem_of_getElem? (i := 113) rfl)) (hw _ (List.mem_of_getElem? (i := 115) rfl)) (hw _ (List.mem_of_getElem? (i := 114) rfl)) (hw _ (List.mem_of_getElem? (i := 3) rfl)) (hw _ (List.mem_of_getElem? (i := 116) rfl)) (by decide) ep114 (rm_add l Z a0 hw o rp109 rp114 n0 0 (1 : Int32) (own_ui (fun _ => (0 : Int32)) (0 : Int32).toInt.toNat ca) (2 : Int32) cb Tp98.heap Zsp98 Dp98 hcb h_rp109 h_rp114 (by decide) (by decide)) pd__II_Z_317 (own_D_exa Dp98) (argsL := [(.int rp109), (.int rp114)]) (rest := [(.int (1 : Int32))]) rfl rfl rfl at_117 (pc' := 120) rfl (by decide) (Nat.le_of_ble_eq_true rfl) (by decide) (by decide) ?_
    intro Tp117 vp117 Lp117 Xp117 qp117
    obtain ⟨rfl, Nqp117, Dp117⟩ := qp117
    replace Xp117 : Stand p l e room_1 s m _ below meth c Tp117 _ 35 302 := Xp117
    have Np117 := Fr.app Np98 Nqp117
    show Go p e below EF (Q0 n0) m Tp117 120 #[.val (.int ua), .val (.int ub), .val (.int uc), .val (.int ud), .val (.int ue), .val (.int ug), .val (.int ca), .val (.int cb), .val (.int cc), .val (.int cx), .val (.int um), .val (.int (0 : Int32)), .val (.ref o), .val (.int (1 : Int32)), .unset, .unset, .unset, .unset] [(.int (1 : Int32)), (.int (1 : Int32))]
    have Zsp117 := own_D_sz Dp117
    refine g_iand Xp117 hx hby at_120 (pc' := 121) rfl ?_
    show Go p e below EF (Q0 n0) m Tp117 121 #[.val (.int ua), .val (.int ub), .val (.int uc), .val (.int ud), .val (.int ue), .val (.int ug), .val (.int ca), .val (.int cb), .val (.int cc), .val (.int cx), .val (.int um), .val (.int (0 : Int32)), .val (.ref o), .val (.int (1 : Int32)), .unset, .unset, .unset, .unset] [(.int (1 : Int32))]
    refine g_istore Xp117 hx hby at_121 (pc' := 123) rfl (Ls' := #[.val (.int ua), .val (.int ub), .val (.int uc), .val (.int ud), .val (.int ue), .val (.int ug), .val (.int ca), .val (.int cb), .val (.int cc), .val (.int cx), .val (.int um), .val (.int (0 : Int32)), .val (.ref o), .val (.int (1 : Int32)), .unset, .unset, .unset, .unset]) rfl ?_
    refine g_iload Xp117 hx hby at_123 (pc' := 125) rfl rfl ?_
    refine g_aload Xp117 hx hby at_125 (pc' := 127) rfl rfl rfl ?_
    refine g_iload Xp117 hx hby at_127 (pc' := 129) rfl rfl ?_
    refine g_static Xp117 hx hby hZ hown hml rfl (hw _ (List.mem_of_getElem? (i := 105) rfl)) (hw _ (List.mem_of_getElem? (i := 106) rfl)) (hw _ (List.mem_of_getElem? (i := 107) rfl)) (hw _ (List.mem_of_getElem? (i := 108) rfl)) (by decide) rfl (rm_fr l Z a0 hw cc Tp117.heap ) pd__I_I_227 (argsL := [(.int cc)]) (rest := [(.ref o), (.int (1 : Int32))]) rfl rfl rfl at_129 (pc' := 132) rfl (by decide) (Nat.le_of_ble_eq_true rfl) (by decide) (by decide) ?_
    intro Tp129 vp129 Lp129 Xp129 qp129
    obtain ⟨⟨rp129, rfl, h_rp129⟩, ep129, rfl⟩ := qp129
    rw [List.append_nil] at Xp129
    replace Xp129 : Stand p l e room_1 s m _ below meth c Tp129 _ 35 302 := Xp129
    show Go p e below EF (Q0 n0) m Tp129 132 #[.val (.int ua), .val (.int ub), .val (.int uc), .val (.int ud), .val (.int ue), .val (.int ug), .val (.int ca), .val (.int cb), .val (.int cc), .val (.int cx), .val (.int um), .val (.int (0 : Int32)), .val (.ref o), .val (.int (1 : Int32)), .unset, .unset, .unset, .unset] [(.int rp129), (.ref o), (.int (1 : Int32))]
    refine g_iload Xp129 hx hby at_132 (pc' := 134) rfl rfl ?_
    refine g_static Xp129 hx hby hZ hown hml rfl (hw _ (List.mem_of_getElem? (i := 109) rfl)) (hw _ (List.mem_of_getElem? (i := 110) rfl)) (hw _ (List.mem_of_getElem? (i := 107) rfl)) (hw _ (List.mem_of_getElem? (i := 111) rfl)) (by decide) ep129 (rm_to l Z a0 hw cc Tp117.heap ) pd__I_I_227 (argsL := [(.int cc)]) (rest := [(.int rp129), (.ref o), (.int (1 : Int32))]) rfl rfl rfl at_134 (pc' := 137) rfl (by decide) (Nat.le_of_ble_eq_true rfl) (by decide) (by decide) ?_
    intro Tp134 vp134 Lp134 Xp134 qp134
    obtain ⟨⟨rp134, rfl, h_rp134⟩, ep134, rfl⟩ := qp134
    rw [List.append_nil] at Xp134
    replace Xp134 : Stand p l e room_1 s m _ below meth c Tp134 _ 35 302 := Xp134
    show Go p e below EF (Q0 n0) m Tp134 137 #[.val (.int ua), .val (.int ub), .val (.int uc), .val (.int ud), .val (.int ue), .val (.int ug), .val (.int ca), .val (.int cb), .val (.int cc), .val (.int cx), .val (.int um), .val (.int (0 : Int32)), .val (.ref o), .val (.int (1 : Int32)), .unset, .unset, .unset, .unset] [(.int rp134), (.int rp129), (.ref o), (.int (1 : Int32))]
    refine g_virtual Xp134 hx hby hZ hown hml rfl (hw _ (List.mem_of_getElem? (i := 112) rfl)) (hw _ (List.mem_of_getElem? (i := 113) rfl)) (hw _ (List.mem_of_getElem? (i := 115) rfl)) (hw _ (List.mem_of_getElem? (i := 114) rfl)) (hw _ (List.mem_of_getElem? (i := 3) rfl)) (hw _ (List.mem_of_getElem? (i := 116) rfl)) (by decide) ep134 (rm_add l Z a0 hw o rp129 rp134 n0 0 (2 : Int32) (own_ui (own_ui (fun _ => (0 : Int32)) (0 : Int32).toInt.toNat ca) (1 : Int32).toInt.toNat cb) (3 : Int32) cc Tp117.heap Zsp117 Dp117 hcc h_rp129 h_rp134 (by decide) (by decide)) pd__II_Z_317 (own_D_exa Dp117) (argsL := [(.int rp129), (.int rp134)]) (rest := [(.int (1 : Int32))]) rfl rfl rfl at_137 (pc' := 140) rfl (by decide) (Nat.le_of_ble_eq_true rfl) (by decide) (by decide) ?_
    intro Tp137 vp137 Lp137 Xp137 qp137
    obtain ⟨rfl, Nqp137, Dp137⟩ := qp137
    replace Xp137 : Stand p l e room_1 s m _ below meth c Tp137 _ 35 302 := Xp137
    have Np137 := Fr.app Np117 Nqp137
    show Go p e below EF (Q0 n0) m Tp137 140 #[.val (.int ua), .val (.int ub), .val (.int uc), .val (.int ud), .val (.int ue), .val (.int ug), .val (.int ca), .val (.int cb), .val (.int cc), .val (.int cx), .val (.int um), .val (.int (0 : Int32)), .val (.ref o), .val (.int (1 : Int32)), .unset, .unset, .unset, .unset] [(.int (1 : Int32)), (.int (1 : Int32))]
    have Zsp137 := own_D_sz Dp137
    refine g_iand Xp137 hx hby at_140 (pc' := 141) rfl ?_
    show Go p e below EF (Q0 n0) m Tp137 141 #[.val (.int ua), .val (.int ub), .val (.int uc), .val (.int ud), .val (.int ue), .val (.int ug), .val (.int ca), .val (.int cb), .val (.int cc), .val (.int cx), .val (.int um), .val (.int (0 : Int32)), .val (.ref o), .val (.int (1 : Int32)), .unset, .unset, .unset, .unset] [(.int (1 : Int32))]
    refine g_istore Xp137 hx hby at_141 (pc' := 143) rfl (Ls' := #[.val (.int ua), .val (.int ub), .val (.int uc), .val (.int ud), .val (.int ue), .val (.int ug), .val (.int ca), .val (.int cb), .val (.int cc), .val (.int cx), .val (.int um), .val (.int (0 : Int32)), .val (.ref o), .val (.int (1 : Int32)), .unset, .unset, .unset, .unset]) rfl ?_
    refine g_aload Xp137 hx hby at_143 (pc' := 145) rfl rfl rfl ?_
    refine g_iload Xp137 hx hby at_145 (pc' := 147) rfl rfl ?_
    refine g_virtual Xp137 hx hby hZ hown hml rfl (hw _ (List.mem_of_getElem? (i := 119) rfl)) (hw _ (List.mem_of_getElem? (i := 120) rfl)) (hw _ (List.mem_of_getElem? (i := 122) rfl)) (hw _ (List.mem_of_getElem? (i := 121) rfl)) (hw _ (List.mem_of_getElem? (i := 3) rfl)) (hw _ (List.mem_of_getElem? (i := 123) rfl)) (by decide) rfl (rm_undo l Z a0 hw o um n0 0 (3 : Int32) (own_ui (own_ui (own_ui (fun _ => (0 : Int32)) (0 : Int32).toInt.toNat ca) (1 : Int32).toInt.toNat cb) (2 : Int32).toInt.toNat cc) Tp137.heap Zsp137 Dp137 ⟨hum.1, by have e3 : (3 : Int32).toInt = 3 := rfl; omega⟩) pd__I_V_240 (own_D_exa Dp137) (argsL := [(.int um)]) (rest := []) rfl rfl rfl at_147 (pc' := 150) rfl (by decide) (Nat.le_of_ble_eq_true rfl) (by decide) (by decide) ?_
    intro Tp147 vp147 Lp147 Xp147 qp147
    obtain ⟨rfl, Nqp147, Dp147⟩ := qp147
    replace Xp147 : Stand p l e room_1 s m _ below meth c Tp147 _ 35 302 := Xp147
    have Np147 := Fr.app Np137 Nqp147
    show Go p e below EF (Q0 n0) m Tp147 150 #[.val (.int ua), .val (.int ub), .val (.int uc), .val (.int ud), .val (.int ue), .val (.int ug), .val (.int ca), .val (.int cb), .val (.int cc), .val (.int cx), .val (.int um), .val (.int (0 : Int32)), .val (.ref o), .val (.int (1 : Int32)), .unset, .unset, .unset, .unset] []
    have Zsp147 := own_D_sz Dp147
    refine g_iload Xp147 hx hby at_150 (pc' := 152) rfl rfl ?_
    refine g_aload Xp147 hx hby at_152 (pc' := 154) rfl rfl rfl ?_
    refine g_virtual Xp147 hx hby hZ hown hml rfl (hw _ (List.mem_of_getElem? (i := 124) rfl)) (hw _ (List.mem_of_getElem? (i := 125) rfl)) (hw _ (List.mem_of_getElem? (i := 127) rfl)) (hw _ (List.mem_of_getElem? (i := 126) rfl)) (hw _ (List.mem_of_getElem? (i := 3) rfl)) (hw _ (List.mem_of_getElem? (i := 128) rfl)) (by decide) rfl (rm_mark l Z a0 hw o um Tp147.heap (own_D_added Dp147)) pd___I_154 (own_D_exa Dp147) (argsL := []) (rest := [(.int (1 : Int32))]) rfl rfl rfl at_154 (pc' := 157) rfl (by decide) (Nat.le_of_ble_eq_true rfl) (by decide) (by decide) ?_
    intro Tp154 vp154 Lp154 Xp154 qp154
    obtain ⟨⟨rp154, rfl, h_rp154⟩, ep154, rfl⟩ := qp154
    rw [List.append_nil] at Xp154
    replace Xp154 : Stand p l e room_1 s m _ below meth c Tp154 _ 35 302 := Xp154
    show Go p e below EF (Q0 n0) m Tp154 157 #[.val (.int ua), .val (.int ub), .val (.int uc), .val (.int ud), .val (.int ue), .val (.int ug), .val (.int ca), .val (.int cb), .val (.int cc), .val (.int cx), .val (.int um), .val (.int (0 : Int32)), .val (.ref o), .val (.int (1 : Int32)), .unset, .unset, .unset, .unset] [(.int rp154), (.int (1 : Int32))]
    refine g_iload Xp154 hx hby at_157 (pc' := 159) rfl rfl ?_
    refine g_icmpne Xp154 hx hby at_159 (pt := 166) (pf := 162) (by decide) (by decide) rfl (fun (h159 : ¬ rp154 = um) => (by exfalso; exact h159 h_rp154)) (fun (h159 : rp154 = um) => ?_)
    have h159i : rp154.toInt = um.toInt := congrArg Int32.toInt h159
    refine g_iconst Xp154 hx hby at_162 (pc' := 163) rfl (n := (1 : Int32)) (by first | rfl | decide) ?_
    refine g_goto Xp154 hx hby at_163 (pc' := 167) (by decide) (by decide) ?_
    refine g_iand Xp154 hx hby at_167 (pc' := 168) rfl ?_
    show Go p e below EF (Q0 n0) m Tp154 168 #[.val (.int ua), .val (.int ub), .val (.int uc), .val (.int ud), .val (.int ue), .val (.int ug), .val (.int ca), .val (.int cb), .val (.int cc), .val (.int cx), .val (.int um), .val (.int (0 : Int32)), .val (.ref o), .val (.int (1 : Int32)), .unset, .unset, .unset, .unset] [(.int (1 : Int32))]
    refine g_istore Xp154 hx hby at_168 (pc' := 170) rfl (Ls' := #[.val (.int ua), .val (.int ub), .val (.int uc), .val (.int ud), .val (.int ue), .val (.int ug), .val (.int ca), .val (.int cb), .val (.int cc), .val (.int cx), .val (.int um), .val (.int (0 : Int32)), .val (.ref o), .val (.int (1 : Int32)), .unset, .unset, .unset, .unset]) rfl ?_
    refine g_iload Xp154 hx hby at_170 (pc' := 172) rfl rfl ?_
    refine g_ifeq Xp154 hx hby at_172 (pt := 195) (pf := 175) (by decide) (by decide) rfl (fun (h172 : (0 : Int32) = (0 : Int32)) => ?_) (fun (h172 : ¬ (0 : Int32) = (0 : Int32)) => (by exfalso; revert h172; decide))
    refine g_iconst Xp154 hx hby at_195 (pc' := 196) rfl (n := (0 : Int32)) (by first | rfl | decide) ?_
    refine g_iload Xp154 hx hby at_196 (pc' := 198) rfl rfl ?_
    refine g_iload Xp154 hx hby at_198 (pc' := 200) rfl rfl ?_
    refine g_iload Xp154 hx hby at_200 (pc' := 202) rfl rfl ?_
    refine g_iload Xp154 hx hby at_202 (pc' := 204) rfl rfl ?_
    refine g_static Xp154 hx hby hZ hown hml rfl (hw _ (List.mem_of_getElem? (i := 129) rfl)) (hw _ (List.mem_of_getElem? (i := 130) rfl)) (hw _ (List.mem_of_getElem? (i := 107) rfl)) (hw _ (List.mem_of_getElem? (i := 131) rfl)) (by decide) ep154 (rm_kp l Z a0 hw (0 : Int32) ca cb cc um Tp147.heap ) pd__IIIII_Z_536 (argsL := [(.int (0 : Int32)), (.int ca), (.int cb), (.int cc), (.int um)]) (rest := []) rfl rfl rfl at_204 (pc' := 207) rfl (by decide) (Nat.le_of_ble_eq_true rfl) (by decide) (by decide) ?_
    intro Tp204 vp204 Lp204 Xp204 qp204
    obtain ⟨⟨rp204, rfl, h_rp204⟩, ep204, rfl⟩ := qp204
    rw [List.append_nil] at Xp204
    replace Xp204 : Stand p l e room_1 s m _ below meth c Tp204 _ 35 302 := Xp204
    show Go p e below EF (Q0 n0) m Tp204 207 #[.val (.int ua), .val (.int ub), .val (.int uc), .val (.int ud), .val (.int ue), .val (.int ug), .val (.int ca), .val (.int cb), .val (.int cc), .val (.int cx), .val (.int um), .val (.int (0 : Int32)), .val (.ref o), .val (.int (1 : Int32)), .unset, .unset, .unset, .unset] [(.int rp204)]
    suffices J225_28 : ∀ (va : Int32) (h_va : own_bool va ((own_kp (0 : Int32) ca cb cc um))), Go p e below EF (Q0 n0) m Tp204 225 #[.val (.int ua), .val (.int ub), .val (.int uc), .val (.int ud), .val (.int ue), .val (.int ug), .val (.int ca), .val (.int cb), .val (.int cc), .val (.int cx), .val (.int um), .val (.int (0 : Int32)), .val (.ref o), .val (.int (1 : Int32)), .unset, .unset, .unset, .unset] [(.int va)] by
      refine g_ifne Xp204 hx hby at_207 (pt := 220) (pf := 210) (by decide) (by decide) rfl (fun (h207 : ¬ rp204 = (0 : Int32)) => ?_) (fun (h207 : rp204 = (0 : Int32)) => ?_)
      · have h207i : ¬ rp204.toInt = 0 := fun q => h207 (Int32.toInt_inj.mp q)
        refine g_iconst Xp204 hx hby at_220 (pc' := 221) rfl (n := (1 : Int32)) (by first | rfl | decide) ?_
        refine g_goto Xp204 hx hby at_221 (pc' := 225) (by decide) (by decide) ?_
        exact J225_28 _ (Or.inl ⟨rfl, by first | exact Or.inl (own_bool_nz h_rp204 h207) | exact Or.inr h217 | exact (fun z => z.elim (own_bool_z h_rp204 h207) h217) | exact own_bool_nz h_rp204 h207 | exact own_bool_z h_rp204 h207⟩)
      · have h207i : rp204.toInt = 0 := congrArg Int32.toInt h207
        refine g_iload Xp204 hx hby at_210 (pc' := 212) rfl rfl ?_
        refine g_ifeq Xp204 hx hby at_212 (pt := 224) (pf := 215) (by decide) (by decide) rfl (fun (h212 : (0 : Int32) = (0 : Int32)) => ?_) (fun (h212 : ¬ (0 : Int32) = (0 : Int32)) => (by exfalso; revert h212; decide))
        refine g_iconst Xp204 hx hby at_224 (pc' := 225) rfl (n := (0 : Int32)) (by first | rfl | decide) ?_
        exact J225_28 _ (Or.inr ⟨rfl, by first | exact Or.inl (own_bool_nz h_rp204 h207) | exact Or.inr h217 | exact (fun z => z.elim (own_bool_z h_rp204 h207) h217) | exact own_bool_nz h_rp204 h207 | exact own_bool_z h_rp204 h207⟩)
    intro va h_va
    refine g_istore Xp204 hx hby at_225 (pc' := 227) rfl (Ls' := #[.val (.int ua), .val (.int ub), .val (.int uc), .val (.int ud), .val (.int ue), .val (.int ug), .val (.int ca), .val (.int cb), .val (.int cc), .val (.int cx), .val (.int um), .val (.int (0 : Int32)), .val (.ref o), .val (.int (1 : Int32)), .val (.int va), .unset, .unset, .unset]) rfl ?_
    refine g_iconst Xp204 hx hby at_227 (pc' := 228) rfl (n := (1 : Int32)) (by first | rfl | decide) ?_
    refine g_iload Xp204 hx hby at_228 (pc' := 230) rfl rfl ?_
    refine g_iload Xp204 hx hby at_230 (pc' := 232) rfl rfl ?_
    refine g_iload Xp204 hx hby at_232 (pc' := 234) rfl rfl ?_
    refine g_iload Xp204 hx hby at_234 (pc' := 236) rfl rfl ?_
    refine g_static Xp204 hx hby hZ hown hml rfl (hw _ (List.mem_of_getElem? (i := 129) rfl)) (hw _ (List.mem_of_getElem? (i := 130) rfl)) (hw _ (List.mem_of_getElem? (i := 107) rfl)) (hw _ (List.mem_of_getElem? (i := 131) rfl)) (by decide) ep204 (rm_kp l Z a0 hw (1 : Int32) ca cb cc um Tp147.heap ) pd__IIIII_Z_536 (argsL := [(.int (1 : Int32)), (.int ca), (.int cb), (.int cc), (.int um)]) (rest := []) rfl rfl rfl at_236 (pc' := 239) rfl (by decide) (Nat.le_of_ble_eq_true rfl) (by decide) (by decide) ?_
    intro Tp236 vp236 Lp236 Xp236 qp236
    obtain ⟨⟨rp236, rfl, h_rp236⟩, ep236, rfl⟩ := qp236
    rw [List.append_nil] at Xp236
    replace Xp236 : Stand p l e room_1 s m _ below meth c Tp236 _ 35 302 := Xp236
    show Go p e below EF (Q0 n0) m Tp236 239 #[.val (.int ua), .val (.int ub), .val (.int uc), .val (.int ud), .val (.int ue), .val (.int ug), .val (.int ca), .val (.int cb), .val (.int cc), .val (.int cx), .val (.int um), .val (.int (0 : Int32)), .val (.ref o), .val (.int (1 : Int32)), .val (.int va), .unset, .unset, .unset] [(.int rp236)]
    suffices J258_29 : ∀ (vb : Int32) (h_vb : own_bool vb ((own_kp (1 : Int32) ca cb cc um))), Go p e below EF (Q0 n0) m Tp236 258 #[.val (.int ua), .val (.int ub), .val (.int uc), .val (.int ud), .val (.int ue), .val (.int ug), .val (.int ca), .val (.int cb), .val (.int cc), .val (.int cx), .val (.int um), .val (.int (0 : Int32)), .val (.ref o), .val (.int (1 : Int32)), .val (.int va), .unset, .unset, .unset] [(.int vb)] by
      refine g_ifne Xp236 hx hby at_239 (pt := 253) (pf := 242) (by decide) (by decide) rfl (fun (h239 : ¬ rp236 = (0 : Int32)) => ?_) (fun (h239 : rp236 = (0 : Int32)) => ?_)
      · have h239i : ¬ rp236.toInt = 0 := fun q => h239 (Int32.toInt_inj.mp q)
        refine g_iconst Xp236 hx hby at_253 (pc' := 254) rfl (n := (1 : Int32)) (by first | rfl | decide) ?_
        refine g_goto Xp236 hx hby at_254 (pc' := 258) (by decide) (by decide) ?_
        exact J258_29 _ (Or.inl ⟨rfl, by first | exact Or.inl (own_bool_nz h_rp236 h239) | exact Or.inr h250 | exact (fun z => z.elim (own_bool_z h_rp236 h239) h250) | exact own_bool_nz h_rp236 h239 | exact own_bool_z h_rp236 h239⟩)
      · have h239i : rp236.toInt = 0 := congrArg Int32.toInt h239
        refine g_iload Xp236 hx hby at_242 (pc' := 244) rfl rfl ?_
        refine g_ifeq Xp236 hx hby at_244 (pt := 257) (pf := 247) (by decide) (by decide) rfl (fun (h244 : (0 : Int32) = (0 : Int32)) => ?_) (fun (h244 : ¬ (0 : Int32) = (0 : Int32)) => (by exfalso; revert h244; decide))
        refine g_iconst Xp236 hx hby at_257 (pc' := 258) rfl (n := (0 : Int32)) (by first | rfl | decide) ?_
        exact J258_29 _ (Or.inr ⟨rfl, by first | exact Or.inl (own_bool_nz h_rp236 h239) | exact Or.inr h250 | exact (fun z => z.elim (own_bool_z h_rp236 h239) h250) | exact own_bool_nz h_rp236 h239 | exact own_bool_z h_rp236 h239⟩)
    intro vb h_vb
    refine g_istore Xp236 hx hby at_258 (pc' := 260) rfl (Ls' := #[.val (.int ua), .val (.int ub), .val (.int uc), .val (.int ud), .val (.int ue), .val (.int ug), .val (.int ca), .val (.int cb), .val (.int cc), .val (.int cx), .val (.int um), .val (.int (0 : Int32)), .val (.ref o), .val (.int (1 : Int32)), .val (.int va), .val (.int vb), .unset, .unset]) rfl ?_
    refine g_iconst Xp236 hx hby at_260 (pc' := 261) rfl (n := (2 : Int32)) (by first | rfl | decide) ?_
    refine g_iload Xp236 hx hby at_261 (pc' := 263) rfl rfl ?_
    refine g_iload Xp236 hx hby at_263 (pc' := 265) rfl rfl ?_
    refine g_iload Xp236 hx hby at_265 (pc' := 267) rfl rfl ?_
    refine g_iload Xp236 hx hby at_267 (pc' := 269) rfl rfl ?_
    refine g_static Xp236 hx hby hZ hown hml rfl (hw _ (List.mem_of_getElem? (i := 129) rfl)) (hw _ (List.mem_of_getElem? (i := 130) rfl)) (hw _ (List.mem_of_getElem? (i := 107) rfl)) (hw _ (List.mem_of_getElem? (i := 131) rfl)) (by decide) ep236 (rm_kp l Z a0 hw (2 : Int32) ca cb cc um Tp147.heap ) pd__IIIII_Z_536 (argsL := [(.int (2 : Int32)), (.int ca), (.int cb), (.int cc), (.int um)]) (rest := []) rfl rfl rfl at_269 (pc' := 272) rfl (by decide) (Nat.le_of_ble_eq_true rfl) (by decide) (by decide) ?_
    intro Tp269 vp269 Lp269 Xp269 qp269
    obtain ⟨⟨rp269, rfl, h_rp269⟩, ep269, rfl⟩ := qp269
    rw [List.append_nil] at Xp269
    replace Xp269 : Stand p l e room_1 s m _ below meth c Tp269 _ 35 302 := Xp269
    show Go p e below EF (Q0 n0) m Tp269 272 #[.val (.int ua), .val (.int ub), .val (.int uc), .val (.int ud), .val (.int ue), .val (.int ug), .val (.int ca), .val (.int cb), .val (.int cc), .val (.int cx), .val (.int um), .val (.int (0 : Int32)), .val (.ref o), .val (.int (1 : Int32)), .val (.int va), .val (.int vb), .unset, .unset] [(.int rp269)]
    suffices J291_30 : ∀ (vc : Int32) (h_vc : own_bool vc ((own_kp (2 : Int32) ca cb cc um))), Go p e below EF (Q0 n0) m Tp269 291 #[.val (.int ua), .val (.int ub), .val (.int uc), .val (.int ud), .val (.int ue), .val (.int ug), .val (.int ca), .val (.int cb), .val (.int cc), .val (.int cx), .val (.int um), .val (.int (0 : Int32)), .val (.ref o), .val (.int (1 : Int32)), .val (.int va), .val (.int vb), .unset, .unset] [(.int vc)] by
      refine g_ifne Xp269 hx hby at_272 (pt := 286) (pf := 275) (by decide) (by decide) rfl (fun (h272 : ¬ rp269 = (0 : Int32)) => ?_) (fun (h272 : rp269 = (0 : Int32)) => ?_)
      · have h272i : ¬ rp269.toInt = 0 := fun q => h272 (Int32.toInt_inj.mp q)
        refine g_iconst Xp269 hx hby at_286 (pc' := 287) rfl (n := (1 : Int32)) (by first | rfl | decide) ?_
        refine g_goto Xp269 hx hby at_287 (pc' := 291) (by decide) (by decide) ?_
        exact J291_30 _ (Or.inl ⟨rfl, by first | exact Or.inl (own_bool_nz h_rp269 h272) | exact Or.inr h283 | exact (fun z => z.elim (own_bool_z h_rp269 h272) h283) | exact own_bool_nz h_rp269 h272 | exact own_bool_z h_rp269 h272⟩)
      · have h272i : rp269.toInt = 0 := congrArg Int32.toInt h272
        refine g_iload Xp269 hx hby at_275 (pc' := 277) rfl rfl ?_
        refine g_ifeq Xp269 hx hby at_277 (pt := 290) (pf := 280) (by decide) (by decide) rfl (fun (h277 : (0 : Int32) = (0 : Int32)) => ?_) (fun (h277 : ¬ (0 : Int32) = (0 : Int32)) => (by exfalso; revert h277; decide))
        refine g_iconst Xp269 hx hby at_290 (pc' := 291) rfl (n := (0 : Int32)) (by first | rfl | decide) ?_
        exact J291_30 _ (Or.inr ⟨rfl, by first | exact Or.inl (own_bool_nz h_rp269 h272) | exact Or.inr h283 | exact (fun z => z.elim (own_bool_z h_rp269 h272) h283) | exact own_bool_nz h_rp269 h272 | exact own_bool_z h_rp269 h272⟩)
    intro vc h_vc
    refine g_istore Xp269 hx hby at_291 (pc' := 293) rfl (Ls' := #[.val (.int ua), .val (.int ub), .val (.int uc), .val (.int ud), .val (.int ue), .val (.int ug), .val (.int ca), .val (.int cb), .val (.int cc), .val (.int cx), .val (.int um), .val (.int (0 : Int32)), .val (.ref o), .val (.int (1 : Int32)), .val (.int va), .val (.int vb), .val (.int vc), .unset]) rfl ?_
    refine g_iload Xp269 hx hby at_293 (pc' := 295) rfl rfl ?_
    suffices J313_31 : ∀ (vd : Int32) (h_vd : own_bool vd (((own_kp (1 : Int32) ca cb cc um) ∨ ((own_kp (0 : Int32) ca cb cc um) ∧ (own_kp (2 : Int32) ca cb cc um))))), Go p e below EF (Q0 n0) m Tp269 313 #[.val (.int ua), .val (.int ub), .val (.int uc), .val (.int ud), .val (.int ue), .val (.int ug), .val (.int ca), .val (.int cb), .val (.int cc), .val (.int cx), .val (.int um), .val (.int (0 : Int32)), .val (.ref o), .val (.int (1 : Int32)), .val (.int va), .val (.int vb), .val (.int vc), .unset] [(.int vd)] by
      refine g_ifne Xp269 hx hby at_295 (pt := 308) (pf := 298) (by decide) (by decide) rfl (fun (h295 : ¬ vb = (0 : Int32)) => ?_) (fun (h295 : vb = (0 : Int32)) => ?_)
      · have h295i : ¬ vb.toInt = 0 := fun q => h295 (Int32.toInt_inj.mp q)
        refine g_iconst Xp269 hx hby at_308 (pc' := 309) rfl (n := (1 : Int32)) (by first | rfl | decide) ?_
        refine g_goto Xp269 hx hby at_309 (pc' := 313) (by decide) (by decide) ?_
        exact J313_31 _ (Or.inl ⟨rfl, by first | exact Or.inl (own_bool_nz h_vb h295) | exact Or.inr ⟨own_bool_nz h_va h300, own_bool_nz h_vc h305⟩ | exact (fun z => z.elim (own_bool_z h_vb h295) (fun y => own_bool_z h_va h300 y.1)) | exact (fun z => z.elim (own_bool_z h_vb h295) (fun y => own_bool_z h_vc h305 y.2))⟩)
      · have h295i : vb.toInt = 0 := congrArg Int32.toInt h295
        refine g_iload Xp269 hx hby at_298 (pc' := 300) rfl rfl ?_
        refine g_ifeq Xp269 hx hby at_300 (pt := 312) (pf := 303) (by decide) (by decide) rfl (fun (h300 : va = (0 : Int32)) => ?_) (fun (h300 : ¬ va = (0 : Int32)) => ?_)
        · have h300i : va.toInt = 0 := congrArg Int32.toInt h300
          refine g_iconst Xp269 hx hby at_312 (pc' := 313) rfl (n := (0 : Int32)) (by first | rfl | decide) ?_
          exact J313_31 _ (Or.inr ⟨rfl, by first | exact Or.inl (own_bool_nz h_vb h295) | exact Or.inr ⟨own_bool_nz h_va h300, own_bool_nz h_vc h305⟩ | exact (fun z => z.elim (own_bool_z h_vb h295) (fun y => own_bool_z h_va h300 y.1)) | exact (fun z => z.elim (own_bool_z h_vb h295) (fun y => own_bool_z h_vc h305 y.2))⟩)
        · have h300i : ¬ va.toInt = 0 := fun q => h300 (Int32.toInt_inj.mp q)
          refine g_iload Xp269 hx hby at_303 (pc' := 305) rfl rfl ?_
          refine g_ifeq Xp269 hx hby at_305 (pt := 312) (pf := 308) (by decide) (by decide) rfl (fun (h305 : vc = (0 : Int32)) => ?_) (fun (h305 : ¬ vc = (0 : Int32)) => ?_)
          · have h305i : vc.toInt = 0 := congrArg Int32.toInt h305
            refine g_iconst Xp269 hx hby at_312 (pc' := 313) rfl (n := (0 : Int32)) (by first | rfl | decide) ?_
            exact J313_31 _ (Or.inr ⟨rfl, by first | exact Or.inl (own_bool_nz h_vb h295) | exact Or.inr ⟨own_bool_nz h_va h300, own_bool_nz h_vc h305⟩ | exact (fun z => z.elim (own_bool_z h_vb h295) (fun y => own_bool_z h_va h300 y.1)) | exact (fun z => z.elim (own_bool_z h_vb h295) (fun y => own_bool_z h_vc h305 y.2))⟩)
          · have h305i : ¬ vc.toInt = 0 := fun q => h305 (Int32.toInt_inj.mp q)
            refine g_iconst Xp269 hx hby at_308 (pc' := 309) rfl (n := (1 : Int32)) (by first | rfl | decide) ?_
            refine g_goto Xp269 hx hby at_309 (pc' := 313) (by decide) (by decide) ?_
            exact J313_31 _ (Or.inl ⟨rfl, by first | exact Or.inl (own_bool_nz h_vb h295) | exact Or.inr ⟨own_bool_nz h_va h300, own_bool_nz h_vc h305⟩ | exact (fun z => z.elim (own_bool_z h_vb h295) (fun y => own_bool_z h_va h300 y.1)) | exact (fun z => z.elim (own_bool_z h_vb h295) (fun y => own_bool_z h_vc h305 y.2))⟩)
    intro vd h_vd
    refine g_istore Xp269 hx hby at_313 (pc' := 315) rfl (Ls' := #[.val (.int ua), .val (.int ub), .val (.int uc), .val (.int ud), .val (.int ue), .val (.int ug), .val (.int ca), .val (.int cb), .val (.int cc), .val (.int cx), .val (.int um), .val (.int (0 : Int32)), .val (.ref o), .val (.int (1 : Int32)), .val (.int va), .val (.int vb), .val (.int vc), .val (.int vd)]) rfl ?_
    refine g_iload Xp269 hx hby at_315 (pc' := 317) rfl rfl ?_
    refine g_aload Xp269 hx hby at_317 (pc' := 319) rfl rfl rfl ?_
    refine g_iconst Xp269 hx hby at_319 (pc' := 320) rfl (n := (0 : Int32)) (by first | rfl | decide) ?_
    refine g_iconst Xp269 hx hby at_320 (pc' := 321) rfl (n := (1 : Int32)) (by first | rfl | decide) ?_
    refine g_virtual Xp269 hx hby hZ hown hml rfl (hw _ (List.mem_of_getElem? (i := 132) rfl)) (hw _ (List.mem_of_getElem? (i := 133) rfl)) (hw _ (List.mem_of_getElem? (i := 135) rfl)) (hw _ (List.mem_of_getElem? (i := 134) rfl)) (hw _ (List.mem_of_getElem? (i := 3) rfl)) (hw _ (List.mem_of_getElem? (i := 136) rfl)) (by decide) ep269 (rm_re l Z a0 hw o (0 : Int32) (1 : Int32) n0 0 um (own_ui (own_ui (own_ui (fun _ => (0 : Int32)) (0 : Int32).toInt.toNat ca) (1 : Int32).toInt.toNat cb) (2 : Int32).toInt.toNat cc) Tp147.heap Zsp147 Dp147 (by decide) (by decide)) pd__II_Z_317 (own_D_exa Dp147) (argsL := [(.int (0 : Int32)), (.int (1 : Int32))]) (rest := [(.int (1 : Int32))]) rfl rfl rfl at_321 (pc' := 324) rfl (by decide) (Nat.le_of_ble_eq_true rfl) (by decide) (by decide) ?_
    intro Tp321 vp321 Lp321 Xp321 qp321
    obtain ⟨rp321, rfl, h_rp321, Nqp321, Dp321⟩ := qp321
    replace Xp321 : Stand p l e room_1 s m _ below meth c Tp321 _ 36 303 := Xp321
    have Np321 := Fr.app Np147 Nqp321
    show Go p e below EF (Q0 n0) m Tp321 324 #[.val (.int ua), .val (.int ub), .val (.int uc), .val (.int ud), .val (.int ue), .val (.int ug), .val (.int ca), .val (.int cb), .val (.int cc), .val (.int cx), .val (.int um), .val (.int (0 : Int32)), .val (.ref o), .val (.int (1 : Int32)), .val (.int va), .val (.int vb), .val (.int vc), .val (.int vd)] [(.int rp321), (.int (1 : Int32))]
    have Zsp321 := own_D_sz Dp321
    refine g_iload Xp321 hx hby at_324 (pc' := 326) rfl rfl ?_
    refine g_icmpne Xp321 hx hby at_326 (pt := 333) (pf := 329) (by decide) (by decide) rfl (fun (h326 : ¬ rp321 = va) => (by exfalso; exact h326 (own_bool_eq h_rp321 h_va ((own_x01 (own_D_cd Dp321)).trans (own_k3 hum))))) (fun (h326 : rp321 = va) => ?_)
    have h326i : rp321.toInt = va.toInt := congrArg Int32.toInt h326
    refine g_iconst Xp321 hx hby at_329 (pc' := 330) rfl (n := (1 : Int32)) (by first | rfl | decide) ?_
    refine g_goto Xp321 hx hby at_330 (pc' := 334) (by decide) (by decide) ?_
    refine g_iand Xp321 hx hby at_334 (pc' := 335) rfl ?_
    show Go p e below EF (Q0 n0) m Tp321 335 #[.val (.int ua), .val (.int ub), .val (.int uc), .val (.int ud), .val (.int ue), .val (.int ug), .val (.int ca), .val (.int cb), .val (.int cc), .val (.int cx), .val (.int um), .val (.int (0 : Int32)), .val (.ref o), .val (.int (1 : Int32)), .val (.int va), .val (.int vb), .val (.int vc), .val (.int vd)] [(.int (1 : Int32))]
    refine g_istore Xp321 hx hby at_335 (pc' := 337) rfl (Ls' := #[.val (.int ua), .val (.int ub), .val (.int uc), .val (.int ud), .val (.int ue), .val (.int ug), .val (.int ca), .val (.int cb), .val (.int cc), .val (.int cx), .val (.int um), .val (.int (0 : Int32)), .val (.ref o), .val (.int (1 : Int32)), .val (.int va), .val (.int vb), .val (.int vc), .val (.int vd)]) rfl ?_
    refine g_iload Xp321 hx hby at_337 (pc' := 339) rfl rfl ?_
    refine g_aload Xp321 hx hby at_339 (pc' := 341) rfl rfl rfl ?_
    refine g_iconst Xp321 hx hby at_341 (pc' := 342) rfl (n := (1 : Int32)) (by first | rfl | decide) ?_
    refine g_iconst Xp321 hx hby at_342 (pc' := 343) rfl (n := (2 : Int32)) (by first | rfl | decide) ?_
    refine g_virtual Xp321 hx hby hZ hown hml rfl (hw _ (List.mem_of_getElem? (i := 132) rfl)) (hw _ (List.mem_of_getElem? (i := 133) rfl)) (hw _ (List.mem_of_getElem? (i := 135) rfl)) (hw _ (List.mem_of_getElem? (i := 134) rfl)) (hw _ (List.mem_of_getElem? (i := 3) rfl)) (hw _ (List.mem_of_getElem? (i := 136) rfl)) (by decide) rfl (rm_re l Z a0 hw o (1 : Int32) (2 : Int32) n0 (0 + 1) um (own_ui (own_ui (own_ui (fun _ => (0 : Int32)) (0 : Int32).toInt.toNat ca) (1 : Int32).toInt.toNat cb) (2 : Int32).toInt.toNat cc) Tp321.heap Zsp321 Dp321 (by decide) (by decide)) pd__II_Z_317 (own_D_exa Dp321) (argsL := [(.int (1 : Int32)), (.int (2 : Int32))]) (rest := [(.int (1 : Int32))]) rfl rfl rfl at_343 (pc' := 346) rfl (by decide) (Nat.le_of_ble_eq_true rfl) (by decide) (by decide) ?_
    intro Tp343 vp343 Lp343 Xp343 qp343
    obtain ⟨rp343, rfl, h_rp343, Nqp343, Dp343⟩ := qp343
    replace Xp343 : Stand p l e room_1 s m _ below meth c Tp343 _ 37 304 := Xp343
    have Np343 := Fr.app Np321 Nqp343
    show Go p e below EF (Q0 n0) m Tp343 346 #[.val (.int ua), .val (.int ub), .val (.int uc), .val (.int ud), .val (.int ue), .val (.int ug), .val (.int ca), .val (.int cb), .val (.int cc), .val (.int cx), .val (.int um), .val (.int (0 : Int32)), .val (.ref o), .val (.int (1 : Int32)), .val (.int va), .val (.int vb), .val (.int vc), .val (.int vd)] [(.int rp343), (.int (1 : Int32))]
    have Zsp343 := own_D_sz Dp343
    refine g_iload Xp343 hx hby at_346 (pc' := 348) rfl rfl ?_
    refine g_icmpne Xp343 hx hby at_348 (pt := 355) (pf := 351) (by decide) (by decide) rfl (fun (h348 : ¬ rp343 = vc) => (by exfalso; exact h348 (own_bool_eq h_rp343 h_vc ((own_x12 (own_D_cd Dp343)).trans (own_k3 hum))))) (fun (h348 : rp343 = vc) => ?_)
    have h348i : rp343.toInt = vc.toInt := congrArg Int32.toInt h348
    refine g_iconst Xp343 hx hby at_351 (pc' := 352) rfl (n := (1 : Int32)) (by first | rfl | decide) ?_
    refine g_goto Xp343 hx hby at_352 (pc' := 356) (by decide) (by decide) ?_
    refine g_iand Xp343 hx hby at_356 (pc' := 357) rfl ?_
    show Go p e below EF (Q0 n0) m Tp343 357 #[.val (.int ua), .val (.int ub), .val (.int uc), .val (.int ud), .val (.int ue), .val (.int ug), .val (.int ca), .val (.int cb), .val (.int cc), .val (.int cx), .val (.int um), .val (.int (0 : Int32)), .val (.ref o), .val (.int (1 : Int32)), .val (.int va), .val (.int vb), .val (.int vc), .val (.int vd)] [(.int (1 : Int32))]
    refine g_istore Xp343 hx hby at_357 (pc' := 359) rfl (Ls' := #[.val (.int ua), .val (.int ub), .val (.int uc), .val (.int ud), .val (.int ue), .val (.int ug), .val (.int ca), .val (.int cb), .val (.int cc), .val (.int cx), .val (.int um), .val (.int (0 : Int32)), .val (.ref o), .val (.int (1 : Int32)), .val (.int va), .val (.int vb), .val (.int vc), .val (.int vd)]) rfl ?_
    refine g_iload Xp343 hx hby at_359 (pc' := 361) rfl rfl ?_
    refine g_aload Xp343 hx hby at_361 (pc' := 363) rfl rfl rfl ?_
    refine g_iconst Xp343 hx hby at_363 (pc' := 364) rfl (n := (0 : Int32)) (by first | rfl | decide) ?_
    refine g_iconst Xp343 hx hby at_364 (pc' := 365) rfl (n := (2 : Int32)) (by first | rfl | decide) ?_
    refine g_virtual Xp343 hx hby hZ hown hml rfl (hw _ (List.mem_of_getElem? (i := 132) rfl)) (hw _ (List.mem_of_getElem? (i := 133) rfl)) (hw _ (List.mem_of_getElem? (i := 135) rfl)) (hw _ (List.mem_of_getElem? (i := 134) rfl)) (hw _ (List.mem_of_getElem? (i := 3) rfl)) (hw _ (List.mem_of_getElem? (i := 136) rfl)) (by decide) rfl (rm_re l Z a0 hw o (0 : Int32) (2 : Int32) n0 ((0 + 1) + 1) um (own_ui (own_ui (own_ui (fun _ => (0 : Int32)) (0 : Int32).toInt.toNat ca) (1 : Int32).toInt.toNat cb) (2 : Int32).toInt.toNat cc) Tp343.heap Zsp343 Dp343 (by decide) (by decide)) pd__II_Z_317 (own_D_exa Dp343) (argsL := [(.int (0 : Int32)), (.int (2 : Int32))]) (rest := [(.int (1 : Int32))]) rfl rfl rfl at_365 (pc' := 368) rfl (by decide) (Nat.le_of_ble_eq_true rfl) (by decide) (by decide) ?_
    intro Tp365 vp365 Lp365 Xp365 qp365
    obtain ⟨rp365, rfl, h_rp365, Nqp365, Dp365⟩ := qp365
    replace Xp365 : Stand p l e room_1 s m _ below meth c Tp365 _ 38 305 := Xp365
    have Np365 := Fr.app Np343 Nqp365
    show Go p e below EF (Q0 n0) m Tp365 368 #[.val (.int ua), .val (.int ub), .val (.int uc), .val (.int ud), .val (.int ue), .val (.int ug), .val (.int ca), .val (.int cb), .val (.int cc), .val (.int cx), .val (.int um), .val (.int (0 : Int32)), .val (.ref o), .val (.int (1 : Int32)), .val (.int va), .val (.int vb), .val (.int vc), .val (.int vd)] [(.int rp365), (.int (1 : Int32))]
    have Zsp365 := own_D_sz Dp365
    refine g_iload Xp365 hx hby at_368 (pc' := 370) rfl rfl ?_
    refine g_icmpne Xp365 hx hby at_370 (pt := 377) (pf := 373) (by decide) (by decide) rfl (fun (h370 : ¬ rp365 = vd) => (by exfalso; exact h370 (own_bool_eq h_rp365 h_vd ((own_x02 (own_D_cd Dp365)).trans (or_congr (own_k3 hum) (and_congr (own_k3 hum) (own_k3 hum))))))) (fun (h370 : rp365 = vd) => ?_)
    have h370i : rp365.toInt = vd.toInt := congrArg Int32.toInt h370
    refine g_iconst Xp365 hx hby at_373 (pc' := 374) rfl (n := (1 : Int32)) (by first | rfl | decide) ?_
    refine g_goto Xp365 hx hby at_374 (pc' := 378) (by decide) (by decide) ?_
    refine g_iand Xp365 hx hby at_378 (pc' := 379) rfl ?_
    show Go p e below EF (Q0 n0) m Tp365 379 #[.val (.int ua), .val (.int ub), .val (.int uc), .val (.int ud), .val (.int ue), .val (.int ug), .val (.int ca), .val (.int cb), .val (.int cc), .val (.int cx), .val (.int um), .val (.int (0 : Int32)), .val (.ref o), .val (.int (1 : Int32)), .val (.int va), .val (.int vb), .val (.int vc), .val (.int vd)] [(.int (1 : Int32))]
    refine g_istore Xp365 hx hby at_379 (pc' := 381) rfl (Ls' := #[.val (.int ua), .val (.int ub), .val (.int uc), .val (.int ud), .val (.int ue), .val (.int ug), .val (.int ca), .val (.int cb), .val (.int cc), .val (.int cx), .val (.int um), .val (.int (0 : Int32)), .val (.ref o), .val (.int (1 : Int32)), .val (.int va), .val (.int vb), .val (.int vc), .val (.int vd)]) rfl ?_
    refine g_iload Xp365 hx hby at_381 (pc' := 383) rfl rfl ?_
    exact g_retZ Xp365 hx hby hF (Nat.zero_le _) hlk (Or.inr rfl) hret at_383 (by decide) (by decide) (⟨rfl, Np365⟩)
  · have h45i : ¬ (ug &&& (1 : Int32)).toInt = 0 := fun q => h45 (Int32.toInt_inj.mp q)
    refine g_iconst X0 hx hby at_48 (pc' := 49) rfl (n := (1 : Int32)) (by first | rfl | decide) ?_
    refine g_goto X0 hx hby at_49 (pc' := 53) (by decide) (by decide) ?_
    refine g_istore X0 hx hby at_53 (pc' := 55) rfl (Ls' := #[.val (.int ua), .val (.int ub), .val (.int uc), .val (.int ud), .val (.int ue), .val (.int ug), .val (.int ca), .val (.int cb), .val (.int cc), .val (.int cx), .val (.int um), .val (.int (1 : Int32)), .unset, .unset, .unset, .unset, .unset, .unset]) rfl ?_
    refine g_new X0 hx hby hZ hown e0 (hw _ (List.mem_of_getElem? (i := 1) rfl)) (hw _ (List.mem_of_getElem? (i := 2) rfl)) (hw _ (List.mem_of_getElem? (i := 3) rfl)) at_55 (pc' := 58) rfl (by decide) (by decide) (fun T32 h32 o g32 X32 e32 E32 A32 D32 => ?_)
    have g33 : n0 ≤ o := by rw [g32]; exact Z0
    have Z34 : n0 ≤ h32.size := Nat.le_trans Z0 E32.1
    replace X32 : Stand p l e room_1 s m _ below meth c T32 _ 1 36 := X32
    have E_o : Exa Z h32 o "com/example/isolens/isolens/checker/DynamicOrder" := A32
    have U_o : Unw Z a0 h32 o "com/example/isolens/isolens/checker/DynamicOrder" [] := fun O nm d ty L _ p => D32 L p
    refine g_dup X32 hx hby at_58 (pc' := 59) rfl rfl ?_
    refine g_iconst X32 hx hby at_59 (pc' := 60) rfl (n := (0 : Int32)) (by first | rfl | decide) ?_
    refine g_newA X32 hx hby hZ e32 (N := 0) (hw _ (List.mem_of_getElem? (i := 4) rfl)) at_60 (pc' := 62) rfl rfl (cap := 0) (Nat.le_refl _) (by decide) (by decide) (by decide) (fun T35 h35 sa g35 X35 e35 E35 A_sa => ?_)
    have lne36 : o < sa := by rw [g35]; exact E_o.lt
    have ne36 : o ≠ sa := Nat.ne_of_lt lne36
    have g37 : n0 ≤ sa := by rw [g35]; exact Z34
    replace E_o := E_o.ext E35
    replace U_o := U_o.ext E35
    have Z38 : n0 ≤ h35.size := Nat.le_trans Z34 E35.1
    replace X35 : Stand p l e room_1 s m _ below meth c T35 _ 2 36 := X35
    replace A_sa : Ara Z h35 sa .int 0 (fun jz => .int ((fun _ => (0 : Int32)) jz)) := A_sa
    refine g_iconst X35 hx hby at_62 (pc' := 63) rfl (n := (0 : Int32)) (by first | rfl | decide) ?_
    refine g_newA X35 hx hby hZ e35 (N := 0) (hw _ (List.mem_of_getElem? (i := 4) rfl)) at_63 (pc' := 65) rfl rfl (cap := 0) (Nat.le_refl _) (by decide) (by decide) (by decide) (fun T39 h39 sb g39 X39 e39 E39 A_sb => ?_)
    have lne40 : o < sb := by rw [g39]; exact E_o.lt
    have ne40 : o ≠ sb := Nat.ne_of_lt lne40
    have lne41 : sa < sb := by rw [g39]; exact A_sa.lt
    have ne41 : sa ≠ sb := Nat.ne_of_lt lne41
    have g42 : n0 ≤ sb := by rw [g39]; exact Z38
    replace E_o := E_o.ext E39
    replace U_o := U_o.ext E39
    replace A_sa := A_sa.ext E39
    have Z43 : n0 ≤ h39.size := Nat.le_trans Z38 E39.1
    replace X39 : Stand p l e room_1 s m _ below meth c T39 _ 3 36 := X39
    replace A_sb : Ara Z h39 sb .int 0 (fun jz => .int ((fun _ => (0 : Int32)) jz)) := A_sb
    refine g_iconst X39 hx hby at_65 (pc' := 66) rfl (n := (0 : Int32)) (by first | rfl | decide) ?_
    refine g_iconst X39 hx hby at_66 (pc' := 67) rfl (n := (3 : Int32)) (by first | rfl | decide) ?_
    refine g_newA X39 hx hby hZ e39 (N := 3) (hw _ (List.mem_of_getElem? (i := 4) rfl)) at_67 (pc' := 69) rfl rfl (cap := 3) (Nat.le_refl _) (by decide) (by decide) (by decide) (fun T44 h44 ar g44 X44 e44 E44 A_ar => ?_)
    have lne45 : o < ar := by rw [g44]; exact E_o.lt
    have ne45 : o ≠ ar := Nat.ne_of_lt lne45
    have lne46 : sa < ar := by rw [g44]; exact A_sa.lt
    have ne46 : sa ≠ ar := Nat.ne_of_lt lne46
    have lne47 : sb < ar := by rw [g44]; exact A_sb.lt
    have ne47 : sb ≠ ar := Nat.ne_of_lt lne47
    have g48 : n0 ≤ ar := by rw [g44]; exact Z43
    replace E_o := E_o.ext E44
    replace U_o := U_o.ext E44
    replace A_sa := A_sa.ext E44
    replace A_sb := A_sb.ext E44
    have Z49 : n0 ≤ h44.size := Nat.le_trans Z43 E44.1
    replace X44 : Stand p l e room_1 s m _ below meth c T44 _ 4 39 := X44
    replace A_ar : Ara Z h44 ar .int 3 (fun jz => .int ((fun _ => (0 : Int32)) jz)) := A_ar
    refine g_dup X44 hx hby at_69 (pc' := 70) rfl rfl ?_
    refine g_iconst X44 hx hby at_70 (pc' := 71) rfl (n := (0 : Int32)) (by first | rfl | decide) ?_
    refine g_iconst X44 hx hby at_71 (pc' := 72) rfl (n := (0 : Int32)) (by first | rfl | decide) ?_
    refine a_iastore X44 hx hby hZ e44 A_ar (by decide) (by decide) at_72 (pc' := 73) rfl (fun T50 h50 X50 e50 W50 => ?_)
    replace E_o := E_o.wr W50
    replace U_o := U_o.other W50 ne45
    replace A_sa := A_sa.other W50 ne46
    replace A_sb := A_sb.other W50 ne47
    have Z51 : n0 ≤ h50.size := by rw [W50.size]; exact Z49
    have N52 := Fr.snoc X50 N0 g48
    replace A_ar : Ara Z h50 ar .int 3 (fun jz => .int ((own_ui (fun _ => (0 : Int32)) 0 (0 : Int32)) jz)) := A_ar.setI W50
    refine g_dup X50 hx hby at_73 (pc' := 74) rfl rfl ?_
    refine g_iconst X50 hx hby at_74 (pc' := 75) rfl (n := (1 : Int32)) (by first | rfl | decide) ?_
    refine g_iconst X50 hx hby at_75 (pc' := 76) rfl (n := (1 : Int32)) (by first | rfl | decide) ?_
    refine a_iastore X50 hx hby hZ e50 A_ar (by decide) (by decide) at_76 (pc' := 77) rfl (fun T53 h53 X53 e53 W53 => ?_)
    replace E_o := E_o.wr W53
    replace U_o := U_o.other W53 ne45
    replace A_sa := A_sa.other W53 ne46
    replace A_sb := A_sb.other W53 ne47
    have Z54 : n0 ≤ h53.size := by rw [W53.size]; exact Z51
    have N55 := Fr.snoc X53 N52 g48
    replace A_ar : Ara Z h53 ar .int 3 (fun jz => .int ((own_ui (own_ui (fun _ => (0 : Int32)) 0 (0 : Int32)) 1 (1 : Int32)) jz)) := A_ar.setI W53
    refine g_dup X53 hx hby at_77 (pc' := 78) rfl rfl ?_
    refine g_iconst X53 hx hby at_78 (pc' := 79) rfl (n := (2 : Int32)) (by first | rfl | decide) ?_
    refine g_iconst X53 hx hby at_79 (pc' := 80) rfl (n := (2 : Int32)) (by first | rfl | decide) ?_
    refine a_iastore X53 hx hby hZ e53 A_ar (by decide) (by decide) at_80 (pc' := 81) rfl (fun T56 h56 X56 e56 W56 => ?_)
    replace E_o := E_o.wr W56
    replace U_o := U_o.other W56 ne45
    replace A_sa := A_sa.other W56 ne46
    replace A_sb := A_sb.other W56 ne47
    have Z57 : n0 ≤ h56.size := by rw [W56.size]; exact Z54
    have N58 := Fr.snoc X56 N55 g48
    replace A_ar : Ara Z h56 ar .int 3 (fun jz => .int ((own_ui (own_ui (own_ui (fun _ => (0 : Int32)) 0 (0 : Int32)) 1 (1 : Int32)) 2 (2 : Int32)) jz)) := A_ar.setI W56
    refine g_special X56 hx hby hZ hown rfl hml rfl (hw _ (List.mem_of_getElem? (i := 5) rfl)) (hw _ (List.mem_of_getElem? (i := 6) rfl)) (hw _ (List.mem_of_getElem? (i := 3) rfl)) rfl (hw _ (List.mem_of_getElem? (i := 7) rfl)) (by decide) e56 (rm_ctor l Z a0 hw o sa sb ar n0 h56 Z57 g33 E_o U_o A_ar ne45) pd___I_II_I_V_732 (a := o) (argsL := [(.ref sa), (.ref sb), (.int (0 : Int32)), (.ref ar)]) (rest := [(.ref o)]) rfl rfl rfl at_81 (pc' := 84) rfl (by decide) (Nat.le_of_ble_eq_true rfl) (by decide) (by decide) ?_
    intro Tp81 vp81 Lp81 Xp81 qp81
    obtain ⟨rfl, Nqp81, Dp81⟩ := qp81
    replace Xp81 : Stand p l e room_1 s m _ below meth c Tp81 _ 35 302 := Xp81
    have Np81 := Fr.app N58 Nqp81
    show Go p e below EF (Q0 n0) m Tp81 84 #[.val (.int ua), .val (.int ub), .val (.int uc), .val (.int ud), .val (.int ue), .val (.int ug), .val (.int ca), .val (.int cb), .val (.int cc), .val (.int cx), .val (.int um), .val (.int (1 : Int32)), .unset, .unset, .unset, .unset, .unset, .unset] [(.ref o)]
    have Zsp81 := own_D_sz Dp81
    refine g_astore Xp81 hx hby at_84 (pc' := 86) rfl rfl (Ls' := #[.val (.int ua), .val (.int ub), .val (.int uc), .val (.int ud), .val (.int ue), .val (.int ug), .val (.int ca), .val (.int cb), .val (.int cc), .val (.int cx), .val (.int um), .val (.int (1 : Int32)), .val (.ref o), .unset, .unset, .unset, .unset, .unset]) rfl ?_
    refine g_aload Xp81 hx hby at_86 (pc' := 88) rfl rfl rfl ?_
    refine g_iload Xp81 hx hby at_88 (pc' := 90) rfl rfl ?_
    refine g_static Xp81 hx hby hZ hown hml rfl (hw _ (List.mem_of_getElem? (i := 105) rfl)) (hw _ (List.mem_of_getElem? (i := 106) rfl)) (hw _ (List.mem_of_getElem? (i := 107) rfl)) (hw _ (List.mem_of_getElem? (i := 108) rfl)) (by decide) rfl (rm_fr l Z a0 hw ca Tp81.heap ) pd__I_I_227 (argsL := [(.int ca)]) (rest := [(.ref o)]) rfl rfl rfl at_90 (pc' := 93) rfl (by decide) (Nat.le_of_ble_eq_true rfl) (by decide) (by decide) ?_
    intro Tp90 vp90 Lp90 Xp90 qp90
    obtain ⟨⟨rp90, rfl, h_rp90⟩, ep90, rfl⟩ := qp90
    rw [List.append_nil] at Xp90
    replace Xp90 : Stand p l e room_1 s m _ below meth c Tp90 _ 35 302 := Xp90
    show Go p e below EF (Q0 n0) m Tp90 93 #[.val (.int ua), .val (.int ub), .val (.int uc), .val (.int ud), .val (.int ue), .val (.int ug), .val (.int ca), .val (.int cb), .val (.int cc), .val (.int cx), .val (.int um), .val (.int (1 : Int32)), .val (.ref o), .unset, .unset, .unset, .unset, .unset] [(.int rp90), (.ref o)]
    refine g_iload Xp90 hx hby at_93 (pc' := 95) rfl rfl ?_
    refine g_static Xp90 hx hby hZ hown hml rfl (hw _ (List.mem_of_getElem? (i := 109) rfl)) (hw _ (List.mem_of_getElem? (i := 110) rfl)) (hw _ (List.mem_of_getElem? (i := 107) rfl)) (hw _ (List.mem_of_getElem? (i := 111) rfl)) (by decide) ep90 (rm_to l Z a0 hw ca Tp81.heap ) pd__I_I_227 (argsL := [(.int ca)]) (rest := [(.int rp90), (.ref o)]) rfl rfl rfl at_95 (pc' := 98) rfl (by decide) (Nat.le_of_ble_eq_true rfl) (by decide) (by decide) ?_
    intro Tp95 vp95 Lp95 Xp95 qp95
    obtain ⟨⟨rp95, rfl, h_rp95⟩, ep95, rfl⟩ := qp95
    rw [List.append_nil] at Xp95
    replace Xp95 : Stand p l e room_1 s m _ below meth c Tp95 _ 35 302 := Xp95
    show Go p e below EF (Q0 n0) m Tp95 98 #[.val (.int ua), .val (.int ub), .val (.int uc), .val (.int ud), .val (.int ue), .val (.int ug), .val (.int ca), .val (.int cb), .val (.int cc), .val (.int cx), .val (.int um), .val (.int (1 : Int32)), .val (.ref o), .unset, .unset, .unset, .unset, .unset] [(.int rp95), (.int rp90), (.ref o)]
    refine g_virtual Xp95 hx hby hZ hown hml rfl (hw _ (List.mem_of_getElem? (i := 112) rfl)) (hw _ (List.mem_of_getElem? (i := 113) rfl)) (hw _ (List.mem_of_getElem? (i := 115) rfl)) (hw _ (List.mem_of_getElem? (i := 114) rfl)) (hw _ (List.mem_of_getElem? (i := 3) rfl)) (hw _ (List.mem_of_getElem? (i := 116) rfl)) (by decide) ep95 (rm_add l Z a0 hw o rp90 rp95 n0 0 (0 : Int32) (fun _ => (0 : Int32)) (1 : Int32) ca Tp81.heap Zsp81 Dp81 hca h_rp90 h_rp95 (by decide) (by decide)) pd__II_Z_317 (own_D_exa Dp81) (argsL := [(.int rp90), (.int rp95)]) (rest := []) rfl rfl rfl at_98 (pc' := 101) rfl (by decide) (Nat.le_of_ble_eq_true rfl) (by decide) (by decide) ?_
    intro Tp98 vp98 Lp98 Xp98 qp98
    obtain ⟨rfl, Nqp98, Dp98⟩ := qp98
    replace Xp98 : Stand p l e room_1 s m _ below meth c Tp98 _ 35 302 := Xp98
    have Np98 := Fr.app Np81 Nqp98
    show Go p e below EF (Q0 n0) m Tp98 101 #[.val (.int ua), .val (.int ub), .val (.int uc), .val (.int ud), .val (.int ue), .val (.int ug), .val (.int ca), .val (.int cb), .val (.int cc), .val (.int cx), .val (.int um), .val (.int (1 : Int32)), .val (.ref o), .unset, .unset, .unset, .unset, .unset] [(.int (1 : Int32))]
    have Zsp98 := own_D_sz Dp98
    refine g_istore Xp98 hx hby at_101 (pc' := 103) rfl (Ls' := #[.val (.int ua), .val (.int ub), .val (.int uc), .val (.int ud), .val (.int ue), .val (.int ug), .val (.int ca), .val (.int cb), .val (.int cc), .val (.int cx), .val (.int um), .val (.int (1 : Int32)), .val (.ref o), .val (.int (1 : Int32)), .unset, .unset, .unset, .unset]) rfl ?_
    refine g_iload Xp98 hx hby at_103 (pc' := 105) rfl rfl ?_
    refine g_aload Xp98 hx hby at_105 (pc' := 107) rfl rfl rfl ?_
    refine g_iload Xp98 hx hby at_107 (pc' := 109) rfl rfl ?_
    refine g_static Xp98 hx hby hZ hown hml rfl (hw _ (List.mem_of_getElem? (i := 105) rfl)) (hw _ (List.mem_of_getElem? (i := 106) rfl)) (hw _ (List.mem_of_getElem? (i := 107) rfl)) (hw _ (List.mem_of_getElem? (i := 108) rfl)) (by decide) rfl (rm_fr l Z a0 hw cb Tp98.heap ) pd__I_I_227 (argsL := [(.int cb)]) (rest := [(.ref o), (.int (1 : Int32))]) rfl rfl rfl at_109 (pc' := 112) rfl (by decide) (Nat.le_of_ble_eq_true rfl) (by decide) (by decide) ?_
    intro Tp109 vp109 Lp109 Xp109 qp109
    obtain ⟨⟨rp109, rfl, h_rp109⟩, ep109, rfl⟩ := qp109
    rw [List.append_nil] at Xp109
    replace Xp109 : Stand p l e room_1 s m _ below meth c Tp109 _ 35 302 := Xp109
    show Go p e below EF (Q0 n0) m Tp109 112 #[.val (.int ua), .val (.int ub), .val (.int uc), .val (.int ud), .val (.int ue), .val (.int ug), .val (.int ca), .val (.int cb), .val (.int cc), .val (.int cx), .val (.int um), .val (.int (1 : Int32)), .val (.ref o), .val (.int (1 : Int32)), .unset, .unset, .unset, .unset] [(.int rp109), (.ref o), (.int (1 : Int32))]
    refine g_iload Xp109 hx hby at_112 (pc' := 114) rfl rfl ?_
    refine g_static Xp109 hx hby hZ hown hml rfl (hw _ (List.mem_of_getElem? (i := 109) rfl)) (hw _ (List.mem_of_getElem? (i := 110) rfl)) (hw _ (List.mem_of_getElem? (i := 107) rfl)) (hw _ (List.mem_of_getElem? (i := 111) rfl)) (by decide) ep109 (rm_to l Z a0 hw cb Tp98.heap ) pd__I_I_227 (argsL := [(.int cb)]) (rest := [(.int rp109), (.ref o), (.int (1 : Int32))]) rfl rfl rfl at_114 (pc' := 117) rfl (by decide) (Nat.le_of_ble_eq_true rfl) (by decide) (by decide) ?_
    intro Tp114 vp114 Lp114 Xp114 qp114
    obtain ⟨⟨rp114, rfl, h_rp114⟩, ep114, rfl⟩ := qp114
    rw [List.append_nil] at Xp114
    replace Xp114 : Stand p l e room_1 s m _ below meth c Tp114 _ 35 302 := Xp114
    show Go p e below EF (Q0 n0) m Tp114 117 #[.val (.int ua), .val (.int ub), .val (.int uc), .val (.int ud), .val (.int ue), .val (.int ug), .val (.int ca), .val (.int cb), .val (.int cc), .val (.int cx), .val (.int um), .val (.int (1 : Int32)), .val (.ref o), .val (.int (1 : Int32)), .unset, .unset, .unset, .unset] [(.int rp114), (.int rp109), (.ref o), (.int (1 : Int32))]
    refine g_virtual Xp114 hx hby hZ hown hml rfl (hw _ (List.mem_of_getElem? (i := 112) rfl)) (hw _ (List.mem_of_getElem? (i := 113) rfl)) (hw _ (List.mem_of_getElem? (i := 115) rfl)) (hw _ (List.mem_of_getElem? (i := 114) rfl)) (hw _ (List.mem_of_getElem? (i := 3) rfl)) (hw _ (List.mem_of_getElem? (i := 116) rfl)) (by decide) ep114 (rm_add l Z a0 hw o rp109 rp114 n0 0 (1 : Int32) (own_ui (fun _ => (0 : Int32)) (0 : Int32).toInt.toNat ca) (2 : Int32) cb Tp98.heap Zsp98 Dp98 hcb h_rp109 h_rp114 (by decide) (by decide)) pd__II_Z_317 (own_D_exa Dp98) (argsL := [(.int rp109), (.int rp114)]) (rest := [(.int (1 : Int32))]) rfl rfl rfl at_117 (pc' := 120) rfl (by decide) (Nat.le_of_ble_eq_true rfl) (by decide) (by decide) ?_
    intro Tp117 vp117 Lp117 Xp117 qp117
    obtain ⟨rfl, Nqp117, Dp117⟩ := qp117
    replace Xp117 : Stand p l e room_1 s m _ below meth c Tp117 _ 35 302 := Xp117
    have Np117 := Fr.app Np98 Nqp117
    show Go p e below EF (Q0 n0) m Tp117 120 #[.val (.int ua), .val (.int ub), .val (.int uc), .val (.int ud), .val (.int ue), .val (.int ug), .val (.int ca), .val (.int cb), .val (.int cc), .val (.int cx), .val (.int um), .val (.int (1 : Int32)), .val (.ref o), .val (.int (1 : Int32)), .unset, .unset, .unset, .unset] [(.int (1 : Int32)), (.int (1 : Int32))]
    have Zsp117 := own_D_sz Dp117
    refine g_iand Xp117 hx hby at_120 (pc' := 121) rfl ?_
    show Go p e below EF (Q0 n0) m Tp117 121 #[.val (.int ua), .val (.int ub), .val (.int uc), .val (.int ud), .val (.int ue), .val (.int ug), .val (.int ca), .val (.int cb), .val (.int cc), .val (.int cx), .val (.int um), .val (.int (1 : Int32)), .val (.ref o), .val (.int (1 : Int32)), .unset, .unset, .unset, .unset] [(.int (1 : Int32))]
    refine g_istore Xp117 hx hby at_121 (pc' := 123) rfl (Ls' := #[.val (.int ua), .val (.int ub), .val (.int uc), .val (.int ud), .val (.int ue), .val (.int ug), .val (.int ca), .val (.int cb), .val (.int cc), .val (.int cx), .val (.int um), .val (.int (1 : Int32)), .val (.ref o), .val (.int (1 : Int32)), .unset, .unset, .unset, .unset]) rfl ?_
    refine g_iload Xp117 hx hby at_123 (pc' := 125) rfl rfl ?_
    refine g_aload Xp117 hx hby at_125 (pc' := 127) rfl rfl rfl ?_
    refine g_iload Xp117 hx hby at_127 (pc' := 129) rfl rfl ?_
    refine g_static Xp117 hx hby hZ hown hml rfl (hw _ (List.mem_of_getElem? (i := 105) rfl)) (hw _ (List.mem_of_getElem? (i := 106) rfl)) (hw _ (List.mem_of_getElem? (i := 107) rfl)) (hw _ (List.mem_of_getElem? (i := 108) rfl)) (by decide) rfl (rm_fr l Z a0 hw cc Tp117.heap ) pd__I_I_227 (argsL := [(.int cc)]) (rest := [(.ref o), (.int (1 : Int32))]) rfl rfl rfl at_129 (pc' := 132) rfl (by decide) (Nat.le_of_ble_eq_true rfl) (by decide) (by decide) ?_
    intro Tp129 vp129 Lp129 Xp129 qp129
    obtain ⟨⟨rp129, rfl, h_rp129⟩, ep129, rfl⟩ := qp129
    rw [List.append_nil] at Xp129
    replace Xp129 : Stand p l e room_1 s m _ below meth c Tp129 _ 35 302 := Xp129
    show Go p e below EF (Q0 n0) m Tp129 132 #[.val (.int ua), .val (.int ub), .val (.int uc), .val (.int ud), .val (.int ue), .val (.int ug), .val (.int ca), .val (.int cb), .val (.int cc), .val (.int cx), .val (.int um), .val (.int (1 : Int32)), .val (.ref o), .val (.int (1 : Int32)), .unset, .unset, .unset, .unset] [(.int rp129), (.ref o), (.int (1 : Int32))]
    refine g_iload Xp129 hx hby at_132 (pc' := 134) rfl rfl ?_
    refine g_static Xp129 hx hby hZ hown hml rfl (hw _ (List.mem_of_getElem? (i := 109) rfl)) (hw _ (List.mem_of_getElem? (i := 110) rfl)) (hw _ (List.mem_of_getElem? (i := 107) rfl)) (hw _ (List.mem_of_getElem? (i := 111) rfl)) (by decide) ep129 (rm_to l Z a0 hw cc Tp117.heap ) pd__I_I_227 (argsL := [(.int cc)]) (rest := [(.int rp129), (.ref o), (.int (1 : Int32))]) rfl rfl rfl at_134 (pc' := 137) rfl (by decide) (Nat.le_of_ble_eq_true rfl) (by decide) (by decide) ?_
    intro Tp134 vp134 Lp134 Xp134 qp134
    obtain ⟨⟨rp134, rfl, h_rp134⟩, ep134, rfl⟩ := qp134
    rw [List.append_nil] at Xp134
    replace Xp134 : Stand p l e room_1 s m _ below meth c Tp134 _ 35 302 := Xp134
    show Go p e below EF (Q0 n0) m Tp134 137 #[.val (.int ua), .val (.int ub), .val (.int uc), .val (.int ud), .val (.int ue), .val (.int ug), .val (.int ca), .val (.int cb), .val (.int cc), .val (.int cx), .val (.int um), .val (.int (1 : Int32)), .val (.ref o), .val (.int (1 : Int32)), .unset, .unset, .unset, .unset] [(.int rp134), (.int rp129), (.ref o), (.int (1 : Int32))]
    refine g_virtual Xp134 hx hby hZ hown hml rfl (hw _ (List.mem_of_getElem? (i := 112) rfl)) (hw _ (List.mem_of_getElem? (i := 113) rfl)) (hw _ (List.mem_of_getElem? (i := 115) rfl)) (hw _ (List.mem_of_getElem? (i := 114) rfl)) (hw _ (List.mem_of_getElem? (i := 3) rfl)) (hw _ (List.mem_of_getElem? (i := 116) rfl)) (by decide) ep134 (rm_add l Z a0 hw o rp129 rp134 n0 0 (2 : Int32) (own_ui (own_ui (fun _ => (0 : Int32)) (0 : Int32).toInt.toNat ca) (1 : Int32).toInt.toNat cb) (3 : Int32) cc Tp117.heap Zsp117 Dp117 hcc h_rp129 h_rp134 (by decide) (by decide)) pd__II_Z_317 (own_D_exa Dp117) (argsL := [(.int rp129), (.int rp134)]) (rest := [(.int (1 : Int32))]) rfl rfl rfl at_137 (pc' := 140) rfl (by decide) (Nat.le_of_ble_eq_true rfl) (by decide) (by decide) ?_
    intro Tp137 vp137 Lp137 Xp137 qp137
    obtain ⟨rfl, Nqp137, Dp137⟩ := qp137
    replace Xp137 : Stand p l e room_1 s m _ below meth c Tp137 _ 35 302 := Xp137
    have Np137 := Fr.app Np117 Nqp137
    show Go p e below EF (Q0 n0) m Tp137 140 #[.val (.int ua), .val (.int ub), .val (.int uc), .val (.int ud), .val (.int ue), .val (.int ug), .val (.int ca), .val (.int cb), .val (.int cc), .val (.int cx), .val (.int um), .val (.int (1 : Int32)), .val (.ref o), .val (.int (1 : Int32)), .unset, .unset, .unset, .unset] [(.int (1 : Int32)), (.int (1 : Int32))]
    have Zsp137 := own_D_sz Dp137
    refine g_iand Xp137 hx hby at_140 (pc' := 141) rfl ?_
    show Go p e below EF (Q0 n0) m Tp137 141 #[.val (.int ua), .val (.int ub), .val (.int uc), .val (.int ud), .val (.int ue), .val (.int ug), .val (.int ca), .val (.int cb), .val (.int cc), .val (.int cx), .val (.int um), .val (.int (1 : Int32)), .val (.ref o), .val (.int (1 : Int32)), .unset, .unset, .unset, .unset] [(.int (1 : Int32))]
    refine g_istore Xp137 hx hby at_141 (pc' := 143) rfl (Ls' := #[.val (.int ua), .val (.int ub), .val (.int uc), .val (.int ud), .val (.int ue), .val (.int ug), .val (.int ca), .val (.int cb), .val (.int cc), .val (.int cx), .val (.int um), .val (.int (1 : Int32)), .val (.ref o), .val (.int (1 : Int32)), .unset, .unset, .unset, .unset]) rfl ?_
    refine g_aload Xp137 hx hby at_143 (pc' := 145) rfl rfl rfl ?_
    refine g_iload Xp137 hx hby at_145 (pc' := 147) rfl rfl ?_
    refine g_virtual Xp137 hx hby hZ hown hml rfl (hw _ (List.mem_of_getElem? (i := 119) rfl)) (hw _ (List.mem_of_getElem? (i := 120) rfl)) (hw _ (List.mem_of_getElem? (i := 122) rfl)) (hw _ (List.mem_of_getElem? (i := 121) rfl)) (hw _ (List.mem_of_getElem? (i := 3) rfl)) (hw _ (List.mem_of_getElem? (i := 123) rfl)) (by decide) rfl (rm_undo l Z a0 hw o um n0 0 (3 : Int32) (own_ui (own_ui (own_ui (fun _ => (0 : Int32)) (0 : Int32).toInt.toNat ca) (1 : Int32).toInt.toNat cb) (2 : Int32).toInt.toNat cc) Tp137.heap Zsp137 Dp137 ⟨hum.1, by have e3 : (3 : Int32).toInt = 3 := rfl; omega⟩) pd__I_V_240 (own_D_exa Dp137) (argsL := [(.int um)]) (rest := []) rfl rfl rfl at_147 (pc' := 150) rfl (by decide) (Nat.le_of_ble_eq_true rfl) (by decide) (by decide) ?_
    intro Tp147 vp147 Lp147 Xp147 qp147
    obtain ⟨rfl, Nqp147, Dp147⟩ := qp147
    replace Xp147 : Stand p l e room_1 s m _ below meth c Tp147 _ 35 302 := Xp147
    have Np147 := Fr.app Np137 Nqp147
    show Go p e below EF (Q0 n0) m Tp147 150 #[.val (.int ua), .val (.int ub), .val (.int uc), .val (.int ud), .val (.int ue), .val (.int ug), .val (.int ca), .val (.int cb), .val (.int cc), .val (.int cx), .val (.int um), .val (.int (1 : Int32)), .val (.ref o), .val (.int (1 : Int32)), .unset, .unset, .unset, .unset] []
    have Zsp147 := own_D_sz Dp147
    refine g_iload Xp147 hx hby at_150 (pc' := 152) rfl rfl ?_
    refine g_aload Xp147 hx hby at_152 (pc' := 154) rfl rfl rfl ?_
    refine g_virtual Xp147 hx hby hZ hown hml rfl (hw _ (List.mem_of_getElem? (i := 124) rfl)) (hw _ (List.mem_of_getElem? (i := 125) rfl)) (hw _ (List.mem_of_getElem? (i := 127) rfl)) (hw _ (List.mem_of_getElem? (i := 126) rfl)) (hw _ (List.mem_of_getElem? (i := 3) rfl)) (hw _ (List.mem_of_getElem? (i := 128) rfl)) (by decide) rfl (rm_mark l Z a0 hw o um Tp147.heap (own_D_added Dp147)) pd___I_154 (own_D_exa Dp147) (argsL := []) (rest := [(.int (1 : Int32))]) rfl rfl rfl at_154 (pc' := 157) rfl (by decide) (Nat.le_of_ble_eq_true rfl) (by decide) (by decide) ?_
    intro Tp154 vp154 Lp154 Xp154 qp154
    obtain ⟨⟨rp154, rfl, h_rp154⟩, ep154, rfl⟩ := qp154
    rw [List.append_nil] at Xp154
    replace Xp154 : Stand p l e room_1 s m _ below meth c Tp154 _ 35 302 := Xp154
    show Go p e below EF (Q0 n0) m Tp154 157 #[.val (.int ua), .val (.int ub), .val (.int uc), .val (.int ud), .val (.int ue), .val (.int ug), .val (.int ca), .val (.int cb), .val (.int cc), .val (.int cx), .val (.int um), .val (.int (1 : Int32)), .val (.ref o), .val (.int (1 : Int32)), .unset, .unset, .unset, .unset] [(.int rp154), (.int (1 : Int32))]
    refine g_iload Xp154 hx hby at_157 (pc' := 159) rfl rfl ?_
    refine g_icmpne Xp154 hx hby at_159 (pt := 166) (pf := 162) (by decide) (by decide) rfl (fun (h159 : ¬ rp154 = um) => (by exfalso; exact h159 h_rp154)) (fun (h159 : rp154 = um) => ?_)
    have h159i : rp154.toInt = um.toInt := congrArg Int32.toInt h159
    refine g_iconst Xp154 hx hby at_162 (pc' := 163) rfl (n := (1 : Int32)) (by first | rfl | decide) ?_
    refine g_goto Xp154 hx hby at_163 (pc' := 167) (by decide) (by decide) ?_
    refine g_iand Xp154 hx hby at_167 (pc' := 168) rfl ?_
    show Go p e below EF (Q0 n0) m Tp154 168 #[.val (.int ua), .val (.int ub), .val (.int uc), .val (.int ud), .val (.int ue), .val (.int ug), .val (.int ca), .val (.int cb), .val (.int cc), .val (.int cx), .val (.int um), .val (.int (1 : Int32)), .val (.ref o), .val (.int (1 : Int32)), .unset, .unset, .unset, .unset] [(.int (1 : Int32))]
    refine g_istore Xp154 hx hby at_168 (pc' := 170) rfl (Ls' := #[.val (.int ua), .val (.int ub), .val (.int uc), .val (.int ud), .val (.int ue), .val (.int ug), .val (.int ca), .val (.int cb), .val (.int cc), .val (.int cx), .val (.int um), .val (.int (1 : Int32)), .val (.ref o), .val (.int (1 : Int32)), .unset, .unset, .unset, .unset]) rfl ?_
    refine g_iload Xp154 hx hby at_170 (pc' := 172) rfl rfl ?_
    refine g_ifeq Xp154 hx hby at_172 (pt := 195) (pf := 175) (by decide) (by decide) rfl (fun (h172 : (1 : Int32) = (0 : Int32)) => (by exfalso; revert h172; decide)) (fun (h172 : ¬ (1 : Int32) = (0 : Int32)) => ?_)
    refine g_iload Xp154 hx hby at_175 (pc' := 177) rfl rfl ?_
    refine g_aload Xp154 hx hby at_177 (pc' := 179) rfl rfl rfl ?_
    refine g_iload Xp154 hx hby at_179 (pc' := 181) rfl rfl ?_
    refine g_static Xp154 hx hby hZ hown hml rfl (hw _ (List.mem_of_getElem? (i := 105) rfl)) (hw _ (List.mem_of_getElem? (i := 106) rfl)) (hw _ (List.mem_of_getElem? (i := 107) rfl)) (hw _ (List.mem_of_getElem? (i := 108) rfl)) (by decide) ep154 (rm_fr l Z a0 hw cx Tp147.heap ) pd__I_I_227 (argsL := [(.int cx)]) (rest := [(.ref o), (.int (1 : Int32))]) rfl rfl rfl at_181 (pc' := 184) rfl (by decide) (Nat.le_of_ble_eq_true rfl) (by decide) (by decide) ?_
    intro Tp181 vp181 Lp181 Xp181 qp181
    obtain ⟨⟨rp181, rfl, h_rp181⟩, ep181, rfl⟩ := qp181
    rw [List.append_nil] at Xp181
    replace Xp181 : Stand p l e room_1 s m _ below meth c Tp181 _ 35 302 := Xp181
    show Go p e below EF (Q0 n0) m Tp181 184 #[.val (.int ua), .val (.int ub), .val (.int uc), .val (.int ud), .val (.int ue), .val (.int ug), .val (.int ca), .val (.int cb), .val (.int cc), .val (.int cx), .val (.int um), .val (.int (1 : Int32)), .val (.ref o), .val (.int (1 : Int32)), .unset, .unset, .unset, .unset] [(.int rp181), (.ref o), (.int (1 : Int32))]
    refine g_iload Xp181 hx hby at_184 (pc' := 186) rfl rfl ?_
    refine g_static Xp181 hx hby hZ hown hml rfl (hw _ (List.mem_of_getElem? (i := 109) rfl)) (hw _ (List.mem_of_getElem? (i := 110) rfl)) (hw _ (List.mem_of_getElem? (i := 107) rfl)) (hw _ (List.mem_of_getElem? (i := 111) rfl)) (by decide) ep181 (rm_to l Z a0 hw cx Tp147.heap ) pd__I_I_227 (argsL := [(.int cx)]) (rest := [(.int rp181), (.ref o), (.int (1 : Int32))]) rfl rfl rfl at_186 (pc' := 189) rfl (by decide) (Nat.le_of_ble_eq_true rfl) (by decide) (by decide) ?_
    intro Tp186 vp186 Lp186 Xp186 qp186
    obtain ⟨⟨rp186, rfl, h_rp186⟩, ep186, rfl⟩ := qp186
    rw [List.append_nil] at Xp186
    replace Xp186 : Stand p l e room_1 s m _ below meth c Tp186 _ 35 302 := Xp186
    show Go p e below EF (Q0 n0) m Tp186 189 #[.val (.int ua), .val (.int ub), .val (.int uc), .val (.int ud), .val (.int ue), .val (.int ug), .val (.int ca), .val (.int cb), .val (.int cc), .val (.int cx), .val (.int um), .val (.int (1 : Int32)), .val (.ref o), .val (.int (1 : Int32)), .unset, .unset, .unset, .unset] [(.int rp186), (.int rp181), (.ref o), (.int (1 : Int32))]
    refine g_virtual Xp186 hx hby hZ hown hml rfl (hw _ (List.mem_of_getElem? (i := 112) rfl)) (hw _ (List.mem_of_getElem? (i := 113) rfl)) (hw _ (List.mem_of_getElem? (i := 115) rfl)) (hw _ (List.mem_of_getElem? (i := 114) rfl)) (hw _ (List.mem_of_getElem? (i := 3) rfl)) (hw _ (List.mem_of_getElem? (i := 116) rfl)) (by decide) ep186 (rm_add l Z a0 hw o rp181 rp186 n0 0 um (own_ui (own_ui (own_ui (fun _ => (0 : Int32)) (0 : Int32).toInt.toNat ca) (1 : Int32).toInt.toNat cb) (2 : Int32).toInt.toNat cc) (um + (1 : Int32)) cx Tp147.heap Zsp147 Dp147 hcx h_rp181 h_rp186 (by omega) (own_inc um (by omega))) pd__II_Z_317 (own_D_exa Dp147) (argsL := [(.int rp181), (.int rp186)]) (rest := [(.int (1 : Int32))]) rfl rfl rfl at_189 (pc' := 192) rfl (by decide) (Nat.le_of_ble_eq_true rfl) (by decide) (by decide) ?_
    intro Tp189 vp189 Lp189 Xp189 qp189
    obtain ⟨rfl, Nqp189, Dp189⟩ := qp189
    replace Xp189 : Stand p l e room_1 s m _ below meth c Tp189 _ 35 302 := Xp189
    have Np189 := Fr.app Np147 Nqp189
    show Go p e below EF (Q0 n0) m Tp189 192 #[.val (.int ua), .val (.int ub), .val (.int uc), .val (.int ud), .val (.int ue), .val (.int ug), .val (.int ca), .val (.int cb), .val (.int cc), .val (.int cx), .val (.int um), .val (.int (1 : Int32)), .val (.ref o), .val (.int (1 : Int32)), .unset, .unset, .unset, .unset] [(.int (1 : Int32)), (.int (1 : Int32))]
    have Zsp189 := own_D_sz Dp189
    refine g_iand Xp189 hx hby at_192 (pc' := 193) rfl ?_
    show Go p e below EF (Q0 n0) m Tp189 193 #[.val (.int ua), .val (.int ub), .val (.int uc), .val (.int ud), .val (.int ue), .val (.int ug), .val (.int ca), .val (.int cb), .val (.int cc), .val (.int cx), .val (.int um), .val (.int (1 : Int32)), .val (.ref o), .val (.int (1 : Int32)), .unset, .unset, .unset, .unset] [(.int (1 : Int32))]
    refine g_istore Xp189 hx hby at_193 (pc' := 195) rfl (Ls' := #[.val (.int ua), .val (.int ub), .val (.int uc), .val (.int ud), .val (.int ue), .val (.int ug), .val (.int ca), .val (.int cb), .val (.int cc), .val (.int cx), .val (.int um), .val (.int (1 : Int32)), .val (.ref o), .val (.int (1 : Int32)), .unset, .unset, .unset, .unset]) rfl ?_
    refine g_iconst Xp189 hx hby at_195 (pc' := 196) rfl (n := (0 : Int32)) (by first | rfl | decide) ?_
    refine g_iload Xp189 hx hby at_196 (pc' := 198) rfl rfl ?_
    refine g_iload Xp189 hx hby at_198 (pc' := 200) rfl rfl ?_
    refine g_iload Xp189 hx hby at_200 (pc' := 202) rfl rfl ?_
    refine g_iload Xp189 hx hby at_202 (pc' := 204) rfl rfl ?_
    refine g_static Xp189 hx hby hZ hown hml rfl (hw _ (List.mem_of_getElem? (i := 129) rfl)) (hw _ (List.mem_of_getElem? (i := 130) rfl)) (hw _ (List.mem_of_getElem? (i := 107) rfl)) (hw _ (List.mem_of_getElem? (i := 131) rfl)) (by decide) rfl (rm_kp l Z a0 hw (0 : Int32) ca cb cc um Tp189.heap ) pd__IIIII_Z_536 (argsL := [(.int (0 : Int32)), (.int ca), (.int cb), (.int cc), (.int um)]) (rest := []) rfl rfl rfl at_204 (pc' := 207) rfl (by decide) (Nat.le_of_ble_eq_true rfl) (by decide) (by decide) ?_
    intro Tp204 vp204 Lp204 Xp204 qp204
    obtain ⟨⟨rp204, rfl, h_rp204⟩, ep204, rfl⟩ := qp204
    rw [List.append_nil] at Xp204
    replace Xp204 : Stand p l e room_1 s m _ below meth c Tp204 _ 35 302 := Xp204
    show Go p e below EF (Q0 n0) m Tp204 207 #[.val (.int ua), .val (.int ub), .val (.int uc), .val (.int ud), .val (.int ue), .val (.int ug), .val (.int ca), .val (.int cb), .val (.int cc), .val (.int cx), .val (.int um), .val (.int (1 : Int32)), .val (.ref o), .val (.int (1 : Int32)), .unset, .unset, .unset, .unset] [(.int rp204)]
    suffices J225_59 : ∀ (va : Int32) (h_va : own_bool va ((own_kp (0 : Int32) ca cb cc um ∨ cx = (0 : Int32)))), Go p e below EF (Q0 n0) m Tp204 225 #[.val (.int ua), .val (.int ub), .val (.int uc), .val (.int ud), .val (.int ue), .val (.int ug), .val (.int ca), .val (.int cb), .val (.int cc), .val (.int cx), .val (.int um), .val (.int (1 : Int32)), .val (.ref o), .val (.int (1 : Int32)), .unset, .unset, .unset, .unset] [(.int va)] by
      refine g_ifne Xp204 hx hby at_207 (pt := 220) (pf := 210) (by decide) (by decide) rfl (fun (h207 : ¬ rp204 = (0 : Int32)) => ?_) (fun (h207 : rp204 = (0 : Int32)) => ?_)
      · have h207i : ¬ rp204.toInt = 0 := fun q => h207 (Int32.toInt_inj.mp q)
        refine g_iconst Xp204 hx hby at_220 (pc' := 221) rfl (n := (1 : Int32)) (by first | rfl | decide) ?_
        refine g_goto Xp204 hx hby at_221 (pc' := 225) (by decide) (by decide) ?_
        exact J225_59 _ (Or.inl ⟨rfl, by first | exact Or.inl (own_bool_nz h_rp204 h207) | exact Or.inr h217 | exact (fun z => z.elim (own_bool_z h_rp204 h207) h217) | exact own_bool_nz h_rp204 h207 | exact own_bool_z h_rp204 h207⟩)
      · have h207i : rp204.toInt = 0 := congrArg Int32.toInt h207
        refine g_iload Xp204 hx hby at_210 (pc' := 212) rfl rfl ?_
        refine g_ifeq Xp204 hx hby at_212 (pt := 224) (pf := 215) (by decide) (by decide) rfl (fun (h212 : (1 : Int32) = (0 : Int32)) => (by exfalso; revert h212; decide)) (fun (h212 : ¬ (1 : Int32) = (0 : Int32)) => ?_)
        refine g_iload Xp204 hx hby at_215 (pc' := 217) rfl rfl ?_
        refine g_ifne Xp204 hx hby at_217 (pt := 224) (pf := 220) (by decide) (by decide) rfl (fun (h217 : ¬ cx = (0 : Int32)) => ?_) (fun (h217 : cx = (0 : Int32)) => ?_)
        · have h217i : ¬ cx.toInt = 0 := fun q => h217 (Int32.toInt_inj.mp q)
          refine g_iconst Xp204 hx hby at_224 (pc' := 225) rfl (n := (0 : Int32)) (by first | rfl | decide) ?_
          exact J225_59 _ (Or.inr ⟨rfl, by first | exact Or.inl (own_bool_nz h_rp204 h207) | exact Or.inr h217 | exact (fun z => z.elim (own_bool_z h_rp204 h207) h217) | exact own_bool_nz h_rp204 h207 | exact own_bool_z h_rp204 h207⟩)
        · have h217i : cx.toInt = 0 := congrArg Int32.toInt h217
          refine g_iconst Xp204 hx hby at_220 (pc' := 221) rfl (n := (1 : Int32)) (by first | rfl | decide) ?_
          refine g_goto Xp204 hx hby at_221 (pc' := 225) (by decide) (by decide) ?_
          exact J225_59 _ (Or.inl ⟨rfl, by first | exact Or.inl (own_bool_nz h_rp204 h207) | exact Or.inr h217 | exact (fun z => z.elim (own_bool_z h_rp204 h207) h217) | exact own_bool_nz h_rp204 h207 | exact own_bool_z h_rp204 h207⟩)
    intro va h_va
    refine g_istore Xp204 hx hby at_225 (pc' := 227) rfl (Ls' := #[.val (.int ua), .val (.int ub), .val (.int uc), .val (.int ud), .val (.int ue), .val (.int ug), .val (.int ca), .val (.int cb), .val (.int cc), .val (.int cx), .val (.int um), .val (.int (1 : Int32)), .val (.ref o), .val (.int (1 : Int32)), .val (.int va), .unset, .unset, .unset]) rfl ?_
    refine g_iconst Xp204 hx hby at_227 (pc' := 228) rfl (n := (1 : Int32)) (by first | rfl | decide) ?_
    refine g_iload Xp204 hx hby at_228 (pc' := 230) rfl rfl ?_
    refine g_iload Xp204 hx hby at_230 (pc' := 232) rfl rfl ?_
    refine g_iload Xp204 hx hby at_232 (pc' := 234) rfl rfl ?_
    refine g_iload Xp204 hx hby at_234 (pc' := 236) rfl rfl ?_
    refine g_static Xp204 hx hby hZ hown hml rfl (hw _ (List.mem_of_getElem? (i := 129) rfl)) (hw _ (List.mem_of_getElem? (i := 130) rfl)) (hw _ (List.mem_of_getElem? (i := 107) rfl)) (hw _ (List.mem_of_getElem? (i := 131) rfl)) (by decide) ep204 (rm_kp l Z a0 hw (1 : Int32) ca cb cc um Tp189.heap ) pd__IIIII_Z_536 (argsL := [(.int (1 : Int32)), (.int ca), (.int cb), (.int cc), (.int um)]) (rest := []) rfl rfl rfl at_236 (pc' := 239) rfl (by decide) (Nat.le_of_ble_eq_true rfl) (by decide) (by decide) ?_
    intro Tp236 vp236 Lp236 Xp236 qp236
    obtain ⟨⟨rp236, rfl, h_rp236⟩, ep236, rfl⟩ := qp236
    rw [List.append_nil] at Xp236
    replace Xp236 : Stand p l e room_1 s m _ below meth c Tp236 _ 35 302 := Xp236
    show Go p e below EF (Q0 n0) m Tp236 239 #[.val (.int ua), .val (.int ub), .val (.int uc), .val (.int ud), .val (.int ue), .val (.int ug), .val (.int ca), .val (.int cb), .val (.int cc), .val (.int cx), .val (.int um), .val (.int (1 : Int32)), .val (.ref o), .val (.int (1 : Int32)), .val (.int va), .unset, .unset, .unset] [(.int rp236)]
    suffices J258_60 : ∀ (vb : Int32) (h_vb : own_bool vb ((own_kp (1 : Int32) ca cb cc um ∨ cx = (1 : Int32)))), Go p e below EF (Q0 n0) m Tp236 258 #[.val (.int ua), .val (.int ub), .val (.int uc), .val (.int ud), .val (.int ue), .val (.int ug), .val (.int ca), .val (.int cb), .val (.int cc), .val (.int cx), .val (.int um), .val (.int (1 : Int32)), .val (.ref o), .val (.int (1 : Int32)), .val (.int va), .unset, .unset, .unset] [(.int vb)] by
      refine g_ifne Xp236 hx hby at_239 (pt := 253) (pf := 242) (by decide) (by decide) rfl (fun (h239 : ¬ rp236 = (0 : Int32)) => ?_) (fun (h239 : rp236 = (0 : Int32)) => ?_)
      · have h239i : ¬ rp236.toInt = 0 := fun q => h239 (Int32.toInt_inj.mp q)
        refine g_iconst Xp236 hx hby at_253 (pc' := 254) rfl (n := (1 : Int32)) (by first | rfl | decide) ?_
        refine g_goto Xp236 hx hby at_254 (pc' := 258) (by decide) (by decide) ?_
        exact J258_60 _ (Or.inl ⟨rfl, by first | exact Or.inl (own_bool_nz h_rp236 h239) | exact Or.inr h250 | exact (fun z => z.elim (own_bool_z h_rp236 h239) h250) | exact own_bool_nz h_rp236 h239 | exact own_bool_z h_rp236 h239⟩)
      · have h239i : rp236.toInt = 0 := congrArg Int32.toInt h239
        refine g_iload Xp236 hx hby at_242 (pc' := 244) rfl rfl ?_
        refine g_ifeq Xp236 hx hby at_244 (pt := 257) (pf := 247) (by decide) (by decide) rfl (fun (h244 : (1 : Int32) = (0 : Int32)) => (by exfalso; revert h244; decide)) (fun (h244 : ¬ (1 : Int32) = (0 : Int32)) => ?_)
        refine g_iload Xp236 hx hby at_247 (pc' := 249) rfl rfl ?_
        refine g_iconst Xp236 hx hby at_249 (pc' := 250) rfl (n := (1 : Int32)) (by first | rfl | decide) ?_
        refine g_icmpne Xp236 hx hby at_250 (pt := 257) (pf := 253) (by decide) (by decide) rfl (fun (h250 : ¬ cx = (1 : Int32)) => ?_) (fun (h250 : cx = (1 : Int32)) => ?_)
        · have h250i : ¬ cx.toInt = 1 := fun q => h250 (Int32.toInt_inj.mp q)
          refine g_iconst Xp236 hx hby at_257 (pc' := 258) rfl (n := (0 : Int32)) (by first | rfl | decide) ?_
          exact J258_60 _ (Or.inr ⟨rfl, by first | exact Or.inl (own_bool_nz h_rp236 h239) | exact Or.inr h250 | exact (fun z => z.elim (own_bool_z h_rp236 h239) h250) | exact own_bool_nz h_rp236 h239 | exact own_bool_z h_rp236 h239⟩)
        · have h250i : cx.toInt = 1 := congrArg Int32.toInt h250
          refine g_iconst Xp236 hx hby at_253 (pc' := 254) rfl (n := (1 : Int32)) (by first | rfl | decide) ?_
          refine g_goto Xp236 hx hby at_254 (pc' := 258) (by decide) (by decide) ?_
          exact J258_60 _ (Or.inl ⟨rfl, by first | exact Or.inl (own_bool_nz h_rp236 h239) | exact Or.inr h250 | exact (fun z => z.elim (own_bool_z h_rp236 h239) h250) | exact own_bool_nz h_rp236 h239 | exact own_bool_z h_rp236 h239⟩)
    intro vb h_vb
    refine g_istore Xp236 hx hby at_258 (pc' := 260) rfl (Ls' := #[.val (.int ua), .val (.int ub), .val (.int uc), .val (.int ud), .val (.int ue), .val (.int ug), .val (.int ca), .val (.int cb), .val (.int cc), .val (.int cx), .val (.int um), .val (.int (1 : Int32)), .val (.ref o), .val (.int (1 : Int32)), .val (.int va), .val (.int vb), .unset, .unset]) rfl ?_
    refine g_iconst Xp236 hx hby at_260 (pc' := 261) rfl (n := (2 : Int32)) (by first | rfl | decide) ?_
    refine g_iload Xp236 hx hby at_261 (pc' := 263) rfl rfl ?_
    refine g_iload Xp236 hx hby at_263 (pc' := 265) rfl rfl ?_
    refine g_iload Xp236 hx hby at_265 (pc' := 267) rfl rfl ?_
    refine g_iload Xp236 hx hby at_267 (pc' := 269) rfl rfl ?_
    refine g_static Xp236 hx hby hZ hown hml rfl (hw _ (List.mem_of_getElem? (i := 129) rfl)) (hw _ (List.mem_of_getElem? (i := 130) rfl)) (hw _ (List.mem_of_getElem? (i := 107) rfl)) (hw _ (List.mem_of_getElem? (i := 131) rfl)) (by decide) ep236 (rm_kp l Z a0 hw (2 : Int32) ca cb cc um Tp189.heap ) pd__IIIII_Z_536 (argsL := [(.int (2 : Int32)), (.int ca), (.int cb), (.int cc), (.int um)]) (rest := []) rfl rfl rfl at_269 (pc' := 272) rfl (by decide) (Nat.le_of_ble_eq_true rfl) (by decide) (by decide) ?_
    intro Tp269 vp269 Lp269 Xp269 qp269
    obtain ⟨⟨rp269, rfl, h_rp269⟩, ep269, rfl⟩ := qp269
    rw [List.append_nil] at Xp269
    replace Xp269 : Stand p l e room_1 s m _ below meth c Tp269 _ 35 302 := Xp269
    show Go p e below EF (Q0 n0) m Tp269 272 #[.val (.int ua), .val (.int ub), .val (.int uc), .val (.int ud), .val (.int ue), .val (.int ug), .val (.int ca), .val (.int cb), .val (.int cc), .val (.int cx), .val (.int um), .val (.int (1 : Int32)), .val (.ref o), .val (.int (1 : Int32)), .val (.int va), .val (.int vb), .unset, .unset] [(.int rp269)]
    suffices J291_61 : ∀ (vc : Int32) (h_vc : own_bool vc ((own_kp (2 : Int32) ca cb cc um ∨ cx = (2 : Int32)))), Go p e below EF (Q0 n0) m Tp269 291 #[.val (.int ua), .val (.int ub), .val (.int uc), .val (.int ud), .val (.int ue), .val (.int ug), .val (.int ca), .val (.int cb), .val (.int cc), .val (.int cx), .val (.int um), .val (.int (1 : Int32)), .val (.ref o), .val (.int (1 : Int32)), .val (.int va), .val (.int vb), .unset, .unset] [(.int vc)] by
      refine g_ifne Xp269 hx hby at_272 (pt := 286) (pf := 275) (by decide) (by decide) rfl (fun (h272 : ¬ rp269 = (0 : Int32)) => ?_) (fun (h272 : rp269 = (0 : Int32)) => ?_)
      · have h272i : ¬ rp269.toInt = 0 := fun q => h272 (Int32.toInt_inj.mp q)
        refine g_iconst Xp269 hx hby at_286 (pc' := 287) rfl (n := (1 : Int32)) (by first | rfl | decide) ?_
        refine g_goto Xp269 hx hby at_287 (pc' := 291) (by decide) (by decide) ?_
        exact J291_61 _ (Or.inl ⟨rfl, by first | exact Or.inl (own_bool_nz h_rp269 h272) | exact Or.inr h283 | exact (fun z => z.elim (own_bool_z h_rp269 h272) h283) | exact own_bool_nz h_rp269 h272 | exact own_bool_z h_rp269 h272⟩)
      · have h272i : rp269.toInt = 0 := congrArg Int32.toInt h272
        refine g_iload Xp269 hx hby at_275 (pc' := 277) rfl rfl ?_
        refine g_ifeq Xp269 hx hby at_277 (pt := 290) (pf := 280) (by decide) (by decide) rfl (fun (h277 : (1 : Int32) = (0 : Int32)) => (by exfalso; revert h277; decide)) (fun (h277 : ¬ (1 : Int32) = (0 : Int32)) => ?_)
        refine g_iload Xp269 hx hby at_280 (pc' := 282) rfl rfl ?_
        refine g_iconst Xp269 hx hby at_282 (pc' := 283) rfl (n := (2 : Int32)) (by first | rfl | decide) ?_
        refine g_icmpne Xp269 hx hby at_283 (pt := 290) (pf := 286) (by decide) (by decide) rfl (fun (h283 : ¬ cx = (2 : Int32)) => ?_) (fun (h283 : cx = (2 : Int32)) => ?_)
        · have h283i : ¬ cx.toInt = 2 := fun q => h283 (Int32.toInt_inj.mp q)
          refine g_iconst Xp269 hx hby at_290 (pc' := 291) rfl (n := (0 : Int32)) (by first | rfl | decide) ?_
          exact J291_61 _ (Or.inr ⟨rfl, by first | exact Or.inl (own_bool_nz h_rp269 h272) | exact Or.inr h283 | exact (fun z => z.elim (own_bool_z h_rp269 h272) h283) | exact own_bool_nz h_rp269 h272 | exact own_bool_z h_rp269 h272⟩)
        · have h283i : cx.toInt = 2 := congrArg Int32.toInt h283
          refine g_iconst Xp269 hx hby at_286 (pc' := 287) rfl (n := (1 : Int32)) (by first | rfl | decide) ?_
          refine g_goto Xp269 hx hby at_287 (pc' := 291) (by decide) (by decide) ?_
          exact J291_61 _ (Or.inl ⟨rfl, by first | exact Or.inl (own_bool_nz h_rp269 h272) | exact Or.inr h283 | exact (fun z => z.elim (own_bool_z h_rp269 h272) h283) | exact own_bool_nz h_rp269 h272 | exact own_bool_z h_rp269 h272⟩)
    intro vc h_vc
    refine g_istore Xp269 hx hby at_291 (pc' := 293) rfl (Ls' := #[.val (.int ua), .val (.int ub), .val (.int uc), .val (.int ud), .val (.int ue), .val (.int ug), .val (.int ca), .val (.int cb), .val (.int cc), .val (.int cx), .val (.int um), .val (.int (1 : Int32)), .val (.ref o), .val (.int (1 : Int32)), .val (.int va), .val (.int vb), .val (.int vc), .unset]) rfl ?_
    refine g_iload Xp269 hx hby at_293 (pc' := 295) rfl rfl ?_
    suffices J313_62 : ∀ (vd : Int32) (h_vd : own_bool vd (((own_kp (1 : Int32) ca cb cc um ∨ cx = (1 : Int32)) ∨ ((own_kp (0 : Int32) ca cb cc um ∨ cx = (0 : Int32)) ∧ (own_kp (2 : Int32) ca cb cc um ∨ cx = (2 : Int32)))))), Go p e below EF (Q0 n0) m Tp269 313 #[.val (.int ua), .val (.int ub), .val (.int uc), .val (.int ud), .val (.int ue), .val (.int ug), .val (.int ca), .val (.int cb), .val (.int cc), .val (.int cx), .val (.int um), .val (.int (1 : Int32)), .val (.ref o), .val (.int (1 : Int32)), .val (.int va), .val (.int vb), .val (.int vc), .unset] [(.int vd)] by
      refine g_ifne Xp269 hx hby at_295 (pt := 308) (pf := 298) (by decide) (by decide) rfl (fun (h295 : ¬ vb = (0 : Int32)) => ?_) (fun (h295 : vb = (0 : Int32)) => ?_)
      · have h295i : ¬ vb.toInt = 0 := fun q => h295 (Int32.toInt_inj.mp q)
        refine g_iconst Xp269 hx hby at_308 (pc' := 309) rfl (n := (1 : Int32)) (by first | rfl | decide) ?_
        refine g_goto Xp269 hx hby at_309 (pc' := 313) (by decide) (by decide) ?_
        exact J313_62 _ (Or.inl ⟨rfl, by first | exact Or.inl (own_bool_nz h_vb h295) | exact Or.inr ⟨own_bool_nz h_va h300, own_bool_nz h_vc h305⟩ | exact (fun z => z.elim (own_bool_z h_vb h295) (fun y => own_bool_z h_va h300 y.1)) | exact (fun z => z.elim (own_bool_z h_vb h295) (fun y => own_bool_z h_vc h305 y.2))⟩)
      · have h295i : vb.toInt = 0 := congrArg Int32.toInt h295
        refine g_iload Xp269 hx hby at_298 (pc' := 300) rfl rfl ?_
        refine g_ifeq Xp269 hx hby at_300 (pt := 312) (pf := 303) (by decide) (by decide) rfl (fun (h300 : va = (0 : Int32)) => ?_) (fun (h300 : ¬ va = (0 : Int32)) => ?_)
        · have h300i : va.toInt = 0 := congrArg Int32.toInt h300
          refine g_iconst Xp269 hx hby at_312 (pc' := 313) rfl (n := (0 : Int32)) (by first | rfl | decide) ?_
          exact J313_62 _ (Or.inr ⟨rfl, by first | exact Or.inl (own_bool_nz h_vb h295) | exact Or.inr ⟨own_bool_nz h_va h300, own_bool_nz h_vc h305⟩ | exact (fun z => z.elim (own_bool_z h_vb h295) (fun y => own_bool_z h_va h300 y.1)) | exact (fun z => z.elim (own_bool_z h_vb h295) (fun y => own_bool_z h_vc h305 y.2))⟩)
        · have h300i : ¬ va.toInt = 0 := fun q => h300 (Int32.toInt_inj.mp q)
          refine g_iload Xp269 hx hby at_303 (pc' := 305) rfl rfl ?_
          refine g_ifeq Xp269 hx hby at_305 (pt := 312) (pf := 308) (by decide) (by decide) rfl (fun (h305 : vc = (0 : Int32)) => ?_) (fun (h305 : ¬ vc = (0 : Int32)) => ?_)
          · have h305i : vc.toInt = 0 := congrArg Int32.toInt h305
            refine g_iconst Xp269 hx hby at_312 (pc' := 313) rfl (n := (0 : Int32)) (by first | rfl | decide) ?_
            exact J313_62 _ (Or.inr ⟨rfl, by first | exact Or.inl (own_bool_nz h_vb h295) | exact Or.inr ⟨own_bool_nz h_va h300, own_bool_nz h_vc h305⟩ | exact (fun z => z.elim (own_bool_z h_vb h295) (fun y => own_bool_z h_va h300 y.1)) | exact (fun z => z.elim (own_bool_z h_vb h295) (fun y => own_bool_z h_vc h305 y.2))⟩)
          · have h305i : ¬ vc.toInt = 0 := fun q => h305 (Int32.toInt_inj.mp q)
            refine g_iconst Xp269 hx hby at_308 (pc' := 309) rfl (n := (1 : Int32)) (by first | rfl | decide) ?_
            refine g_goto Xp269 hx hby at_309 (pc' := 313) (by decide) (by decide) ?_
            exact J313_62 _ (Or.inl ⟨rfl, by first | exact Or.inl (own_bool_nz h_vb h295) | exact Or.inr ⟨own_bool_nz h_va h300, own_bool_nz h_vc h305⟩ | exact (fun z => z.elim (own_bool_z h_vb h295) (fun y => own_bool_z h_va h300 y.1)) | exact (fun z => z.elim (own_bool_z h_vb h295) (fun y => own_bool_z h_vc h305 y.2))⟩)
    intro vd h_vd
    refine g_istore Xp269 hx hby at_313 (pc' := 315) rfl (Ls' := #[.val (.int ua), .val (.int ub), .val (.int uc), .val (.int ud), .val (.int ue), .val (.int ug), .val (.int ca), .val (.int cb), .val (.int cc), .val (.int cx), .val (.int um), .val (.int (1 : Int32)), .val (.ref o), .val (.int (1 : Int32)), .val (.int va), .val (.int vb), .val (.int vc), .val (.int vd)]) rfl ?_
    refine g_iload Xp269 hx hby at_315 (pc' := 317) rfl rfl ?_
    refine g_aload Xp269 hx hby at_317 (pc' := 319) rfl rfl rfl ?_
    refine g_iconst Xp269 hx hby at_319 (pc' := 320) rfl (n := (0 : Int32)) (by first | rfl | decide) ?_
    refine g_iconst Xp269 hx hby at_320 (pc' := 321) rfl (n := (1 : Int32)) (by first | rfl | decide) ?_
    refine g_virtual Xp269 hx hby hZ hown hml rfl (hw _ (List.mem_of_getElem? (i := 132) rfl)) (hw _ (List.mem_of_getElem? (i := 133) rfl)) (hw _ (List.mem_of_getElem? (i := 135) rfl)) (hw _ (List.mem_of_getElem? (i := 134) rfl)) (hw _ (List.mem_of_getElem? (i := 3) rfl)) (hw _ (List.mem_of_getElem? (i := 136) rfl)) (by decide) ep269 (rm_re l Z a0 hw o (0 : Int32) (1 : Int32) n0 0 (um + (1 : Int32)) (own_ui (own_ui (own_ui (own_ui (fun _ => (0 : Int32)) (0 : Int32).toInt.toNat ca) (1 : Int32).toInt.toNat cb) (2 : Int32).toInt.toNat cc) um.toInt.toNat cx) Tp189.heap Zsp189 Dp189 (by decide) (by decide)) pd__II_Z_317 (own_D_exa Dp189) (argsL := [(.int (0 : Int32)), (.int (1 : Int32))]) (rest := [(.int (1 : Int32))]) rfl rfl rfl at_321 (pc' := 324) rfl (by decide) (Nat.le_of_ble_eq_true rfl) (by decide) (by decide) ?_
    intro Tp321 vp321 Lp321 Xp321 qp321
    obtain ⟨rp321, rfl, h_rp321, Nqp321, Dp321⟩ := qp321
    replace Xp321 : Stand p l e room_1 s m _ below meth c Tp321 _ 36 303 := Xp321
    have Np321 := Fr.app Np189 Nqp321
    show Go p e below EF (Q0 n0) m Tp321 324 #[.val (.int ua), .val (.int ub), .val (.int uc), .val (.int ud), .val (.int ue), .val (.int ug), .val (.int ca), .val (.int cb), .val (.int cc), .val (.int cx), .val (.int um), .val (.int (1 : Int32)), .val (.ref o), .val (.int (1 : Int32)), .val (.int va), .val (.int vb), .val (.int vc), .val (.int vd)] [(.int rp321), (.int (1 : Int32))]
    have Zsp321 := own_D_sz Dp321
    refine g_iload Xp321 hx hby at_324 (pc' := 326) rfl rfl ?_
    refine g_icmpne Xp321 hx hby at_326 (pt := 333) (pf := 329) (by decide) (by decide) rfl (fun (h326 : ¬ rp321 = va) => (by exfalso; exact h326 (own_bool_eq h_rp321 h_va ((own_x01 (own_D_cd Dp321)).trans (own_k4 (own_inc um (by omega)) hum.1 (own_k3 hum)))))) (fun (h326 : rp321 = va) => ?_)
    have h326i : rp321.toInt = va.toInt := congrArg Int32.toInt h326
    refine g_iconst Xp321 hx hby at_329 (pc' := 330) rfl (n := (1 : Int32)) (by first | rfl | decide) ?_
    refine g_goto Xp321 hx hby at_330 (pc' := 334) (by decide) (by decide) ?_
    refine g_iand Xp321 hx hby at_334 (pc' := 335) rfl ?_
    show Go p e below EF (Q0 n0) m Tp321 335 #[.val (.int ua), .val (.int ub), .val (.int uc), .val (.int ud), .val (.int ue), .val (.int ug), .val (.int ca), .val (.int cb), .val (.int cc), .val (.int cx), .val (.int um), .val (.int (1 : Int32)), .val (.ref o), .val (.int (1 : Int32)), .val (.int va), .val (.int vb), .val (.int vc), .val (.int vd)] [(.int (1 : Int32))]
    refine g_istore Xp321 hx hby at_335 (pc' := 337) rfl (Ls' := #[.val (.int ua), .val (.int ub), .val (.int uc), .val (.int ud), .val (.int ue), .val (.int ug), .val (.int ca), .val (.int cb), .val (.int cc), .val (.int cx), .val (.int um), .val (.int (1 : Int32)), .val (.ref o), .val (.int (1 : Int32)), .val (.int va), .val (.int vb), .val (.int vc), .val (.int vd)]) rfl ?_
    refine g_iload Xp321 hx hby at_337 (pc' := 339) rfl rfl ?_
    refine g_aload Xp321 hx hby at_339 (pc' := 341) rfl rfl rfl ?_
    refine g_iconst Xp321 hx hby at_341 (pc' := 342) rfl (n := (1 : Int32)) (by first | rfl | decide) ?_
    refine g_iconst Xp321 hx hby at_342 (pc' := 343) rfl (n := (2 : Int32)) (by first | rfl | decide) ?_
    refine g_virtual Xp321 hx hby hZ hown hml rfl (hw _ (List.mem_of_getElem? (i := 132) rfl)) (hw _ (List.mem_of_getElem? (i := 133) rfl)) (hw _ (List.mem_of_getElem? (i := 135) rfl)) (hw _ (List.mem_of_getElem? (i := 134) rfl)) (hw _ (List.mem_of_getElem? (i := 3) rfl)) (hw _ (List.mem_of_getElem? (i := 136) rfl)) (by decide) rfl (rm_re l Z a0 hw o (1 : Int32) (2 : Int32) n0 (0 + 1) (um + (1 : Int32)) (own_ui (own_ui (own_ui (own_ui (fun _ => (0 : Int32)) (0 : Int32).toInt.toNat ca) (1 : Int32).toInt.toNat cb) (2 : Int32).toInt.toNat cc) um.toInt.toNat cx) Tp321.heap Zsp321 Dp321 (by decide) (by decide)) pd__II_Z_317 (own_D_exa Dp321) (argsL := [(.int (1 : Int32)), (.int (2 : Int32))]) (rest := [(.int (1 : Int32))]) rfl rfl rfl at_343 (pc' := 346) rfl (by decide) (Nat.le_of_ble_eq_true rfl) (by decide) (by decide) ?_
    intro Tp343 vp343 Lp343 Xp343 qp343
    obtain ⟨rp343, rfl, h_rp343, Nqp343, Dp343⟩ := qp343
    replace Xp343 : Stand p l e room_1 s m _ below meth c Tp343 _ 37 304 := Xp343
    have Np343 := Fr.app Np321 Nqp343
    show Go p e below EF (Q0 n0) m Tp343 346 #[.val (.int ua), .val (.int ub), .val (.int uc), .val (.int ud), .val (.int ue), .val (.int ug), .val (.int ca), .val (.int cb), .val (.int cc), .val (.int cx), .val (.int um), .val (.int (1 : Int32)), .val (.ref o), .val (.int (1 : Int32)), .val (.int va), .val (.int vb), .val (.int vc), .val (.int vd)] [(.int rp343), (.int (1 : Int32))]
    have Zsp343 := own_D_sz Dp343
    refine g_iload Xp343 hx hby at_346 (pc' := 348) rfl rfl ?_
    refine g_icmpne Xp343 hx hby at_348 (pt := 355) (pf := 351) (by decide) (by decide) rfl (fun (h348 : ¬ rp343 = vc) => (by exfalso; exact h348 (own_bool_eq h_rp343 h_vc ((own_x12 (own_D_cd Dp343)).trans (own_k4 (own_inc um (by omega)) hum.1 (own_k3 hum)))))) (fun (h348 : rp343 = vc) => ?_)
    have h348i : rp343.toInt = vc.toInt := congrArg Int32.toInt h348
    refine g_iconst Xp343 hx hby at_351 (pc' := 352) rfl (n := (1 : Int32)) (by first | rfl | decide) ?_
    refine g_goto Xp343 hx hby at_352 (pc' := 356) (by decide) (by decide) ?_
    refine g_iand Xp343 hx hby at_356 (pc' := 357) rfl ?_
    show Go p e below EF (Q0 n0) m Tp343 357 #[.val (.int ua), .val (.int ub), .val (.int uc), .val (.int ud), .val (.int ue), .val (.int ug), .val (.int ca), .val (.int cb), .val (.int cc), .val (.int cx), .val (.int um), .val (.int (1 : Int32)), .val (.ref o), .val (.int (1 : Int32)), .val (.int va), .val (.int vb), .val (.int vc), .val (.int vd)] [(.int (1 : Int32))]
    refine g_istore Xp343 hx hby at_357 (pc' := 359) rfl (Ls' := #[.val (.int ua), .val (.int ub), .val (.int uc), .val (.int ud), .val (.int ue), .val (.int ug), .val (.int ca), .val (.int cb), .val (.int cc), .val (.int cx), .val (.int um), .val (.int (1 : Int32)), .val (.ref o), .val (.int (1 : Int32)), .val (.int va), .val (.int vb), .val (.int vc), .val (.int vd)]) rfl ?_
    refine g_iload Xp343 hx hby at_359 (pc' := 361) rfl rfl ?_
    refine g_aload Xp343 hx hby at_361 (pc' := 363) rfl rfl rfl ?_
    refine g_iconst Xp343 hx hby at_363 (pc' := 364) rfl (n := (0 : Int32)) (by first | rfl | decide) ?_
    refine g_iconst Xp343 hx hby at_364 (pc' := 365) rfl (n := (2 : Int32)) (by first | rfl | decide) ?_
    refine g_virtual Xp343 hx hby hZ hown hml rfl (hw _ (List.mem_of_getElem? (i := 132) rfl)) (hw _ (List.mem_of_getElem? (i := 133) rfl)) (hw _ (List.mem_of_getElem? (i := 135) rfl)) (hw _ (List.mem_of_getElem? (i := 134) rfl)) (hw _ (List.mem_of_getElem? (i := 3) rfl)) (hw _ (List.mem_of_getElem? (i := 136) rfl)) (by decide) rfl (rm_re l Z a0 hw o (0 : Int32) (2 : Int32) n0 ((0 + 1) + 1) (um + (1 : Int32)) (own_ui (own_ui (own_ui (own_ui (fun _ => (0 : Int32)) (0 : Int32).toInt.toNat ca) (1 : Int32).toInt.toNat cb) (2 : Int32).toInt.toNat cc) um.toInt.toNat cx) Tp343.heap Zsp343 Dp343 (by decide) (by decide)) pd__II_Z_317 (own_D_exa Dp343) (argsL := [(.int (0 : Int32)), (.int (2 : Int32))]) (rest := [(.int (1 : Int32))]) rfl rfl rfl at_365 (pc' := 368) rfl (by decide) (Nat.le_of_ble_eq_true rfl) (by decide) (by decide) ?_
    intro Tp365 vp365 Lp365 Xp365 qp365
    obtain ⟨rp365, rfl, h_rp365, Nqp365, Dp365⟩ := qp365
    replace Xp365 : Stand p l e room_1 s m _ below meth c Tp365 _ 38 305 := Xp365
    have Np365 := Fr.app Np343 Nqp365
    show Go p e below EF (Q0 n0) m Tp365 368 #[.val (.int ua), .val (.int ub), .val (.int uc), .val (.int ud), .val (.int ue), .val (.int ug), .val (.int ca), .val (.int cb), .val (.int cc), .val (.int cx), .val (.int um), .val (.int (1 : Int32)), .val (.ref o), .val (.int (1 : Int32)), .val (.int va), .val (.int vb), .val (.int vc), .val (.int vd)] [(.int rp365), (.int (1 : Int32))]
    have Zsp365 := own_D_sz Dp365
    refine g_iload Xp365 hx hby at_368 (pc' := 370) rfl rfl ?_
    refine g_icmpne Xp365 hx hby at_370 (pt := 377) (pf := 373) (by decide) (by decide) rfl (fun (h370 : ¬ rp365 = vd) => (by exfalso; exact h370 (own_bool_eq h_rp365 h_vd ((own_x02 (own_D_cd Dp365)).trans (or_congr (own_k4 (own_inc um (by omega)) hum.1 (own_k3 hum)) (and_congr (own_k4 (own_inc um (by omega)) hum.1 (own_k3 hum)) (own_k4 (own_inc um (by omega)) hum.1 (own_k3 hum)))))))) (fun (h370 : rp365 = vd) => ?_)
    have h370i : rp365.toInt = vd.toInt := congrArg Int32.toInt h370
    refine g_iconst Xp365 hx hby at_373 (pc' := 374) rfl (n := (1 : Int32)) (by first | rfl | decide) ?_
    refine g_goto Xp365 hx hby at_374 (pc' := 378) (by decide) (by decide) ?_
    refine g_iand Xp365 hx hby at_378 (pc' := 379) rfl ?_
    show Go p e below EF (Q0 n0) m Tp365 379 #[.val (.int ua), .val (.int ub), .val (.int uc), .val (.int ud), .val (.int ue), .val (.int ug), .val (.int ca), .val (.int cb), .val (.int cc), .val (.int cx), .val (.int um), .val (.int (1 : Int32)), .val (.ref o), .val (.int (1 : Int32)), .val (.int va), .val (.int vb), .val (.int vc), .val (.int vd)] [(.int (1 : Int32))]
    refine g_istore Xp365 hx hby at_379 (pc' := 381) rfl (Ls' := #[.val (.int ua), .val (.int ub), .val (.int uc), .val (.int ud), .val (.int ue), .val (.int ug), .val (.int ca), .val (.int cb), .val (.int cc), .val (.int cx), .val (.int um), .val (.int (1 : Int32)), .val (.ref o), .val (.int (1 : Int32)), .val (.int va), .val (.int vb), .val (.int vc), .val (.int vd)]) rfl ?_
    refine g_iload Xp365 hx hby at_381 (pc' := 383) rfl rfl ?_
    exact g_retZ Xp365 hx hby hF (Nat.zero_le _) hlk (Or.inr rfl) hret at_383 (by decide) (by decide) (⟨rfl, Np365⟩)
set_option maxRecDepth 65536 in
set_option maxHeartbeats 40000000 in
theorem comes_1 {Post : Tables → Env → Array Value → State → Outcome → State → Prop} (hpost : ∀ tb e args s v u, (limb_1_1.after args s (.returned v) u = true ∧ limb_1_2.after args s (.returned v) u = true ∧ True) → FrameEnd s (.returned v) u (Jvm.fieldLocs frame_1_writes args s ++ Jvm.arrayLocs frame_1_arrays args s ++ Jvm.staticLocs frame_1_statics s) 88 704 → Post tb e args s (.returned v) u) :
    ArmFor flags0 classFile x code maxLocals ret World_1 tables_1 room_1 Calls_1 rest_1 Pre_1 Post := by
  intro l hfl _ _ p e ha hc hk s m args below hf hA hF happ hP
  obtain ⟨hcalls, hrest, hpre⟩ := hP
  obtain ⟨-, -, -, hnamed, -, -, -, hat⟩ := (Spec.applies_iff hf).mp happ
  obtain ⟨hg, hn⟩ := and_e (Cond.before_iff.mp (show (Jvm.Cond.and given_1 narrow_1).before args s = true from hpre))
  obtain ⟨g1, g2⟩ := and_e hg
  obtain ⟨g3, g4⟩ := and_e g2
  obtain ⟨g5, g6⟩ := and_e g4
  obtain ⟨g7, g8⟩ := and_e g6
  obtain ⟨g9, g10⟩ := and_e g8
  obtain ⟨g11, g12⟩ := and_e g10
  obtain ⟨w0, w1, w2, w3, w4, w5, rfl⟩ : ∃ w0 w1 w2 w3 w4 w5 : Value, args = #[w0, w1, w2, w3, w4, w5] := by
    have hs : args.size = 6 := by simpa [Cond.value, given_1] using g1
    obtain ⟨L⟩ := args
    match L, hs with
    | [w0, w1, w2, w3, w4, w5], _ => exact ⟨w0, w1, w2, w3, w4, w5, rfl⟩
  have hw := fun d (hd : d ∈ tables_1) => atoms_spec (ws := Jvm.Cond.code x code maxLocals ret :: tables_1) hat d (List.mem_cons_of_mem _ hd)
  have hfit : Fit s := fun {y c} hc i hi => by
    obtain ⟨ha, rfl⟩ := Array.getElem?_eq_some_iff.mp hc
    have q := List.all_eq_true.mp ((Array.all_eq_true_iff_forall_mem.mp hF) _ (Array.getElem_mem ha)) i (List.mem_range.mpr hi)
    simpa [Array.getElem?_eq_getElem hi] using q
  obtain ⟨i0, ei0⟩ := is_v g3
  obtain rfl : w0 = (.int i0) := Option.some.inj ei0
  obtain ⟨i1, ei1⟩ := is_v g5
  obtain rfl : w1 = (.int i1) := Option.some.inj ei1
  obtain ⟨i2, ei2⟩ := is_v g7
  obtain rfl : w2 = (.int i2) := Option.some.inj ei2
  obtain ⟨i3, ei3⟩ := is_v g9
  obtain rfl : w3 = (.int i3) := Option.some.inj ei3
  obtain ⟨i4, ei4⟩ := is_v g11
  obtain rfl : w4 = (.int i4) := Option.some.inj ei4
  obtain ⟨i5, ei5⟩ := is_v g12
  obtain rfl : w5 = (.int i5) := Option.some.inj ei5
  obtain ⟨n, o, h1, h2, h3, _, L, rfl, ⟨rfl, N⟩, hq⟩ := law0 l s _ hw tables_1 i0 i1 i2 i3 i4 i5 s.heap.size s.heap (Nat.le_refl _) p e ha hc hk s m _ below hf ((Spec.applies_iff_loose hf).mp happ).1 ⟨rfl, State.Warmed39.refl s, rfl⟩ trivial
  refine ⟨n, _, h1, h2, h3, hpost _ _ _ _ _ _ ⟨Cond.after_iff.mpr rfl, Cond.after_iff.mpr (eq_i res_at (Term.int_eval (1)) rfl), trivial⟩ ⟨hq.1, hq.2.1, (hq.2.2.sift fun y hy => Or.inr (N y hy)).mono (by decide) (by decide)⟩⟩
theorem main_1_1 : Claimed_1_1 := comes_1 fun _ _ _ _ _ _ h hF => ⟨h.1, hF⟩
theorem main_1_2 : Claimed_1_2 := comes_1 fun _ _ _ _ _ _ h hF => ⟨h.2.1, hF⟩
end Jvm.Pilot.@@N@@
namespace Jvm.Pilot.@@N@@
open Jvm Jvm.ClassFile Sem Op Lib Jvm.Free Jvm.Stand Jvm.Pilot.@@N@@.Jvm.D
/-! MADE BY PROGRAM (witnessworld.py) out of the Statement's table words and the real class files: 17 classes; the members and pool entries that the words name. The judged class is class 1, her method 4. -/
namespace start1
open Jvm.ClassFile
def u (s : String) : CpInfo := .utf8 (stringToUtf16 s)
/-- a pool by its gaps: so many unusable entries, then the entry; so many at the end -/
def gap : Nat → List CpInfo → List CpInfo
  | 0, r => r
  | n + 1, r => .unusable :: gap n r
def poolList (es : List (Nat × CpInfo)) (last : Nat) : List CpInfo := es.foldr (fun e r => gap e.1 (e.2 :: r)) (gap last [])
def pool (es : List (Nat × CpInfo)) (last : Nat) : Array CpInfo := ⟨poolList es last⟩
def fileOf (pool : Array CpInfo) (this : Nat) (attrs : Array Attribute := #[]) (ms : Array MethodInfo := #[]) (fl : Nat := 33) (sup : Nat := 0) (ifs : Array Nat := #[]) (fds : Array FieldInfo := #[]) : ClassFile where
  minorVersion := 0
  majorVersion := 65
  constantPool := pool
  accessFlags := fl
  thisClass := this
  superClass := sup
  interfaces := ifs
  fields := fds
  methods := ms
  attributes := attrs
def plain (name : String) (sup : Option ClassId) : Class where
  name := name
  kind := .ordinary
  loader := none
  accessFlags := 33
  super := sup
  interfaces := #[]
  cf := none
  fields := #[]
  methods := #[]
  instanceTypes := #[]
  staticTypes := #[]
  resolved := #[]
  callSites := []
  init := .initialized
  statics := none
  mirror := none

def pool0 : Array CpInfo := pool [(5, u "<init>"), (0, u "()V"), (1, .class_ 10), (1, u "java/lang/Object")] 113

def k0c0 : Code := { maxStack := 0, maxLocals := 1, code := object_method_1_code, exceptionTable := #[], attributes := #[] }
def k0m0 : Method := { name := "<init>", desc := "()V", sig := { parameters := [], returnType := none }, accessFlags := 1, code := some k0c0 }
/-- java/lang/Object -/
def k0 : Class := { plain "java/lang/Object" none with
  accessFlags := 33
  interfaces := #[]
  cf := some (fileOf pool0 8 #[] #[{ accessFlags := 1, nameIndex := 5, descriptorIndex := 6, attributes := #[] }] 33 0 #[] #[])
  fields := #[]
  methods := #[k0m0]
  instanceTypes := #[]
  staticTypes := #[]
  resolved := Array.replicate 124 none
  statics := none }

def pool1 : Array CpInfo := pool [(2, .class_ 4), (1, u "java/lang/Object"), (0, u "<init>"), (0, u "()V"), (0, .integer 2147483647), (0, .class_ 9), (0, u "com/example/isolens/isolens/checker/DynamicOrder"), (0, .methodref 8 11), (0, .nameAndType 5 12), (0, u "([I[II[I)V"), (0, .methodref 14 15), (0, .class_ 16), (0, .nameAndType 17 18), (0, u "com/example/isolens/isolens/checker/DynamicOrderUndoPinLaw"), (0, u "fromOf"), (0, u "(I)I"), (0, .methodref 14 20), (0, .nameAndType 21 18), (0, u "toOf"), (0, .methodref 8 23), (0, .nameAndType 24 25), (0, u "add"), (0, u "(II)Z"), (0, .methodref 8 27), (0, .nameAndType 28 29), (0, u "undo"), (0, u "(I)V"), (0, .methodref 8 31), (0, .nameAndType 32 33), (0, u "mark"), (0, u "()I"), (0, .methodref 14 35), (0, .nameAndType 36 37), (0, u "kept"), (0, u "(IIIII)Z"), (0, .methodref 8 39), (0, .nameAndType 40 25), (0, u "reaches"), (3, u "law"), (0, u "(IIIIII)Z")] 2

def k1m0 : Method := { name := "<init>", desc := "()V", sig := { parameters := [], returnType := none }, accessFlags := 1, code := none }
def k1c1 : Code := { maxStack := 2, maxLocals := 1, code := method_2_code, exceptionTable := #[], attributes := #[] }
def k1m1 : Method := { name := "fromOf", desc := "(I)I", sig := { parameters := [.int], returnType := some .int }, accessFlags := 10, code := some k1c1 }
def k1c2 : Code := { maxStack := 1, maxLocals := 1, code := method_3_code, exceptionTable := #[], attributes := #[] }
def k1m2 : Method := { name := "toOf", desc := "(I)I", sig := { parameters := [.int], returnType := some .int }, accessFlags := 10, code := some k1c2 }
def k1c3 : Code := { maxStack := 2, maxLocals := 5, code := method_4_code, exceptionTable := #[], attributes := #[] }
def k1m3 : Method := { name := "kept", desc := "(IIIII)Z", sig := { parameters := [.int, .int, .int, .int, .int], returnType := some .boolean }, accessFlags := 10, code := some k1c3 }
def k1c4 : Code := { maxStack := 9, maxLocals := 18, code := code, exceptionTable := #[], attributes := #[] }
def k1m4 : Method := { name := "law", desc := "(IIIIII)Z", sig := { parameters := [.int, .int, .int, .int, .int, .int], returnType := some .boolean }, accessFlags := 9, code := some k1c4 }
/-- com/example/isolens/isolens/checker/DynamicOrderUndoPinLaw -/
def k1 : Class := { plain "com/example/isolens/isolens/checker/DynamicOrderUndoPinLaw" (some 0) with
  accessFlags := 49
  interfaces := #[]
  cf := some (fileOf pool1 14 #[] #[{ accessFlags := 1, nameIndex := 5, descriptorIndex := 6, attributes := #[] }, { accessFlags := 10, nameIndex := 17, descriptorIndex := 18, attributes := #[] }, { accessFlags := 10, nameIndex := 21, descriptorIndex := 18, attributes := #[] }, { accessFlags := 10, nameIndex := 36, descriptorIndex := 37, attributes := #[] }, { accessFlags := 9, nameIndex := 44, descriptorIndex := 45, attributes := #[] }] 49 2 #[] #[])
  fields := #[]
  methods := #[k1m0, k1m1, k1m2, k1m3, k1m4]
  instanceTypes := #[]
  staticTypes := #[]
  resolved := Array.replicate 48 none
  statics := none }

def pool2 : Array CpInfo := pool [(1, .methodref 2 3), (0, .class_ 4), (0, .nameAndType 5 6), (0, u "java/lang/Object"), (0, u "<init>"), (0, u "()V"), (0, .fieldref 8 9), (0, .class_ 10), (0, .nameAndType 11 12), (0, u "com/example/isolens/isolens/checker/DynamicOrder"), (0, u "addedFrom"), (0, u "[I"), (0, .fieldref 8 14), (0, .nameAndType 15 12), (0, u "addedTo"), (0, .fieldref 8 17), (0, .nameAndType 18 12), (0, u "earlierOut"), (0, .fieldref 8 20), (0, .nameAndType 21 12), (0, u "earlierIn"), (0, .class_ 23), (0, u "com/example/isolens/isolens/checker/DynamicOrder$Found"), (0, .methodref 22 3), (0, .fieldref 8 26), (0, .nameAndType 27 28), (0, u "ahead"), (0, u "Lcom/example/isolens/isolens/checker/DynamicOrder$Found;"), (0, .fieldref 8 30), (0, .nameAndType 31 28), (0, u "behind"), (0, .fieldref 8 33), (0, .nameAndType 34 28), (0, u "pending"), (0, .fieldref 8 36), (0, .nameAndType 37 28), (0, u "pendingBack"), (0, .fieldref 8 39), (0, .nameAndType 40 12), (0, u "watchedFrom"), (0, .fieldref 8 42), (0, .nameAndType 43 12), (0, u "watchedTo"), (0, .fieldref 8 45), (0, .nameAndType 46 12), (0, u "earlierWatchedIn"), (0, .fieldref 8 48), (0, .nameAndType 49 12), (0, u "earlierWatchedOut"), (0, .class_ 51), (0, u "java/util/BitSet"), (0, .methodref 50 3), (0, .fieldref 8 54), (0, .nameAndType 55 56), (0, u "watchedNow"), (0, u "Ljava/util/BitSet;"), (0, .fieldref 8 58), (0, .nameAndType 59 28), (0, u "unsettled"), (0, .fieldref 8 61), (0, .nameAndType 62 28), (0, u "closing"), (0, .fieldref 8 64), (0, .nameAndType 65 12), (0, u "firstOut"), (0, .methodref 67 68), (0, .class_ 69), (0, .nameAndType 70 71), (0, u "com/example/isolens/isolens/checker/EdgeLists"), (0, u "otherEnds"), (0, u "([I[II[I)[I"), (0, .fieldref 8 73), (0, .nameAndType 74 12), (0, u "out"), (0, .fieldref 8 76), (0, .nameAndType 77 12), (0, u "firstIn"), (0, .fieldref 8 79), (0, .nameAndType 80 12), (0, u "in"), (0, .fieldref 8 82), (0, .nameAndType 83 12), (0, u "place"), (0, .fieldref 8 85), (0, .nameAndType 86 12), (0, u "latestOut"), (0, .fieldref 8 88), (0, .nameAndType 89 12), (0, u "latestIn"), (0, .methodref 91 92), (0, .class_ 93), (0, .nameAndType 94 95), (0, u "java/util/Arrays"), (0, u "fill"), (0, u "([II)V"), (0, .fieldref 8 97), (0, .nameAndType 98 12), (0, u "metIn"), (0, .fieldref 8 100), (0, .nameAndType 101 12), (0, u "metBack"), (0, .methodref 8 103), (0, .nameAndType 104 105), (0, u "reachesAny"), (0, u "(I[III)Z"), (0, .methodref 8 107), (0, .nameAndType 108 109), (0, u "nextSearch"), (0, u "()I"), (0, .fieldref 22 111), (0, .nameAndType 112 113), (0, u "count"), (0, u "I"), (0, .methodref 22 115), (0, .nameAndType 116 117), (0, u "add"), (0, u "(I)V"), (0, .methodref 119 120), (0, .class_ 121), (0, .nameAndType 122 123), (0, u "java/lang/Math"), (0, u "max"), (0, u "(II)I"), (0, .fieldref 22 125), (0, .nameAndType 126 12), (0, u "nodes"), (0, .methodref 8 128), (0, .nameAndType 129 130), (0, u "meetOn"), (0, u "(IIII)Z"), (0, .methodref 8 132), (0, .nameAndType 133 130), (0, u "meetBack"), (0, .fieldref 8 135), (0, .nameAndType 136 113), (0, u "searches"), (2, .integer 2147483647), (11, .fieldref 8 152), (0, .nameAndType 153 113), (0, u "added"), (6, u "latestWatchedIn"), (4, u "latestWatchedOut"), (2, u "watchedEdges"), (9, u "nodeAt"), (2, u "latestFrom"), (0, u "Lcom/example/isolens/isolens/checker/DynamicOrder$MaxTree;"), (2, u "back"), (0, u "Lcom/example/isolens/isolens/checker/DynamicOrder$Sweep;"), (2, u "on"), (2, u "unsettledTails"), (0, u "Lcom/example/isolens/isolens/checker/PlaceSet;"), (2, u "unsettledHeads"), (4, .class_ 203), (1, u "com/example/isolens/isolens/checker/DynamicOrder$MaxTree"), (6, .class_ 212), (1, u "com/example/isolens/isolens/checker/DynamicOrder$Sweep"), (7, u "latestHead"), (84, u "([I[II[I)V"), (4, u "reaches"), (0, u "(II)Z"), (10, u "mark"), (0, u "undo")] 7

def k2c0 : Code := { maxStack := 5, maxLocals := 7, code := prog_17_method_1_code, exceptionTable := #[], attributes := #[] }
def k2m0 : Method := { name := "<init>", desc := "([I[II[I)V", sig := { parameters := [(.array .int), (.array .int), .int, (.array .int)], returnType := none }, accessFlags := 0, code := some k2c0 }
def k2c1 : Code := { maxStack := 6, maxLocals := 3, code := prog_17_method_2_code, exceptionTable := #[], attributes := #[] }
def k2m1 : Method := { name := "reaches", desc := "(II)Z", sig := { parameters := [.int, .int], returnType := some .boolean }, accessFlags := 0, code := some k2c1 }
def k2c2 : Code := { maxStack := 5, maxLocals := 11, code := prog_17_method_3_code, exceptionTable := #[], attributes := #[] }
def k2m2 : Method := { name := "reachesAny", desc := "(I[III)Z", sig := { parameters := [.int, (.array .int), .int, .int], returnType := some .boolean }, accessFlags := 2, code := some k2c2 }
def k2c3 : Code := { maxStack := 3, maxLocals := 5, code := prog_17_method_4_code, exceptionTable := #[], attributes := #[] }
def k2m3 : Method := { name := "meetOn", desc := "(IIII)Z", sig := { parameters := [.int, .int, .int, .int], returnType := some .boolean }, accessFlags := 2, code := some k2c3 }
def k2c4 : Code := { maxStack := 3, maxLocals := 5, code := prog_17_method_5_code, exceptionTable := #[], attributes := #[] }
def k2m4 : Method := { name := "meetBack", desc := "(IIII)Z", sig := { parameters := [.int, .int, .int, .int], returnType := some .boolean }, accessFlags := 2, code := some k2c4 }
def k2c5 : Code := { maxStack := 3, maxLocals := 1, code := prog_17_method_6_code, exceptionTable := #[], attributes := #[] }
def k2m5 : Method := { name := "nextSearch", desc := "()I", sig := { parameters := [], returnType := some .int }, accessFlags := 2, code := some k2c5 }
def k2c6 : Code := { maxStack := 6, maxLocals := 3, code := prog_17_method_8_code, exceptionTable := #[], attributes := #[] }
def k2m6 : Method := { name := "add", desc := "(II)Z", sig := { parameters := [.int, .int], returnType := some .boolean }, accessFlags := 0, code := some k2c6 }
def k2c7 : Code := { maxStack := 1, maxLocals := 1, code := prog_17_method_15_code, exceptionTable := #[], attributes := #[] }
def k2m7 : Method := { name := "mark", desc := "()I", sig := { parameters := [], returnType := some .int }, accessFlags := 0, code := some k2c7 }
def k2c8 : Code := { maxStack := 4, maxLocals := 2, code := prog_17_method_16_code, exceptionTable := #[], attributes := #[] }
def k2m8 : Method := { name := "undo", desc := "(I)V", sig := { parameters := [.int], returnType := none }, accessFlags := 0, code := some k2c8 }
/-- com/example/isolens/isolens/checker/DynamicOrder -/
def k2 : Class := { plain "com/example/isolens/isolens/checker/DynamicOrder" (some 0) with
  accessFlags := 48
  interfaces := #[]
  cf := some (fileOf pool2 8 #[.nestMembers #[22, 210, 201]] #[{ accessFlags := 0, nameIndex := 5, descriptorIndex := 305, attributes := #[] }, { accessFlags := 0, nameIndex := 310, descriptorIndex := 311, attributes := #[] }, { accessFlags := 2, nameIndex := 104, descriptorIndex := 105, attributes := #[] }, { accessFlags := 2, nameIndex := 129, descriptorIndex := 130, attributes := #[] }, { accessFlags := 2, nameIndex := 133, descriptorIndex := 130, attributes := #[] }, { accessFlags := 2, nameIndex := 108, descriptorIndex := 109, attributes := #[] }, { accessFlags := 0, nameIndex := 116, descriptorIndex := 311, attributes := #[] }, { accessFlags := 0, nameIndex := 322, descriptorIndex := 109, attributes := #[] }, { accessFlags := 0, nameIndex := 323, descriptorIndex := 117, attributes := #[] }] 48 2 #[] #[{ accessFlags := 18, nameIndex := 65, descriptorIndex := 12, attributes := #[] }, { accessFlags := 18, nameIndex := 74, descriptorIndex := 12, attributes := #[] }, { accessFlags := 18, nameIndex := 77, descriptorIndex := 12, attributes := #[] }, { accessFlags := 18, nameIndex := 80, descriptorIndex := 12, attributes := #[] }, { accessFlags := 18, nameIndex := 83, descriptorIndex := 12, attributes := #[] }, { accessFlags := 2, nameIndex := 11, descriptorIndex := 12, attributes := #[] }, { accessFlags := 2, nameIndex := 15, descriptorIndex := 12, attributes := #[] }, { accessFlags := 2, nameIndex := 18, descriptorIndex := 12, attributes := #[] }, { accessFlags := 2, nameIndex := 21, descriptorIndex := 12, attributes := #[] }, { accessFlags := 2, nameIndex := 153, descriptorIndex := 113, attributes := #[] }, { accessFlags := 18, nameIndex := 86, descriptorIndex := 12, attributes := #[] }, { accessFlags := 18, nameIndex := 89, descriptorIndex := 12, attributes := #[] }, { accessFlags := 18, nameIndex := 98, descriptorIndex := 12, attributes := #[] }, { accessFlags := 18, nameIndex := 101, descriptorIndex := 12, attributes := #[] }, { accessFlags := 2, nameIndex := 136, descriptorIndex := 113, attributes := #[] }, { accessFlags := 18, nameIndex := 27, descriptorIndex := 28, attributes := #[] }, { accessFlags := 18, nameIndex := 31, descriptorIndex := 28, attributes := #[] }, { accessFlags := 18, nameIndex := 34, descriptorIndex := 28, attributes := #[] }, { accessFlags := 18, nameIndex := 37, descriptorIndex := 28, attributes := #[] }, { accessFlags := 2, nameIndex := 40, descriptorIndex := 12, attributes := #[] }, { accessFlags := 2, nameIndex := 43, descriptorIndex := 12, attributes := #[] }, { accessFlags := 2, nameIndex := 46, descriptorIndex := 12, attributes := #[] }, { accessFlags := 2, nameIndex := 49, descriptorIndex := 12, attributes := #[] }, { accessFlags := 2, nameIndex := 168, descriptorIndex := 113, attributes := #[] }, { accessFlags := 2, nameIndex := 160, descriptorIndex := 12, attributes := #[] }, { accessFlags := 2, nameIndex := 165, descriptorIndex := 12, attributes := #[] }, { accessFlags := 18, nameIndex := 55, descriptorIndex := 56, attributes := #[] }, { accessFlags := 2, nameIndex := 178, descriptorIndex := 12, attributes := #[] }, { accessFlags := 2, nameIndex := 181, descriptorIndex := 182, attributes := #[] }, { accessFlags := 2, nameIndex := 185, descriptorIndex := 186, attributes := #[] }, { accessFlags := 2, nameIndex := 189, descriptorIndex := 186, attributes := #[] }, { accessFlags := 2, nameIndex := 192, descriptorIndex := 193, attributes := #[] }, { accessFlags := 2, nameIndex := 196, descriptorIndex := 193, attributes := #[] }, { accessFlags := 18, nameIndex := 59, descriptorIndex := 28, attributes := #[] }, { accessFlags := 2, nameIndex := 220, descriptorIndex := 113, attributes := #[] }, { accessFlags := 18, nameIndex := 62, descriptorIndex := 28, attributes := #[] }])
  fields := #[{ name := "firstOut", type := (.array .int), accessFlags := 18, slot := 0, constantValue := 0 }, { name := "out", type := (.array .int), accessFlags := 18, slot := 1, constantValue := 0 }, { name := "firstIn", type := (.array .int), accessFlags := 18, slot := 2, constantValue := 0 }, { name := "in", type := (.array .int), accessFlags := 18, slot := 3, constantValue := 0 }, { name := "place", type := (.array .int), accessFlags := 18, slot := 4, constantValue := 0 }, { name := "addedFrom", type := (.array .int), accessFlags := 2, slot := 5, constantValue := 0 }, { name := "addedTo", type := (.array .int), accessFlags := 2, slot := 6, constantValue := 0 }, { name := "earlierOut", type := (.array .int), accessFlags := 2, slot := 7, constantValue := 0 }, { name := "earlierIn", type := (.array .int), accessFlags := 2, slot := 8, constantValue := 0 }, { name := "added", type := .int, accessFlags := 2, slot := 9, constantValue := 0 }, { name := "latestOut", type := (.array .int), accessFlags := 18, slot := 10, constantValue := 0 }, { name := "latestIn", type := (.array .int), accessFlags := 18, slot := 11, constantValue := 0 }, { name := "metIn", type := (.array .int), accessFlags := 18, slot := 12, constantValue := 0 }, { name := "metBack", type := (.array .int), accessFlags := 18, slot := 13, constantValue := 0 }, { name := "searches", type := .int, accessFlags := 2, slot := 14, constantValue := 0 }, { name := "ahead", type := (.object "com/example/isolens/isolens/checker/DynamicOrder$Found"), accessFlags := 18, slot := 15, constantValue := 0 }, { name := "behind", type := (.object "com/example/isolens/isolens/checker/DynamicOrder$Found"), accessFlags := 18, slot := 16, constantValue := 0 }, { name := "pending", type := (.object "com/example/isolens/isolens/checker/DynamicOrder$Found"), accessFlags := 18, slot := 17, constantValue := 0 }, { name := "pendingBack", type := (.object "com/example/isolens/isolens/checker/DynamicOrder$Found"), accessFlags := 18, slot := 18, constantValue := 0 }, { name := "watchedFrom", type := (.array .int), accessFlags := 2, slot := 19, constantValue := 0 }, { name := "watchedTo", type := (.array .int), accessFlags := 2, slot := 20, constantValue := 0 }, { name := "earlierWatchedIn", type := (.array .int), accessFlags := 2, slot := 21, constantValue := 0 }, { name := "earlierWatchedOut", type := (.array .int), accessFlags := 2, slot := 22, constantValue := 0 }, { name := "watchedEdges", type := .int, accessFlags := 2, slot := 23, constantValue := 0 }, { name := "latestWatchedIn", type := (.array .int), accessFlags := 2, slot := 24, constantValue := 0 }, { name := "latestWatchedOut", type := (.array .int), accessFlags := 2, slot := 25, constantValue := 0 }, { name := "watchedNow", type := (.object "java/util/BitSet"), accessFlags := 18, slot := 26, constantValue := 0 }, { name := "nodeAt", type := (.array .int), accessFlags := 2, slot := 27, constantValue := 0 }, { name := "latestFrom", type := (.object "com/example/isolens/isolens/checker/DynamicOrder$MaxTree"), accessFlags := 2, slot := 28, constantValue := 0 }, { name := "back", type := (.object "com/example/isolens/isolens/checker/DynamicOrder$Sweep"), accessFlags := 2, slot := 29, constantValue := 0 }, { name := "on", type := (.object "com/example/isolens/isolens/checker/DynamicOrder$Sweep"), accessFlags := 2, slot := 30, constantValue := 0 }, { name := "unsettledTails", type := (.object "com/example/isolens/isolens/checker/PlaceSet"), accessFlags := 2, slot := 31, constantValue := 0 }, { name := "unsettledHeads", type := (.object "com/example/isolens/isolens/checker/PlaceSet"), accessFlags := 2, slot := 32, constantValue := 0 }, { name := "unsettled", type := (.object "com/example/isolens/isolens/checker/DynamicOrder$Found"), accessFlags := 18, slot := 33, constantValue := 0 }, { name := "latestHead", type := .int, accessFlags := 2, slot := 34, constantValue := 0 }, { name := "closing", type := (.object "com/example/isolens/isolens/checker/DynamicOrder$Found"), accessFlags := 18, slot := 35, constantValue := 0 }]
  methods := #[k2m0, k2m1, k2m2, k2m3, k2m4, k2m5, k2m6, k2m7, k2m8]
  instanceTypes := #[(.array .int), (.array .int), (.array .int), (.array .int), (.array .int), (.array .int), (.array .int), (.array .int), (.array .int), .int, (.array .int), (.array .int), (.array .int), (.array .int), .int, (.object "com/example/isolens/isolens/checker/DynamicOrder$Found"), (.object "com/example/isolens/isolens/checker/DynamicOrder$Found"), (.object "com/example/isolens/isolens/checker/DynamicOrder$Found"), (.object "com/example/isolens/isolens/checker/DynamicOrder$Found"), (.array .int), (.array .int), (.array .int), (.array .int), .int, (.array .int), (.array .int), (.object "java/util/BitSet"), (.array .int), (.object "com/example/isolens/isolens/checker/DynamicOrder$MaxTree"), (.object "com/example/isolens/isolens/checker/DynamicOrder$Sweep"), (.object "com/example/isolens/isolens/checker/DynamicOrder$Sweep"), (.object "com/example/isolens/isolens/checker/PlaceSet"), (.object "com/example/isolens/isolens/checker/PlaceSet"), (.object "com/example/isolens/isolens/checker/DynamicOrder$Found"), .int, (.object "com/example/isolens/isolens/checker/DynamicOrder$Found")]
  staticTypes := #[]
  resolved := ((((Array.replicate 331 none).setIfInBounds 22 (some (.cls 3))).setIfInBounds 24 (some (.method ⟨3, 0⟩))).setIfInBounds 110 (some (.field 3 1))).setIfInBounds 124 (some (.field 3 0))
  statics := none }

def pool3 : Array CpInfo := pool [(1, .methodref 2 3), (0, .class_ 4), (0, .nameAndType 5 6), (0, u "java/lang/Object"), (0, u "<init>"), (0, u "()V"), (0, .fieldref 8 9), (0, .class_ 10), (0, .nameAndType 11 12), (0, u "com/example/isolens/isolens/checker/DynamicOrder$Found"), (0, u "nodes"), (0, u "[I"), (0, .fieldref 8 14), (0, .nameAndType 15 16), (0, u "count"), (0, u "I"), (8, u "add"), (0, u "(I)V"), (4, .class_ 32), (0, u "com/example/isolens/isolens/checker/DynamicOrder")] 2

def k3c0 : Code := { maxStack := 2, maxLocals := 1, code := prog_18_method_1_code, exceptionTable := #[], attributes := #[] }
def k3m0 : Method := { name := "<init>", desc := "()V", sig := { parameters := [], returnType := none }, accessFlags := 2, code := some k3c0 }
def k3c1 : Code := { maxStack := 5, maxLocals := 2, code := prog_18_method_2_code, exceptionTable := #[], attributes := #[] }
def k3m1 : Method := { name := "add", desc := "(I)V", sig := { parameters := [.int], returnType := none }, accessFlags := 0, code := some k3c1 }
/-- com/example/isolens/isolens/checker/DynamicOrder$Found -/
def k3 : Class := { plain "com/example/isolens/isolens/checker/DynamicOrder$Found" (some 0) with
  accessFlags := 48
  interfaces := #[]
  cf := some (fileOf pool3 8 #[.nestHost 31] #[{ accessFlags := 2, nameIndex := 5, descriptorIndex := 6, attributes := #[] }, { accessFlags := 0, nameIndex := 25, descriptorIndex := 26, attributes := #[] }] 48 2 #[] #[{ accessFlags := 2, nameIndex := 11, descriptorIndex := 12, attributes := #[] }, { accessFlags := 2, nameIndex := 15, descriptorIndex := 16, attributes := #[] }])
  fields := #[{ name := "nodes", type := (.array .int), accessFlags := 2, slot := 0, constantValue := 0 }, { name := "count", type := .int, accessFlags := 2, slot := 1, constantValue := 0 }]
  methods := #[k3m0, k3m1]
  instanceTypes := #[(.array .int), .int]
  staticTypes := #[]
  resolved := Array.replicate 35 none
  statics := none }

def pool4 : Array CpInfo := pool [(1, .class_ 2), (0, u "java/lang/Cloneable"), (0, .class_ 4), (0, u "java/lang/Object")] 2

/-- java/lang/Cloneable -/
def k4 : Class := { plain "java/lang/Cloneable" (some 0) with
  accessFlags := 1537
  interfaces := #[]
  cf := some (fileOf pool4 1 #[] #[] 1537 3 #[] #[])
  fields := #[]
  methods := #[]
  instanceTypes := #[]
  staticTypes := #[]
  resolved := Array.replicate 7 none
  statics := none }

def pool5 : Array CpInfo := pool [(1, .class_ 2), (0, u "java/io/Serializable"), (0, .class_ 4), (0, u "java/lang/Object")] 2

/-- java/io/Serializable -/
def k5 : Class := { plain "java/io/Serializable" (some 0) with
  accessFlags := 1537
  interfaces := #[]
  cf := some (fileOf pool5 1 #[] #[] 1537 3 #[] #[])
  fields := #[]
  methods := #[]
  instanceTypes := #[]
  staticTypes := #[]
  resolved := Array.replicate 7 none
  statics := none }

def pool6 : Array CpInfo := pool [(1, .class_ 2), (0, u "java/util/BitSet"), (2, u "$assertionsDisabled"), (0, u "Z"), (0, .fieldref 1 8), (0, .nameAndType 9 10), (0, u "wordsInUse"), (0, u "I"), (0, .fieldref 1 12), (0, .nameAndType 13 14), (0, u "words"), (0, u "[J"), (3, .nameAndType 19 20), (0, u "<init>"), (0, u "()V"), (0, .methodref 22 18), (0, .class_ 23), (0, u "java/lang/Object"), (0, .fieldref 1 25), (0, .nameAndType 26 6), (0, u "sizeIsSticky"), (0, .methodref 1 28), (0, .nameAndType 29 30), (0, u "initWords"), (0, u "(I)V"), (21, .methodref 1 53), (0, .nameAndType 54 55), (0, u "wordIndex"), (0, u "(I)I"), (213, .class_ 270), (0, u "java/util/BitSet$1BitSetSpliterator"), (22, u "serialPersistentFields"), (0, u "[Ljava/io/ObjectStreamField;"), (0, .class_ 296), (0, u "java/lang/Cloneable"), (0, .class_ 298), (0, u "java/io/Serializable"), (0, u "ADDRESS_BITS_PER_WORD"), (2, u "BITS_PER_WORD"), (1, u "BIT_INDEX_MASK"), (1, u "WORD_MASK"), (0, u "J"), (0, u "serialVersionUID")] 108

def k6c0 : Code := { maxStack := 2, maxLocals := 1, code := jdk_92_method_1_code, exceptionTable := #[], attributes := #[] }
def k6m0 : Method := { name := "wordIndex", desc := "(I)I", sig := { parameters := [.int], returnType := some .int }, accessFlags := 10, code := some k6c0 }
def k6c1 : Code := { maxStack := 2, maxLocals := 1, code := jdk_92_method_4_code, exceptionTable := #[], attributes := #[] }
def k6m1 : Method := { name := "<init>", desc := "()V", sig := { parameters := [], returnType := none }, accessFlags := 1, code := some k6c1 }
def k6c2 : Code := { maxStack := 3, maxLocals := 2, code := jdk_92_method_6_code, exceptionTable := #[], attributes := #[] }
def k6m2 : Method := { name := "initWords", desc := "(I)V", sig := { parameters := [.int], returnType := none }, accessFlags := 2, code := some k6c2 }
/-- java/util/BitSet -/
def k6 : Class := { plain "java/util/BitSet" (some 0) with
  accessFlags := 33
  interfaces := #[4, 5]
  cf := some (fileOf pool6 1 #[.nestMembers #[269]] #[{ accessFlags := 10, nameIndex := 54, descriptorIndex := 55, attributes := #[] }, { accessFlags := 1, nameIndex := 19, descriptorIndex := 20, attributes := #[] }, { accessFlags := 2, nameIndex := 29, descriptorIndex := 30, attributes := #[] }] 33 22 #[295, 297] #[{ accessFlags := 26, nameIndex := 299, descriptorIndex := 10, attributes := #[] }, { accessFlags := 26, nameIndex := 302, descriptorIndex := 10, attributes := #[] }, { accessFlags := 26, nameIndex := 304, descriptorIndex := 10, attributes := #[] }, { accessFlags := 26, nameIndex := 306, descriptorIndex := 307, attributes := #[] }, { accessFlags := 26, nameIndex := 293, descriptorIndex := 294, attributes := #[] }, { accessFlags := 2, nameIndex := 13, descriptorIndex := 14, attributes := #[] }, { accessFlags := 130, nameIndex := 9, descriptorIndex := 10, attributes := #[] }, { accessFlags := 130, nameIndex := 26, descriptorIndex := 6, attributes := #[] }, { accessFlags := 26, nameIndex := 308, descriptorIndex := 307, attributes := #[] }, { accessFlags := 4120, nameIndex := 5, descriptorIndex := 6, attributes := #[] }])
  fields := #[{ name := "ADDRESS_BITS_PER_WORD", type := .int, accessFlags := 26, slot := 0, constantValue := 0 }, { name := "BITS_PER_WORD", type := .int, accessFlags := 26, slot := 1, constantValue := 0 }, { name := "BIT_INDEX_MASK", type := .int, accessFlags := 26, slot := 2, constantValue := 0 }, { name := "WORD_MASK", type := .long, accessFlags := 26, slot := 3, constantValue := 0 }, { name := "serialPersistentFields", type := (.array (.object "java/io/ObjectStreamField")), accessFlags := 26, slot := 4, constantValue := 0 }, { name := "words", type := (.array .long), accessFlags := 2, slot := 0, constantValue := 0 }, { name := "wordsInUse", type := .int, accessFlags := 130, slot := 1, constantValue := 0 }, { name := "sizeIsSticky", type := .boolean, accessFlags := 130, slot := 2, constantValue := 0 }, { name := "serialVersionUID", type := .long, accessFlags := 26, slot := 5, constantValue := 0 }, { name := "$assertionsDisabled", type := .boolean, accessFlags := 4120, slot := 6, constantValue := 0 }]
  methods := #[k6m0, k6m1, k6m2]
  instanceTypes := #[(.array .long), .int, .boolean]
  staticTypes := #[.int, .int, .int, .long, (.array (.object "java/io/ObjectStreamField")), .long, .boolean]
  resolved := Array.replicate 417 none
  statics := none }

def pool7 : Array CpInfo := pool [(2, .class_ 4), (1, u "java/lang/Object"), (0, u "<init>"), (0, u "()V"), (0, .methodref 8 9), (0, .class_ 10), (0, .nameAndType 11 12), (0, u "java/lang/System"), (0, u "arraycopy"), (0, u "(Ljava/lang/Object;ILjava/lang/Object;II)V"), (0, .methodref 14 15), (0, .class_ 16), (0, .nameAndType 17 18), (0, u "com/example/isolens/isolens/checker/EdgeLists"), (0, u "places"), (0, u "([II[I)[I"), (5, u "otherEnds"), (0, u "([I[II[I)[I")] 2

def k7m0 : Method := { name := "<init>", desc := "()V", sig := { parameters := [], returnType := none }, accessFlags := 2, code := none }
def k7c1 : Code := { maxStack := 6, maxLocals := 6, code := prog_22_method_2_code, exceptionTable := #[], attributes := #[] }
def k7m1 : Method := { name := "places", desc := "([II[I)[I", sig := { parameters := [(.array .int), .int, (.array .int)], returnType := some (.array .int) }, accessFlags := 8, code := some k7c1 }
def k7c2 : Code := { maxStack := 5, maxLocals := 6, code := prog_22_method_3_code, exceptionTable := #[], attributes := #[] }
def k7m2 : Method := { name := "otherEnds", desc := "([I[II[I)[I", sig := { parameters := [(.array .int), (.array .int), .int, (.array .int)], returnType := some (.array .int) }, accessFlags := 8, code := some k7c2 }
/-- com/example/isolens/isolens/checker/EdgeLists -/
def k7 : Class := { plain "com/example/isolens/isolens/checker/EdgeLists" (some 0) with
  accessFlags := 48
  interfaces := #[]
  cf := some (fileOf pool7 14 #[] #[{ accessFlags := 2, nameIndex := 5, descriptorIndex := 6, attributes := #[] }, { accessFlags := 8, nameIndex := 17, descriptorIndex := 18, attributes := #[] }, { accessFlags := 8, nameIndex := 24, descriptorIndex := 25, attributes := #[] }] 48 2 #[] #[])
  fields := #[]
  methods := #[k7m0, k7m1, k7m2]
  instanceTypes := #[]
  staticTypes := #[]
  resolved := Array.replicate 28 none
  statics := none }

def pool8 : Array CpInfo := pool [(2, .class_ 4), (1, u "java/lang/Object"), (0, u "<init>"), (0, u "()V"), (1, .class_ 10), (1, u "java/lang/System"), (0, u "allowSecurityManager"), (0, u "I"), (16, u "cons"), (0, u "Ljava/io/Console;"), (77, .class_ 110), (1, u "java/lang/System$CallersHolder"), (43, u "initialErrStream"), (0, u "Ljava/io/PrintStream;"), (19, u "security"), (0, u "Ljava/lang/SecurityManager;"), (31, .class_ 209), (0, u "java/lang/System$1"), (7, u "props"), (0, u "Ljava/util/Properties;"), (2, u "lineSeparator"), (0, u "Ljava/lang/String;"), (96, .class_ 321), (1, u "java/lang/System$LoggerFinder"), (5, .class_ 328), (0, u "java/lang/System$Logger"), (67, u "err"), (2, u "out"), (91, u "notSupportedJnuEncoding"), (15, u "in"), (17, u "initialIn"), (0, u "Ljava/io/InputStream;"), (35, u "bootLayer"), (0, u "Ljava/lang/ModuleLayer;"), (99, .class_ 664), (0, u "java/lang/System$2"), (9, u "NEVER"), (2, u "MAYBE"), (49, u "arraycopy"), (0, u "(Ljava/lang/Object;ILjava/lang/Object;II)V"), (72, .class_ 802), (0, u "java/lang/System$Logger$Level")] 31

def k8m0 : Method := { name := "<init>", desc := "()V", sig := { parameters := [], returnType := none }, accessFlags := 2, code := none }
def k8m1 : Method := { name := "arraycopy", desc := "(Ljava/lang/Object;ILjava/lang/Object;II)V", sig := { parameters := [(.object "java/lang/Object"), .int, (.object "java/lang/Object"), .int, .int], returnType := none }, accessFlags := 265, code := none }
/-- java/lang/System -/
def k8 : Class := { plain "java/lang/System" (some 0) with
  accessFlags := 49
  interfaces := #[]
  cf := some (fileOf pool8 8 #[.nestMembers #[319, 327, 801, 108, 663, 208]] #[{ accessFlags := 2, nameIndex := 5, descriptorIndex := 6, attributes := #[] }, { accessFlags := 265, nameIndex := 727, descriptorIndex := 728, attributes := #[] }] 49 2 #[] #[{ accessFlags := 25, nameIndex := 507, descriptorIndex := 526, attributes := #[] }, { accessFlags := 25, nameIndex := 399, descriptorIndex := 155, attributes := #[] }, { accessFlags := 25, nameIndex := 396, descriptorIndex := 155, attributes := #[] }, { accessFlags := 10, nameIndex := 525, descriptorIndex := 526, attributes := #[] }, { accessFlags := 26, nameIndex := 674, descriptorIndex := 12, attributes := #[] }, { accessFlags := 26, nameIndex := 677, descriptorIndex := 12, attributes := #[] }, { accessFlags := 10, nameIndex := 11, descriptorIndex := 12, attributes := #[] }, { accessFlags := 74, nameIndex := 175, descriptorIndex := 176, attributes := #[] }, { accessFlags := 10, nameIndex := 491, descriptorIndex := 222, attributes := #[] }, { accessFlags := 74, nameIndex := 29, descriptorIndex := 30, attributes := #[] }, { accessFlags := 74, nameIndex := 154, descriptorIndex := 155, attributes := #[] }, { accessFlags := 10, nameIndex := 217, descriptorIndex := 218, attributes := #[] }, { accessFlags := 10, nameIndex := 221, descriptorIndex := 222, attributes := #[] }, { accessFlags := 8, nameIndex := 562, descriptorIndex := 563, attributes := #[] }])
  fields := #[{ name := "in", type := (.object "java/io/InputStream"), accessFlags := 25, slot := 0, constantValue := 0 }, { name := "out", type := (.object "java/io/PrintStream"), accessFlags := 25, slot := 1, constantValue := 0 }, { name := "err", type := (.object "java/io/PrintStream"), accessFlags := 25, slot := 2, constantValue := 0 }, { name := "initialIn", type := (.object "java/io/InputStream"), accessFlags := 10, slot := 3, constantValue := 0 }, { name := "NEVER", type := .int, accessFlags := 26, slot := 4, constantValue := 0 }, { name := "MAYBE", type := .int, accessFlags := 26, slot := 5, constantValue := 0 }, { name := "allowSecurityManager", type := .int, accessFlags := 10, slot := 6, constantValue := 0 }, { name := "security", type := (.object "java/lang/SecurityManager"), accessFlags := 74, slot := 7, constantValue := 0 }, { name := "notSupportedJnuEncoding", type := (.object "java/lang/String"), accessFlags := 10, slot := 8, constantValue := 0 }, { name := "cons", type := (.object "java/io/Console"), accessFlags := 74, slot := 9, constantValue := 0 }, { name := "initialErrStream", type := (.object "java/io/PrintStream"), accessFlags := 74, slot := 10, constantValue := 0 }, { name := "props", type := (.object "java/util/Properties"), accessFlags := 10, slot := 11, constantValue := 0 }, { name := "lineSeparator", type := (.object "java/lang/String"), accessFlags := 10, slot := 12, constantValue := 0 }, { name := "bootLayer", type := (.object "java/lang/ModuleLayer"), accessFlags := 8, slot := 13, constantValue := 0 }]
  methods := #[k8m0, k8m1]
  instanceTypes := #[]
  staticTypes := #[(.object "java/io/InputStream"), (.object "java/io/PrintStream"), (.object "java/io/PrintStream"), (.object "java/io/InputStream"), .int, .int, .int, (.object "java/lang/SecurityManager"), (.object "java/lang/String"), (.object "java/io/Console"), (.object "java/io/PrintStream"), (.object "java/util/Properties"), (.object "java/lang/String"), (.object "java/lang/ModuleLayer")]
  resolved := Array.replicate 834 none
  statics := none }

def pool9 : Array CpInfo := pool [(2, .class_ 4), (1, u "java/lang/Object"), (0, u "<init>"), (0, u "()V"), (7, .class_ 16), (1, u "java/util/Arrays"), (57, .class_ 76), (1, u "java/util/Arrays$NaturalOrder"), (36, .class_ 115), (1, u "java/util/Arrays$LegacyMergeSort"), (1, u "Z"), (257, .class_ 376), (0, u "java/util/Arrays$ArrayList"), (68, u "$assertionsDisabled"), (269, u "MIN_ARRAY_SORT_GRAN"), (0, u "I"), (2, u "INSERTIONSORT_THRESHOLD"), (120, u "fill"), (4, u "([II)V"), (129, .class_ 976), (0, u "java/util/Arrays$ArrayItr")] 52

def k9m0 : Method := { name := "<init>", desc := "()V", sig := { parameters := [], returnType := none }, accessFlags := 2, code := none }
def k9c1 : Code := { maxStack := 3, maxLocals := 4, code := jdk_65_method_103_code, exceptionTable := #[], attributes := #[] }
def k9m1 : Method := { name := "fill", desc := "([II)V", sig := { parameters := [(.array .int), .int], returnType := none }, accessFlags := 9, code := some k9c1 }
/-- java/util/Arrays -/
def k9 : Class := { plain "java/util/Arrays" (some 0) with
  accessFlags := 49
  interfaces := #[]
  cf := some (fileOf pool9 14 #[.nestMembers #[975, 375, 113, 74]] #[{ accessFlags := 2, nameIndex := 5, descriptorIndex := 6, attributes := #[] }, { accessFlags := 9, nameIndex := 840, descriptorIndex := 845, attributes := #[] }] 49 2 #[] #[{ accessFlags := 26, nameIndex := 715, descriptorIndex := 716, attributes := #[] }, { accessFlags := 26, nameIndex := 719, descriptorIndex := 716, attributes := #[] }, { accessFlags := 4120, nameIndex := 445, descriptorIndex := 117, attributes := #[] }])
  fields := #[{ name := "MIN_ARRAY_SORT_GRAN", type := .int, accessFlags := 26, slot := 0, constantValue := 0 }, { name := "INSERTIONSORT_THRESHOLD", type := .int, accessFlags := 26, slot := 1, constantValue := 0 }, { name := "$assertionsDisabled", type := .boolean, accessFlags := 4120, slot := 2, constantValue := 0 }]
  methods := #[k9m0, k9m1]
  instanceTypes := #[]
  staticTypes := #[.int, .int, .boolean]
  resolved := Array.replicate 1029 none
  statics := none }

def pool10 : Array CpInfo := pool [(1, .class_ 2), (0, u "java/lang/Math"), (1, .class_ 6), (1, u "java/lang/Object"), (0, u "<init>"), (0, u "()V"), (89, .class_ 100), (1, u "java/lang/Math$RandomNumberGeneratorHolder"), (71, u "negativeZeroFloatBits"), (0, u "J"), (2, u "negativeZeroDoubleBits"), (21, u "max"), (46, u "$assertionsDisabled"), (0, u "Z"), (88, u "(II)I"), (2, u "twoToTheDoubleScaleDown"), (0, u "D"), (4, u "twoToTheDoubleScaleUp"), (9, u "E"), (3, u "PI"), (2, u "TAU"), (2, u "DEGREES_TO_RADIANS"), (0, u "RADIANS_TO_DEGREES")] 94

def k10m0 : Method := { name := "<init>", desc := "()V", sig := { parameters := [], returnType := none }, accessFlags := 2, code := none }
def k10c1 : Code := { maxStack := 2, maxLocals := 2, code := jdk_29_method_65_code, exceptionTable := #[], attributes := #[] }
def k10m1 : Method := { name := "max", desc := "(II)I", sig := { parameters := [.int, .int], returnType := some .int }, accessFlags := 9, code := some k10c1 }
/-- java/lang/Math -/
def k10 : Class := { plain "java/lang/Math" (some 0) with
  accessFlags := 49
  interfaces := #[]
  cf := some (fileOf pool10 1 #[.nestMembers #[98]] #[{ accessFlags := 2, nameIndex := 7, descriptorIndex := 8, attributes := #[] }, { accessFlags := 9, nameIndex := 198, descriptorIndex := 335, attributes := #[] }] 49 4 #[] #[{ accessFlags := 25, nameIndex := 354, descriptorIndex := 339, attributes := #[] }, { accessFlags := 25, nameIndex := 358, descriptorIndex := 339, attributes := #[] }, { accessFlags := 25, nameIndex := 361, descriptorIndex := 339, attributes := #[] }, { accessFlags := 26, nameIndex := 364, descriptorIndex := 339, attributes := #[] }, { accessFlags := 26, nameIndex := 365, descriptorIndex := 339, attributes := #[] }, { accessFlags := 26, nameIndex := 172, descriptorIndex := 173, attributes := #[] }, { accessFlags := 26, nameIndex := 176, descriptorIndex := 173, attributes := #[] }, { accessFlags := 8, nameIndex := 344, descriptorIndex := 339, attributes := #[] }, { accessFlags := 8, nameIndex := 338, descriptorIndex := 339, attributes := #[] }, { accessFlags := 4120, nameIndex := 245, descriptorIndex := 246, attributes := #[] }])
  fields := #[{ name := "E", type := .double, accessFlags := 25, slot := 0, constantValue := 0 }, { name := "PI", type := .double, accessFlags := 25, slot := 1, constantValue := 0 }, { name := "TAU", type := .double, accessFlags := 25, slot := 2, constantValue := 0 }, { name := "DEGREES_TO_RADIANS", type := .double, accessFlags := 26, slot := 3, constantValue := 0 }, { name := "RADIANS_TO_DEGREES", type := .double, accessFlags := 26, slot := 4, constantValue := 0 }, { name := "negativeZeroFloatBits", type := .long, accessFlags := 26, slot := 5, constantValue := 0 }, { name := "negativeZeroDoubleBits", type := .long, accessFlags := 26, slot := 6, constantValue := 0 }, { name := "twoToTheDoubleScaleUp", type := .double, accessFlags := 8, slot := 7, constantValue := 0 }, { name := "twoToTheDoubleScaleDown", type := .double, accessFlags := 8, slot := 8, constantValue := 0 }, { name := "$assertionsDisabled", type := .boolean, accessFlags := 4120, slot := 9, constantValue := 0 }]
  methods := #[k10m0, k10m1]
  instanceTypes := #[]
  staticTypes := #[.double, .double, .double, .double, .double, .long, .long, .double, .double, .boolean]
  resolved := Array.replicate 460 none
  statics := none }

/-- the primitive byte -/
def k11 : Class := { plain "byte" none with kind := .primitive 'B', accessFlags := 0x411 }
/-- [B -/
def k12 : Class := { plain "[B" (some 0) with kind := .array 11 .byte, interfaces := #[4, 5], accessFlags := 1041 }

/-- the primitive int -/
def k13 : Class := { plain "int" none with kind := .primitive 'I', accessFlags := 0x411 }
/-- [I -/
def k14 : Class := { plain "[I" (some 0) with kind := .array 13 .int, interfaces := #[4, 5], accessFlags := 1041 }

/-- the primitive long -/
def k15 : Class := { plain "long" none with kind := .primitive 'J', accessFlags := 0x411 }
/-- [J -/
def k16 : Class := { plain "[J" (some 0) with kind := .array 15 .long, interfaces := #[4, 5], accessFlags := 1041 }

def heap : Heap := #[]
def classes : Array Class := #[k0, k1, k2, k3, k4, k5, k6, k7, k8, k9, k10, k11, k12, k13, k14, k15, k16]
def interned : List (Array UInt16 × Addr) := []
def slotsUsed : Nat := 0
def theMethod : MethodId := ⟨1, 4⟩
def args0 : Array Value := #[.int 5, .int 7, .int 1, .int 9, .int 3, .int 2]
def aboutOver (below : List Frame) : State where
  vm := { classes := classes, interned := interned.toArray }
  heap := heap
  slotsUsed := slotsUsed
  threads := #[{ frames := .invoking theMethod args0 :: below }]
def below0 : List Frame := [.native { method := ⟨0, 0⟩, args := #[] }]
def about1 : State := aboutOver below0
def p0 : Program := .bare "" "" ""
def e0 : Env := launch0.env 0 0 0
theorem w_frames : about1.frames = Frame.invoking theMethod args0 :: below0 := rfl
set_option maxRecDepth 65536 in
theorem w_args : argsFit about1.vm theMethod args0 = true := by decide +kernel
set_option maxRecDepth 65536 in
theorem w_heap : heapFits about1 = true := by decide +kernel
set_option maxRecDepth 65536 in
theorem w_runnable : about1.curStatus? = some .runnable := by decide +kernel
set_option maxRecDepth 65536 in
theorem w_alone : about1.alone = true := by decide +kernel
set_option maxRecDepth 65536 in
theorem w_named : about1.methodNamed? x = some theMethod := by decide +kernel
set_option maxRecDepth 65536 in
theorem w_hears : about1.hears theMethod below0 = true := by decide +kernel
set_option maxRecDepth 65536 in
theorem w_ripe : about1.ripe theMethod args0 below0 = true := by decide +kernel
theorem w_running : about1.status = .running := rfl
set_option maxRecDepth 65536 in
theorem w_room : about1.hasRoom e0.platform room_1 = true :=
  launch0.hasRoom_least _ room_1 (by decide +kernel) (by decide +kernel) (by decide +kernel) (by decide +kernel) (by decide +kernel) (by decide +kernel)
theorem allAtoms_all (ts : List Jvm.Cond) (a : Array Jvm.Value) (st : Jvm.State) : (allAtoms ts).before a st = ts.all (fun c => c.before a st) := by
  induction ts with
  | nil => rfl
  | cons c t ih =>
    show (Jvm.Cond.and c (allAtoms t)).before a st = _
    rw [Jvm.Cond.before_and, ih, List.all_cons]
def words1 : List Jvm.Cond := Jvm.Cond.code x code maxLocals ret :: tables_1
/-- a 'code' word, met by the world's own term for the bytes: nothing is compared byte by byte -/
theorem code_word {y : MethodName} {bytes : ByteArray} {mx : Nat} {rt : Option FieldType} {a : Array Value} {s : State} {m : MethodId} {meth : Method} {c : Code} (h1 : s.methodNamed? y = some m) (h2 : s.vm.method? m = some meth) (h3 : meth.code = some c) (h4 : c.code = bytes)
    (h5 : (c.maxLocals == mx && c.exceptionTable.isEmpty && decide (c.maxStack ≤ mostOperands) && decide (meth.sig.returnType = rt) && !meth.locks && decide (parseMethodDescriptor y.desc = some meth.sig)) = true) : (Jvm.Cond.code y bytes mx rt).before a s = true := by
  simp only [Bool.and_eq_true, beq_iff_eq, Bool.not_eq_true', decide_eq_true_eq] at h5
  obtain ⟨⟨⟨⟨⟨g1, g2⟩, g3⟩, g4⟩, g5⟩, g6⟩ := h5
  simp [Cond.before, Cond.holds, Cond.value, h1, h2, h3, h4, g1, g2, g3, g4, g5, g6]
def isCode : Jvm.Cond → Bool
  | .code _ _ _ _ => true
  | _ => false
theorem all_split {L : List Jvm.Cond} {P : Jvm.Cond → Bool} (h1 : L.all (fun c => isCode c || P c) = true) (h2 : ∀ c ∈ L.filter isCode, P c = true) : L.all P = true := by
  refine List.all_eq_true.mpr fun c hc => ?_
  have h := List.all_eq_true.mp h1 c hc
  rcases Bool.eq_false_or_eq_true (isCode c) with hi | hi
  · exact h2 c (List.mem_filter.mpr ⟨hc, hi⟩)
  · simpa [hi] using h
set_option maxRecDepth 65536 in
theorem w_c0 : (Jvm.Cond.code x code maxLocals ret).before args0 about1 = true := code_word (m := ⟨1, 4⟩) (meth := k1m4) (c := k1c4) (by decide +kernel) rfl rfl rfl (by decide +kernel)
set_option maxRecDepth 65536 in
theorem w_c1 : (Jvm.Cond.code ({ cls := "com/example/isolens/isolens/checker/DynamicOrder", name := "<init>", desc := "([I[II[I)V" } : Jvm.MethodName) prog_17_method_1_code (7 : Nat) (Option.none : Option Jvm.ClassFile.FieldType)).before args0 about1 = true := code_word (m := ⟨2, 0⟩) (meth := k2m0) (c := k2c0) (by decide +kernel) rfl rfl rfl (by decide +kernel)
set_option maxRecDepth 65536 in
theorem w_c2 : (Jvm.Cond.code ({ cls := "java/lang/Object", name := "<init>", desc := "()V" } : Jvm.MethodName) object_method_1_code (1 : Nat) (Option.none : Option Jvm.ClassFile.FieldType)).before args0 about1 = true := code_word (m := ⟨0, 0⟩) (meth := k0m0) (c := k0c0) (by decide +kernel) rfl rfl rfl (by decide +kernel)
set_option maxRecDepth 65536 in
theorem w_c3 : (Jvm.Cond.code ({ cls := "com/example/isolens/isolens/checker/DynamicOrder$Found", name := "<init>", desc := "()V" } : Jvm.MethodName) prog_18_method_1_code (1 : Nat) (Option.none : Option Jvm.ClassFile.FieldType)).before args0 about1 = true := code_word (m := ⟨3, 0⟩) (meth := k3m0) (c := k3c0) (by decide +kernel) rfl rfl rfl (by decide +kernel)
set_option maxRecDepth 65536 in
theorem w_c4 : (Jvm.Cond.code ({ cls := "java/util/BitSet", name := "<init>", desc := "()V" } : Jvm.MethodName) jdk_92_method_4_code (1 : Nat) (Option.none : Option Jvm.ClassFile.FieldType)).before args0 about1 = true := code_word (m := ⟨6, 1⟩) (meth := k6m1) (c := k6c1) (by decide +kernel) rfl rfl rfl (by decide +kernel)
set_option maxRecDepth 65536 in
theorem w_c5 : (Jvm.Cond.code ({ cls := "java/util/BitSet", name := "initWords", desc := "(I)V" } : Jvm.MethodName) jdk_92_method_6_code (2 : Nat) (Option.none : Option Jvm.ClassFile.FieldType)).before args0 about1 = true := code_word (m := ⟨6, 2⟩) (meth := k6m2) (c := k6c2) (by decide +kernel) rfl rfl rfl (by decide +kernel)
set_option maxRecDepth 65536 in
theorem w_c6 : (Jvm.Cond.code ({ cls := "java/util/BitSet", name := "wordIndex", desc := "(I)I" } : Jvm.MethodName) jdk_92_method_1_code (1 : Nat) (Option.some Jvm.ClassFile.FieldType.int)).before args0 about1 = true := code_word (m := ⟨6, 0⟩) (meth := k6m0) (c := k6c0) (by decide +kernel) rfl rfl rfl (by decide +kernel)
set_option maxRecDepth 65536 in
theorem w_c7 : (Jvm.Cond.code ({ cls := "com/example/isolens/isolens/checker/EdgeLists", name := "otherEnds", desc := "([I[II[I)[I" } : Jvm.MethodName) prog_22_method_3_code (6 : Nat) (Option.some (Jvm.ClassFile.FieldType.array Jvm.ClassFile.FieldType.int))).before args0 about1 = true := code_word (m := ⟨7, 2⟩) (meth := k7m2) (c := k7c2) (by decide +kernel) rfl rfl rfl (by decide +kernel)
set_option maxRecDepth 65536 in
theorem w_c8 : (Jvm.Cond.code ({ cls := "com/example/isolens/isolens/checker/EdgeLists", name := "places", desc := "([II[I)[I" } : Jvm.MethodName) prog_22_method_2_code (6 : Nat) (Option.some (Jvm.ClassFile.FieldType.array Jvm.ClassFile.FieldType.int))).before args0 about1 = true := code_word (m := ⟨7, 1⟩) (meth := k7m1) (c := k7c1) (by decide +kernel) rfl rfl rfl (by decide +kernel)
set_option maxRecDepth 65536 in
theorem w_c9 : (Jvm.Cond.code ({ cls := "java/util/Arrays", name := "fill", desc := "([II)V" } : Jvm.MethodName) jdk_65_method_103_code (4 : Nat) (Option.none : Option Jvm.ClassFile.FieldType)).before args0 about1 = true := code_word (m := ⟨9, 1⟩) (meth := k9m1) (c := k9c1) (by decide +kernel) rfl rfl rfl (by decide +kernel)
set_option maxRecDepth 65536 in
theorem w_c10 : (Jvm.Cond.code ({ cls := "com/example/isolens/isolens/checker/DynamicOrderUndoPinLaw", name := "fromOf", desc := "(I)I" } : Jvm.MethodName) method_2_code (1 : Nat) (Option.some Jvm.ClassFile.FieldType.int)).before args0 about1 = true := code_word (m := ⟨1, 1⟩) (meth := k1m1) (c := k1c1) (by decide +kernel) rfl rfl rfl (by decide +kernel)
set_option maxRecDepth 65536 in
theorem w_c11 : (Jvm.Cond.code ({ cls := "com/example/isolens/isolens/checker/DynamicOrderUndoPinLaw", name := "toOf", desc := "(I)I" } : Jvm.MethodName) method_3_code (1 : Nat) (Option.some Jvm.ClassFile.FieldType.int)).before args0 about1 = true := code_word (m := ⟨1, 2⟩) (meth := k1m2) (c := k1c2) (by decide +kernel) rfl rfl rfl (by decide +kernel)
set_option maxRecDepth 65536 in
theorem w_c12 : (Jvm.Cond.code ({ cls := "com/example/isolens/isolens/checker/DynamicOrder", name := "add", desc := "(II)Z" } : Jvm.MethodName) prog_17_method_8_code (3 : Nat) (Option.some Jvm.ClassFile.FieldType.boolean)).before args0 about1 = true := code_word (m := ⟨2, 6⟩) (meth := k2m6) (c := k2c6) (by decide +kernel) rfl rfl rfl (by decide +kernel)
set_option maxRecDepth 65536 in
theorem w_c13 : (Jvm.Cond.code ({ cls := "com/example/isolens/isolens/checker/DynamicOrder", name := "undo", desc := "(I)V" } : Jvm.MethodName) prog_17_method_16_code (2 : Nat) (Option.none : Option Jvm.ClassFile.FieldType)).before args0 about1 = true := code_word (m := ⟨2, 8⟩) (meth := k2m8) (c := k2c8) (by decide +kernel) rfl rfl rfl (by decide +kernel)
set_option maxRecDepth 65536 in
theorem w_c14 : (Jvm.Cond.code ({ cls := "com/example/isolens/isolens/checker/DynamicOrder", name := "mark", desc := "()I" } : Jvm.MethodName) prog_17_method_15_code (1 : Nat) (Option.some Jvm.ClassFile.FieldType.int)).before args0 about1 = true := code_word (m := ⟨2, 7⟩) (meth := k2m7) (c := k2c7) (by decide +kernel) rfl rfl rfl (by decide +kernel)
set_option maxRecDepth 65536 in
theorem w_c15 : (Jvm.Cond.code ({ cls := "com/example/isolens/isolens/checker/DynamicOrderUndoPinLaw", name := "kept", desc := "(IIIII)Z" } : Jvm.MethodName) method_4_code (5 : Nat) (Option.some Jvm.ClassFile.FieldType.boolean)).before args0 about1 = true := code_word (m := ⟨1, 3⟩) (meth := k1m3) (c := k1c3) (by decide +kernel) rfl rfl rfl (by decide +kernel)
set_option maxRecDepth 65536 in
theorem w_c16 : (Jvm.Cond.code ({ cls := "com/example/isolens/isolens/checker/DynamicOrder", name := "reaches", desc := "(II)Z" } : Jvm.MethodName) prog_17_method_2_code (3 : Nat) (Option.some Jvm.ClassFile.FieldType.boolean)).before args0 about1 = true := code_word (m := ⟨2, 1⟩) (meth := k2m1) (c := k2c1) (by decide +kernel) rfl rfl rfl (by decide +kernel)
set_option maxRecDepth 65536 in
theorem w_c17 : (Jvm.Cond.code ({ cls := "com/example/isolens/isolens/checker/DynamicOrder", name := "reachesAny", desc := "(I[III)Z" } : Jvm.MethodName) prog_17_method_3_code (11 : Nat) (Option.some Jvm.ClassFile.FieldType.boolean)).before args0 about1 = true := code_word (m := ⟨2, 2⟩) (meth := k2m2) (c := k2c2) (by decide +kernel) rfl rfl rfl (by decide +kernel)
set_option maxRecDepth 65536 in
theorem w_c18 : (Jvm.Cond.code ({ cls := "com/example/isolens/isolens/checker/DynamicOrder", name := "nextSearch", desc := "()I" } : Jvm.MethodName) prog_17_method_6_code (1 : Nat) (Option.some Jvm.ClassFile.FieldType.int)).before args0 about1 = true := code_word (m := ⟨2, 5⟩) (meth := k2m5) (c := k2c5) (by decide +kernel) rfl rfl rfl (by decide +kernel)
set_option maxRecDepth 65536 in
theorem w_c19 : (Jvm.Cond.code ({ cls := "com/example/isolens/isolens/checker/DynamicOrder$Found", name := "add", desc := "(I)V" } : Jvm.MethodName) prog_18_method_2_code (2 : Nat) (Option.none : Option Jvm.ClassFile.FieldType)).before args0 about1 = true := code_word (m := ⟨3, 1⟩) (meth := k3m1) (c := k3c1) (by decide +kernel) rfl rfl rfl (by decide +kernel)
set_option maxRecDepth 65536 in
theorem w_c20 : (Jvm.Cond.code ({ cls := "java/lang/Math", name := "max", desc := "(II)I" } : Jvm.MethodName) jdk_29_method_65_code (2 : Nat) (Option.some Jvm.ClassFile.FieldType.int)).before args0 about1 = true := code_word (m := ⟨10, 1⟩) (meth := k10m1) (c := k10c1) (by decide +kernel) rfl rfl rfl (by decide +kernel)
set_option maxRecDepth 65536 in
theorem w_c21 : (Jvm.Cond.code ({ cls := "com/example/isolens/isolens/checker/DynamicOrder", name := "meetOn", desc := "(IIII)Z" } : Jvm.MethodName) prog_17_method_4_code (5 : Nat) (Option.some Jvm.ClassFile.FieldType.boolean)).before args0 about1 = true := code_word (m := ⟨2, 3⟩) (meth := k2m3) (c := k2c3) (by decide +kernel) rfl rfl rfl (by decide +kernel)
set_option maxRecDepth 65536 in
theorem w_c22 : (Jvm.Cond.code ({ cls := "com/example/isolens/isolens/checker/DynamicOrder", name := "meetBack", desc := "(IIII)Z" } : Jvm.MethodName) prog_17_method_5_code (5 : Nat) (Option.some Jvm.ClassFile.FieldType.boolean)).before args0 about1 = true := code_word (m := ⟨2, 4⟩) (meth := k2m4) (c := k2c4) (by decide +kernel) rfl rfl rfl (by decide +kernel)
def codes1 : List Jvm.Cond := [Jvm.Cond.code x code maxLocals ret, Jvm.Cond.code ({ cls := "com/example/isolens/isolens/checker/DynamicOrder", name := "<init>", desc := "([I[II[I)V" } : Jvm.MethodName) prog_17_method_1_code (7 : Nat) (Option.none : Option Jvm.ClassFile.FieldType), Jvm.Cond.code ({ cls := "java/lang/Object", name := "<init>", desc := "()V" } : Jvm.MethodName) object_method_1_code (1 : Nat) (Option.none : Option Jvm.ClassFile.FieldType), Jvm.Cond.code ({ cls := "com/example/isolens/isolens/checker/DynamicOrder$Found", name := "<init>", desc := "()V" } : Jvm.MethodName) prog_18_method_1_code (1 : Nat) (Option.none : Option Jvm.ClassFile.FieldType), Jvm.Cond.code ({ cls := "java/util/BitSet", name := "<init>", desc := "()V" } : Jvm.MethodName) jdk_92_method_4_code (1 : Nat) (Option.none : Option Jvm.ClassFile.FieldType), Jvm.Cond.code ({ cls := "java/util/BitSet", name := "initWords", desc := "(I)V" } : Jvm.MethodName) jdk_92_method_6_code (2 : Nat) (Option.none : Option Jvm.ClassFile.FieldType), Jvm.Cond.code ({ cls := "java/util/BitSet", name := "wordIndex", desc := "(I)I" } : Jvm.MethodName) jdk_92_method_1_code (1 : Nat) (Option.some Jvm.ClassFile.FieldType.int), Jvm.Cond.code ({ cls := "com/example/isolens/isolens/checker/EdgeLists", name := "otherEnds", desc := "([I[II[I)[I" } : Jvm.MethodName) prog_22_method_3_code (6 : Nat) (Option.some (Jvm.ClassFile.FieldType.array Jvm.ClassFile.FieldType.int)), Jvm.Cond.code ({ cls := "com/example/isolens/isolens/checker/EdgeLists", name := "places", desc := "([II[I)[I" } : Jvm.MethodName) prog_22_method_2_code (6 : Nat) (Option.some (Jvm.ClassFile.FieldType.array Jvm.ClassFile.FieldType.int)), Jvm.Cond.code ({ cls := "java/util/Arrays", name := "fill", desc := "([II)V" } : Jvm.MethodName) jdk_65_method_103_code (4 : Nat) (Option.none : Option Jvm.ClassFile.FieldType), Jvm.Cond.code ({ cls := "com/example/isolens/isolens/checker/DynamicOrderUndoPinLaw", name := "fromOf", desc := "(I)I" } : Jvm.MethodName) method_2_code (1 : Nat) (Option.some Jvm.ClassFile.FieldType.int), Jvm.Cond.code ({ cls := "com/example/isolens/isolens/checker/DynamicOrderUndoPinLaw", name := "toOf", desc := "(I)I" } : Jvm.MethodName) method_3_code (1 : Nat) (Option.some Jvm.ClassFile.FieldType.int), Jvm.Cond.code ({ cls := "com/example/isolens/isolens/checker/DynamicOrder", name := "add", desc := "(II)Z" } : Jvm.MethodName) prog_17_method_8_code (3 : Nat) (Option.some Jvm.ClassFile.FieldType.boolean), Jvm.Cond.code ({ cls := "com/example/isolens/isolens/checker/DynamicOrder", name := "undo", desc := "(I)V" } : Jvm.MethodName) prog_17_method_16_code (2 : Nat) (Option.none : Option Jvm.ClassFile.FieldType), Jvm.Cond.code ({ cls := "com/example/isolens/isolens/checker/DynamicOrder", name := "mark", desc := "()I" } : Jvm.MethodName) prog_17_method_15_code (1 : Nat) (Option.some Jvm.ClassFile.FieldType.int), Jvm.Cond.code ({ cls := "com/example/isolens/isolens/checker/DynamicOrderUndoPinLaw", name := "kept", desc := "(IIIII)Z" } : Jvm.MethodName) method_4_code (5 : Nat) (Option.some Jvm.ClassFile.FieldType.boolean), Jvm.Cond.code ({ cls := "com/example/isolens/isolens/checker/DynamicOrder", name := "reaches", desc := "(II)Z" } : Jvm.MethodName) prog_17_method_2_code (3 : Nat) (Option.some Jvm.ClassFile.FieldType.boolean), Jvm.Cond.code ({ cls := "com/example/isolens/isolens/checker/DynamicOrder", name := "reachesAny", desc := "(I[III)Z" } : Jvm.MethodName) prog_17_method_3_code (11 : Nat) (Option.some Jvm.ClassFile.FieldType.boolean), Jvm.Cond.code ({ cls := "com/example/isolens/isolens/checker/DynamicOrder", name := "nextSearch", desc := "()I" } : Jvm.MethodName) prog_17_method_6_code (1 : Nat) (Option.some Jvm.ClassFile.FieldType.int), Jvm.Cond.code ({ cls := "com/example/isolens/isolens/checker/DynamicOrder$Found", name := "add", desc := "(I)V" } : Jvm.MethodName) prog_18_method_2_code (2 : Nat) (Option.none : Option Jvm.ClassFile.FieldType), Jvm.Cond.code ({ cls := "java/lang/Math", name := "max", desc := "(II)I" } : Jvm.MethodName) jdk_29_method_65_code (2 : Nat) (Option.some Jvm.ClassFile.FieldType.int), Jvm.Cond.code ({ cls := "com/example/isolens/isolens/checker/DynamicOrder", name := "meetOn", desc := "(IIII)Z" } : Jvm.MethodName) prog_17_method_4_code (5 : Nat) (Option.some Jvm.ClassFile.FieldType.boolean), Jvm.Cond.code ({ cls := "com/example/isolens/isolens/checker/DynamicOrder", name := "meetBack", desc := "(IIII)Z" } : Jvm.MethodName) prog_17_method_5_code (5 : Nat) (Option.some Jvm.ClassFile.FieldType.boolean)]
set_option maxRecDepth 65536 in
theorem codes_eq : words1.filter isCode = codes1 := rfl
theorem w_codes : ∀ c ∈ words1.filter isCode, c.before args0 about1 = true := by
  rw [codes_eq]
  intro c hc
  simp only [codes1, List.mem_cons, List.not_mem_nil, or_false] at hc
  rcases hc with rfl | rfl | rfl | rfl | rfl | rfl | rfl | rfl | rfl | rfl | rfl | rfl | rfl | rfl | rfl | rfl | rfl | rfl | rfl | rfl | rfl | rfl | rfl
  · exact w_c0
  · exact w_c1
  · exact w_c2
  · exact w_c3
  · exact w_c4
  · exact w_c5
  · exact w_c6
  · exact w_c7
  · exact w_c8
  · exact w_c9
  · exact w_c10
  · exact w_c11
  · exact w_c12
  · exact w_c13
  · exact w_c14
  · exact w_c15
  · exact w_c16
  · exact w_c17
  · exact w_c18
  · exact w_c19
  · exact w_c20
  · exact w_c21
  · exact w_c22
set_option maxRecDepth 65536 in
theorem w_t1 : (words1.take 24).all (fun c => isCode c || c.before args0 about1) = true := by decide +kernel
set_option maxRecDepth 65536 in
theorem w_t2 : ((words1.drop 24).take 24).all (fun c => isCode c || c.before args0 about1) = true := by decide +kernel
set_option maxRecDepth 65536 in
theorem w_t3 : (((words1.drop 24).drop 24).take 24).all (fun c => isCode c || c.before args0 about1) = true := by decide +kernel
set_option maxRecDepth 65536 in
theorem w_t4 : ((((words1.drop 24).drop 24).drop 24).take 24).all (fun c => isCode c || c.before args0 about1) = true := by decide +kernel
set_option maxRecDepth 65536 in
theorem w_t5 : (((((words1.drop 24).drop 24).drop 24).drop 24).take 24).all (fun c => isCode c || c.before args0 about1) = true := by decide +kernel
set_option maxRecDepth 65536 in
theorem w_t6 : ((((((words1.drop 24).drop 24).drop 24).drop 24).drop 24).take 24).all (fun c => isCode c || c.before args0 about1) = true := by decide +kernel
set_option maxRecDepth 65536 in
theorem w_t7 : (((((((words1.drop 24).drop 24).drop 24).drop 24).drop 24).drop 24).take 24).all (fun c => isCode c || c.before args0 about1) = true := by decide +kernel
set_option maxRecDepth 65536 in
theorem w_t8 : (((((((words1.drop 24).drop 24).drop 24).drop 24).drop 24).drop 24).drop 24).all (fun c => isCode c || c.before args0 about1) = true := by decide +kernel
theorem w_tables : (allAtoms (Jvm.Cond.code x code maxLocals ret :: tables_1)).before args0 about1 = true := by
  rw [allAtoms_all]
  show words1.all (fun c => c.before args0 about1) = true
  refine all_split ?_ w_codes
  rw [← List.take_append_drop 24 words1, List.all_append, w_t1, ← List.take_append_drop 24 (words1.drop 24), List.all_append, w_t2, ← List.take_append_drop 24 ((words1.drop 24).drop 24), List.all_append, w_t3, ← List.take_append_drop 24 (((words1.drop 24).drop 24).drop 24), List.all_append, w_t4, ← List.take_append_drop 24 ((((words1.drop 24).drop 24).drop 24).drop 24), List.all_append, w_t5, ← List.take_append_drop 24 (((((words1.drop 24).drop 24).drop 24).drop 24).drop 24), List.all_append, w_t6, ← List.take_append_drop 24 ((((((words1.drop 24).drop 24).drop 24).drop 24).drop 24).drop 24), List.all_append, w_t7, w_t8]
  rfl
set_option maxRecDepth 65536 in
theorem w_case : (Jvm.Cond.and given_1 narrow_1).before args0 about1 = true := by decide +kernel
theorem w_applies : (headSpec (Jvm.Cond.code x code maxLocals ret :: tables_1) room_1).applies x e0.platform about1 = true :=
  (Spec.applies_iff w_frames).mpr ⟨w_running, w_runnable, w_alone, w_named, w_hears, w_ripe, w_room, w_tables⟩
theorem atStart : AtStart classFile x code maxLocals ret World_1 tables_1 room_1 Calls_1 rest_1 Pre_1 launch0 p0 e0 about1 theMethod args0 below0 :=
  ⟨lists_1, trivial, launch0.admits_env _ _ _, launch0.least_env, fairChoices_fair.cas, fairChoices_fair.clock, w_frames, w_args, w_heap, w_applies, trivial, trivial, w_case⟩
end start1
theorem witness_1 : WitnessClaimed_1 := ⟨start1.p0, start1.e0, start1.about1, start1.theMethod, start1.args0, start1.below0, start1.atStart⟩
end Jvm.Pilot.@@N@@
