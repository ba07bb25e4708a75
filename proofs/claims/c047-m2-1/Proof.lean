import JvmDerived
import JvmDerived.Pilot.@@N@@Statement
import JvmDerived.Pilot.@@N@@Code
set_option linter.unusedVariables false
set_option linter.unusedSimpArgs false
namespace Jvm.Pilot.@@N@@
open Jvm Jvm.ClassFile Sem Op Lib Jvm.Free Jvm.Stand Jvm.LawKit Jvm.RoadKit Bundle Jvm.Pilot.@@N@@.Jvm.D
section OwnKit
variable {p : Program} {l : Launch} {e : Env} {R : Room} {s : State} {m : MethodId} {args : Array Value} {below : List Frame} {meth : Method} {c : Code} {T : State} {locs : List Loc} {cells slots : Nat} {bc : ByteArray} {Q : Option Value → Heap → List Loc → Prop} {mc ms : Nat} {Z : State} {a0 : Array Value} {h : Heap} {pc pc' pt pf : Nat} {Ls : Array Slot} {st rest : List Value}
/-- from this frame over T the invocation comes to its end by returning, and Q holds there -/
def Go (p : Program) (e : Env) (below : List Frame) (s : State) (Q : Option Value → Heap → List Loc → Prop) (mc ms : Nat) (m : MethodId) (T : State) (pc : Nat) (Ls : Array Slot) (st : List Value) : Prop :=
  ∃ s₂ o, Steps p.tables e below (T.setTop (mkF m pc Ls st)) s₂ ∧ s₂.status = .running ∧ Ended s₂ below o ∧ ∃ v L, o = .returned v ∧ Q v s₂.heap L ∧ FrameEnd s o s₂ L mc ms
theorem Go.of {T' : State} {Ls' : Array Slot} {st' : List Value} (k : ∀ t, Steps p.tables e below (T'.setTop (mkF m pc' Ls' st')) t → Steps p.tables e below (T.setTop (mkF m pc Ls st)) t) (g : Go p e below s Q mc ms m T' pc' Ls' st') : Go p e below s Q mc ms m T pc Ls st := by
  obtain ⟨s₂, o, h1, h2⟩ := g
  exact ⟨s₂, o, k _ h1, h2⟩
/-- a method's contract, as a caller takes it -/
def Ct (l : Launch) (Z : State) (y : MethodName) (bytes : ByteArray) (maxL : Nat) (ret : Option FieldType) (rm : Room) (as' : Array Value) (h : Heap) (Q : Option Value → Heap → List Loc → Prop) : Prop :=
  MetFree l y (head1 [Jvm.Cond.code y bytes maxL ret] rm) (fun a U => a = as' ∧ Z.Warmed39 U.vm ∧ U.heap = h) (fun _ _ _ _ _ => True) (fun _ U o U' => ∃ v L, o = .returned v ∧ Q v U'.heap L ∧ FrameEnd U o U' L rm.cells rm.slots)
theorem own_met {y : MethodName} {bytes : ByteArray} {maxL : Nat} {ret : Option FieldType} {ws : List Jvm.Cond} {rm : Room} {as' : Array Value}
    (hpl : plainFor y = true) (hef : ∀ m, entryFrame m as' maxL = mkF m 0 Ls [])
    (body : ∀ (p : Program) (e : Env) (s : State) (m : MethodId) (below : List Frame) (meth : Method) (c : Code) (T : State), Stand p l e rm s m as' below meth c T [] 0 0 → p.tables.exec = Jvm.exec → c.code = bytes → c.maxLocals = maxL →
      s.vm.findClass y.cls = some m.cls → meth.name = y.name → meth.sig.returnType = ret → meth.locks = false → Z.Warmed39 s.vm → T.heap = h → Go p e below s Q mc ms m T 0 Ls []) :
    MetFree l y (head1 (Jvm.Cond.code y bytes maxL ret :: ws) rm) (fun a U => a = as' ∧ Z.Warmed39 U.vm ∧ U.heap = h) (fun _ _ _ _ _ => True) (fun _ U o U' => ∃ v L, o = .returned v ∧ Q v U'.heap L ∧ FrameEnd U o U' L mc ms) := by
  refine MetFree.of_bodySF hpl hisR ?_
  intro p e s m args below meth c s₁ Bd hml0 hP hK
  obtain ⟨rfl, hZ, hh⟩ := hP
  obtain ⟨s₂, o, h1, h2, h3, v, L, h4, h5, h6⟩ := body p e s m below meth c s₁ (Stand.of_body Bd) Bd.exec Bd.bytes hml0 (findClass_of_methodNamed Bd.named) (name_of_methodNamed Bd.named Bd.method).1 Bd.returns Bd.notSynchronized hZ (by rw [← hh, Bd.state]; rfl)
  exact ⟨s₂, o, castTop (hef m) h1, h2, h3, v, L, h4, h5, h6⟩
theorem g_iloadN (X : Stand p l e R s m args below meth c T locs cells slots) (hx : p.tables.exec = Jvm.exec) (hby : c.code = bc) {n : Fin 4} {v : Int32} (hd : decode bc pc = .ok (.iload_n n, 1)) (hp : pc + 1 = pc') (hl : Ls[n.val]? = some (.val (.int v))) (k : Go p e below s Q mc ms m T pc' Ls (.int v :: st)) : Go p e below s Q mc ms m T pc Ls st := by
  subst hp; exact Go.of (fun _ q => XS.iloadN X.here hx rfl (hb hby hd) hl q) k
theorem g_iload (X : Stand p l e R s m args below meth c T locs cells slots) (hx : p.tables.exec = Jvm.exec) (hby : c.code = bc) {n : Nat} {v : Int32} (hd : decode bc pc = .ok (.iload n, 2)) (hp : pc + 2 = pc') (hl : Ls[n]? = some (.val (.int v))) (k : Go p e below s Q mc ms m T pc' Ls (.int v :: st)) : Go p e below s Q mc ms m T pc Ls st := by
  subst hp; exact Go.of (fun _ q => XS.iload X.here hx rfl (hb hby hd) hl q) k
theorem g_istoreN (X : Stand p l e R s m args below meth c T locs cells slots) (hx : p.tables.exec = Jvm.exec) (hby : c.code = bc) {n : Fin 4} {v : Int32} {Ls' : Array Slot} (hd : decode bc pc = .ok (.istore_n n, 1)) (hp : pc + 1 = pc') (hl : storeLocals Ls n.val (.int v) = some Ls') (k : Go p e below s Q mc ms m T pc' Ls' rest) : Go p e below s Q mc ms m T pc Ls (.int v :: rest) := by
  subst hp; exact Go.of (fun _ q => XS.istoreN X.here hx rfl (hb hby hd) rfl hl q) k
theorem g_istore (X : Stand p l e R s m args below meth c T locs cells slots) (hx : p.tables.exec = Jvm.exec) (hby : c.code = bc) {n : Nat} {v : Int32} {Ls' : Array Slot} (hd : decode bc pc = .ok (.istore n, 2)) (hp : pc + 2 = pc') (hl : storeLocals Ls n (.int v) = some Ls') (k : Go p e below s Q mc ms m T pc' Ls' rest) : Go p e below s Q mc ms m T pc Ls (.int v :: rest) := by
  subst hp; exact Go.of (fun _ q => XS.istore X.here hx rfl (hb hby hd) rfl hl q) k
theorem g_lloadN (X : Stand p l e R s m args below meth c T locs cells slots) (hx : p.tables.exec = Jvm.exec) (hby : c.code = bc) {n : Fin 4} {v : Int64} (hd : decode bc pc = .ok (.lload_n n, 1)) (hp : pc + 1 = pc') (hl : Ls[n.val]? = some (.val (.long v))) (k : Go p e below s Q mc ms m T pc' Ls (.long v :: st)) : Go p e below s Q mc ms m T pc Ls st := by
  subst hp; exact Go.of (fun _ q => XS.lloadN X.here hx rfl (hb hby hd) hl q) k
theorem g_lload (X : Stand p l e R s m args below meth c T locs cells slots) (hx : p.tables.exec = Jvm.exec) (hby : c.code = bc) {n : Nat} {v : Int64} (hd : decode bc pc = .ok (.lload n, 2)) (hp : pc + 2 = pc') (hl : Ls[n]? = some (.val (.long v))) (k : Go p e below s Q mc ms m T pc' Ls (.long v :: st)) : Go p e below s Q mc ms m T pc Ls st := by
  subst hp; exact Go.of (fun _ q => XS.lload X.here hx rfl (hb hby hd) hl q) k
theorem g_lstore (X : Stand p l e R s m args below meth c T locs cells slots) (hx : p.tables.exec = Jvm.exec) (hby : c.code = bc) {n : Nat} {v : Int64} {Ls' : Array Slot} (hd : decode bc pc = .ok (.lstore n, 2)) (hp : pc + 2 = pc') (hl : storeLocals Ls n (.long v) = some Ls') (k : Go p e below s Q mc ms m T pc' Ls' rest) : Go p e below s Q mc ms m T pc Ls (.long v :: rest) := by
  subst hp; exact Go.of (fun _ q => XS.lstore X.here hx rfl (hb hby hd) rfl hl q) k
theorem g_aloadN (X : Stand p l e R s m args below meth c T locs cells slots) (hx : p.tables.exec = Jvm.exec) (hby : c.code = bc) {n : Fin 4} {v : Value} (hd : decode bc pc = .ok (.aload_n n, 1)) (hp : pc + 1 = pc') (hl : Ls[n.val]? = some (.val v)) (hv : v.isRef = true) (k : Go p e below s Q mc ms m T pc' Ls (v :: st)) : Go p e below s Q mc ms m T pc Ls st := by
  subst hp; exact Go.of (fun _ q => XS.aloadN X.here hx rfl (hb hby hd) hl hv q) k
theorem g_aload (X : Stand p l e R s m args below meth c T locs cells slots) (hx : p.tables.exec = Jvm.exec) (hby : c.code = bc) {n : Nat} {v : Value} (hd : decode bc pc = .ok (.aload n, 2)) (hp : pc + 2 = pc') (hl : Ls[n]? = some (.val v)) (hv : v.isRef = true) (k : Go p e below s Q mc ms m T pc' Ls (v :: st)) : Go p e below s Q mc ms m T pc Ls st := by
  subst hp; exact Go.of (fun _ q => XS.aload X.here hx rfl (hb hby hd) hl hv q) k
theorem g_astore (X : Stand p l e R s m args below meth c T locs cells slots) (hx : p.tables.exec = Jvm.exec) (hby : c.code = bc) {n : Nat} {v : Value} {Ls' : Array Slot} (hd : decode bc pc = .ok (.astore n, 2)) (hp : pc + 2 = pc') (hv : v.isRef = true) (hl : storeLocals Ls n v = some Ls') (k : Go p e below s Q mc ms m T pc' Ls' rest) : Go p e below s Q mc ms m T pc Ls (v :: rest) := by
  subst hp; exact Go.of (fun _ q => XS.astore X.here hx rfl (hb hby hd) rfl hv hl q) k
theorem g_iconst (X : Stand p l e R s m args below meth c T locs cells slots) (hx : p.tables.exec = Jvm.exec) (hby : c.code = bc) {i : Int} {n : Int32} (hd : decode bc pc = .ok (.iconst i, 1)) (hp : pc + 1 = pc') (hn : Int32.ofInt i = n) (k : Go p e below s Q mc ms m T pc' Ls (.int n :: st)) : Go p e below s Q mc ms m T pc Ls st := by
  subst hp; exact Go.of (fun _ q => XS.iconst X.here hx rfl (hb hby hd) (by rw [hn]; exact q)) k
theorem g_bipush (X : Stand p l e R s m args below meth c T locs cells slots) (hx : p.tables.exec = Jvm.exec) (hby : c.code = bc) {i : Int} {n : Int32} (hd : decode bc pc = .ok (.bipush i, 2)) (hp : pc + 2 = pc') (hn : (Int8.ofInt i).toInt32 = n) (k : Go p e below s Q mc ms m T pc' Ls (.int n :: st)) : Go p e below s Q mc ms m T pc Ls st := by
  subst hp; exact Go.of (fun _ q => XS.bipush X.here hx rfl (hb hby hd) (by rw [hn]; exact q)) k
theorem g_iadd (X : Stand p l e R s m args below meth c T locs cells slots) (hx : p.tables.exec = Jvm.exec) (hby : c.code = bc) {x y : Int32} (hd : decode bc pc = .ok (.iadd, 1)) (hp : pc + 1 = pc')  (k : Go p e below s Q mc ms m T pc' Ls (.int (x + y) :: rest)) : Go p e below s Q mc ms m T pc Ls (.int y :: .int x :: rest) := by
  subst hp; exact Go.of (fun _ q => XS.iadd X.here hx rfl (hb hby hd) rfl q) k
theorem g_iand (X : Stand p l e R s m args below meth c T locs cells slots) (hx : p.tables.exec = Jvm.exec) (hby : c.code = bc) {x y : Int32} (hd : decode bc pc = .ok (.iand, 1)) (hp : pc + 1 = pc')  (k : Go p e below s Q mc ms m T pc' Ls (.int (x &&& y) :: rest)) : Go p e below s Q mc ms m T pc Ls (.int y :: .int x :: rest) := by
  subst hp; exact Go.of (fun _ q => XS.iand X.here hx rfl (hb hby hd) rfl q) k
theorem g_land (X : Stand p l e R s m args below meth c T locs cells slots) (hx : p.tables.exec = Jvm.exec) (hby : c.code = bc) {x y : Int64} (hd : decode bc pc = .ok (.land, 1)) (hp : pc + 1 = pc')  (k : Go p e below s Q mc ms m T pc' Ls (.long (x &&& y) :: rest)) : Go p e below s Q mc ms m T pc Ls (.long y :: .long x :: rest) := by
  subst hp; exact Go.of (fun _ q => XS.land X.here hx rfl (hb hby hd) rfl q) k
theorem g_lor (X : Stand p l e R s m args below meth c T locs cells slots) (hx : p.tables.exec = Jvm.exec) (hby : c.code = bc) {x y : Int64} (hd : decode bc pc = .ok (.lor, 1)) (hp : pc + 1 = pc')  (k : Go p e below s Q mc ms m T pc' Ls (.long (x ||| y) :: rest)) : Go p e below s Q mc ms m T pc Ls (.long y :: .long x :: rest) := by
  subst hp; exact Go.of (fun _ q => XS.lor X.here hx rfl (hb hby hd) rfl q) k
theorem g_ishr (X : Stand p l e R s m args below meth c T locs cells slots) (hx : p.tables.exec = Jvm.exec) (hby : c.code = bc) {x y : Int32} (hd : decode bc pc = .ok (.ishr, 1)) (hp : pc + 1 = pc')  (k : Go p e below s Q mc ms m T pc' Ls (.int (x >>> (y &&& 31)) :: rest)) : Go p e below s Q mc ms m T pc Ls (.int y :: .int x :: rest) := by
  subst hp; exact Go.of (fun _ q => XS.ishr X.here hx rfl (hb hby hd) rfl q) k
theorem g_iushr (X : Stand p l e R s m args below meth c T locs cells slots) (hx : p.tables.exec = Jvm.exec) (hby : c.code = bc) {x y : Int32} (hd : decode bc pc = .ok (.iushr, 1)) (hp : pc + 1 = pc')  (k : Go p e below s Q mc ms m T pc' Ls (.int ((x.toUInt32 >>> (y &&& 31).toUInt32).toInt32) :: rest)) : Go p e below s Q mc ms m T pc Ls (.int y :: .int x :: rest) := by
  subst hp; exact Go.of (fun _ q => XS.iushr X.here hx rfl (hb hby hd) rfl q) k
theorem g_lshl (X : Stand p l e R s m args below meth c T locs cells slots) (hx : p.tables.exec = Jvm.exec) (hby : c.code = bc) {x : Int64} {y : Int32} (hd : decode bc pc = .ok (.lshl, 1)) (hp : pc + 1 = pc')  (k : Go p e below s Q mc ms m T pc' Ls (.long (x <<< (y.toInt64 &&& 63)) :: rest)) : Go p e below s Q mc ms m T pc Ls (.int y :: .long x :: rest) := by
  subst hp; exact Go.of (fun _ q => XT.lshl X.here hx rfl (hb hby hd) rfl q) k
theorem g_lushr (X : Stand p l e R s m args below meth c T locs cells slots) (hx : p.tables.exec = Jvm.exec) (hby : c.code = bc) {x : Int64} {y : Int32} (hd : decode bc pc = .ok (.lushr, 1)) (hp : pc + 1 = pc')  (k : Go p e below s Q mc ms m T pc' Ls (.long (XT.ushrL x y) :: rest)) : Go p e below s Q mc ms m T pc Ls (.int y :: .long x :: rest) := by
  subst hp; exact Go.of (fun _ q => XT.lushr X.here hx rfl (hb hby hd) rfl q) k
theorem g_i2l (X : Stand p l e R s m args below meth c T locs cells slots) (hx : p.tables.exec = Jvm.exec) (hby : c.code = bc) {x : Int32} (hd : decode bc pc = .ok (.i2l, 1)) (hp : pc + 1 = pc')  (k : Go p e below s Q mc ms m T pc' Ls (.long (x.toInt64) :: rest)) : Go p e below s Q mc ms m T pc Ls (.int x :: rest) := by
  subst hp; exact Go.of (fun _ q => XS.i2l X.here hx rfl (hb hby hd) rfl q) k
theorem g_l2i (X : Stand p l e R s m args below meth c T locs cells slots) (hx : p.tables.exec = Jvm.exec) (hby : c.code = bc) {x : Int64} (hd : decode bc pc = .ok (.l2i, 1)) (hp : pc + 1 = pc')  (k : Go p e below s Q mc ms m T pc' Ls (.int (x.toInt32) :: rest)) : Go p e below s Q mc ms m T pc Ls (.long x :: rest) := by
  subst hp; exact Go.of (fun _ q => XS.l2i X.here hx rfl (hb hby hd) rfl q) k
theorem g_dup (X : Stand p l e R s m args below meth c T locs cells slots) (hx : p.tables.exec = Jvm.exec) (hby : c.code = bc) {x : Value} (hd : decode bc pc = .ok (.dup, 1)) (hp : pc + 1 = pc') (hc : x.category = 1) (k : Go p e below s Q mc ms m T pc' Ls (x :: x :: rest)) : Go p e below s Q mc ms m T pc Ls (x :: rest) := by
  subst hp; exact Go.of (fun _ q => XS.dup X.here hx rfl (hb hby hd) rfl hc q) k
theorem g_iinc (X : Stand p l e R s m args below meth c T locs cells slots) (hx : p.tables.exec = Jvm.exec) (hby : c.code = bc) {n : Nat} {i : Int} {x : Int32} {Ls' : Array Slot} (hd : decode bc pc = .ok (.iinc n i, 3)) (hp : pc + 3 = pc') (hl : Ls[n]? = some (.val (.int x))) (hl' : storeLocals Ls n (.int (x + Int32.ofInt i)) = some Ls') (k : Go p e below s Q mc ms m T pc' Ls' st) : Go p e below s Q mc ms m T pc Ls st := by
  subst hp; exact Go.of (fun _ q => XS.iinc X.here hx rfl (hb hby hd) hl hl' q) k
theorem g_goto (X : Stand p l e R s m args below meth c T locs cells slots) (hx : p.tables.exec = Jvm.exec) (hby : c.code = bc) {i : Int} (hd : decode bc pc = .ok (.goto i, 3)) (ho : 0 ≤ (pc : Int) + i) (hp : ((pc : Int) + i).toNat = pc') (k : Go p e below s Q mc ms m T pc' Ls st) : Go p e below s Q mc ms m T pc Ls st := Go.of (fun _ q => XS.goto X.here hx rfl rfl (hb hby hd) ho hp q) k
theorem own_hge (x y : Int32) : if_icmp.holds .ge x y = decide (y.toInt ≤ x.toInt) := by simp [if_icmp.holds, Int32.le_iff_toInt_le]
theorem own_heq (x y : Int32) : if_icmp.holds .eq x y = decide (x = y) := by by_cases q : x = y <;> simp [if_icmp.holds, q]
theorem own_hne (x y : Int32) : if_icmp.holds .ne x y = decide (¬ x = y) := by by_cases q : x = y <;> simp [if_icmp.holds, q]
theorem g_icmp (X : Stand p l e R s m args below meth c T locs cells slots) (hx : p.tables.exec = Jvm.exec) (hby : c.code = bc) {cd : ClassFile.Cond} {i : Int} {x y : Int32} {P : Prop} [Decidable P] (hP : if_icmp.holds cd x y = decide P) (hd : decode bc pc = .ok (.if_icmp cd i, 3)) (ho : 0 ≤ (pc : Int) + i) (hp : ((pc : Int) + i).toNat = pt) (hf : pc + 3 = pf) (ky : P → Go p e below s Q mc ms m T pt Ls rest) (kn : ¬ P → Go p e below s Q mc ms m T pf Ls rest) : Go p e below s Q mc ms m T pc Ls (.int y :: .int x :: rest) := by
  subst hf
  by_cases q : P
  · exact Go.of (fun _ z => XS.icmpYes X.here hx rfl rfl (hb hby hd) rfl (by rw [hP]; exact decide_eq_true q) ho hp z) (ky q)
  · exact Go.of (fun _ z => XS.icmpNo X.here hx rfl (hb hby hd) rfl (by rw [hP]; exact decide_eq_false q) z) (kn q)
theorem g_ifc (X : Stand p l e R s m args below meth c T locs cells slots) (hx : p.tables.exec = Jvm.exec) (hby : c.code = bc) {cd : ClassFile.Cond} {i : Int} {x : Int32} {P : Prop} [Decidable P] (hP : if_icmp.holds cd x 0 = decide P) (hd : decode bc pc = .ok (.ifCond cd i, 3)) (ho : 0 ≤ (pc : Int) + i) (hp : ((pc : Int) + i).toNat = pt) (hf : pc + 3 = pf) (ky : P → Go p e below s Q mc ms m T pt Ls rest) (kn : ¬ P → Go p e below s Q mc ms m T pf Ls rest) : Go p e below s Q mc ms m T pc Ls (.int x :: rest) := by
  subst hf
  by_cases q : P
  · exact Go.of (fun _ z => XS.ifYes X.here hx rfl rfl (hb hby hd) rfl (by rw [if0, hP]; exact decide_eq_true q) ho hp z) (ky q)
  · exact Go.of (fun _ z => XS.ifNo X.here hx rfl (hb hby hd) rfl (by rw [if0, hP]; exact decide_eq_false q) z) (kn q)
theorem g_icmpge (X : Stand p l e R s m args below meth c T locs cells slots) (hx : p.tables.exec = Jvm.exec) (hby : c.code = bc) {i : Int} {x y : Int32} (hd : decode bc pc = .ok (.if_icmp .ge i, 3)) (ho : 0 ≤ (pc : Int) + i) (hp : ((pc : Int) + i).toNat = pt) (hf : pc + 3 = pf) (ky : y.toInt ≤ x.toInt → Go p e below s Q mc ms m T pt Ls rest) (kn : x.toInt < y.toInt → Go p e below s Q mc ms m T pf Ls rest) : Go p e below s Q mc ms m T pc Ls (.int y :: .int x :: rest) :=
  g_icmp X hx hby (own_hge x y) hd ho hp hf ky (fun q => kn (Int.not_le.mp q))
theorem g_icmpeq (X : Stand p l e R s m args below meth c T locs cells slots) (hx : p.tables.exec = Jvm.exec) (hby : c.code = bc) {i : Int} {x y : Int32} (hd : decode bc pc = .ok (.if_icmp .eq i, 3)) (ho : 0 ≤ (pc : Int) + i) (hp : ((pc : Int) + i).toNat = pt) (hf : pc + 3 = pf) (ky : x = y → Go p e below s Q mc ms m T pt Ls rest) (kn : ¬ x = y → Go p e below s Q mc ms m T pf Ls rest) : Go p e below s Q mc ms m T pc Ls (.int y :: .int x :: rest) :=
  g_icmp X hx hby (own_heq x y) hd ho hp hf ky (fun q => kn (id q))
theorem g_ifeq (X : Stand p l e R s m args below meth c T locs cells slots) (hx : p.tables.exec = Jvm.exec) (hby : c.code = bc) {i : Int} {x : Int32} (hd : decode bc pc = .ok (.ifCond .eq i, 3)) (ho : 0 ≤ (pc : Int) + i) (hp : ((pc : Int) + i).toNat = pt) (hf : pc + 3 = pf) (ky : x = 0 → Go p e below s Q mc ms m T pt Ls rest) (kn : ¬ x = 0 → Go p e below s Q mc ms m T pf Ls rest) : Go p e below s Q mc ms m T pc Ls (.int x :: rest) :=
  g_ifc X hx hby (own_heq x 0) hd ho hp hf ky (fun q => kn (id q))
theorem g_icmpne (X : Stand p l e R s m args below meth c T locs cells slots) (hx : p.tables.exec = Jvm.exec) (hby : c.code = bc) {i : Int} {x y : Int32} (hd : decode bc pc = .ok (.if_icmp .ne i, 3)) (ho : 0 ≤ (pc : Int) + i) (hp : ((pc : Int) + i).toNat = pt) (hf : pc + 3 = pf) (ky : ¬ x = y → Go p e below s Q mc ms m T pt Ls rest) (kn : x = y → Go p e below s Q mc ms m T pf Ls rest) : Go p e below s Q mc ms m T pc Ls (.int y :: .int x :: rest) :=
  g_icmp X hx hby (own_hne x y) hd ho hp hf ky (fun q => kn (Decidable.not_not.mp q))
theorem g_ifne (X : Stand p l e R s m args below meth c T locs cells slots) (hx : p.tables.exec = Jvm.exec) (hby : c.code = bc) {i : Int} {x : Int32} (hd : decode bc pc = .ok (.ifCond .ne i, 3)) (ho : 0 ≤ (pc : Int) + i) (hp : ((pc : Int) + i).toNat = pt) (hf : pc + 3 = pf) (ky : ¬ x = 0 → Go p e below s Q mc ms m T pt Ls rest) (kn : x = 0 → Go p e below s Q mc ms m T pf Ls rest) : Go p e below s Q mc ms m T pc Ls (.int x :: rest) :=
  g_ifc X hx hby (own_hne x 0) hd ho hp hf ky (fun q => kn (Decidable.not_not.mp q))
theorem own_cmp (x y : Int64) : XT.cmpL x y = lcmpW x y := by simp only [XT.cmpL, lcmpW, gt_iff_lt]
theorem own_lc (x y : Int64) : ((lcmpW x y).toInt < 0 ↔ x.toInt < y.toInt) ∧ (0 < (lcmpW x y).toInt ↔ y.toInt < x.toInt) ∧ (lcmpW x y = 0 ↔ x = y) := by
  refine ⟨?_, ?_, lw_eq x y⟩
  · rw [← Int64.lt_iff_toInt_lt, ← lw_lt, Int32.lt_iff_toInt_lt]; rfl
  · rw [← Int64.lt_iff_toInt_lt, ← lw_gt, Int32.lt_iff_toInt_lt]; rfl
theorem g_lcmpeq (X : Stand p l e R s m args below meth c T locs cells slots) (hx : p.tables.exec = Jvm.exec) (hby : c.code = bc) {i : Int} {x y : Int64} (hd : decode bc pc = .ok (.lcmp, 1)) (hp1 : pc + 1 = pc') (hd' : decode bc pc' = .ok (.ifCond .eq i, 3)) (ho : 0 ≤ (pc' : Int) + i) (hp : ((pc' : Int) + i).toNat = pt) (hf : pc' + 3 = pf) (ky : x = y → Go p e below s Q mc ms m T pt Ls rest) (kn : ¬ x = y → Go p e below s Q mc ms m T pf Ls rest) : Go p e below s Q mc ms m T pc Ls (.long y :: .long x :: rest) := by
  subst hp1
  refine Go.of (fun _ q => XT.lcmp X.here hx rfl (hb hby hd) rfl (by rw [own_cmp]; exact q)) (g_ifeq X hx hby hd' ho hp hf (fun q => ky ((own_lc x y).2.2.mp q)) (fun q => kn (fun z => q ((own_lc x y).2.2.mpr z))))
theorem g_lcmpne (X : Stand p l e R s m args below meth c T locs cells slots) (hx : p.tables.exec = Jvm.exec) (hby : c.code = bc) {i : Int} {x y : Int64} (hd : decode bc pc = .ok (.lcmp, 1)) (hp1 : pc + 1 = pc') (hd' : decode bc pc' = .ok (.ifCond .ne i, 3)) (ho : 0 ≤ (pc' : Int) + i) (hp : ((pc' : Int) + i).toNat = pt) (hf : pc' + 3 = pf) (ky : ¬ x = y → Go p e below s Q mc ms m T pt Ls rest) (kn : x = y → Go p e below s Q mc ms m T pf Ls rest) : Go p e below s Q mc ms m T pc Ls (.long y :: .long x :: rest) := by
  subst hp1
  refine Go.of (fun _ q => XT.lcmp X.here hx rfl (hb hby hd) rfl (by rw [own_cmp]; exact q)) (g_ifne X hx hby hd' ho hp hf (fun q => ky (fun z => q ((own_lc x y).2.2.mpr z))) (fun q => kn ((own_lc x y).2.2.mp q)))
theorem g_ifnull (X : Stand p l e R s m args below meth c T locs cells slots) (hx : p.tables.exec = Jvm.exec) (hby : c.code = bc) {i : Int} {v : Value} (hv : v.isRef = true) (hd : decode bc pc = .ok (.ifnull i, 3)) (ho : 0 ≤ (pc : Int) + i) (hp : ((pc : Int) + i).toNat = pt) (hf : pc + 3 = pf) (ky : v = .null → Go p e below s Q mc ms m T pt Ls rest) (kn : ∀ b, v = .ref b → Go p e below s Q mc ms m T pf Ls rest) : Go p e below s Q mc ms m T pc Ls (v :: rest) := by
  subst hf
  rcases ref_cases hv with rfl | ⟨b, rfl⟩
  · exact Go.of (fun _ z => XS.ifnullYes X.here hx rfl rfl (hb hby hd) rfl ho hp z) (ky rfl)
  · exact Go.of (fun _ z => XS.ifnullNo X.here hx rfl (hb hby hd) rfl z) (kn b rfl)
theorem g_ifnonnull (X : Stand p l e R s m args below meth c T locs cells slots) (hx : p.tables.exec = Jvm.exec) (hby : c.code = bc) {i : Int} {v : Value} (hv : v.isRef = true) (hd : decode bc pc = .ok (.ifnonnull i, 3)) (ho : 0 ≤ (pc : Int) + i) (hp : ((pc : Int) + i).toNat = pt) (hf : pc + 3 = pf) (ky : ∀ b, v = .ref b → Go p e below s Q mc ms m T pt Ls rest) (kn : v = .null → Go p e below s Q mc ms m T pf Ls rest) : Go p e below s Q mc ms m T pc Ls (v :: rest) := by
  subst hf
  rcases ref_cases hv with rfl | ⟨b, rfl⟩
  · exact Go.of (fun _ z => XS.ifnonnullNo X.here hx rfl (hb hby hd) rfl z) (kn rfl)
  · exact Go.of (fun _ z => XS.ifnonnullYes X.here hx rfl rfl (hb hby hd) rfl ho hp z) (ky b rfl)
theorem g_ret (X : Stand p l e R s m args below meth c T locs cells slots) (hx : p.tables.exec = Jvm.exec) (hby : c.code = bc) (hlk : meth.locks = false) {t : FieldType} {w : Value} {i : Instr} (hret : meth.sig.returnType = some t) (hn : narrow t w = w) (hi : (i = .ireturn ∧ (t = .int ∨ t = .boolean ∨ t = .byte ∨ t = .char ∨ t = .short) ∧ ∃ z, w = .int z) ∨ (i = .lreturn ∧ t = .long ∧ ∃ z, w = .long z) ∨ (i = .dreturn ∧ t = .double ∧ ∃ z, w = .double z) ∨ (i = .freturn ∧ t = .float ∧ ∃ z, w = .float z) ∨ (i = .areturn ∧ t.isReference = true ∧ w.isRef = true)) (hd : decode bc pc = .ok (i, 1)) (hc : cells ≤ mc) (hs : slots ≤ ms) (hq : Q (some w) T.heap locs) : Go p e below s Q mc ms m T pc Ls (w :: rest) := by
  obtain ⟨fs, hr, hrun, hended, hW, hsame⟩ := X.leave (v := some w) (fun h => by rw [hret] at h; cases h) hlk
  exact ⟨_, _, retOut X hx hret hn hi (hb hby hd) hr, hrun, hended, _, _, rfl, hq, ⟨_, rfl⟩, hW, hsame.mono hc hs⟩
theorem g_retI (X : Stand p l e R s m args below meth c T locs cells slots) (hx : p.tables.exec = Jvm.exec) (hby : c.code = bc) (hlk : meth.locks = false) {z : Int32} (hret : meth.sig.returnType = some .int) (hd : decode bc pc = .ok (.ireturn, 1)) (hc : cells ≤ mc) (hs : slots ≤ ms) (hq : Q (some (.int z)) T.heap locs) : Go p e below s Q mc ms m T pc Ls (.int z :: rest) := g_ret X hx hby hlk hret rfl (Or.inl ⟨rfl, Or.inl rfl, _, rfl⟩) hd hc hs hq
theorem g_retL (X : Stand p l e R s m args below meth c T locs cells slots) (hx : p.tables.exec = Jvm.exec) (hby : c.code = bc) (hlk : meth.locks = false) {z : Int64} (hret : meth.sig.returnType = some .long) (hd : decode bc pc = .ok (.lreturn, 1)) (hc : cells ≤ mc) (hs : slots ≤ ms) (hq : Q (some (.long z)) T.heap locs) : Go p e below s Q mc ms m T pc Ls (.long z :: rest) := g_ret X hx hby hlk hret rfl (Or.inr (Or.inl ⟨rfl, rfl, _, rfl⟩)) hd hc hs hq
theorem g_retZ (X : Stand p l e R s m args below meth c T locs cells slots) (hx : p.tables.exec = Jvm.exec) (hby : c.code = bc) (hlk : meth.locks = false) {z : Int32} (hz : z = 0 ∨ z = 1) (hret : meth.sig.returnType = some .boolean) (hd : decode bc pc = .ok (.ireturn, 1)) (hc : cells ≤ mc) (hs : slots ≤ ms) (hq : Q (some (.int z)) T.heap locs) : Go p e below s Q mc ms m T pc Ls (.int z :: rest) := g_ret X hx hby hlk hret (by rcases hz with rfl | rfl <;> rfl) (Or.inl ⟨rfl, Or.inr (Or.inl rfl), _, rfl⟩) hd hc hs hq
theorem g_retV (X : Stand p l e R s m args below meth c T locs cells slots) (hx : p.tables.exec = Jvm.exec) (hby : c.code = bc) (hlk : meth.locks = false) (hret : meth.sig.returnType = none) (hd : decode bc pc = .ok (.return_, 1)) (hc : cells ≤ mc) (hs : slots ≤ ms) (hq : Q none T.heap locs) : Go p e below s Q mc ms m T pc Ls [] := by
  obtain ⟨fs, hr, hrun, hended, hW, hsame⟩ := X.leave (v := none) (fun _ => rfl) hlk
  exact ⟨_, _, X.returnOut hx hret (hb hby hd) hr, hrun, hended, _, _, rfl, hq, ⟨_, rfl⟩, hW, hsame.mono hc hs⟩
theorem g_ldcI (X : Stand p l e R s m args below meth c T locs cells slots) (hx : p.tables.exec = Jvm.exec) (hby : c.code = bc) (hZ : Z.Warmed39 s.vm) {own : String} (hown : s.vm.findClass own = some m.cls) {n : Nat} {v : Int32} (w : (Jvm.Cond.constant own n v).before a0 Z = true) (hd : decode bc pc = .ok (.ldc n, 2)) (hp : pc + 2 = pc') (k : Go p e below s Q mc ms m T pc' Ls (.int v :: st)) : Go p e below s Q mc ms m T pc Ls st := by
  subst hp; exact Go.of (X.ldcInt hx hown (mvT hZ w) (g := mkF m pc Ls st) rfl (hb hby hd)) k
theorem g_ldcL (X : Stand p l e R s m args below meth c T locs cells slots) (hx : p.tables.exec = Jvm.exec) (hby : c.code = bc) (hZ : Z.Warmed39 s.vm) {own : String} (hown : s.vm.findClass own = some m.cls) {n : Nat} {v : Int64} (w : (Jvm.Cond.constantLong own n v).before a0 Z = true) (hd : decode bc pc = .ok (.ldc2_w n, 3)) (hp : pc + 3 = pc') (k : Go p e below s Q mc ms m T pc' Ls (.long v :: st)) : Go p e below s Q mc ms m T pc Ls st := by
  subst hp; exact Go.of (X.ldc2Long hx hown (mvT hZ w) (g := mkF m pc Ls st) rfl (hb hby hd)) k
theorem g_getF (X : Stand p l e R s m args below meth c T locs cells slots) (hx : p.tables.exec = Jvm.exec) (hby : c.code = bc) (hZ : Z.Warmed39 s.vm) {own : String} (hown : s.vm.findClass own = some m.cls) (eT : T.heap = h) {i : Nat} {O n d : String} {a : Addr} {v : Value} (w : (Jvm.Cond.fieldLink own i O n d).before a0 Z = true) (F : Fld Z h a O n d v) (hd : decode bc pc = .ok (.getfield i, 3)) (hp : pc + 3 = pc') (k : ∀ T', Stand p l e R s m args below meth c T' locs cells slots → T'.heap = h → Go p e below s Q mc ms m T' pc' Ls (v :: rest)) : Go p e below s Q mc ms m T pc Ls (.ref a :: rest) := by
  subst hp
  obtain ⟨T', X', e', st'⟩ := getF X hx hZ hown (host := "") (Or.inl w) Via.refl eT F (g := mkF m pc Ls (.ref a :: rest)) rfl rfl (hb hby hd)
  exact Go.of st' (k T' X' e')
theorem g_putF (X : Stand p l e R s m args below meth c T locs cells slots) (hx : p.tables.exec = Jvm.exec) (hby : c.code = bc) (hZ : Z.Warmed39 s.vm) {own : String} (hown : s.vm.findClass own = some m.cls) (eT : T.heap = h) {i kk : Nat} {O n d C : String} {a : Addr} {v old : Value} {ty : FieldType} (w : (Jvm.Cond.fieldLink own i O n d).before a0 Z = true) (F : Fld Z h a O n d old) (E : Exa Z h a C) (L : (Jvm.Cond.lays C O n d).before a0 Z = true ∨ ((Jvm.Cond.laysFinal C O n d).before a0 Z = true ∧ own = O ∧ meth.name = "<init>")) (wi : (Jvm.Cond.instantiable C kk).before a0 Z = true) (hty : parseFieldDescriptor d = some ty) (hn : narrow ty v = v) (hf : fits ty v = true) (hd : decode bc pc = .ok (.putfield i, 3)) (hp : pc + 3 = pc') (k : ∀ T' h', Stand p l e R s m args below meth c T' (locs ++ [⟨a, Jvm.RoadKit.slotOf Z O n d⟩]) cells slots → T'.heap = h' → Wr h h' a (Jvm.RoadKit.slotOf Z O n d) v → Go p e below s Q mc ms m T' pc' Ls rest) : Go p e below s Q mc ms m T pc Ls (v :: .ref a :: rest) := by
  subst hp
  obtain ⟨T', h', X', e', W', st'⟩ := putF X hx hZ hown (host := "") (Or.inl w) Via.refl eT F E L wi hty hn hf (g := mkF m pc Ls (v :: .ref a :: rest)) rfl rfl (hb hby hd)
  exact Go.of st' (k T' h' X' e' W')
theorem g_new (X : Stand p l e R s m args below meth c T locs cells slots) (hx : p.tables.exec = Jvm.exec) (hby : c.code = bc) (hZ : Z.Warmed39 s.vm) {own : String} (hown : s.vm.findClass own = some m.cls) (eT : T.heap = h) {i n : Nat} {C : String} (w : (Jvm.Cond.classLink own i C).before a0 Z = true) (wi : (Jvm.Cond.instantiable C n).before a0 Z = true) (wz : (Jvm.Cond.initialized C).before a0 Z = true) (hd : decode bc pc = .ok (.new i, 3)) (hp : pc + 3 = pc') (hc : cells + 1 ≤ R.cells) (hl : slots + n ≤ R.slots) (k : ∀ T' h' b, b = h.size → Stand p l e R s m args below meth c T' locs (cells + 1) (slots + n) → T'.heap = h' → Ext h h' → Exa Z h' b C → (∀ {O nm d : String} {ty : FieldType}, Laid Z a0 C O nm d → parseFieldDescriptor d = some ty → Fld Z h' b O nm d (defaultValue ty)) → Go p e below s Q mc ms m T' pc' Ls (.ref b :: st)) : Go p e below s Q mc ms m T pc Ls st := by
  subst hp
  obtain ⟨T', h', X', e', E', A', D', -, st'⟩ := newO X hx hZ hown w wi wz eT (g := mkF m pc Ls st) rfl (hb hby hd) hc hl
  exact Go.of st' (k T' h' _ rfl X' e' E' A' D')
theorem g_initO (X : Stand p l e R s m args below meth c T locs cells slots) (hx : p.tables.exec = Jvm.exec) (hby : c.code = bc) (hZ : Z.Warmed39 s.vm) {own : String} (hown : s.vm.findClass own = some m.cls) (eT : T.heap = h) {i ML : Nat} {a : Addr} (w1 : (Jvm.Cond.methodLink own i Lib.objectInit).before a0 Z = true) (w2 : (Jvm.Cond.instanceMethod Lib.objectInit).before a0 Z = true) (w3 : (Jvm.Cond.code Lib.objectInit ⟨#[0xb1]⟩ 1 none).before a0 Z = true) (hml : c.maxLocals = ML) (hls : Ls.size = ML) (hd : decode bc pc = .ok (.invokespecial i, 3)) (hp : pc + 3 = pc') (hf : 1 ≤ R.frames) (hl : (rest.map fun v => v.category).sum + 12 ≤ R.locals) (k : ∀ T', Stand p l e R s m args below meth c T' locs cells slots → T'.heap = h → Go p e below s Q mc ms m T' pc' Ls rest) : Go p e below s Q mc ms m T pc Ls (.ref a :: rest) := by
  subst hp
  obtain ⟨T', X', e', st'⟩ := initO X hx hZ hown w1 w2 w3 eT (g := mkF m pc Ls (.ref a :: rest)) rfl (by rw [hml]; exact hls) rfl (hb hby hd) hf (W := (rest.map fun v => v.category).sum) (by show 2 * 0 + _ ≤ _; omega) hl
  exact Go.of st' (k T' X' e')
theorem g_iastore (X : Stand p l e R s m args below meth c T locs cells slots) (hx : p.tables.exec = Jvm.exec) (hby : c.code = bc) (hZ : Z.Warmed39 s.vm) (eT : T.heap = h) {a : Addr} {cl : Cell} (A : Arr Z h a cl .int) {j : Int32} {x : Int32} (hj : ¬ (j < 0 ∨ cl.slots.size ≤ j.toNatClampNeg)) (hd : decode bc pc = .ok (.iastore, 1)) (hp : pc + 1 = pc') (k : ∀ T' h', Stand p l e R s m args below meth c T' (locs ++ [⟨a, j.toNatClampNeg⟩]) cells slots → T'.heap = h' → Wr h h' a j.toNatClampNeg (.int x) → Go p e below s Q mc ms m T' pc' Ls rest) : Go p e below s Q mc ms m T pc Ls (.int x :: .int j :: .ref a :: rest) := by
  subst hp
  obtain ⟨T', h', X', e', W', st'⟩ := stI X hx hZ eT A (j := j) hj (g := mkF m pc Ls (.int x :: .int j :: .ref a :: rest)) rfl rfl (hb hby hd)
  exact Go.of st' (k T' h' X' e' W')
theorem g_iaload (X : Stand p l e R s m args below meth c T locs cells slots) (hx : p.tables.exec = Jvm.exec) (hby : c.code = bc) (hZ : Z.Warmed39 s.vm) (eT : T.heap = h) {a : Addr} {cl : Cell} (A : Arr Z h a cl .int) {j : Int32} {v : Value} (hj : ¬ (j < 0 ∨ cl.slots.size ≤ j.toNatClampNeg)) (hv : cl.slots[j.toNatClampNeg]? = some v) (hd : decode bc pc = .ok (.iaload, 1)) (hp : pc + 1 = pc') (k : Go p e below s Q mc ms m T pc' Ls (v :: rest)) : Go p e below s Q mc ms m T pc Ls (.int j :: .ref a :: rest) := by
  subst hp
  exact Go.of (fun _ q => X.iaload hx (j := j) (v := v) (by rw [eT]; exact A.1) (State.isArrayOf_alike hZ.alike A.2.1) A.2.2 hj hv (g := mkF m pc Ls (.int j :: .ref a :: rest)) rfl rfl (hb hby hd) _ q) k
theorem g_aaload (X : Stand p l e R s m args below meth c T locs cells slots) (hx : p.tables.exec = Jvm.exec) (hby : c.code = bc) (hZ : Z.Warmed39 s.vm) (eT : T.heap = h) {a : Addr} {cl : Cell} {ty : FieldType} (A : Arr Z h a cl ty) (hty : ty.isReference = true) {j : Int32} {v : Value} (hj : ¬ (j < 0 ∨ cl.slots.size ≤ j.toNatClampNeg)) (hv : cl.slots[j.toNatClampNeg]? = some v) (hd : decode bc pc = .ok (.aaload, 1)) (hp : pc + 1 = pc') (k : Go p e below s Q mc ms m T pc' Ls (v :: rest)) : Go p e below s Q mc ms m T pc Ls (.int j :: .ref a :: rest) := by
  subst hp
  exact Go.of (fun _ q => X.aaload hx (j := j) (v := v) (by rw [eT]; exact A.1) (State.isArrayOf_alike hZ.alike A.2.1) hty A.2.2 hj hv (g := mkF m pc Ls (.int j :: .ref a :: rest)) rfl rfl (hb hby hd) _ q) k
theorem g_aastore (X : Stand p l e R s m args below meth c T locs cells slots) (hx : p.tables.exec = Jvm.exec) (hby : c.code = bc) (hZ : Z.Warmed39 s.vm) (eT : T.heap = h) {a : Addr} {cl : Cell} {ty : FieldType} (A : Arr Z h a cl ty) {j : Int32} {v : Value} (hj : ¬ (j < 0 ∨ cl.slots.size ≤ j.toNatClampNeg)) (hty : ty.isReference = true) (F : Sto Z h a v) (hd : decode bc pc = .ok (.aastore, 1)) (hp : pc + 1 = pc') (k : ∀ T' h', Stand p l e R s m args below meth c T' (locs ++ [⟨a, j.toNatClampNeg⟩]) cells slots → T'.heap = h' → Wr h h' a j.toNatClampNeg v → Go p e below s Q mc ms m T' pc' Ls rest) : Go p e below s Q mc ms m T pc Ls (v :: .int j :: .ref a :: rest) := by
  subst hp
  obtain ⟨T', h', X', e', W', st'⟩ := stR X hx hZ eT A (j := j) hj hty F (g := mkF m pc Ls (v :: .int j :: .ref a :: rest)) rfl rfl (hb hby hd)
  exact Go.of st' (k T' h' X' e' W')
theorem g_arraylength (X : Stand p l e R s m args below meth c T locs cells slots) (hx : p.tables.exec = Jvm.exec) (hby : c.code = bc) (hZ : Z.Warmed39 s.vm) (eT : T.heap = h) {a : Addr} {cl : Cell} {ty : FieldType} (A : Arr Z h a cl ty) {n : Int32} (S : cl.slots.size = n.toNatClampNeg) (hn : ¬ n < 0) (hd : decode bc pc = .ok (.arraylength, 1)) (hp : pc + 1 = pc') (k : Go p e below s Q mc ms m T pc' Ls (.int n :: rest)) : Go p e below s Q mc ms m T pc Ls (.ref a :: rest) := by
  subst hp
  exact Go.of (fun _ q => X.arraylength hx (by rw [eT]; exact A.1) (State.isArrayOf_alike hZ.alike A.2.1) (g := mkF m pc Ls (.ref a :: rest)) rfl rfl (hb hby hd) _ (by rw [len_of S hn]; exact q)) k
/-- in heap h the array at a (of kind ty) has n places; place j holds f j -/
def Ara (Z : State) (h : Heap) (a : Addr) (ty : FieldType) (n : Nat) (f : Nat → Value) : Prop := ∃ cl : Cell, Arr Z h a cl ty ∧ cl.slots.size = n ∧ n < 2147483648 ∧ ∀ j, j < n → cl.slots[j]? = some (f j)
def own_up (f : Nat → Value) (k : Nat) (v : Value) : Nat → Value := fun j => if j = k then v else f j
theorem own_up_self (f : Nat → Value) (k : Nat) (v : Value) : own_up f k v k = v := if_pos rfl
theorem own_up_ne (f : Nat → Value) {k j : Nat} (v : Value) (q : j ≠ k) : own_up f k v j = f j := if_neg q
theorem Ara.lt {h : Heap} {a : Addr} {ty : FieldType} {n : Nat} {f : Nat → Value} (V : Ara Z h a ty n f) : a < h.size := by obtain ⟨_, A, _⟩ := V; exact A.lt
theorem Ara.ext {h h' : Heap} {a : Addr} {ty : FieldType} {n : Nat} {f : Nat → Value} (V : Ara Z h a ty n f) (E : Ext h h') : Ara Z h' a ty n f := by obtain ⟨c, A, r⟩ := V; exact ⟨c, A.ext E, r⟩
theorem Ara.other {h h' : Heap} {a b : Addr} {ty : FieldType} {n : Nat} {f : Nat → Value} {sl : Nat} {v : Value} (V : Ara Z h a ty n f) (W : Wr h h' b sl v) (q : a ≠ b) : Ara Z h' a ty n f := by obtain ⟨c, A, r⟩ := V; exact ⟨c, A.other W q, r⟩
theorem Ara.set {h h' : Heap} {a : Addr} {ty : FieldType} {n k : Nat} {f : Nat → Value} {v : Value} (V : Ara Z h a ty n f) (W : Wr h h' a k v) : Ara Z h' a ty n (own_up f k v) := by
  obtain ⟨c, A, hs, hn, hf⟩ := V
  refine ⟨_, A.same W, by rw [sz_set]; exact hs, hn, fun j hj => ?_⟩
  by_cases q : k = j
  · subst q; rw [own_up_self]; simp [Cell.setSlot, hs, hj]
  · rw [own_up_ne f v (Ne.symm q), ← hf j hj]; exact Array.getElem?_setIfInBounds_ne q
theorem Ara.eq {h : Heap} {a : Addr} {ty : FieldType} {n : Nat} {f f' : Nat → Value} (V : Ara Z h a ty n f) (q : ∀ j, j < n → f j = f' j) : Ara Z h a ty n f' := by obtain ⟨c, A, hs, hn, hf⟩ := V; exact ⟨c, A, hs, hn, fun j hj => by rw [← q j hj]; exact hf j hj⟩
def own_ui (g : Nat → Int32) (k : Nat) (x : Int32) : Nat → Int32 := fun j => if j = k then x else g j
def own_ul (g : Nat → Int64) (k : Nat) (x : Int64) : Nat → Int64 := fun j => if j = k then x else g j
theorem Ara.setI {h h' : Heap} {a : Addr} {ty : FieldType} {n k : Nat} {g : Nat → Int32} {x : Int32} (V : Ara Z h a ty n (fun j => .int (g j))) (W : Wr h h' a k (.int x)) : Ara Z h' a ty n (fun j => .int (own_ui g k x j)) := (V.set W).eq fun j _ => by
  by_cases q : j = k <;> simp [own_up, own_ui, q]
theorem own_in {cl : Cell} {j : Int32} {n : Nat} (hs : cl.slots.size = n) (h0 : 0 ≤ j.toInt) (h1 : j.toInt < n) : ¬ (j < 0 ∨ cl.slots.size ≤ j.toNatClampNeg) := by
  rw [Int32.lt_iff_toInt_lt, hs]
  show ¬ (j.toInt < 0 ∨ n ≤ j.toInt.toNat)
  omega
theorem a_iastore (X : Stand p l e R s m args below meth c T locs cells slots) (hx : p.tables.exec = Jvm.exec) (hby : c.code = bc) (hZ : Z.Warmed39 s.vm) (eT : T.heap = h) {a : Addr} {n : Nat} {f : Nat → Value} (A : Ara Z h a .int n f) {j : Int32} {x : Int32} (h0 : 0 ≤ j.toInt) (h1 : j.toInt < n) (hd : decode bc pc = .ok (.iastore, 1)) (hp : pc + 1 = pc') (k : ∀ T' h', Stand p l e R s m args below meth c T' (locs ++ [⟨a, j.toInt.toNat⟩]) cells slots → T'.heap = h' → Wr h h' a j.toInt.toNat (.int x) → Go p e below s Q mc ms m T' pc' Ls rest) : Go p e below s Q mc ms m T pc Ls (.int x :: .int j :: .ref a :: rest) := by
  obtain ⟨cl, A, hs, hn, hf⟩ := A
  exact g_iastore X hx hby hZ eT A (own_in hs h0 h1) hd hp k
theorem a_iaload (X : Stand p l e R s m args below meth c T locs cells slots) (hx : p.tables.exec = Jvm.exec) (hby : c.code = bc) (hZ : Z.Warmed39 s.vm) (eT : T.heap = h) {a : Addr} {n : Nat} {f : Nat → Value} (A : Ara Z h a .int n f) {j : Int32} {v : Value} (h0 : 0 ≤ j.toInt) (h1 : j.toInt < n) (hv : f j.toInt.toNat = v) (hd : decode bc pc = .ok (.iaload, 1)) (hp : pc + 1 = pc') (k : Go p e below s Q mc ms m T pc' Ls (v :: rest)) : Go p e below s Q mc ms m T pc Ls (.int j :: .ref a :: rest) := by
  obtain ⟨cl, A, hs, hn, hf⟩ := A
  exact g_iaload X hx hby hZ eT A (own_in hs h0 h1) (by show cl.slots[j.toInt.toNat]? = some v; rw [hf _ (by omega), hv]) hd hp k
theorem a_aaload (X : Stand p l e R s m args below meth c T locs cells slots) (hx : p.tables.exec = Jvm.exec) (hby : c.code = bc) (hZ : Z.Warmed39 s.vm) (eT : T.heap = h) {a : Addr} {n : Nat} {f : Nat → Value} {ty : FieldType} (A : Ara Z h a ty n f) (hty : ty.isReference = true) {j : Int32} {v : Value} (h0 : 0 ≤ j.toInt) (h1 : j.toInt < n) (hv : f j.toInt.toNat = v) (hd : decode bc pc = .ok (.aaload, 1)) (hp : pc + 1 = pc') (k : Go p e below s Q mc ms m T pc' Ls (v :: rest)) : Go p e below s Q mc ms m T pc Ls (.int j :: .ref a :: rest) := by
  obtain ⟨cl, A, hs, hn, hf⟩ := A
  exact g_aaload X hx hby hZ eT A hty (own_in hs h0 h1) (by show cl.slots[j.toInt.toNat]? = some v; rw [hf _ (by omega), hv]) hd hp k
theorem a_arraylength (X : Stand p l e R s m args below meth c T locs cells slots) (hx : p.tables.exec = Jvm.exec) (hby : c.code = bc) (hZ : Z.Warmed39 s.vm) (eT : T.heap = h) {a : Addr} {n : Nat} {f : Nat → Value} {ty : FieldType} (A : Ara Z h a ty n f) {N : Int32} (hN : N.toInt = n) (hd : decode bc pc = .ok (.arraylength, 1)) (hp : pc + 1 = pc') (k : Go p e below s Q mc ms m T pc' Ls (.int N :: rest)) : Go p e below s Q mc ms m T pc Ls (.ref a :: rest) := by
  obtain ⟨cl, A, hs, hn, hf⟩ := A
  exact g_arraylength X hx hby hZ eT A (n := N) (by rw [hs]; show n = N.toInt.toNat; omega) (by rw [Int32.lt_iff_toInt_lt]; show ¬ N.toInt < 0; omega) hd hp k
/-- the array at a takes arrays of ints -/
def Ovi (Z : State) (h : Heap) (a : Addr) : Prop := ∃ cl : Cell, h[a]? = some cl ∧ OvrA Z cl.cls .int "[I"
theorem Ovi.ext {h h' : Heap} {a : Addr} (V : Ovi Z h a) (E : Ext h h') : Ovi Z h' a := by obtain ⟨c, q, r⟩ := V; exact ⟨c, E.2 _ _ q, r⟩
theorem Ovi.wr {h h' : Heap} {a b : Addr} {sl : Nat} {v : Value} (V : Ovi Z h a) (W : Wr h h' b sl v) : Ovi Z h' a := by obtain ⟨c, q, r⟩ := V; obtain ⟨c', q', e, -⟩ := wr_at W q; exact ⟨c', q', e ▸ r⟩
theorem Ovi.sto {h : Heap} {a b : Addr} {n : Nat} {f : Nat → Value} (V : Ovi Z h a) (A : Ara Z h a (.array .int) n f) (E : Exa Z h b "[I") : Sto Z h a (.ref b) := by
  obtain ⟨c, q, r⟩ := V
  obtain ⟨c', A, -⟩ := A
  cases q.symm.trans A.1
  exact Sto.ofVA A rfl r (Ins.self E)
theorem g_newRA (X : Stand p l e R s m args below meth c T locs cells slots) (hx : p.tables.exec = Jvm.exec) (hby : c.code = bc) (hZ : Z.Warmed39 s.vm) {own : String} (hown : s.vm.findClass own = some m.cls) (eT : T.heap = h) {i : Nat} {n : Int32} {N : Nat} (w1 : (Jvm.Cond.classLink own i "[I").before a0 Z = true) (w2 : (Jvm.Cond.arrayOver (.array .int)).before a0 Z = true) (hd : decode bc pc = .ok (.anewarray i, 3)) (hp : pc + 3 = pc') (hn : n.toInt = N) {cap : Nat} (hcap : N ≤ cap) (hbig : cap * 8 ≤ 536870912) (hc : cells + 1 ≤ R.cells) (hl : slots + cap ≤ R.slots) (k : ∀ T' h' b, b = h.size → Stand p l e R s m args below meth c T' locs (cells + 1) (slots + cap) → T'.heap = h' → Ext h h' → Ara Z h' b (.array .int) N (fun _ => .null) → Ovi Z h' b → Go p e below s Q mc ms m T' pc' Ls (.ref b :: rest)) : Go p e below s Q mc ms m T pc Ls (.int n :: rest) := by
  subst hp
  have h1 : n.toNatClampNeg = N := by show n.toInt.toNat = N; omega
  have h2 : ¬ n < 0 := by rw [Int32.lt_iff_toInt_lt]; show ¬ n.toInt < 0; omega
  have h3 := rng32 n
  obtain ⟨T', h', cA, X', e', E', A', -, O', st'⟩ := newRA X hx hZ hown (ty := .int) rfl w1 w2 eT (g := mkF m pc Ls (.int n :: rest)) rfl (hb hby hd) rfl h2 (cap := cap) (by omega) hbig hc hl rfl
  refine Go.of st' (k T' h' _ rfl X' e' E' ⟨_, A', by rw [sz_new, h1], by omega, fun j hj => ?_⟩ ⟨_, A'.1, O'⟩)
  simp [newA, h1, hj, defaultValue]
theorem g_newAE (X : Stand p l e R s m args below meth c T locs cells slots) (hx : p.tables.exec = Jvm.exec) (hby : c.code = bc) (hZ : Z.Warmed39 s.vm) (eT : T.heap = h) {n : Int32} {N : Nat} (w : (Jvm.Cond.arrayClass .int).before a0 Z = true) (hd : decode bc pc = .ok (.newarray .int, 2)) (hp : pc + 2 = pc') (hn : n.toInt = N) {cap : Nat} (hcap : N ≤ cap) (hbig : cap * 8 ≤ 536870912) (hc : cells + 1 ≤ R.cells) (hl : slots + cap ≤ R.slots) (k : ∀ T' h' b, b = h.size → Stand p l e R s m args below meth c T' locs (cells + 1) (slots + cap) → T'.heap = h' → Ext h h' → Ara Z h' b .int N (fun _ => .int 0) → Exa Z h' b "[I" → Go p e below s Q mc ms m T' pc' Ls (.ref b :: rest)) : Go p e below s Q mc ms m T pc Ls (.int n :: rest) := by
  subst hp
  have h1 : n.toNatClampNeg = N := by show n.toInt.toNat = N; omega
  have h2 : ¬ n < 0 := by rw [Int32.lt_iff_toInt_lt]; show ¬ n.toInt < 0; omega
  have h3 := rng32 n
  obtain ⟨T', h', cA, X', e', E', A', Ex', st'⟩ := newPE X hx hZ (aty := .int) w eT (g := mkF m pc Ls (.int n :: rest)) rfl (hb hby hd) rfl h2 (cap := cap) (by omega) hbig hc hl rfl
  refine Go.of st' (k T' h' _ rfl X' e' E' ⟨_, A', by rw [sz_new, h1], by omega, fun j hj => ?_⟩ Ex')
  simp [newA, h1, hj, defaultValue, newarray.typeOf]
theorem a_aastore (X : Stand p l e R s m args below meth c T locs cells slots) (hx : p.tables.exec = Jvm.exec) (hby : c.code = bc) (hZ : Z.Warmed39 s.vm) (eT : T.heap = h) {a : Addr} {n : Nat} {f : Nat → Value} {ty : FieldType} (A : Ara Z h a ty n f) (hty : ty.isReference = true) {j : Int32} {v : Value} (F : Sto Z h a v) (h0 : 0 ≤ j.toInt) (h1 : j.toInt < n) (hd : decode bc pc = .ok (.aastore, 1)) (hp : pc + 1 = pc') (k : ∀ T' h', Stand p l e R s m args below meth c T' (locs ++ [⟨a, j.toInt.toNat⟩]) cells slots → T'.heap = h' → Wr h h' a j.toInt.toNat v → Go p e below s Q mc ms m T' pc' Ls rest) : Go p e below s Q mc ms m T pc Ls (v :: .int j :: .ref a :: rest) := by
  obtain ⟨cl, A, hs, hn, hf⟩ := A
  exact g_aastore X hx hby hZ eT A (own_in hs h0 h1) hty F hd hp k
theorem g_static (X : Stand p l e R s m args below meth c T locs cells slots) (hx : p.tables.exec = Jvm.exec) (hby : c.code = bc) (hZ : Z.Warmed39 s.vm) {own : String} (hown : s.vm.findClass own = some m.cls) {i ML : Nat} {y : MethodName} {bytes : ByteArray} {maxL : Nat} {ret : Option FieldType} {rm : Room} {as' : Array Value} {QC : Option Value → Heap → List Loc → Prop} (hml : c.maxLocals = ML) (hls : Ls.size = ML) (w1 : (Jvm.Cond.methodLink own i y).before a0 Z = true) (w2 : (Jvm.Cond.static y).before a0 Z = true) (w3 : (Jvm.Cond.initialized y.cls).before a0 Z = true) (w4 : (Jvm.Cond.code y bytes maxL ret).before a0 Z = true) (hy : y.cls ≠ "java/lang/invoke/MethodHandle" ∧ y.cls ≠ "java/lang/invoke/VarHandle") (eT : T.heap = h) (M : Ct l Z y bytes maxL ret rm as' h QC) {ps : List FieldType} {r : Option FieldType} (pd : parseMethodDescriptor y.desc = some ⟨ps, r⟩) {argsL : List Value} (hl : argsL.length = ps.length) (has : argsL.toArray = as') (hst : st = argsL.reverse ++ rest) (hd : decode bc pc = .ok (.invokestatic i, 3)) (hp : pc + 3 = pc') (hf : rm.frames + 1 ≤ R.frames) (hlo : (rest.map fun v => v.category).sum + (maxL + 11) + rm.locals ≤ R.locals) (hc : cells + rm.cells ≤ R.cells) (hs : slots + rm.slots ≤ R.slots)
    (k : ∀ (T' : State) (v : Option Value) (L : List Loc), Stand p l e R s m args below meth c T' (locs ++ L) (cells + rm.cells) (slots + rm.slots) → QC v T'.heap L → Go p e below s Q mc ms m T' pc' Ls (v.toList ++ rest)) : Go p e below s Q mc ms m T pc Ls st := by
  subst hp has hst
  obtain ⟨v, vm₁, ⟨U, L', c', s'⟩, -, X', ⟨L, hQ, l1, l2, l3⟩, st⟩ := Jvm.LawKit.callS X hx (y := y) hown (mvT hZ w1) (mvT hZ w2) (mvT hZ w3) (mvT hZ w4) hy (backOf (W := (rest.map fun v => v.category).sum) M hZ w4 w3 hf hlo) (g := mkF m pc Ls (argsL.reverse ++ rest)) rfl (by rw [hml]; exact hls) (argsL := argsL) (rest := rest) (lenOf pd hl) rfl (by show 2 * 0 + _ ≤ _; omega) (hb hby hd) (fun _ _ => ⟨rfl, eT, hc, hs⟩)
  dsimp only at X' l1 l2 l3 st hQ
  subst l1 l2 l3
  exact Go.of st (k _ _ _ X' hQ)
theorem g_special (X : Stand p l e R s m args below meth c T locs cells slots) (hx : p.tables.exec = Jvm.exec) (hby : c.code = bc) (hZ : Z.Warmed39 s.vm) {own : String} (hown : s.vm.findClass own = some m.cls) {i ML : Nat} {y : MethodName} {bytes : ByteArray} {maxL : Nat} {ret : Option FieldType} {rm : Room} {as' : Array Value} {QC : Option Value → Heap → List Loc → Prop} (hy1 : y.name = "<init>") (hml : c.maxLocals = ML) (hls : Ls.size = ML) (w1 : (Jvm.Cond.methodLink own i y).before a0 Z = true) (w2 : (Jvm.Cond.instanceMethod y).before a0 Z = true) (w3 : (Jvm.Cond.initialized y.cls).before a0 Z = true) (hrt : ret = none) (w4 : (Jvm.Cond.code y bytes maxL ret).before a0 Z = true) (hy : y.cls ≠ "java/lang/invoke/MethodHandle" ∧ y.cls ≠ "java/lang/invoke/VarHandle") (eT : T.heap = h) (M : Ct l Z y bytes maxL ret rm as' h QC) {ps : List FieldType} {r : Option FieldType} (pd : parseMethodDescriptor y.desc = some ⟨ps, r⟩) {a : Addr} {argsL : List Value} (hl : argsL.length = ps.length) (has : (.ref a :: argsL).toArray = as') (hst : st = argsL.reverse ++ .ref a :: rest) (hd : decode bc pc = .ok (.invokespecial i, 3)) (hp : pc + 3 = pc') (hf : rm.frames + 1 ≤ R.frames) (hlo : (rest.map fun v => v.category).sum + (maxL + 11) + rm.locals ≤ R.locals) (hc : cells + rm.cells ≤ R.cells) (hs : slots + rm.slots ≤ R.slots)
    (k : ∀ (T' : State) (v : Option Value) (L : List Loc), Stand p l e R s m args below meth c T' (locs ++ L) (cells + rm.cells) (slots + rm.slots) → QC v T'.heap L → Go p e below s Q mc ms m T' pc' Ls (v.toList ++ rest)) : Go p e below s Q mc ms m T pc Ls st := by
  subst hp has hst hrt
  obtain ⟨v, vm₁, ⟨U, L', c', s'⟩, -, X', ⟨L, hQ, l1, l2, l3⟩, st⟩ := X.specialBack hx (y := y) hy1 hown (mvT hZ w1) (mvT hZ w2) (mvT hZ w4) hy (backOf (W := (rest.map fun v => v.category).sum) M hZ w4 w3 hf hlo) (g := mkF m pc Ls (argsL.reverse ++ .ref a :: rest)) rfl (by rw [hml]; exact hls) (Steps.refl _) (a := a) (argsL := argsL) (rest := rest) (lenOf pd hl) rfl (by show 2 * 0 + _ ≤ _; omega) (hb hby hd) (fun _ _ => ⟨rfl, eT, hc, hs⟩)
  dsimp only at X' l1 l2 l3 st hQ
  subst l1 l2 l3
  exact Go.of (fun _ q => st.trans q) (k _ _ _ X' hQ)
theorem g_virtual (X : Stand p l e R s m args below meth c T locs cells slots) (hx : p.tables.exec = Jvm.exec) (hby : c.code = bc) (hZ : Z.Warmed39 s.vm) {own : String} (hown : s.vm.findClass own = some m.cls) {i ML : Nat} {y : MethodName} {bytes : ByteArray} {maxL : Nat} {ret : Option FieldType} {rm : Room} {as' : Array Value} {QC : Option Value → Heap → List Loc → Prop} (hml : c.maxLocals = ML) (hls : Ls.size = ML) {C : String} (w1 : (Jvm.Cond.methodLink own i y).before a0 Z = true) (w2 : (Jvm.Cond.declares y).before a0 Z = true) (w5 : (Jvm.Cond.selects C y y).before a0 Z = true) (w6 : (Jvm.Cond.instanceMethod y).before a0 Z = true) (w3 : (Jvm.Cond.initialized y.cls).before a0 Z = true) (w4 : (Jvm.Cond.code y bytes maxL ret).before a0 Z = true) (hy : y.cls ≠ "java/lang/invoke/MethodHandle" ∧ y.cls ≠ "java/lang/invoke/VarHandle") (eT : T.heap = h) (M : Ct l Z y bytes maxL ret rm as' h QC) {ps : List FieldType} {r : Option FieldType} (pd : parseMethodDescriptor y.desc = some ⟨ps, r⟩) {a : Addr} (E : Exa Z h a C) {argsL : List Value} (hl : argsL.length = ps.length) (has : (.ref a :: argsL).toArray = as') (hst : st = argsL.reverse ++ .ref a :: rest) (hd : decode bc pc = .ok (.invokevirtual i, 3)) (hp : pc + 3 = pc') (hf : rm.frames + 1 ≤ R.frames) (hlo : (rest.map fun v => v.category).sum + (maxL + 11) + rm.locals ≤ R.locals) (hc : cells + rm.cells ≤ R.cells) (hs : slots + rm.slots ≤ R.slots)
    (k : ∀ (T' : State) (v : Option Value) (L : List Loc), Stand p l e R s m args below meth c T' (locs ++ L) (cells + rm.cells) (slots + rm.slots) → QC v T'.heap L → Go p e below s Q mc ms m T' pc' Ls (v.toList ++ rest)) : Go p e below s Q mc ms m T pc Ls st := by
  subst hp has hst
  obtain ⟨cB, kB, qa, qb, qc⟩ := isOf hZ eT E
  obtain ⟨v, vm₁, ⟨U, L', c', s'⟩, -, X', ⟨L, hQ, l1, l2, l3⟩, st⟩ := X.virtualBack hx (y := y) (z := y) hown (mvT hZ w1) (mvT hZ w2) (notFace_of_selects (args := #[]) (mvT hZ w5)) (mvT hZ w5) (mvT hZ w6) hy (backOf (W := (rest.map fun v => v.category).sum) M hZ w4 w3 hf hlo) qa qc (g := mkF m pc Ls (argsL.reverse ++ .ref a :: rest)) rfl (by rw [hml]; exact hls) (Steps.refl _) (argsL := argsL) (rest := rest) (lenOf pd hl) rfl (by show 2 * 0 + _ ≤ _; omega) (hb hby hd) (fun _ _ => ⟨rfl, eT, hc, hs⟩)
  dsimp only at X' l1 l2 l3 st hQ
  subst l1 l2 l3
  exact Go.of (fun _ q => st.trans q) (k _ _ _ X' hQ)
end OwnKit
section OwnLib
/-- b is 1 where P holds, 0 where it doesn't -/
def own_bool (b : Int32) (P : Prop) : Prop := (b = 1 ∧ P) ∨ (b = 0 ∧ ¬ P)
theorem own_bool_01 {b : Int32} {P : Prop} (h : own_bool b P) : b = 0 ∨ b = 1 := h.elim (fun q => Or.inr q.1) (fun q => Or.inl q.1)
theorem own_bool_iff {b : Int32} {P : Prop} (h : own_bool b P) : b = 1 ↔ P := h.elim (fun q => ⟨fun _ => q.2, fun _ => q.1⟩) (fun q => ⟨fun z => absurd (q.1.symm.trans z) (by decide), fun z => absurd z q.2⟩)
theorem own_bool_zero {b : Int32} {P : Prop} (h : own_bool b P) : b = 0 ↔ ¬ P := h.elim (fun q => ⟨fun z => absurd (q.1.symm.trans z) (by decide), fun z => absurd q.2 z⟩) (fun q => ⟨fun _ => q.2, fun _ => q.1⟩)
theorem own_bool_eq {a b : Int32} {P P' : Prop} (h : own_bool a P) (h' : own_bool b P') (i : P ↔ P') : a = b := by
  rcases h with ⟨rfl, q⟩ | ⟨rfl, q⟩ <;> rcases h' with ⟨rfl, q'⟩ | ⟨rfl, q'⟩ <;> first | rfl | exact absurd (i.mp q) q' | exact absurd (i.mpr q') q
theorem own_inc (i : Int32) (h : i.toInt < 2147483647) : (i + 1).toInt = i.toInt + 1 := by
  have a := c_iadd i 1
  have e : (1 : Int32).toInt = 1 := rfl
  rw [e] at a
  have b := rng32 i
  have b' := rng32 (i + 1)
  omega
theorem own_dec (i : Int32) (h : -2147483648 < i.toInt) : (i - 1).toInt = i.toInt - 1 := by
  have a := c_isub i 1
  have e : (1 : Int32).toInt = 1 := rfl
  rw [e] at a
  have b := rng32 i
  have b' := rng32 (i - 1)
  omega
theorem own_add (x y : Int32) (h1 : -2147483648 ≤ x.toInt + y.toInt) (h2 : x.toInt + y.toInt < 2147483648) : (x + y).toInt = x.toInt + y.toInt := by
  have a := c_iadd x y
  have b := rng32 (x + y)
  omega
theorem own_sub (x y : Int32) (h1 : -2147483648 ≤ x.toInt - y.toInt) (h2 : x.toInt - y.toInt < 2147483648) : (x - y).toInt = x.toInt - y.toInt := by
  have a := c_isub x y
  have b := rng32 (x - y)
  omega
/-- (u & 0x7fffffff) % n lies from 0 up to n - 1 -/
theorem own_modr (u n : Int32) (hn : 0 < n.toInt) : 0 ≤ ((u &&& 2147483647) % n).toInt ∧ ((u &&& 2147483647) % n).toInt < n.toInt := by
  have a1 := c_mask u 2147483647 31 (by decide) (by decide)
  have a2 := (c_iremV (u &&& 2147483647) n).1 (by omega) hn
  omega
def QI (h0 : Heap) (P : Int32 → Prop) : Option Value → Heap → List Loc → Prop := fun v h L => (∃ r, v = some (.int r) ∧ P r) ∧ h = h0 ∧ L = []
def QL (h0 : Heap) (P : Int64 → Prop) : Option Value → Heap → List Loc → Prop := fun v h L => (∃ r, v = some (.long r) ∧ P r) ∧ h = h0 ∧ L = []
def QV (h0 : Heap) : Option Value → Heap → List Loc → Prop := fun v h L => v = none ∧ h = h0 ∧ L = []
/-- what the law leaves -/
def Q0 (n0 : Nat) : Option Value → Heap → List Loc → Prop := fun v h L => v = some (.int 1) ∧ Fr n0 L
end OwnLib
def own_b (w : Int64) (i : Nat) : Bool := w.toBitVec.getLsbD i
theorem own_b_or (w v : Int64) (i : Nat) : own_b (w ||| v) i = (own_b w i || own_b v i) := by unfold own_b; rw [Int64.toBitVec_or, BitVec.getLsbD_or]
theorem own_b_and (w v : Int64) (i : Nat) : own_b (w &&& v) i = (own_b w i && own_b v i) := by unfold own_b; rw [Int64.toBitVec_and, BitVec.getLsbD_and]
theorem own_b_xor (w v : Int64) (i : Nat) : own_b (w ^^^ v) i = (own_b w i ^^ own_b v i) := by unfold own_b; rw [Int64.toBitVec_xor, BitVec.getLsbD_xor]
theorem own_b_big (w : Int64) (i : Nat) (h : 64 ≤ i) : own_b w i = false := BitVec.getLsbD_of_ge _ _ h
theorem own_b_ext {w v : Int64} (h : ∀ i, i < 64 → own_b w i = own_b v i) : w = v := Int64.toBitVec_inj.mp (BitVec.eq_of_getLsbD_eq fun i hi => h i hi)
theorem own_b_zero (i : Nat) : own_b 0 i = false := by unfold own_b; exact BitVec.getLsbD_zero
theorem own_b_none {w : Int64} (h : ∀ i, i < 64 → own_b w i = false) : w = 0 := own_b_ext fun i hi => by rw [h i hi, own_b_zero]
theorem own_b_some {w : Int64} (h : ¬ w = 0) : ∃ i, i < 64 ∧ own_b w i = true := by
  refine Classical.byContradiction fun q => h (own_b_none fun i hi => ?_)
  cases hb : own_b w i with
  | false => rfl
  | true => exact absurd ⟨i, hi, hb⟩ q
/-- a shift's distance -/
theorem own_dist (y : Int32) : (y.toInt64 &&& 63).toBitVec = BitVec.ofNat 64 (y.toInt % 64).toNat := by
  have a := c_maskL y.toInt64 63 6 (by decide) (by decide)
  rw [c_i2l] at a
  have e : (y.toInt64 &&& 63) = Int64.ofNat (y.toInt % 64).toNat := Int64.toInt_inj.mp (by
    rw [a, Int64.toInt_ofNat_of_lt (by omega)]
    have : ((2 ^ 6 : Nat) : Int) = 64 := rfl
    omega)
  rw [e]; rfl
theorem own_shl (w : Int64) (y : Int32) : (w <<< (y.toInt64 &&& 63)).toBitVec = w.toBitVec <<< (y.toInt % 64).toNat := by
  rw [Int64.toBitVec_shiftLeft, own_dist, BitVec.shiftLeft_eq', smod64 _ (by omega)]
theorem own_shr (w : Int64) (y : Int32) : (XT.ushrL w y).toBitVec = w.toBitVec >>> (y.toInt % 64).toNat := by
  have d := own_dist y
  have e : (y.toInt64.toUInt64 &&& Int64.toUInt64 63).toBitVec = BitVec.ofNat 64 (y.toInt % 64).toNat := d
  show (w.toUInt64 >>> (y.toInt64.toUInt64 &&& Int64.toUInt64 63)).toBitVec = _
  rw [UInt64.toBitVec_shiftRight, e, BitVec.ushiftRight_eq']
  have k : (BitVec.ofNat 64 (y.toInt % 64).toNat % (64 : BitVec 64)).toNat = (y.toInt % 64).toNat := by
    rw [BitVec.toNat_umod, BitVec.toNat_ofNat]
    show (y.toInt % 64).toNat % 18446744073709551616 % 64 = _
    omega
  rw [k]; rfl
theorem own_b_shl (w : Int64) (y : Int32) (i : Nat) (hi : i < 64) : own_b (w <<< (y.toInt64 &&& 63)) i = (decide ((y.toInt % 64).toNat ≤ i) && own_b w (i - (y.toInt % 64).toNat)) := by
  unfold own_b; rw [own_shl, BitVec.getLsbD_shiftLeft]
  by_cases q : i < (y.toInt % 64).toNat
  · simp [hi, q, Nat.not_le.mpr q]
  · simp [hi, q, Nat.le_of_not_lt q]
theorem own_b_shr (w : Int64) (y : Int32) (i : Nat) : own_b (XT.ushrL w y) i = own_b w ((y.toInt % 64).toNat + i) := by
  unfold own_b; rw [own_shr, BitVec.getLsbD_ushiftRight]
theorem own_b_one (i : Nat) : own_b 1 i = decide (i = 0) := by
  unfold own_b
  show (1#64).getLsbD i = _
  rw [BitVec.getLsbD_one]; simp
theorem own_b_m1 (i : Nat) (hi : i < 64) : own_b (-1) i = true := by
  unfold own_b
  show (BitVec.allOnes 64).getLsbD i = true
  rw [BitVec.getLsbD_allOnes]; simp [hi]
def own_bi (u : Int32) (i : Nat) : Bool := u.toBitVec.getLsbD i
theorem own_lo (w : Int64) (j : Nat) (h : j < 32) : own_bi w.toInt32 j = own_b w j := by
  unfold own_bi own_b
  rw [Int64.toBitVec_toInt32, BitVec.getLsbD_signExtend]
  simp [h]; omega
theorem own_ext (u : Int32) (j : Nat) (h : j < 64) : own_b u.toInt64 j = own_bi u (if j < 32 then j else 31) := by
  unfold own_bi own_b
  rw [Int32.toBitVec_toInt64, BitVec.getLsbD_signExtend]
  by_cases q : j < 32
  · simp [q, h]
  · simp [q, h, BitVec.msb_eq_getLsbD_last]
theorem own_b_mask (j : Nat) (h : j < 64) : own_b (4294967295 : Int64) j = decide (j < 32) := by
  have key : ∀ j : Fin 64, own_b (4294967295 : Int64) j.val = decide (j.val < 32) := by decide +kernel
  exact key ⟨j, h⟩
/-- the two halves put together -/
theorem own_join (w : Int64) (u v : Int32) (hu : ∀ j, j < 32 → own_bi u j = own_b w (32 + j)) (hv : ∀ j, j < 32 → own_bi v j = own_b w j) : ((u.toInt64 <<< ((32 : Int32).toInt64 &&& 63)) ||| (v.toInt64 &&& (4294967295 : Int64))) = w := by
  apply own_b_ext
  intro j hj
  rw [own_b_or, own_b_and, own_b_shl _ _ _ hj, own_b_mask j hj, own_ext v j hj]
  have e : ((32 : Int32).toInt % 64).toNat = 32 := rfl
  rw [e]
  by_cases q : j < 32
  · have : ¬ 32 ≤ j := by omega
    simp [q, this, hv j q]
  · have : 32 ≤ j := by omega
    rw [own_ext u (j - 32) (by omega)]
    have z : j - 32 < 32 := by omega
    simp [q, this, z, hu (j - 32) z, show 32 + (j - 32) = j by omega]
theorem own_hi (w : Int64) (j : Nat) (h : j < 32) : own_bi (XT.ushrL w 32).toInt32 j = own_b w (32 + j) := by
  rw [own_lo _ j h, own_b_shr]; rfl
theorem own_bi_ext {u v : Int32} (h : ∀ i, i < 32 → own_bi u i = own_bi v i) : u = v := Int32.toBitVec_inj.mp (BitVec.eq_of_getLsbD_eq fun i hi => h i hi)
theorem own_sign (w : Int64) (h : w = w.toInt32.toInt64) : w.toInt32 >>> ((31 : Int32) &&& 31) = (XT.ushrL w 32).toInt32 := by
  apply own_bi_ext
  intro i hi
  rw [own_hi w i hi]
  conv => rhs; rw [h]
  rw [own_ext _ _ (by omega)]
  have : ¬ 32 + i < 32 := by omega
  simp only [this, if_false]
  unfold own_bi
  show (w.toInt32.toBitVec.sshiftRight' (((31 : Int32) &&& 31).toBitVec.smod 32)).getLsbD i = _
  rw [show (((31 : Int32) &&& 31).toBitVec.smod 32) = 31#32 by decide]
  show (w.toInt32.toBitVec.sshiftRight 31).getLsbD i = _
  rw [BitVec.getLsbD_sshiftRight]
  by_cases q : 31 + i < 32
  · have : i = 0 := by omega
    subst this; simp
  · simp [q, hi, BitVec.msb_eq_getLsbD_last]
theorem own_c1 (g : Nat → Int32) (q : Nat → Int64) (K : Nat) (v : Int64) (h : ∀ j, j < K → g j = (q j).toInt32) : ∀ j, j < K + 1 → own_ui g K v.toInt32 j = (own_ul q K v j).toInt32 := fun j hj => by
  unfold own_ui own_ul
  by_cases c : j = K
  · simp [c]
  · simp [c, h j (by omega)]
theorem own_c2 (q : Nat → Int64) (K : Nat) (v : Int64) (h : ∀ j, j < K → q j = (q j).toInt32.toInt64) (hv : v = v.toInt32.toInt64) : ∀ j, j < K + 1 → own_ul q K v j = (own_ul q K v j).toInt32.toInt64 := fun j hj => by
  unfold own_ul
  by_cases c : j = K
  · simp only [c, if_true]; exact hv
  · simp only [c, if_false]; exact h j (by omega)
theorem own_c3 (gh : Nat → Int32) (q : Nat → Int64) (K : Nat) (v : Int64) (h : ∀ j, j < K → gh j = (XT.ushrL (q j) 32).toInt32) : ∀ j, j < K + 1 → own_ui gh K (XT.ushrL v 32).toInt32 j = (XT.ushrL (own_ul q K v j) 32).toInt32 := fun j hj => by
  unfold own_ui own_ul
  by_cases c : j = K
  · simp [c]
  · simp [c, h j (by omega)]
def Col (Z : State) (n0 : Nat) (h : Heap) (o : Addr) (k : Int32) (K : Nat) (q : Nat → Int64) : Prop := ∃ (ol oh tl : Addr) (g : Nat → Int32), n0 ≤ ol ∧ n0 ≤ oh ∧ n0 ≤ tl ∧ o ≠ ol ∧ o ≠ oh ∧ o ≠ tl ∧ ol ≠ oh ∧ ol ≠ tl ∧ oh ≠ tl ∧ Exa Z h o "com/example/isolens/isolens/history/LongColumn" ∧ Fld Z h o "com/example/isolens/isolens/history/LongColumn" "size" "I" (.int k) ∧ Fld Z h o "com/example/isolens/isolens/history/LongColumn" "low" "[[I" (.ref ol) ∧ Fld Z h o "com/example/isolens/isolens/history/LongColumn" "high" "[[I" (.ref oh) ∧ Ara Z h ol (.array .int) 1 (fun _ => (.ref tl)) ∧ Ara Z h tl .int 16 (fun j => .int (g j)) ∧ (∀ j, j < K → g j = (q j).toInt32) ∧ ((Ara Z h oh (.array .int) 1 (fun _ => .null) ∧ Ovi Z h oh ∧ ∀ j, j < K → q j = (q j).toInt32.toInt64) ∨ (∃ (th : Addr) (gh : Nat → Int32), n0 ≤ th ∧ o ≠ th ∧ ol ≠ th ∧ oh ≠ th ∧ tl ≠ th ∧ Ara Z h oh (.array .int) 1 (fun _ => (.ref th)) ∧ Ara Z h th .int 16 (fun j => .int (gh j)) ∧ ∀ j, j < K → gh j = (XT.ushrL (q j) 32).toInt32))
def QCol (Z : State) (n0 : Nat) (o : Addr) (k : Int32) (K : Nat) (q : Nat → Int64) : Option Value → Heap → List Loc → Prop := fun v h L => v = none ∧ Fr n0 L ∧ Col Z n0 h o k K q
theorem ef_1 (m : MethodId) (u : Int64) (f : Int32) : entryFrame m #[(.long u), (.int f)] 3 = mkF m 0 #[.val (.long u), .second, .val (.int f)] [] := by first | (simp [entryFrame, mkF, argsToLocals, Value.category]; done) | rfl
theorem pn_1 : plainName "com/example/isolens/isolens/history/LongColumnGetPinLaw" = true := by first | (simp [plainName, overriddenIn]; done) | decide +kernel
theorem d1_0 : decode method_2_code 0 = .ok (.iload_n 2, 1) := by decide +kernel
theorem d1_1 : decode method_2_code 1 = .ok (.ifCond .eq 9, 3) := by decide +kernel
theorem d1_10 : decode method_2_code 10 = .ok (.lload_n 0, 1) := by decide +kernel
theorem d1_11 : decode method_2_code 11 = .ok (.lreturn, 1) := by decide +kernel
theorem d1_4 : decode method_2_code 4 = .ok (.lload_n 0, 1) := by decide +kernel
theorem d1_5 : decode method_2_code 5 = .ok (.l2i, 1) := by decide +kernel
theorem d1_6 : decode method_2_code 6 = .ok (.i2l, 1) := by decide +kernel
theorem d1_7 : decode method_2_code 7 = .ok (.goto 4, 3) := by decide +kernel
set_option maxRecDepth 65536 in
set_option maxHeartbeats 40000000 in
theorem rm1 (l : Launch) (Z : State) (a0 : Array Value) (hw : ∀ d ∈ tables_1, d.before a0 Z = true) (u : Int64) (f : Int32) (h0 : Heap)  :
    Ct l Z (⟨"com/example/isolens/isolens/history/LongColumnGetPinLaw", "pick", "(JI)J"⟩ : MethodName) method_2_code 3 (some .long) ({ frames := 0, cells := 0, slots := 0, locals := 0 } : Room) #[(.long u), (.int f)] h0 (QL h0 (fun r => True)) := by
  refine own_met (plainFor_of_name pn_1) (fun m => ef_1 m u f) ?_
  intro p e s m below meth c T0 X0 hx hby hml hown hnm hret hlk hZ e0
  refine g_iloadN X0 hx hby d1_0 (pc' := 1) rfl rfl ?_
  refine g_ifeq X0 hx hby d1_1 (pt := 10) (pf := 4) (by decide) (by decide) rfl (fun (h1 : f = (0 : Int32)) => ?_) (fun (h1 : ¬ f = (0 : Int32)) => ?_)
  · have h1i : f.toInt = 0 := congrArg Int32.toInt h1
    refine g_lloadN X0 hx hby d1_10 (pc' := 11) rfl rfl ?_
    exact g_retL X0 hx hby hlk hret d1_11 (by decide) (by decide) (⟨⟨_, rfl, trivial⟩, e0, rfl⟩)
  · have h1i : ¬ f.toInt = 0 := fun q => h1 (Int32.toInt_inj.mp q)
    refine g_lloadN X0 hx hby d1_4 (pc' := 5) rfl rfl ?_
    refine g_l2i X0 hx hby d1_5 (pc' := 6) rfl ?_
    refine g_i2l X0 hx hby d1_6 (pc' := 7) rfl ?_
    refine g_goto X0 hx hby d1_7 (pc' := 11) (by decide) (by decide) ?_
    exact g_retL X0 hx hby hlk hret d1_11 (by decide) (by decide) (⟨⟨_, rfl, trivial⟩, e0, rfl⟩)
theorem ef_2 (m : MethodId) (o : Addr) : entryFrame m #[(.ref o)] 1 = mkF m 0 #[.val (.ref o)] [] := by first | (simp [entryFrame, mkF, argsToLocals, Value.category]; done) | rfl
theorem pn_2 : plainName "com/example/isolens/isolens/history/LongColumn" = true := by first | (simp [plainName, overriddenIn]; done) | decide +kernel
theorem d2_0 : decode prog_109_method_1_code 0 = .ok (.aload_n 0, 1) := by decide +kernel
theorem d2_1 : decode prog_109_method_1_code 1 = .ok (.invokespecial 3, 3) := by decide +kernel
theorem d2_4 : decode prog_109_method_1_code 4 = .ok (.aload_n 0, 1) := by decide +kernel
theorem d2_5 : decode prog_109_method_1_code 5 = .ok (.iconst 1, 1) := by decide +kernel
theorem d2_6 : decode prog_109_method_1_code 6 = .ok (.anewarray 9, 3) := by decide +kernel
theorem d2_9 : decode prog_109_method_1_code 9 = .ok (.dup, 1) := by decide +kernel
theorem d2_10 : decode prog_109_method_1_code 10 = .ok (.iconst 0, 1) := by decide +kernel
theorem d2_11 : decode prog_109_method_1_code 11 = .ok (.bipush 16, 2) := by decide +kernel
theorem d2_13 : decode prog_109_method_1_code 13 = .ok (.newarray .int, 2) := by decide +kernel
theorem d2_15 : decode prog_109_method_1_code 15 = .ok (.aastore, 1) := by decide +kernel
theorem d2_16 : decode prog_109_method_1_code 16 = .ok (.putfield 11, 3) := by decide +kernel
theorem d2_19 : decode prog_109_method_1_code 19 = .ok (.aload_n 0, 1) := by decide +kernel
theorem d2_20 : decode prog_109_method_1_code 20 = .ok (.iconst 1, 1) := by decide +kernel
theorem d2_21 : decode prog_109_method_1_code 21 = .ok (.anewarray 9, 3) := by decide +kernel
theorem d2_24 : decode prog_109_method_1_code 24 = .ok (.putfield 15, 3) := by decide +kernel
theorem d2_27 : decode prog_109_method_1_code 27 = .ok (.return_, 1) := by decide +kernel
set_option maxRecDepth 65536 in
set_option maxHeartbeats 40000000 in
theorem rm2 (l : Launch) (Z : State) (a0 : Array Value) (hw : ∀ d ∈ tables_1, d.before a0 Z = true) (o : Addr) (n0 : Nat) (h0 : Heap) (Z0 : n0 ≤ h0.size) (g_o : n0 ≤ o) (E_o : Exa Z h0 o "com/example/isolens/isolens/history/LongColumn") (F1 : Fld Z h0 o "com/example/isolens/isolens/history/LongColumn" "size" "I" (.int (0 : Int32))) (F2 : Fld Z h0 o "com/example/isolens/isolens/history/LongColumn" "low" "[[I" .null) (F3 : Fld Z h0 o "com/example/isolens/isolens/history/LongColumn" "high" "[[I" .null) :
    Ct l Z (⟨"com/example/isolens/isolens/history/LongColumn", "<init>", "()V"⟩ : MethodName) prog_109_method_1_code 1 none ({ frames := 1, cells := 3, slots := 18, locals := 12 } : Room) #[(.ref o)] h0 (QCol Z n0 o 0 0 (fun _ => 0)) := by
  refine own_met (plainFor_of_name pn_2) (fun m => ef_2 m o) ?_
  intro p e s m below meth c T0 X0 hx hby hml hown hnm hret hlk hZ e0
  have N0 := Fr.nil n0
  refine g_aloadN X0 hx hby d2_0 (pc' := 1) rfl rfl rfl ?_
  refine g_initO X0 hx hby hZ hown e0 (hw _ (List.mem_of_getElem? (i := 10) rfl)) (hw _ (List.mem_of_getElem? (i := 11) rfl)) (hw _ (List.mem_of_getElem? (i := 12) rfl)) hml rfl d2_1 (pc' := 4) rfl (by decide) (Nat.le_of_ble_eq_true rfl) (fun Tp1 Xp1 ep1 => ?_)
  refine g_aloadN Xp1 hx hby d2_4 (pc' := 5) rfl rfl rfl ?_
  refine g_iconst Xp1 hx hby d2_5 (pc' := 6) rfl (n := (1 : Int32)) (by first | rfl | decide) ?_
  refine g_newRA Xp1 hx hby hZ hown ep1 (N := 1) (hw _ (List.mem_of_getElem? (i := 13) rfl)) (hw _ (List.mem_of_getElem? (i := 14) rfl)) d2_6 (pc' := 9) rfl rfl (cap := 1) (Nat.le_refl _) (by decide) (by decide) (by decide) (fun T1 h1 ol g1 X1 e1 E1 A_ol O_ol => ?_)
  have ne2 : o ≠ ol := by rw [g1]; exact Nat.ne_of_lt E_o.lt
  have g3 : n0 ≤ ol := by rw [g1]; exact Z0
  replace E_o := E_o.ext E1
  replace F1 := F1.ext E1
  replace F2 := F2.ext E1
  replace F3 := F3.ext E1
  have Z4 : n0 ≤ h1.size := Nat.le_trans Z0 E1.1
  replace X1 : Stand p l e ({ frames := 1, cells := 3, slots := 18, locals := 12 } : Room) s m _ below meth c T1 _ 1 1 := X1
  refine g_dup X1 hx hby d2_9 (pc' := 10) rfl rfl ?_
  refine g_iconst X1 hx hby d2_10 (pc' := 11) rfl (n := (0 : Int32)) (by first | rfl | decide) ?_
  refine g_bipush X1 hx hby d2_11 (pc' := 13) rfl (n := (16 : Int32)) (by first | rfl | decide) ?_
  refine g_newAE X1 hx hby hZ e1 (N := 16) (hw _ (List.mem_of_getElem? (i := 15) rfl)) d2_13 (pc' := 15) rfl rfl (cap := 16) (Nat.le_refl _) (by decide) (by decide) (by decide) (fun T5 h5 tl g5 X5 e5 E5 A_tl E_tl => ?_)
  have ne6 : o ≠ tl := by rw [g5]; exact Nat.ne_of_lt E_o.lt
  have ne7 : ol ≠ tl := by rw [g5]; exact Nat.ne_of_lt A_ol.lt
  have g8 : n0 ≤ tl := by rw [g5]; exact Z4
  replace E_o := E_o.ext E5
  replace F1 := F1.ext E5
  replace F2 := F2.ext E5
  replace F3 := F3.ext E5
  replace A_ol := A_ol.ext E5
  replace O_ol := O_ol.ext E5
  have Z9 : n0 ≤ h5.size := Nat.le_trans Z4 E5.1
  replace X5 : Stand p l e ({ frames := 1, cells := 3, slots := 18, locals := 12 } : Room) s m _ below meth c T5 _ 2 17 := X5
  replace A_tl : Ara Z h5 tl .int 16 (fun jz => .int ((fun _ => (0 : Int32)) jz)) := A_tl
  refine a_aastore X5 hx hby hZ e5 A_ol rfl (O_ol.sto A_ol E_tl) (by decide) (by decide) d2_15 (pc' := 16) rfl (fun T10 h10 X10 e10 W10 => ?_)
  replace E_o := E_o.wr W10
  replace F1 := F1.other W10 (Or.inl ne2)
  replace F2 := F2.other W10 (Or.inl ne2)
  replace F3 := F3.other W10 (Or.inl ne2)
  replace O_ol := O_ol.wr W10
  replace A_tl := A_tl.other W10 (Ne.symm ne7)
  replace E_tl := E_tl.wr W10
  have Z11 : n0 ≤ h10.size := by rw [W10.size]; exact Z9
  have N12 := Fr.snoc X10 N0 g3
  replace A_ol : Ara Z h10 ol (.array .int) 1 (fun _ => (.ref tl)) := (A_ol.set W10).eq (fun j hj => by rw [Nat.lt_one_iff.mp hj]; rfl)
  refine g_putF X10 hx hby hZ hown e10 (hw _ (List.mem_of_getElem? (i := 17) rfl)) F2 E_o (Or.inl (hw _ (List.mem_of_getElem? (i := 18) rfl))) (hw _ (List.mem_of_getElem? (i := 5) rfl)) (ty := (.array (.array .int))) (by decide) rfl rfl d2_16 (pc' := 19) rfl (fun T13 h13 X13 e13 W13 => ?_)
  replace E_o := E_o.wr W13
  replace F1 := F1.other W13 (Or.inr (slot_ne (Or.inl (hw _ (List.mem_of_getElem? (i := 27) rfl))) (Or.inl (hw _ (List.mem_of_getElem? (i := 18) rfl))) (by decide) (t := .int) (t' := (.array (.array .int))) (by decide) (by decide)))
  replace F2 := F2.same W13
  replace F3 := F3.other W13 (Or.inr (slot_ne (Or.inl (hw _ (List.mem_of_getElem? (i := 20) rfl))) (Or.inl (hw _ (List.mem_of_getElem? (i := 18) rfl))) (by decide) (t := (.array (.array .int))) (t' := (.array (.array .int))) (by decide) (by decide)))
  replace A_ol := A_ol.other W13 (Ne.symm ne2)
  replace O_ol := O_ol.wr W13
  replace A_tl := A_tl.other W13 (Ne.symm ne6)
  replace E_tl := E_tl.wr W13
  have Z14 : n0 ≤ h13.size := by rw [W13.size]; exact Z11
  have N15 := Fr.snoc X13 N12 g_o
  refine g_aloadN X13 hx hby d2_19 (pc' := 20) rfl rfl rfl ?_
  refine g_iconst X13 hx hby d2_20 (pc' := 21) rfl (n := (1 : Int32)) (by first | rfl | decide) ?_
  refine g_newRA X13 hx hby hZ hown e13 (N := 1) (hw _ (List.mem_of_getElem? (i := 13) rfl)) (hw _ (List.mem_of_getElem? (i := 14) rfl)) d2_21 (pc' := 24) rfl rfl (cap := 1) (Nat.le_refl _) (by decide) (by decide) (by decide) (fun T16 h16 oh g16 X16 e16 E16 A_oh O_oh => ?_)
  have ne17 : o ≠ oh := by rw [g16]; exact Nat.ne_of_lt E_o.lt
  have ne18 : ol ≠ oh := by rw [g16]; exact Nat.ne_of_lt A_ol.lt
  have ne19 : tl ≠ oh := by rw [g16]; exact Nat.ne_of_lt A_tl.lt
  have g20 : n0 ≤ oh := by rw [g16]; exact Z14
  replace E_o := E_o.ext E16
  replace F1 := F1.ext E16
  replace F2 := F2.ext E16
  replace F3 := F3.ext E16
  replace A_ol := A_ol.ext E16
  replace O_ol := O_ol.ext E16
  replace A_tl := A_tl.ext E16
  replace E_tl := E_tl.ext E16
  have Z21 : n0 ≤ h16.size := Nat.le_trans Z14 E16.1
  replace X16 : Stand p l e ({ frames := 1, cells := 3, slots := 18, locals := 12 } : Room) s m _ below meth c T16 _ 3 18 := X16
  refine g_putF X16 hx hby hZ hown e16 (hw _ (List.mem_of_getElem? (i := 19) rfl)) F3 E_o (Or.inl (hw _ (List.mem_of_getElem? (i := 20) rfl))) (hw _ (List.mem_of_getElem? (i := 5) rfl)) (ty := (.array (.array .int))) (by decide) rfl rfl d2_24 (pc' := 27) rfl (fun T22 h22 X22 e22 W22 => ?_)
  replace E_o := E_o.wr W22
  replace F1 := F1.other W22 (Or.inr (slot_ne (Or.inl (hw _ (List.mem_of_getElem? (i := 27) rfl))) (Or.inl (hw _ (List.mem_of_getElem? (i := 20) rfl))) (by decide) (t := .int) (t' := (.array (.array .int))) (by decide) (by decide)))
  replace F2 := F2.other W22 (Or.inr (slot_ne (Or.inl (hw _ (List.mem_of_getElem? (i := 18) rfl))) (Or.inl (hw _ (List.mem_of_getElem? (i := 20) rfl))) (by decide) (t := (.array (.array .int))) (t' := (.array (.array .int))) (by decide) (by decide)))
  replace F3 := F3.same W22
  replace A_ol := A_ol.other W22 (Ne.symm ne2)
  replace O_ol := O_ol.wr W22
  replace A_tl := A_tl.other W22 (Ne.symm ne6)
  replace E_tl := E_tl.wr W22
  replace A_oh := A_oh.other W22 (Ne.symm ne17)
  replace O_oh := O_oh.wr W22
  have Z23 : n0 ≤ h22.size := by rw [W22.size]; exact Z21
  have N24 := Fr.snoc X22 N15 g_o
  exact g_retV X22 hx hby hlk hret d2_27 (by decide) (by decide) (by rw [e22]; exact ⟨rfl, N24, ol, oh, tl, _, g3, g20, g8, ne2, ne17, ne6, ne18, ne7, (Ne.symm ne19), E_o, F1, F2, F3, A_ol, A_tl, fun j hj => absurd hj (Nat.not_lt_zero j), Or.inl ⟨A_oh, O_oh, fun j hj => absurd hj (Nat.not_lt_zero j)⟩⟩)
theorem own_colsz {Z : State} {n0 : Nat} {h : Heap} {o : Addr} {k : Int32} {K : Nat} {q : Nat → Int64} (c : Col Z n0 h o k K q) : n0 ≤ h.size := by
  obtain ⟨ol, oh, tl, g, q1, -, -, -, -, -, -, -, -, -, -, -, -, A, -⟩ := c
  exact Nat.le_of_lt (Nat.lt_of_le_of_lt q1 A.lt)
theorem own_colexa {Z : State} {n0 : Nat} {h : Heap} {o : Addr} {k : Int32} {K : Nat} {q : Nat → Int64} (c : Col Z n0 h o k K q) : Exa Z h o "com/example/isolens/isolens/history/LongColumn" := by
  obtain ⟨ol, oh, tl, g, -, -, -, -, -, -, -, -, -, E, -⟩ := c
  exact E
theorem own_colfld {Z : State} {n0 : Nat} {h : Heap} {o : Addr} {k : Int32} {K : Nat} {q : Nat → Int64} (c : Col Z n0 h o k K q) : Fld Z h o "com/example/isolens/isolens/history/LongColumn" "size" "I" (.int k) := by
  obtain ⟨ol, oh, tl, g, -, -, -, -, -, -, -, -, -, E, F, -⟩ := c
  exact F
theorem ef_4_rm_an0 (m : MethodId) (o : Addr) (v : Int64) : entryFrame m #[(.ref o), (.long v)] 6 = mkF m 0 #[.val (.ref o), .val (.long v), .second, .unset, .unset, .unset] [] := by first | (simp [entryFrame, mkF, argsToLocals, Value.category]; done) | rfl
theorem pn_4 : plainName "com/example/isolens/isolens/history/LongColumn" = true := by first | (simp [plainName, overriddenIn]; done) | decide +kernel
theorem d4_0 : decode prog_109_method_3_code 0 = .ok (.aload_n 0, 1) := by decide +kernel
theorem d4_1 : decode prog_109_method_3_code 1 = .ok (.getfield 21, 3) := by decide +kernel
theorem d4_4 : decode prog_109_method_3_code 4 = .ok (.ldc 27, 2) := by decide +kernel
theorem d4_6 : decode prog_109_method_3_code 6 = .ok (.if_icmp .ne 20, 3) := by decide +kernel
theorem d4_26 : decode prog_109_method_3_code 26 = .ok (.aload_n 0, 1) := by decide +kernel
theorem d4_27 : decode prog_109_method_3_code 27 = .ok (.getfield 21, 3) := by decide +kernel
theorem d4_30 : decode prog_109_method_3_code 30 = .ok (.bipush 16, 2) := by decide +kernel
theorem d4_32 : decode prog_109_method_3_code 32 = .ok (.iushr, 1) := by decide +kernel
theorem d4_33 : decode prog_109_method_3_code 33 = .ok (.istore_n 3, 1) := by decide +kernel
theorem d4_34 : decode prog_109_method_3_code 34 = .ok (.aload_n 0, 1) := by decide +kernel
theorem d4_35 : decode prog_109_method_3_code 35 = .ok (.getfield 21, 3) := by decide +kernel
theorem d4_38 : decode prog_109_method_3_code 38 = .ok (.ldc 18, 2) := by decide +kernel
theorem d4_40 : decode prog_109_method_3_code 40 = .ok (.iand, 1) := by decide +kernel
theorem d4_41 : decode prog_109_method_3_code 41 = .ok (.istore 4, 2) := by decide +kernel
theorem d4_43 : decode prog_109_method_3_code 43 = .ok (.iload_n 3, 1) := by decide +kernel
theorem d4_44 : decode prog_109_method_3_code 44 = .ok (.aload_n 0, 1) := by decide +kernel
theorem d4_45 : decode prog_109_method_3_code 45 = .ok (.getfield 11, 3) := by decide +kernel
theorem d4_48 : decode prog_109_method_3_code 48 = .ok (.arraylength, 1) := by decide +kernel
theorem d4_49 : decode prog_109_method_3_code 49 = .ok (.if_icmp .ne 37, 3) := by decide +kernel
theorem d4_86 : decode prog_109_method_3_code 86 = .ok (.aload_n 0, 1) := by decide +kernel
theorem d4_87 : decode prog_109_method_3_code 87 = .ok (.getfield 11, 3) := by decide +kernel
theorem d4_90 : decode prog_109_method_3_code 90 = .ok (.iload_n 3, 1) := by decide +kernel
theorem d4_91 : decode prog_109_method_3_code 91 = .ok (.aaload, 1) := by decide +kernel
theorem d4_92 : decode prog_109_method_3_code 92 = .ok (.ifnonnull 16, 3) := by decide +kernel
theorem d4_108 : decode prog_109_method_3_code 108 = .ok (.iload 4, 2) := by decide +kernel
theorem d4_110 : decode prog_109_method_3_code 110 = .ok (.aload_n 0, 1) := by decide +kernel
theorem d4_111 : decode prog_109_method_3_code 111 = .ok (.getfield 11, 3) := by decide +kernel
theorem d4_114 : decode prog_109_method_3_code 114 = .ok (.iload_n 3, 1) := by decide +kernel
theorem d4_115 : decode prog_109_method_3_code 115 = .ok (.aaload, 1) := by decide +kernel
theorem d4_116 : decode prog_109_method_3_code 116 = .ok (.arraylength, 1) := by decide +kernel
theorem d4_117 : decode prog_109_method_3_code 117 = .ok (.if_icmp .ne 50, 3) := by decide +kernel
theorem d4_167 : decode prog_109_method_3_code 167 = .ok (.aload_n 0, 1) := by decide +kernel
theorem d4_168 : decode prog_109_method_3_code 168 = .ok (.getfield 11, 3) := by decide +kernel
theorem d4_171 : decode prog_109_method_3_code 171 = .ok (.iload_n 3, 1) := by decide +kernel
theorem d4_172 : decode prog_109_method_3_code 172 = .ok (.aaload, 1) := by decide +kernel
theorem d4_173 : decode prog_109_method_3_code 173 = .ok (.iload 4, 2) := by decide +kernel
theorem d4_175 : decode prog_109_method_3_code 175 = .ok (.lload_n 1, 1) := by decide +kernel
theorem d4_176 : decode prog_109_method_3_code 176 = .ok (.l2i, 1) := by decide +kernel
theorem d4_177 : decode prog_109_method_3_code 177 = .ok (.iastore, 1) := by decide +kernel
theorem d4_178 : decode prog_109_method_3_code 178 = .ok (.aload_n 0, 1) := by decide +kernel
theorem d4_179 : decode prog_109_method_3_code 179 = .ok (.getfield 15, 3) := by decide +kernel
theorem d4_182 : decode prog_109_method_3_code 182 = .ok (.iload_n 3, 1) := by decide +kernel
theorem d4_183 : decode prog_109_method_3_code 183 = .ok (.aaload, 1) := by decide +kernel
theorem d4_184 : decode prog_109_method_3_code 184 = .ok (.ifnonnull 63, 3) := by decide +kernel
theorem d4_187 : decode prog_109_method_3_code 187 = .ok (.lload_n 1, 1) := by decide +kernel
theorem d4_188 : decode prog_109_method_3_code 188 = .ok (.lload_n 1, 1) := by decide +kernel
theorem d4_189 : decode prog_109_method_3_code 189 = .ok (.l2i, 1) := by decide +kernel
theorem d4_190 : decode prog_109_method_3_code 190 = .ok (.i2l, 1) := by decide +kernel
theorem d4_191 : decode prog_109_method_3_code 191 = .ok (.lcmp, 1) := by decide +kernel
theorem d4_192 : decode prog_109_method_3_code 192 = .ok (.ifCond .eq 55, 3) := by decide +kernel
theorem d4_247 : decode prog_109_method_3_code 247 = .ok (.aload_n 0, 1) := by decide +kernel
theorem d4_248 : decode prog_109_method_3_code 248 = .ok (.getfield 15, 3) := by decide +kernel
theorem d4_251 : decode prog_109_method_3_code 251 = .ok (.iload_n 3, 1) := by decide +kernel
theorem d4_252 : decode prog_109_method_3_code 252 = .ok (.aaload, 1) := by decide +kernel
theorem d4_253 : decode prog_109_method_3_code 253 = .ok (.ifnull 17, 3) := by decide +kernel
theorem d4_270 : decode prog_109_method_3_code 270 = .ok (.aload_n 0, 1) := by decide +kernel
theorem d4_271 : decode prog_109_method_3_code 271 = .ok (.dup, 1) := by decide +kernel
theorem d4_272 : decode prog_109_method_3_code 272 = .ok (.getfield 21, 3) := by decide +kernel
theorem d4_275 : decode prog_109_method_3_code 275 = .ok (.iconst 1, 1) := by decide +kernel
theorem d4_276 : decode prog_109_method_3_code 276 = .ok (.iadd, 1) := by decide +kernel
theorem d4_277 : decode prog_109_method_3_code 277 = .ok (.putfield 21, 3) := by decide +kernel
theorem d4_280 : decode prog_109_method_3_code 280 = .ok (.return_, 1) := by decide +kernel
theorem d4_195 : decode prog_109_method_3_code 195 = .ok (.aload_n 0, 1) := by decide +kernel
theorem d4_196 : decode prog_109_method_3_code 196 = .ok (.getfield 15, 3) := by decide +kernel
theorem d4_199 : decode prog_109_method_3_code 199 = .ok (.iload_n 3, 1) := by decide +kernel
theorem d4_200 : decode prog_109_method_3_code 200 = .ok (.aload_n 0, 1) := by decide +kernel
theorem d4_201 : decode prog_109_method_3_code 201 = .ok (.getfield 11, 3) := by decide +kernel
theorem d4_204 : decode prog_109_method_3_code 204 = .ok (.iload_n 3, 1) := by decide +kernel
theorem d4_205 : decode prog_109_method_3_code 205 = .ok (.aaload, 1) := by decide +kernel
theorem d4_206 : decode prog_109_method_3_code 206 = .ok (.arraylength, 1) := by decide +kernel
theorem d4_207 : decode prog_109_method_3_code 207 = .ok (.newarray .int, 2) := by decide +kernel
theorem d4_209 : decode prog_109_method_3_code 209 = .ok (.aastore, 1) := by decide +kernel
theorem d4_210 : decode prog_109_method_3_code 210 = .ok (.iconst 0, 1) := by decide +kernel
theorem d4_211 : decode prog_109_method_3_code 211 = .ok (.istore 5, 2) := by decide +kernel
theorem d4_213 : decode prog_109_method_3_code 213 = .ok (.iload 5, 2) := by decide +kernel
theorem d4_215 : decode prog_109_method_3_code 215 = .ok (.iload 4, 2) := by decide +kernel
theorem d4_217 : decode prog_109_method_3_code 217 = .ok (.if_icmp .ge 30, 3) := by decide +kernel
theorem d4_256 : decode prog_109_method_3_code 256 = .ok (.aload_n 0, 1) := by decide +kernel
theorem d4_257 : decode prog_109_method_3_code 257 = .ok (.getfield 15, 3) := by decide +kernel
theorem d4_260 : decode prog_109_method_3_code 260 = .ok (.iload_n 3, 1) := by decide +kernel
theorem d4_261 : decode prog_109_method_3_code 261 = .ok (.aaload, 1) := by decide +kernel
theorem d4_262 : decode prog_109_method_3_code 262 = .ok (.iload 4, 2) := by decide +kernel
theorem d4_264 : decode prog_109_method_3_code 264 = .ok (.lload_n 1, 1) := by decide +kernel
theorem d4_265 : decode prog_109_method_3_code 265 = .ok (.bipush 32, 2) := by decide +kernel
theorem d4_267 : decode prog_109_method_3_code 267 = .ok (.lushr, 1) := by decide +kernel
theorem d4_268 : decode prog_109_method_3_code 268 = .ok (.l2i, 1) := by decide +kernel
theorem d4_269 : decode prog_109_method_3_code 269 = .ok (.iastore, 1) := by decide +kernel
set_option maxRecDepth 65536 in
set_option maxHeartbeats 40000000 in
theorem rm_an0 (l : Launch) (Z : State) (a0 : Array Value) (hw : ∀ d ∈ tables_1, d.before a0 Z = true) (o : Addr) (v : Int64) (n0 : Nat) (ol oh tl : Addr) (g : Nat → Int32) (q : Nat → Int64) (h0 : Heap) (Z0 : n0 ≤ h0.size) (g_o : n0 ≤ o) (g_ol : n0 ≤ ol) (g_oh : n0 ≤ oh) (g_tl : n0 ≤ tl) (n1 : o ≠ ol) (n2 : o ≠ oh) (n3 : o ≠ tl) (n4 : ol ≠ oh) (n5 : ol ≠ tl) (n6 : oh ≠ tl) (E_o : Exa Z h0 o "com/example/isolens/isolens/history/LongColumn") (F1 : Fld Z h0 o "com/example/isolens/isolens/history/LongColumn" "size" "I" (.int (0 : Int32))) (F2 : Fld Z h0 o "com/example/isolens/isolens/history/LongColumn" "low" "[[I" (.ref ol)) (F3 : Fld Z h0 o "com/example/isolens/isolens/history/LongColumn" "high" "[[I" (.ref oh)) (A_ol : Ara Z h0 ol (.array .int) 1 (fun _ => (.ref tl))) (A_tl : Ara Z h0 tl .int 16 (fun j => .int (g j))) (A_oh : Ara Z h0 oh (.array .int) 1 (fun _ => .null)) (O_oh : Ovi Z h0 oh) (hg : ∀ j, j < 0 → g j = (q j).toInt32) (hf : ∀ j, j < 0 → q j = (q j).toInt32.toInt64) :
    Ct l Z (⟨"com/example/isolens/isolens/history/LongColumn", "add", "(J)V"⟩ : MethodName) prog_109_method_3_code 6 none ({ frames := 0, cells := 1, slots := 16, locals := 0 } : Room) #[(.ref o), (.long v)] h0 (QCol Z n0 o (1 : Int32) 1 (own_ul q 0 v)) := by
  refine own_met (plainFor_of_name pn_4) (fun m => ef_4_rm_an0 m o v) ?_
  intro p e s m below meth c T0 X0 hx hby hml hown hnm hret hlk hZ e0
  have N0 := Fr.nil n0
  refine g_aloadN X0 hx hby d4_0 (pc' := 1) rfl rfl rfl ?_
  refine g_getF X0 hx hby hZ hown e0 (hw _ (List.mem_of_getElem? (i := 26) rfl)) F1 d4_1 (pc' := 4) rfl (fun T1 X1 e1 => ?_)
  refine g_ldcI X1 hx hby hZ hown (hw _ (List.mem_of_getElem? (i := 28) rfl)) d4_4 (pc' := 6) rfl ?_
  refine g_icmpne X1 hx hby d4_6 (pt := 26) (pf := 9) (by decide) (by decide) rfl (fun (h6 : ¬ (0 : Int32) = (2147483647 : Int32)) => ?_) (fun (h6 : (0 : Int32) = (2147483647 : Int32)) => (by exfalso; revert h6; decide))
  refine g_aloadN X1 hx hby d4_26 (pc' := 27) rfl rfl rfl ?_
  refine g_getF X1 hx hby hZ hown e1 (hw _ (List.mem_of_getElem? (i := 26) rfl)) F1 d4_27 (pc' := 30) rfl (fun T2 X2 e2 => ?_)
  refine g_bipush X2 hx hby d4_30 (pc' := 32) rfl (n := (16 : Int32)) (by first | rfl | decide) ?_
  refine g_iushr X2 hx hby d4_32 (pc' := 33) rfl ?_
  show Go p e below s (QCol Z n0 o (1 : Int32) 1 (own_ul q 0 v)) ({ frames := 0, cells := 1, slots := 16, locals := 0 } : Room).cells ({ frames := 0, cells := 1, slots := 16, locals := 0 } : Room).slots m T2 33 #[.val (.ref o), .val (.long v), .second, .unset, .unset, .unset] [(.int (0 : Int32))]
  refine g_istoreN X2 hx hby d4_33 (pc' := 34) rfl (Ls' := #[.val (.ref o), .val (.long v), .second, .val (.int (0 : Int32)), .unset, .unset]) rfl ?_
  refine g_aloadN X2 hx hby d4_34 (pc' := 35) rfl rfl rfl ?_
  refine g_getF X2 hx hby hZ hown e2 (hw _ (List.mem_of_getElem? (i := 26) rfl)) F1 d4_35 (pc' := 38) rfl (fun T3 X3 e3 => ?_)
  refine g_ldcI X3 hx hby hZ hown (hw _ (List.mem_of_getElem? (i := 29) rfl)) d4_38 (pc' := 40) rfl ?_
  refine g_iand X3 hx hby d4_40 (pc' := 41) rfl ?_
  show Go p e below s (QCol Z n0 o (1 : Int32) 1 (own_ul q 0 v)) ({ frames := 0, cells := 1, slots := 16, locals := 0 } : Room).cells ({ frames := 0, cells := 1, slots := 16, locals := 0 } : Room).slots m T3 41 #[.val (.ref o), .val (.long v), .second, .val (.int (0 : Int32)), .unset, .unset] [(.int (0 : Int32))]
  refine g_istore X3 hx hby d4_41 (pc' := 43) rfl (Ls' := #[.val (.ref o), .val (.long v), .second, .val (.int (0 : Int32)), .val (.int (0 : Int32)), .unset]) rfl ?_
  refine g_iloadN X3 hx hby d4_43 (pc' := 44) rfl rfl ?_
  refine g_aloadN X3 hx hby d4_44 (pc' := 45) rfl rfl rfl ?_
  refine g_getF X3 hx hby hZ hown e3 (hw _ (List.mem_of_getElem? (i := 17) rfl)) F2 d4_45 (pc' := 48) rfl (fun T4 X4 e4 => ?_)
  refine a_arraylength X4 hx hby hZ e4 A_ol (N := (1 : Int32)) rfl d4_48 (pc' := 49) rfl ?_
  refine g_icmpne X4 hx hby d4_49 (pt := 86) (pf := 52) (by decide) (by decide) rfl (fun (h49 : ¬ (0 : Int32) = (1 : Int32)) => ?_) (fun (h49 : (0 : Int32) = (1 : Int32)) => (by exfalso; revert h49; decide))
  refine g_aloadN X4 hx hby d4_86 (pc' := 87) rfl rfl rfl ?_
  refine g_getF X4 hx hby hZ hown e4 (hw _ (List.mem_of_getElem? (i := 17) rfl)) F2 d4_87 (pc' := 90) rfl (fun T5 X5 e5 => ?_)
  refine g_iloadN X5 hx hby d4_90 (pc' := 91) rfl rfl ?_
  refine a_aaload X5 hx hby hZ e5 A_ol rfl (by decide) (by decide) (v := (.ref tl)) (rfl) d4_91 (pc' := 92) rfl ?_
  refine g_ifnonnull X5 hx hby rfl d4_92 (pt := 108) (pf := 95) (by decide) (by decide) rfl (fun bz qz => ?_) (fun qz => nomatch qz)
  refine g_iload X5 hx hby d4_108 (pc' := 110) rfl rfl ?_
  refine g_aloadN X5 hx hby d4_110 (pc' := 111) rfl rfl rfl ?_
  refine g_getF X5 hx hby hZ hown e5 (hw _ (List.mem_of_getElem? (i := 17) rfl)) F2 d4_111 (pc' := 114) rfl (fun T6 X6 e6 => ?_)
  refine g_iloadN X6 hx hby d4_114 (pc' := 115) rfl rfl ?_
  refine a_aaload X6 hx hby hZ e6 A_ol rfl (by decide) (by decide) (v := (.ref tl)) (rfl) d4_115 (pc' := 116) rfl ?_
  refine a_arraylength X6 hx hby hZ e6 A_tl (N := (16 : Int32)) rfl d4_116 (pc' := 117) rfl ?_
  refine g_icmpne X6 hx hby d4_117 (pt := 167) (pf := 120) (by decide) (by decide) rfl (fun (h117 : ¬ (0 : Int32) = (16 : Int32)) => ?_) (fun (h117 : (0 : Int32) = (16 : Int32)) => (by exfalso; revert h117; decide))
  refine g_aloadN X6 hx hby d4_167 (pc' := 168) rfl rfl rfl ?_
  refine g_getF X6 hx hby hZ hown e6 (hw _ (List.mem_of_getElem? (i := 17) rfl)) F2 d4_168 (pc' := 171) rfl (fun T7 X7 e7 => ?_)
  refine g_iloadN X7 hx hby d4_171 (pc' := 172) rfl rfl ?_
  refine a_aaload X7 hx hby hZ e7 A_ol rfl (by decide) (by decide) (v := (.ref tl)) (rfl) d4_172 (pc' := 173) rfl ?_
  refine g_iload X7 hx hby d4_173 (pc' := 175) rfl rfl ?_
  refine g_lloadN X7 hx hby d4_175 (pc' := 176) rfl rfl ?_
  refine g_l2i X7 hx hby d4_176 (pc' := 177) rfl ?_
  refine a_iastore X7 hx hby hZ e7 A_tl (by decide) (by decide) d4_177 (pc' := 178) rfl (fun T8 h8 X8 e8 W8 => ?_)
  replace E_o := E_o.wr W8
  replace F1 := F1.other W8 (Or.inl n3)
  replace F2 := F2.other W8 (Or.inl n3)
  replace F3 := F3.other W8 (Or.inl n3)
  replace A_ol := A_ol.other W8 n5
  replace A_oh := A_oh.other W8 n6
  replace O_oh := O_oh.wr W8
  have Z9 : n0 ≤ h8.size := by rw [W8.size]; exact Z0
  have N10 := Fr.snoc X8 N0 g_tl
  replace A_tl : Ara Z h8 tl .int 16 (fun jz => .int ((own_ui g 0 (v.toInt32)) jz)) := A_tl.setI W8
  refine g_aloadN X8 hx hby d4_178 (pc' := 179) rfl rfl rfl ?_
  refine g_getF X8 hx hby hZ hown e8 (hw _ (List.mem_of_getElem? (i := 19) rfl)) F3 d4_179 (pc' := 182) rfl (fun T11 X11 e11 => ?_)
  refine g_iloadN X11 hx hby d4_182 (pc' := 183) rfl rfl ?_
  refine a_aaload X11 hx hby hZ e11 A_oh rfl (by decide) (by decide) (v := .null) (rfl) d4_183 (pc' := 184) rfl ?_
  refine g_ifnonnull X11 hx hby rfl d4_184 (pt := 247) (pf := 187) (by decide) (by decide) rfl (fun bz qz => nomatch qz) (fun qz => ?_)
  refine g_lloadN X11 hx hby d4_187 (pc' := 188) rfl rfl ?_
  refine g_lloadN X11 hx hby d4_188 (pc' := 189) rfl rfl ?_
  refine g_l2i X11 hx hby d4_189 (pc' := 190) rfl ?_
  refine g_i2l X11 hx hby d4_190 (pc' := 191) rfl ?_
  refine g_lcmpeq X11 hx hby d4_191 (pc' := 192) rfl d4_192 (pt := 247) (pf := 195) (by decide) (by decide) rfl (fun (h192 : v = ((v.toInt32).toInt64)) => ?_) (fun (h192 : ¬ v = ((v.toInt32).toInt64)) => ?_)
  · have h192i : v.toInt = ((v.toInt32).toInt64).toInt := congrArg Int64.toInt h192
    refine g_aloadN X11 hx hby d4_247 (pc' := 248) rfl rfl rfl ?_
    refine g_getF X11 hx hby hZ hown e11 (hw _ (List.mem_of_getElem? (i := 19) rfl)) F3 d4_248 (pc' := 251) rfl (fun T12 X12 e12 => ?_)
    refine g_iloadN X12 hx hby d4_251 (pc' := 252) rfl rfl ?_
    refine a_aaload X12 hx hby hZ e12 A_oh rfl (by decide) (by decide) (v := .null) (rfl) d4_252 (pc' := 253) rfl ?_
    refine g_ifnull X12 hx hby rfl d4_253 (pt := 270) (pf := 256) (by decide) (by decide) rfl (fun qz => ?_) (fun bz qz => nomatch qz)
    refine g_aloadN X12 hx hby d4_270 (pc' := 271) rfl rfl rfl ?_
    refine g_dup X12 hx hby d4_271 (pc' := 272) rfl rfl ?_
    refine g_getF X12 hx hby hZ hown e12 (hw _ (List.mem_of_getElem? (i := 26) rfl)) F1 d4_272 (pc' := 275) rfl (fun T13 X13 e13 => ?_)
    refine g_iconst X13 hx hby d4_275 (pc' := 276) rfl (n := (1 : Int32)) (by first | rfl | decide) ?_
    refine g_iadd X13 hx hby d4_276 (pc' := 277) rfl ?_
    show Go p e below s (QCol Z n0 o (1 : Int32) 1 (own_ul q 0 v)) ({ frames := 0, cells := 1, slots := 16, locals := 0 } : Room).cells ({ frames := 0, cells := 1, slots := 16, locals := 0 } : Room).slots m T13 277 #[.val (.ref o), .val (.long v), .second, .val (.int (0 : Int32)), .val (.int (0 : Int32)), .unset] [(.int (1 : Int32)), (.ref o)]
    refine g_putF X13 hx hby hZ hown e13 (hw _ (List.mem_of_getElem? (i := 26) rfl)) F1 E_o (Or.inl (hw _ (List.mem_of_getElem? (i := 27) rfl))) (hw _ (List.mem_of_getElem? (i := 5) rfl)) (ty := .int) (by decide) rfl rfl d4_277 (pc' := 280) rfl (fun T14 h14 X14 e14 W14 => ?_)
    replace E_o := E_o.wr W14
    replace F1 := F1.same W14
    replace F2 := F2.other W14 (Or.inr (slot_ne (Or.inl (hw _ (List.mem_of_getElem? (i := 18) rfl))) (Or.inl (hw _ (List.mem_of_getElem? (i := 27) rfl))) (by decide) (t := (.array (.array .int))) (t' := .int) (by decide) (by decide)))
    replace F3 := F3.other W14 (Or.inr (slot_ne (Or.inl (hw _ (List.mem_of_getElem? (i := 20) rfl))) (Or.inl (hw _ (List.mem_of_getElem? (i := 27) rfl))) (by decide) (t := (.array (.array .int))) (t' := .int) (by decide) (by decide)))
    replace A_ol := A_ol.other W14 (Ne.symm n1)
    replace A_tl := A_tl.other W14 (Ne.symm n3)
    replace A_oh := A_oh.other W14 (Ne.symm n2)
    replace O_oh := O_oh.wr W14
    have Z15 : n0 ≤ h14.size := by rw [W14.size]; exact Z9
    have N16 := Fr.snoc X14 N10 g_o
    exact g_retV X14 hx hby hlk hret d4_280 (by decide) (by decide) (by rw [e14]; exact ⟨rfl, N16, ol, oh, tl, _, g_ol, g_oh, g_tl, n1, n2, n3, n4, n5, n6, E_o, F1, F2, F3, A_ol, A_tl, own_c1 g q 0 v hg, Or.inl ⟨A_oh, O_oh, own_c2 q 0 v hf h192⟩⟩)
  · have h192i : ¬ v.toInt = ((v.toInt32).toInt64).toInt := fun q => h192 (Int64.toInt_inj.mp q)
    refine g_aloadN X11 hx hby d4_195 (pc' := 196) rfl rfl rfl ?_
    refine g_getF X11 hx hby hZ hown e11 (hw _ (List.mem_of_getElem? (i := 19) rfl)) F3 d4_196 (pc' := 199) rfl (fun T17 X17 e17 => ?_)
    refine g_iloadN X17 hx hby d4_199 (pc' := 200) rfl rfl ?_
    refine g_aloadN X17 hx hby d4_200 (pc' := 201) rfl rfl rfl ?_
    refine g_getF X17 hx hby hZ hown e17 (hw _ (List.mem_of_getElem? (i := 17) rfl)) F2 d4_201 (pc' := 204) rfl (fun T18 X18 e18 => ?_)
    refine g_iloadN X18 hx hby d4_204 (pc' := 205) rfl rfl ?_
    refine a_aaload X18 hx hby hZ e18 A_ol rfl (by decide) (by decide) (v := (.ref tl)) (rfl) d4_205 (pc' := 206) rfl ?_
    refine a_arraylength X18 hx hby hZ e18 A_tl (N := (16 : Int32)) rfl d4_206 (pc' := 207) rfl ?_
    refine g_newAE X18 hx hby hZ e18 (N := 16) (hw _ (List.mem_of_getElem? (i := 15) rfl)) d4_207 (pc' := 209) rfl rfl (cap := 16) (Nat.le_refl _) (by decide) (by decide) (by decide) (fun T19 h19 th g19 X19 e19 E19 A_th E_th => ?_)
    have ne20 : o ≠ th := by rw [g19]; exact Nat.ne_of_lt E_o.lt
    have ne21 : ol ≠ th := by rw [g19]; exact Nat.ne_of_lt A_ol.lt
    have ne22 : tl ≠ th := by rw [g19]; exact Nat.ne_of_lt A_tl.lt
    have ne23 : oh ≠ th := by rw [g19]; exact Nat.ne_of_lt A_oh.lt
    have g24 : n0 ≤ th := by rw [g19]; exact Z9
    replace E_o := E_o.ext E19
    replace F1 := F1.ext E19
    replace F2 := F2.ext E19
    replace F3 := F3.ext E19
    replace A_ol := A_ol.ext E19
    replace A_tl := A_tl.ext E19
    replace A_oh := A_oh.ext E19
    replace O_oh := O_oh.ext E19
    have Z25 : n0 ≤ h19.size := Nat.le_trans Z9 E19.1
    replace X19 : Stand p l e ({ frames := 0, cells := 1, slots := 16, locals := 0 } : Room) s m _ below meth c T19 _ 1 16 := X19
    replace A_th : Ara Z h19 th .int 16 (fun jz => .int ((fun _ => (0 : Int32)) jz)) := A_th
    refine a_aastore X19 hx hby hZ e19 A_oh rfl (O_oh.sto A_oh E_th) (by decide) (by decide) d4_209 (pc' := 210) rfl (fun T26 h26 X26 e26 W26 => ?_)
    replace E_o := E_o.wr W26
    replace F1 := F1.other W26 (Or.inl n2)
    replace F2 := F2.other W26 (Or.inl n2)
    replace F3 := F3.other W26 (Or.inl n2)
    replace A_ol := A_ol.other W26 n4
    replace A_tl := A_tl.other W26 (Ne.symm n6)
    replace O_oh := O_oh.wr W26
    replace A_th := A_th.other W26 (Ne.symm ne23)
    replace E_th := E_th.wr W26
    have Z27 : n0 ≤ h26.size := by rw [W26.size]; exact Z25
    have N28 := Fr.snoc X26 N10 g_oh
    replace A_oh : Ara Z h26 oh (.array .int) 1 (fun _ => (.ref th)) := (A_oh.set W26).eq (fun j hj => by rw [Nat.lt_one_iff.mp hj]; rfl)
    refine g_iconst X26 hx hby d4_210 (pc' := 211) rfl (n := (0 : Int32)) (by first | rfl | decide) ?_
    refine g_istore X26 hx hby d4_211 (pc' := 213) rfl (Ls' := #[.val (.ref o), .val (.long v), .second, .val (.int (0 : Int32)), .val (.int (0 : Int32)), .val (.int (0 : Int32))]) rfl ?_
    refine g_iload X26 hx hby d4_213 (pc' := 215) rfl rfl ?_
    refine g_iload X26 hx hby d4_215 (pc' := 217) rfl rfl ?_
    refine g_icmpge X26 hx hby d4_217 (pt := 247) (pf := 220) (by decide) (by decide) rfl (fun (h217 : 0 ≤ 0) => ?_) (fun (h217 : 0 < 0) => (by exfalso; revert h217; decide))
    refine g_aloadN X26 hx hby d4_247 (pc' := 248) rfl rfl rfl ?_
    refine g_getF X26 hx hby hZ hown e26 (hw _ (List.mem_of_getElem? (i := 19) rfl)) F3 d4_248 (pc' := 251) rfl (fun T29 X29 e29 => ?_)
    refine g_iloadN X29 hx hby d4_251 (pc' := 252) rfl rfl ?_
    refine a_aaload X29 hx hby hZ e29 A_oh rfl (by decide) (by decide) (v := (.ref th)) (rfl) d4_252 (pc' := 253) rfl ?_
    refine g_ifnull X29 hx hby rfl d4_253 (pt := 270) (pf := 256) (by decide) (by decide) rfl (fun qz => nomatch qz) (fun bz qz => ?_)
    refine g_aloadN X29 hx hby d4_256 (pc' := 257) rfl rfl rfl ?_
    refine g_getF X29 hx hby hZ hown e29 (hw _ (List.mem_of_getElem? (i := 19) rfl)) F3 d4_257 (pc' := 260) rfl (fun T30 X30 e30 => ?_)
    refine g_iloadN X30 hx hby d4_260 (pc' := 261) rfl rfl ?_
    refine a_aaload X30 hx hby hZ e30 A_oh rfl (by decide) (by decide) (v := (.ref th)) (rfl) d4_261 (pc' := 262) rfl ?_
    refine g_iload X30 hx hby d4_262 (pc' := 264) rfl rfl ?_
    refine g_lloadN X30 hx hby d4_264 (pc' := 265) rfl rfl ?_
    refine g_bipush X30 hx hby d4_265 (pc' := 267) rfl (n := (32 : Int32)) (by first | rfl | decide) ?_
    refine g_lushr X30 hx hby d4_267 (pc' := 268) rfl ?_
    refine g_l2i X30 hx hby d4_268 (pc' := 269) rfl ?_
    refine a_iastore X30 hx hby hZ e30 A_th (by decide) (by decide) d4_269 (pc' := 270) rfl (fun T31 h31 X31 e31 W31 => ?_)
    replace E_o := E_o.wr W31
    replace F1 := F1.other W31 (Or.inl ne20)
    replace F2 := F2.other W31 (Or.inl ne20)
    replace F3 := F3.other W31 (Or.inl ne20)
    replace A_ol := A_ol.other W31 ne21
    replace A_tl := A_tl.other W31 ne22
    replace A_oh := A_oh.other W31 ne23
    replace O_oh := O_oh.wr W31
    replace E_th := E_th.wr W31
    have Z32 : n0 ≤ h31.size := by rw [W31.size]; exact Z27
    have N33 := Fr.snoc X31 N28 g24
    replace A_th : Ara Z h31 th .int 16 (fun jz => .int ((own_ui (fun _ => (0 : Int32)) 0 ((XT.ushrL v (32 : Int32)).toInt32)) jz)) := A_th.setI W31
    refine g_aloadN X31 hx hby d4_270 (pc' := 271) rfl rfl rfl ?_
    refine g_dup X31 hx hby d4_271 (pc' := 272) rfl rfl ?_
    refine g_getF X31 hx hby hZ hown e31 (hw _ (List.mem_of_getElem? (i := 26) rfl)) F1 d4_272 (pc' := 275) rfl (fun T34 X34 e34 => ?_)
    refine g_iconst X34 hx hby d4_275 (pc' := 276) rfl (n := (1 : Int32)) (by first | rfl | decide) ?_
    refine g_iadd X34 hx hby d4_276 (pc' := 277) rfl ?_
    show Go p e below s (QCol Z n0 o (1 : Int32) 1 (own_ul q 0 v)) ({ frames := 0, cells := 1, slots := 16, locals := 0 } : Room).cells ({ frames := 0, cells := 1, slots := 16, locals := 0 } : Room).slots m T34 277 #[.val (.ref o), .val (.long v), .second, .val (.int (0 : Int32)), .val (.int (0 : Int32)), .val (.int (0 : Int32))] [(.int (1 : Int32)), (.ref o)]
    refine g_putF X34 hx hby hZ hown e34 (hw _ (List.mem_of_getElem? (i := 26) rfl)) F1 E_o (Or.inl (hw _ (List.mem_of_getElem? (i := 27) rfl))) (hw _ (List.mem_of_getElem? (i := 5) rfl)) (ty := .int) (by decide) rfl rfl d4_277 (pc' := 280) rfl (fun T35 h35 X35 e35 W35 => ?_)
    replace E_o := E_o.wr W35
    replace F1 := F1.same W35
    replace F2 := F2.other W35 (Or.inr (slot_ne (Or.inl (hw _ (List.mem_of_getElem? (i := 18) rfl))) (Or.inl (hw _ (List.mem_of_getElem? (i := 27) rfl))) (by decide) (t := (.array (.array .int))) (t' := .int) (by decide) (by decide)))
    replace F3 := F3.other W35 (Or.inr (slot_ne (Or.inl (hw _ (List.mem_of_getElem? (i := 20) rfl))) (Or.inl (hw _ (List.mem_of_getElem? (i := 27) rfl))) (by decide) (t := (.array (.array .int))) (t' := .int) (by decide) (by decide)))
    replace A_ol := A_ol.other W35 (Ne.symm n1)
    replace A_tl := A_tl.other W35 (Ne.symm n3)
    replace A_oh := A_oh.other W35 (Ne.symm n2)
    replace O_oh := O_oh.wr W35
    replace A_th := A_th.other W35 (Ne.symm ne20)
    replace E_th := E_th.wr W35
    have Z36 : n0 ≤ h35.size := by rw [W35.size]; exact Z32
    have N37 := Fr.snoc X35 N33 g_o
    exact g_retV X35 hx hby hlk hret d4_280 (by decide) (by decide) (by rw [e35]; exact ⟨rfl, N37, ol, oh, tl, _, g_ol, g_oh, g_tl, n1, n2, n3, n4, n5, n6, E_o, F1, F2, F3, A_ol, A_tl, own_c1 g q 0 v hg, Or.inr ⟨th, _, g24, ne20, ne21, ne23, ne22, A_oh, A_th, own_c3 _ q 0 v (fun j hj => by
          exact absurd hj (Nat.not_lt_zero j))⟩⟩)
theorem ef_4_rm_as0 (m : MethodId) (o : Addr) (v : Int64) : entryFrame m #[(.ref o), (.long v)] 6 = mkF m 0 #[.val (.ref o), .val (.long v), .second, .unset, .unset, .unset] [] := by first | (simp [entryFrame, mkF, argsToLocals, Value.category]; done) | rfl
set_option maxRecDepth 65536 in
set_option maxHeartbeats 40000000 in
theorem rm_as0 (l : Launch) (Z : State) (a0 : Array Value) (hw : ∀ d ∈ tables_1, d.before a0 Z = true) (o : Addr) (v : Int64) (n0 : Nat) (ol oh tl th : Addr) (g gh : Nat → Int32) (q : Nat → Int64) (h0 : Heap) (Z0 : n0 ≤ h0.size) (g_o : n0 ≤ o) (g_ol : n0 ≤ ol) (g_oh : n0 ≤ oh) (g_tl : n0 ≤ tl) (n1 : o ≠ ol) (n2 : o ≠ oh) (n3 : o ≠ tl) (n4 : ol ≠ oh) (n5 : ol ≠ tl) (n6 : oh ≠ tl) (E_o : Exa Z h0 o "com/example/isolens/isolens/history/LongColumn") (F1 : Fld Z h0 o "com/example/isolens/isolens/history/LongColumn" "size" "I" (.int (0 : Int32))) (F2 : Fld Z h0 o "com/example/isolens/isolens/history/LongColumn" "low" "[[I" (.ref ol)) (F3 : Fld Z h0 o "com/example/isolens/isolens/history/LongColumn" "high" "[[I" (.ref oh)) (A_ol : Ara Z h0 ol (.array .int) 1 (fun _ => (.ref tl))) (A_tl : Ara Z h0 tl .int 16 (fun j => .int (g j))) (g_th : n0 ≤ th) (m1 : o ≠ th) (m2 : ol ≠ th) (m3 : oh ≠ th) (m4 : tl ≠ th) (A_oh : Ara Z h0 oh (.array .int) 1 (fun _ => (.ref th))) (A_th : Ara Z h0 th .int 16 (fun j => .int (gh j))) (hg : ∀ j, j < 0 → g j = (q j).toInt32) (hh : ∀ j, j < 0 → gh j = (XT.ushrL (q j) 32).toInt32) :
    Ct l Z (⟨"com/example/isolens/isolens/history/LongColumn", "add", "(J)V"⟩ : MethodName) prog_109_method_3_code 6 none ({ frames := 0, cells := 1, slots := 16, locals := 0 } : Room) #[(.ref o), (.long v)] h0 (QCol Z n0 o (1 : Int32) 1 (own_ul q 0 v)) := by
  refine own_met (plainFor_of_name pn_4) (fun m => ef_4_rm_as0 m o v) ?_
  intro p e s m below meth c T0 X0 hx hby hml hown hnm hret hlk hZ e0
  have N0 := Fr.nil n0
  refine g_aloadN X0 hx hby d4_0 (pc' := 1) rfl rfl rfl ?_
  refine g_getF X0 hx hby hZ hown e0 (hw _ (List.mem_of_getElem? (i := 26) rfl)) F1 d4_1 (pc' := 4) rfl (fun T1 X1 e1 => ?_)
  refine g_ldcI X1 hx hby hZ hown (hw _ (List.mem_of_getElem? (i := 28) rfl)) d4_4 (pc' := 6) rfl ?_
  refine g_icmpne X1 hx hby d4_6 (pt := 26) (pf := 9) (by decide) (by decide) rfl (fun (h6 : ¬ (0 : Int32) = (2147483647 : Int32)) => ?_) (fun (h6 : (0 : Int32) = (2147483647 : Int32)) => (by exfalso; revert h6; decide))
  refine g_aloadN X1 hx hby d4_26 (pc' := 27) rfl rfl rfl ?_
  refine g_getF X1 hx hby hZ hown e1 (hw _ (List.mem_of_getElem? (i := 26) rfl)) F1 d4_27 (pc' := 30) rfl (fun T2 X2 e2 => ?_)
  refine g_bipush X2 hx hby d4_30 (pc' := 32) rfl (n := (16 : Int32)) (by first | rfl | decide) ?_
  refine g_iushr X2 hx hby d4_32 (pc' := 33) rfl ?_
  show Go p e below s (QCol Z n0 o (1 : Int32) 1 (own_ul q 0 v)) ({ frames := 0, cells := 1, slots := 16, locals := 0 } : Room).cells ({ frames := 0, cells := 1, slots := 16, locals := 0 } : Room).slots m T2 33 #[.val (.ref o), .val (.long v), .second, .unset, .unset, .unset] [(.int (0 : Int32))]
  refine g_istoreN X2 hx hby d4_33 (pc' := 34) rfl (Ls' := #[.val (.ref o), .val (.long v), .second, .val (.int (0 : Int32)), .unset, .unset]) rfl ?_
  refine g_aloadN X2 hx hby d4_34 (pc' := 35) rfl rfl rfl ?_
  refine g_getF X2 hx hby hZ hown e2 (hw _ (List.mem_of_getElem? (i := 26) rfl)) F1 d4_35 (pc' := 38) rfl (fun T3 X3 e3 => ?_)
  refine g_ldcI X3 hx hby hZ hown (hw _ (List.mem_of_getElem? (i := 29) rfl)) d4_38 (pc' := 40) rfl ?_
  refine g_iand X3 hx hby d4_40 (pc' := 41) rfl ?_
  show Go p e below s (QCol Z n0 o (1 : Int32) 1 (own_ul q 0 v)) ({ frames := 0, cells := 1, slots := 16, locals := 0 } : Room).cells ({ frames := 0, cells := 1, slots := 16, locals := 0 } : Room).slots m T3 41 #[.val (.ref o), .val (.long v), .second, .val (.int (0 : Int32)), .unset, .unset] [(.int (0 : Int32))]
  refine g_istore X3 hx hby d4_41 (pc' := 43) rfl (Ls' := #[.val (.ref o), .val (.long v), .second, .val (.int (0 : Int32)), .val (.int (0 : Int32)), .unset]) rfl ?_
  refine g_iloadN X3 hx hby d4_43 (pc' := 44) rfl rfl ?_
  refine g_aloadN X3 hx hby d4_44 (pc' := 45) rfl rfl rfl ?_
  refine g_getF X3 hx hby hZ hown e3 (hw _ (List.mem_of_getElem? (i := 17) rfl)) F2 d4_45 (pc' := 48) rfl (fun T4 X4 e4 => ?_)
  refine a_arraylength X4 hx hby hZ e4 A_ol (N := (1 : Int32)) rfl d4_48 (pc' := 49) rfl ?_
  refine g_icmpne X4 hx hby d4_49 (pt := 86) (pf := 52) (by decide) (by decide) rfl (fun (h49 : ¬ (0 : Int32) = (1 : Int32)) => ?_) (fun (h49 : (0 : Int32) = (1 : Int32)) => (by exfalso; revert h49; decide))
  refine g_aloadN X4 hx hby d4_86 (pc' := 87) rfl rfl rfl ?_
  refine g_getF X4 hx hby hZ hown e4 (hw _ (List.mem_of_getElem? (i := 17) rfl)) F2 d4_87 (pc' := 90) rfl (fun T5 X5 e5 => ?_)
  refine g_iloadN X5 hx hby d4_90 (pc' := 91) rfl rfl ?_
  refine a_aaload X5 hx hby hZ e5 A_ol rfl (by decide) (by decide) (v := (.ref tl)) (rfl) d4_91 (pc' := 92) rfl ?_
  refine g_ifnonnull X5 hx hby rfl d4_92 (pt := 108) (pf := 95) (by decide) (by decide) rfl (fun bz qz => ?_) (fun qz => nomatch qz)
  refine g_iload X5 hx hby d4_108 (pc' := 110) rfl rfl ?_
  refine g_aloadN X5 hx hby d4_110 (pc' := 111) rfl rfl rfl ?_
  refine g_getF X5 hx hby hZ hown e5 (hw _ (List.mem_of_getElem? (i := 17) rfl)) F2 d4_111 (pc' := 114) rfl (fun T6 X6 e6 => ?_)
  refine g_iloadN X6 hx hby d4_114 (pc' := 115) rfl rfl ?_
  refine a_aaload X6 hx hby hZ e6 A_ol rfl (by decide) (by decide) (v := (.ref tl)) (rfl) d4_115 (pc' := 116) rfl ?_
  refine a_arraylength X6 hx hby hZ e6 A_tl (N := (16 : Int32)) rfl d4_116 (pc' := 117) rfl ?_
  refine g_icmpne X6 hx hby d4_117 (pt := 167) (pf := 120) (by decide) (by decide) rfl (fun (h117 : ¬ (0 : Int32) = (16 : Int32)) => ?_) (fun (h117 : (0 : Int32) = (16 : Int32)) => (by exfalso; revert h117; decide))
  refine g_aloadN X6 hx hby d4_167 (pc' := 168) rfl rfl rfl ?_
  refine g_getF X6 hx hby hZ hown e6 (hw _ (List.mem_of_getElem? (i := 17) rfl)) F2 d4_168 (pc' := 171) rfl (fun T7 X7 e7 => ?_)
  refine g_iloadN X7 hx hby d4_171 (pc' := 172) rfl rfl ?_
  refine a_aaload X7 hx hby hZ e7 A_ol rfl (by decide) (by decide) (v := (.ref tl)) (rfl) d4_172 (pc' := 173) rfl ?_
  refine g_iload X7 hx hby d4_173 (pc' := 175) rfl rfl ?_
  refine g_lloadN X7 hx hby d4_175 (pc' := 176) rfl rfl ?_
  refine g_l2i X7 hx hby d4_176 (pc' := 177) rfl ?_
  refine a_iastore X7 hx hby hZ e7 A_tl (by decide) (by decide) d4_177 (pc' := 178) rfl (fun T8 h8 X8 e8 W8 => ?_)
  replace E_o := E_o.wr W8
  replace F1 := F1.other W8 (Or.inl n3)
  replace F2 := F2.other W8 (Or.inl n3)
  replace F3 := F3.other W8 (Or.inl n3)
  replace A_ol := A_ol.other W8 n5
  replace A_oh := A_oh.other W8 n6
  replace A_th := A_th.other W8 (Ne.symm m4)
  have Z9 : n0 ≤ h8.size := by rw [W8.size]; exact Z0
  have N10 := Fr.snoc X8 N0 g_tl
  replace A_tl : Ara Z h8 tl .int 16 (fun jz => .int ((own_ui g 0 (v.toInt32)) jz)) := A_tl.setI W8
  refine g_aloadN X8 hx hby d4_178 (pc' := 179) rfl rfl rfl ?_
  refine g_getF X8 hx hby hZ hown e8 (hw _ (List.mem_of_getElem? (i := 19) rfl)) F3 d4_179 (pc' := 182) rfl (fun T11 X11 e11 => ?_)
  refine g_iloadN X11 hx hby d4_182 (pc' := 183) rfl rfl ?_
  refine a_aaload X11 hx hby hZ e11 A_oh rfl (by decide) (by decide) (v := (.ref th)) (rfl) d4_183 (pc' := 184) rfl ?_
  refine g_ifnonnull X11 hx hby rfl d4_184 (pt := 247) (pf := 187) (by decide) (by decide) rfl (fun bz qz => ?_) (fun qz => nomatch qz)
  refine g_aloadN X11 hx hby d4_247 (pc' := 248) rfl rfl rfl ?_
  refine g_getF X11 hx hby hZ hown e11 (hw _ (List.mem_of_getElem? (i := 19) rfl)) F3 d4_248 (pc' := 251) rfl (fun T12 X12 e12 => ?_)
  refine g_iloadN X12 hx hby d4_251 (pc' := 252) rfl rfl ?_
  refine a_aaload X12 hx hby hZ e12 A_oh rfl (by decide) (by decide) (v := (.ref th)) (rfl) d4_252 (pc' := 253) rfl ?_
  refine g_ifnull X12 hx hby rfl d4_253 (pt := 270) (pf := 256) (by decide) (by decide) rfl (fun qz => nomatch qz) (fun bz qz => ?_)
  refine g_aloadN X12 hx hby d4_256 (pc' := 257) rfl rfl rfl ?_
  refine g_getF X12 hx hby hZ hown e12 (hw _ (List.mem_of_getElem? (i := 19) rfl)) F3 d4_257 (pc' := 260) rfl (fun T13 X13 e13 => ?_)
  refine g_iloadN X13 hx hby d4_260 (pc' := 261) rfl rfl ?_
  refine a_aaload X13 hx hby hZ e13 A_oh rfl (by decide) (by decide) (v := (.ref th)) (rfl) d4_261 (pc' := 262) rfl ?_
  refine g_iload X13 hx hby d4_262 (pc' := 264) rfl rfl ?_
  refine g_lloadN X13 hx hby d4_264 (pc' := 265) rfl rfl ?_
  refine g_bipush X13 hx hby d4_265 (pc' := 267) rfl (n := (32 : Int32)) (by first | rfl | decide) ?_
  refine g_lushr X13 hx hby d4_267 (pc' := 268) rfl ?_
  refine g_l2i X13 hx hby d4_268 (pc' := 269) rfl ?_
  refine a_iastore X13 hx hby hZ e13 A_th (by decide) (by decide) d4_269 (pc' := 270) rfl (fun T14 h14 X14 e14 W14 => ?_)
  replace E_o := E_o.wr W14
  replace F1 := F1.other W14 (Or.inl m1)
  replace F2 := F2.other W14 (Or.inl m1)
  replace F3 := F3.other W14 (Or.inl m1)
  replace A_ol := A_ol.other W14 m2
  replace A_tl := A_tl.other W14 m4
  replace A_oh := A_oh.other W14 m3
  have Z15 : n0 ≤ h14.size := by rw [W14.size]; exact Z9
  have N16 := Fr.snoc X14 N10 g_th
  replace A_th : Ara Z h14 th .int 16 (fun jz => .int ((own_ui gh 0 ((XT.ushrL v (32 : Int32)).toInt32)) jz)) := A_th.setI W14
  refine g_aloadN X14 hx hby d4_270 (pc' := 271) rfl rfl rfl ?_
  refine g_dup X14 hx hby d4_271 (pc' := 272) rfl rfl ?_
  refine g_getF X14 hx hby hZ hown e14 (hw _ (List.mem_of_getElem? (i := 26) rfl)) F1 d4_272 (pc' := 275) rfl (fun T17 X17 e17 => ?_)
  refine g_iconst X17 hx hby d4_275 (pc' := 276) rfl (n := (1 : Int32)) (by first | rfl | decide) ?_
  refine g_iadd X17 hx hby d4_276 (pc' := 277) rfl ?_
  show Go p e below s (QCol Z n0 o (1 : Int32) 1 (own_ul q 0 v)) ({ frames := 0, cells := 1, slots := 16, locals := 0 } : Room).cells ({ frames := 0, cells := 1, slots := 16, locals := 0 } : Room).slots m T17 277 #[.val (.ref o), .val (.long v), .second, .val (.int (0 : Int32)), .val (.int (0 : Int32)), .unset] [(.int (1 : Int32)), (.ref o)]
  refine g_putF X17 hx hby hZ hown e17 (hw _ (List.mem_of_getElem? (i := 26) rfl)) F1 E_o (Or.inl (hw _ (List.mem_of_getElem? (i := 27) rfl))) (hw _ (List.mem_of_getElem? (i := 5) rfl)) (ty := .int) (by decide) rfl rfl d4_277 (pc' := 280) rfl (fun T18 h18 X18 e18 W18 => ?_)
  replace E_o := E_o.wr W18
  replace F1 := F1.same W18
  replace F2 := F2.other W18 (Or.inr (slot_ne (Or.inl (hw _ (List.mem_of_getElem? (i := 18) rfl))) (Or.inl (hw _ (List.mem_of_getElem? (i := 27) rfl))) (by decide) (t := (.array (.array .int))) (t' := .int) (by decide) (by decide)))
  replace F3 := F3.other W18 (Or.inr (slot_ne (Or.inl (hw _ (List.mem_of_getElem? (i := 20) rfl))) (Or.inl (hw _ (List.mem_of_getElem? (i := 27) rfl))) (by decide) (t := (.array (.array .int))) (t' := .int) (by decide) (by decide)))
  replace A_ol := A_ol.other W18 (Ne.symm n1)
  replace A_tl := A_tl.other W18 (Ne.symm n3)
  replace A_oh := A_oh.other W18 (Ne.symm n2)
  replace A_th := A_th.other W18 (Ne.symm m1)
  have Z19 : n0 ≤ h18.size := by rw [W18.size]; exact Z15
  have N20 := Fr.snoc X18 N16 g_o
  exact g_retV X18 hx hby hlk hret d4_280 (by decide) (by decide) (by rw [e18]; exact ⟨rfl, N20, ol, oh, tl, _, g_ol, g_oh, g_tl, n1, n2, n3, n4, n5, n6, E_o, F1, F2, F3, A_ol, A_tl, own_c1 g q 0 v hg, Or.inr ⟨th, _, g_th, m1, m2, m3, m4, A_oh, A_th, own_c3 gh q 0 v hh⟩⟩)
theorem rm_add0 (l : Launch) (Z : State) (a0 : Array Value) (hw : ∀ d ∈ tables_1, d.before a0 Z = true) (o : Addr) (v : Int64) (n0 : Nat) (q : Nat → Int64) (h0 : Heap) (g_o : n0 ≤ o) (cl : Col Z n0 h0 o (0 : Int32) 0 q) :
    Ct l Z (⟨"com/example/isolens/isolens/history/LongColumn", "add", "(J)V"⟩ : MethodName) prog_109_method_3_code 6 none ({ frames := 0, cells := 1, slots := 16, locals := 0 } : Room) #[(.ref o), (.long v)] h0 (QCol Z n0 o (1 : Int32) 1 (own_ul q 0 v)) := by
  have Z0 := own_colsz cl
  obtain ⟨ol, oh, tl, g, g_ol, g_oh, g_tl, n1, n2, n3, n4, n5, n6, E_o, F1, F2, F3, A_ol, A_tl, hg, c⟩ := cl
  rcases c with ⟨A_oh, O_oh, hf⟩ | ⟨th, gh, g_th, m1, m2, m3, m4, A_oh, A_th, hh⟩
  · exact rm_an0 l Z a0 hw o v n0 ol oh tl g q h0 Z0 g_o g_ol g_oh g_tl n1 n2 n3 n4 n5 n6 E_o F1 F2 F3 A_ol A_tl A_oh O_oh hg hf
  · exact rm_as0 l Z a0 hw o v n0 ol oh tl th g gh q h0 Z0 g_o g_ol g_oh g_tl n1 n2 n3 n4 n5 n6 E_o F1 F2 F3 A_ol A_tl g_th m1 m2 m3 m4 A_oh A_th hg hh
theorem ef_4_rm_an1 (m : MethodId) (o : Addr) (v : Int64) : entryFrame m #[(.ref o), (.long v)] 6 = mkF m 0 #[.val (.ref o), .val (.long v), .second, .unset, .unset, .unset] [] := by first | (simp [entryFrame, mkF, argsToLocals, Value.category]; done) | rfl
theorem d4_220 : decode prog_109_method_3_code 220 = .ok (.aload_n 0, 1) := by decide +kernel
theorem d4_221 : decode prog_109_method_3_code 221 = .ok (.getfield 15, 3) := by decide +kernel
theorem d4_224 : decode prog_109_method_3_code 224 = .ok (.iload_n 3, 1) := by decide +kernel
theorem d4_225 : decode prog_109_method_3_code 225 = .ok (.aaload, 1) := by decide +kernel
theorem d4_226 : decode prog_109_method_3_code 226 = .ok (.iload 5, 2) := by decide +kernel
theorem d4_228 : decode prog_109_method_3_code 228 = .ok (.aload_n 0, 1) := by decide +kernel
theorem d4_229 : decode prog_109_method_3_code 229 = .ok (.getfield 11, 3) := by decide +kernel
theorem d4_232 : decode prog_109_method_3_code 232 = .ok (.iload_n 3, 1) := by decide +kernel
theorem d4_233 : decode prog_109_method_3_code 233 = .ok (.aaload, 1) := by decide +kernel
theorem d4_234 : decode prog_109_method_3_code 234 = .ok (.iload 5, 2) := by decide +kernel
theorem d4_236 : decode prog_109_method_3_code 236 = .ok (.iaload, 1) := by decide +kernel
theorem d4_237 : decode prog_109_method_3_code 237 = .ok (.bipush 31, 2) := by decide +kernel
theorem d4_239 : decode prog_109_method_3_code 239 = .ok (.ishr, 1) := by decide +kernel
theorem d4_240 : decode prog_109_method_3_code 240 = .ok (.iastore, 1) := by decide +kernel
theorem d4_241 : decode prog_109_method_3_code 241 = .ok (.iinc 5 1, 3) := by decide +kernel
theorem d4_244 : decode prog_109_method_3_code 244 = .ok (.goto (-31), 3) := by decide +kernel
set_option maxRecDepth 65536 in
set_option maxHeartbeats 40000000 in
theorem rm_an1 (l : Launch) (Z : State) (a0 : Array Value) (hw : ∀ d ∈ tables_1, d.before a0 Z = true) (o : Addr) (v : Int64) (n0 : Nat) (ol oh tl : Addr) (g : Nat → Int32) (q : Nat → Int64) (h0 : Heap) (Z0 : n0 ≤ h0.size) (g_o : n0 ≤ o) (g_ol : n0 ≤ ol) (g_oh : n0 ≤ oh) (g_tl : n0 ≤ tl) (n1 : o ≠ ol) (n2 : o ≠ oh) (n3 : o ≠ tl) (n4 : ol ≠ oh) (n5 : ol ≠ tl) (n6 : oh ≠ tl) (E_o : Exa Z h0 o "com/example/isolens/isolens/history/LongColumn") (F1 : Fld Z h0 o "com/example/isolens/isolens/history/LongColumn" "size" "I" (.int (1 : Int32))) (F2 : Fld Z h0 o "com/example/isolens/isolens/history/LongColumn" "low" "[[I" (.ref ol)) (F3 : Fld Z h0 o "com/example/isolens/isolens/history/LongColumn" "high" "[[I" (.ref oh)) (A_ol : Ara Z h0 ol (.array .int) 1 (fun _ => (.ref tl))) (A_tl : Ara Z h0 tl .int 16 (fun j => .int (g j))) (A_oh : Ara Z h0 oh (.array .int) 1 (fun _ => .null)) (O_oh : Ovi Z h0 oh) (hg : ∀ j, j < 1 → g j = (q j).toInt32) (hf : ∀ j, j < 1 → q j = (q j).toInt32.toInt64) :
    Ct l Z (⟨"com/example/isolens/isolens/history/LongColumn", "add", "(J)V"⟩ : MethodName) prog_109_method_3_code 6 none ({ frames := 0, cells := 1, slots := 16, locals := 0 } : Room) #[(.ref o), (.long v)] h0 (QCol Z n0 o (2 : Int32) 2 (own_ul q 1 v)) := by
  refine own_met (plainFor_of_name pn_4) (fun m => ef_4_rm_an1 m o v) ?_
  intro p e s m below meth c T0 X0 hx hby hml hown hnm hret hlk hZ e0
  have N0 := Fr.nil n0
  refine g_aloadN X0 hx hby d4_0 (pc' := 1) rfl rfl rfl ?_
  refine g_getF X0 hx hby hZ hown e0 (hw _ (List.mem_of_getElem? (i := 26) rfl)) F1 d4_1 (pc' := 4) rfl (fun T1 X1 e1 => ?_)
  refine g_ldcI X1 hx hby hZ hown (hw _ (List.mem_of_getElem? (i := 28) rfl)) d4_4 (pc' := 6) rfl ?_
  refine g_icmpne X1 hx hby d4_6 (pt := 26) (pf := 9) (by decide) (by decide) rfl (fun (h6 : ¬ (1 : Int32) = (2147483647 : Int32)) => ?_) (fun (h6 : (1 : Int32) = (2147483647 : Int32)) => (by exfalso; revert h6; decide))
  refine g_aloadN X1 hx hby d4_26 (pc' := 27) rfl rfl rfl ?_
  refine g_getF X1 hx hby hZ hown e1 (hw _ (List.mem_of_getElem? (i := 26) rfl)) F1 d4_27 (pc' := 30) rfl (fun T2 X2 e2 => ?_)
  refine g_bipush X2 hx hby d4_30 (pc' := 32) rfl (n := (16 : Int32)) (by first | rfl | decide) ?_
  refine g_iushr X2 hx hby d4_32 (pc' := 33) rfl ?_
  show Go p e below s (QCol Z n0 o (2 : Int32) 2 (own_ul q 1 v)) ({ frames := 0, cells := 1, slots := 16, locals := 0 } : Room).cells ({ frames := 0, cells := 1, slots := 16, locals := 0 } : Room).slots m T2 33 #[.val (.ref o), .val (.long v), .second, .unset, .unset, .unset] [(.int (0 : Int32))]
  refine g_istoreN X2 hx hby d4_33 (pc' := 34) rfl (Ls' := #[.val (.ref o), .val (.long v), .second, .val (.int (0 : Int32)), .unset, .unset]) rfl ?_
  refine g_aloadN X2 hx hby d4_34 (pc' := 35) rfl rfl rfl ?_
  refine g_getF X2 hx hby hZ hown e2 (hw _ (List.mem_of_getElem? (i := 26) rfl)) F1 d4_35 (pc' := 38) rfl (fun T3 X3 e3 => ?_)
  refine g_ldcI X3 hx hby hZ hown (hw _ (List.mem_of_getElem? (i := 29) rfl)) d4_38 (pc' := 40) rfl ?_
  refine g_iand X3 hx hby d4_40 (pc' := 41) rfl ?_
  show Go p e below s (QCol Z n0 o (2 : Int32) 2 (own_ul q 1 v)) ({ frames := 0, cells := 1, slots := 16, locals := 0 } : Room).cells ({ frames := 0, cells := 1, slots := 16, locals := 0 } : Room).slots m T3 41 #[.val (.ref o), .val (.long v), .second, .val (.int (0 : Int32)), .unset, .unset] [(.int (1 : Int32))]
  refine g_istore X3 hx hby d4_41 (pc' := 43) rfl (Ls' := #[.val (.ref o), .val (.long v), .second, .val (.int (0 : Int32)), .val (.int (1 : Int32)), .unset]) rfl ?_
  refine g_iloadN X3 hx hby d4_43 (pc' := 44) rfl rfl ?_
  refine g_aloadN X3 hx hby d4_44 (pc' := 45) rfl rfl rfl ?_
  refine g_getF X3 hx hby hZ hown e3 (hw _ (List.mem_of_getElem? (i := 17) rfl)) F2 d4_45 (pc' := 48) rfl (fun T4 X4 e4 => ?_)
  refine a_arraylength X4 hx hby hZ e4 A_ol (N := (1 : Int32)) rfl d4_48 (pc' := 49) rfl ?_
  refine g_icmpne X4 hx hby d4_49 (pt := 86) (pf := 52) (by decide) (by decide) rfl (fun (h49 : ¬ (0 : Int32) = (1 : Int32)) => ?_) (fun (h49 : (0 : Int32) = (1 : Int32)) => (by exfalso; revert h49; decide))
  refine g_aloadN X4 hx hby d4_86 (pc' := 87) rfl rfl rfl ?_
  refine g_getF X4 hx hby hZ hown e4 (hw _ (List.mem_of_getElem? (i := 17) rfl)) F2 d4_87 (pc' := 90) rfl (fun T5 X5 e5 => ?_)
  refine g_iloadN X5 hx hby d4_90 (pc' := 91) rfl rfl ?_
  refine a_aaload X5 hx hby hZ e5 A_ol rfl (by decide) (by decide) (v := (.ref tl)) (rfl) d4_91 (pc' := 92) rfl ?_
  refine g_ifnonnull X5 hx hby rfl d4_92 (pt := 108) (pf := 95) (by decide) (by decide) rfl (fun bz qz => ?_) (fun qz => nomatch qz)
  refine g_iload X5 hx hby d4_108 (pc' := 110) rfl rfl ?_
  refine g_aloadN X5 hx hby d4_110 (pc' := 111) rfl rfl rfl ?_
  refine g_getF X5 hx hby hZ hown e5 (hw _ (List.mem_of_getElem? (i := 17) rfl)) F2 d4_111 (pc' := 114) rfl (fun T6 X6 e6 => ?_)
  refine g_iloadN X6 hx hby d4_114 (pc' := 115) rfl rfl ?_
  refine a_aaload X6 hx hby hZ e6 A_ol rfl (by decide) (by decide) (v := (.ref tl)) (rfl) d4_115 (pc' := 116) rfl ?_
  refine a_arraylength X6 hx hby hZ e6 A_tl (N := (16 : Int32)) rfl d4_116 (pc' := 117) rfl ?_
  refine g_icmpne X6 hx hby d4_117 (pt := 167) (pf := 120) (by decide) (by decide) rfl (fun (h117 : ¬ (1 : Int32) = (16 : Int32)) => ?_) (fun (h117 : (1 : Int32) = (16 : Int32)) => (by exfalso; revert h117; decide))
  refine g_aloadN X6 hx hby d4_167 (pc' := 168) rfl rfl rfl ?_
  refine g_getF X6 hx hby hZ hown e6 (hw _ (List.mem_of_getElem? (i := 17) rfl)) F2 d4_168 (pc' := 171) rfl (fun T7 X7 e7 => ?_)
  refine g_iloadN X7 hx hby d4_171 (pc' := 172) rfl rfl ?_
  refine a_aaload X7 hx hby hZ e7 A_ol rfl (by decide) (by decide) (v := (.ref tl)) (rfl) d4_172 (pc' := 173) rfl ?_
  refine g_iload X7 hx hby d4_173 (pc' := 175) rfl rfl ?_
  refine g_lloadN X7 hx hby d4_175 (pc' := 176) rfl rfl ?_
  refine g_l2i X7 hx hby d4_176 (pc' := 177) rfl ?_
  refine a_iastore X7 hx hby hZ e7 A_tl (by decide) (by decide) d4_177 (pc' := 178) rfl (fun T8 h8 X8 e8 W8 => ?_)
  replace E_o := E_o.wr W8
  replace F1 := F1.other W8 (Or.inl n3)
  replace F2 := F2.other W8 (Or.inl n3)
  replace F3 := F3.other W8 (Or.inl n3)
  replace A_ol := A_ol.other W8 n5
  replace A_oh := A_oh.other W8 n6
  replace O_oh := O_oh.wr W8
  have Z9 : n0 ≤ h8.size := by rw [W8.size]; exact Z0
  have N10 := Fr.snoc X8 N0 g_tl
  replace A_tl : Ara Z h8 tl .int 16 (fun jz => .int ((own_ui g 1 (v.toInt32)) jz)) := A_tl.setI W8
  refine g_aloadN X8 hx hby d4_178 (pc' := 179) rfl rfl rfl ?_
  refine g_getF X8 hx hby hZ hown e8 (hw _ (List.mem_of_getElem? (i := 19) rfl)) F3 d4_179 (pc' := 182) rfl (fun T11 X11 e11 => ?_)
  refine g_iloadN X11 hx hby d4_182 (pc' := 183) rfl rfl ?_
  refine a_aaload X11 hx hby hZ e11 A_oh rfl (by decide) (by decide) (v := .null) (rfl) d4_183 (pc' := 184) rfl ?_
  refine g_ifnonnull X11 hx hby rfl d4_184 (pt := 247) (pf := 187) (by decide) (by decide) rfl (fun bz qz => nomatch qz) (fun qz => ?_)
  refine g_lloadN X11 hx hby d4_187 (pc' := 188) rfl rfl ?_
  refine g_lloadN X11 hx hby d4_188 (pc' := 189) rfl rfl ?_
  refine g_l2i X11 hx hby d4_189 (pc' := 190) rfl ?_
  refine g_i2l X11 hx hby d4_190 (pc' := 191) rfl ?_
  refine g_lcmpeq X11 hx hby d4_191 (pc' := 192) rfl d4_192 (pt := 247) (pf := 195) (by decide) (by decide) rfl (fun (h192 : v = ((v.toInt32).toInt64)) => ?_) (fun (h192 : ¬ v = ((v.toInt32).toInt64)) => ?_)
  · have h192i : v.toInt = ((v.toInt32).toInt64).toInt := congrArg Int64.toInt h192
    refine g_aloadN X11 hx hby d4_247 (pc' := 248) rfl rfl rfl ?_
    refine g_getF X11 hx hby hZ hown e11 (hw _ (List.mem_of_getElem? (i := 19) rfl)) F3 d4_248 (pc' := 251) rfl (fun T12 X12 e12 => ?_)
    refine g_iloadN X12 hx hby d4_251 (pc' := 252) rfl rfl ?_
    refine a_aaload X12 hx hby hZ e12 A_oh rfl (by decide) (by decide) (v := .null) (rfl) d4_252 (pc' := 253) rfl ?_
    refine g_ifnull X12 hx hby rfl d4_253 (pt := 270) (pf := 256) (by decide) (by decide) rfl (fun qz => ?_) (fun bz qz => nomatch qz)
    refine g_aloadN X12 hx hby d4_270 (pc' := 271) rfl rfl rfl ?_
    refine g_dup X12 hx hby d4_271 (pc' := 272) rfl rfl ?_
    refine g_getF X12 hx hby hZ hown e12 (hw _ (List.mem_of_getElem? (i := 26) rfl)) F1 d4_272 (pc' := 275) rfl (fun T13 X13 e13 => ?_)
    refine g_iconst X13 hx hby d4_275 (pc' := 276) rfl (n := (1 : Int32)) (by first | rfl | decide) ?_
    refine g_iadd X13 hx hby d4_276 (pc' := 277) rfl ?_
    show Go p e below s (QCol Z n0 o (2 : Int32) 2 (own_ul q 1 v)) ({ frames := 0, cells := 1, slots := 16, locals := 0 } : Room).cells ({ frames := 0, cells := 1, slots := 16, locals := 0 } : Room).slots m T13 277 #[.val (.ref o), .val (.long v), .second, .val (.int (0 : Int32)), .val (.int (1 : Int32)), .unset] [(.int (2 : Int32)), (.ref o)]
    refine g_putF X13 hx hby hZ hown e13 (hw _ (List.mem_of_getElem? (i := 26) rfl)) F1 E_o (Or.inl (hw _ (List.mem_of_getElem? (i := 27) rfl))) (hw _ (List.mem_of_getElem? (i := 5) rfl)) (ty := .int) (by decide) rfl rfl d4_277 (pc' := 280) rfl (fun T14 h14 X14 e14 W14 => ?_)
    replace E_o := E_o.wr W14
    replace F1 := F1.same W14
    replace F2 := F2.other W14 (Or.inr (slot_ne (Or.inl (hw _ (List.mem_of_getElem? (i := 18) rfl))) (Or.inl (hw _ (List.mem_of_getElem? (i := 27) rfl))) (by decide) (t := (.array (.array .int))) (t' := .int) (by decide) (by decide)))
    replace F3 := F3.other W14 (Or.inr (slot_ne (Or.inl (hw _ (List.mem_of_getElem? (i := 20) rfl))) (Or.inl (hw _ (List.mem_of_getElem? (i := 27) rfl))) (by decide) (t := (.array (.array .int))) (t' := .int) (by decide) (by decide)))
    replace A_ol := A_ol.other W14 (Ne.symm n1)
    replace A_tl := A_tl.other W14 (Ne.symm n3)
    replace A_oh := A_oh.other W14 (Ne.symm n2)
    replace O_oh := O_oh.wr W14
    have Z15 : n0 ≤ h14.size := by rw [W14.size]; exact Z9
    have N16 := Fr.snoc X14 N10 g_o
    exact g_retV X14 hx hby hlk hret d4_280 (by decide) (by decide) (by rw [e14]; exact ⟨rfl, N16, ol, oh, tl, _, g_ol, g_oh, g_tl, n1, n2, n3, n4, n5, n6, E_o, F1, F2, F3, A_ol, A_tl, own_c1 g q 1 v hg, Or.inl ⟨A_oh, O_oh, own_c2 q 1 v hf h192⟩⟩)
  · have h192i : ¬ v.toInt = ((v.toInt32).toInt64).toInt := fun q => h192 (Int64.toInt_inj.mp q)
    refine g_aloadN X11 hx hby d4_195 (pc' := 196) rfl rfl rfl ?_
    refine g_getF X11 hx hby hZ hown e11 (hw _ (List.mem_of_getElem? (i := 19) rfl)) F3 d4_196 (pc' := 199) rfl (fun T17 X17 e17 => ?_)
    refine g_iloadN X17 hx hby d4_199 (pc' := 200) rfl rfl ?_
    refine g_aloadN X17 hx hby d4_200 (pc' := 201) rfl rfl rfl ?_
    refine g_getF X17 hx hby hZ hown e17 (hw _ (List.mem_of_getElem? (i := 17) rfl)) F2 d4_201 (pc' := 204) rfl (fun T18 X18 e18 => ?_)
    refine g_iloadN X18 hx hby d4_204 (pc' := 205) rfl rfl ?_
    refine a_aaload X18 hx hby hZ e18 A_ol rfl (by decide) (by decide) (v := (.ref tl)) (rfl) d4_205 (pc' := 206) rfl ?_
    refine a_arraylength X18 hx hby hZ e18 A_tl (N := (16 : Int32)) rfl d4_206 (pc' := 207) rfl ?_
    refine g_newAE X18 hx hby hZ e18 (N := 16) (hw _ (List.mem_of_getElem? (i := 15) rfl)) d4_207 (pc' := 209) rfl rfl (cap := 16) (Nat.le_refl _) (by decide) (by decide) (by decide) (fun T19 h19 th g19 X19 e19 E19 A_th E_th => ?_)
    have ne20 : o ≠ th := by rw [g19]; exact Nat.ne_of_lt E_o.lt
    have ne21 : ol ≠ th := by rw [g19]; exact Nat.ne_of_lt A_ol.lt
    have ne22 : tl ≠ th := by rw [g19]; exact Nat.ne_of_lt A_tl.lt
    have ne23 : oh ≠ th := by rw [g19]; exact Nat.ne_of_lt A_oh.lt
    have g24 : n0 ≤ th := by rw [g19]; exact Z9
    replace E_o := E_o.ext E19
    replace F1 := F1.ext E19
    replace F2 := F2.ext E19
    replace F3 := F3.ext E19
    replace A_ol := A_ol.ext E19
    replace A_tl := A_tl.ext E19
    replace A_oh := A_oh.ext E19
    replace O_oh := O_oh.ext E19
    have Z25 : n0 ≤ h19.size := Nat.le_trans Z9 E19.1
    replace X19 : Stand p l e ({ frames := 0, cells := 1, slots := 16, locals := 0 } : Room) s m _ below meth c T19 _ 1 16 := X19
    replace A_th : Ara Z h19 th .int 16 (fun jz => .int ((fun _ => (0 : Int32)) jz)) := A_th
    refine a_aastore X19 hx hby hZ e19 A_oh rfl (O_oh.sto A_oh E_th) (by decide) (by decide) d4_209 (pc' := 210) rfl (fun T26 h26 X26 e26 W26 => ?_)
    replace E_o := E_o.wr W26
    replace F1 := F1.other W26 (Or.inl n2)
    replace F2 := F2.other W26 (Or.inl n2)
    replace F3 := F3.other W26 (Or.inl n2)
    replace A_ol := A_ol.other W26 n4
    replace A_tl := A_tl.other W26 (Ne.symm n6)
    replace O_oh := O_oh.wr W26
    replace A_th := A_th.other W26 (Ne.symm ne23)
    replace E_th := E_th.wr W26
    have Z27 : n0 ≤ h26.size := by rw [W26.size]; exact Z25
    have N28 := Fr.snoc X26 N10 g_oh
    replace A_oh : Ara Z h26 oh (.array .int) 1 (fun _ => (.ref th)) := (A_oh.set W26).eq (fun j hj => by rw [Nat.lt_one_iff.mp hj]; rfl)
    refine g_iconst X26 hx hby d4_210 (pc' := 211) rfl (n := (0 : Int32)) (by first | rfl | decide) ?_
    refine g_istore X26 hx hby d4_211 (pc' := 213) rfl (Ls' := #[.val (.ref o), .val (.long v), .second, .val (.int (0 : Int32)), .val (.int (1 : Int32)), .val (.int (0 : Int32))]) rfl ?_
    refine g_iload X26 hx hby d4_213 (pc' := 215) rfl rfl ?_
    refine g_iload X26 hx hby d4_215 (pc' := 217) rfl rfl ?_
    refine g_icmpge X26 hx hby d4_217 (pt := 247) (pf := 220) (by decide) (by decide) rfl (fun (h217 : 1 ≤ 0) => (by exfalso; revert h217; decide)) (fun (h217 : 0 < 1) => ?_)
    refine g_aloadN X26 hx hby d4_220 (pc' := 221) rfl rfl rfl ?_
    refine g_getF X26 hx hby hZ hown e26 (hw _ (List.mem_of_getElem? (i := 19) rfl)) F3 d4_221 (pc' := 224) rfl (fun T29 X29 e29 => ?_)
    refine g_iloadN X29 hx hby d4_224 (pc' := 225) rfl rfl ?_
    refine a_aaload X29 hx hby hZ e29 A_oh rfl (by decide) (by decide) (v := (.ref th)) (rfl) d4_225 (pc' := 226) rfl ?_
    refine g_iload X29 hx hby d4_226 (pc' := 228) rfl rfl ?_
    refine g_aloadN X29 hx hby d4_228 (pc' := 229) rfl rfl rfl ?_
    refine g_getF X29 hx hby hZ hown e29 (hw _ (List.mem_of_getElem? (i := 17) rfl)) F2 d4_229 (pc' := 232) rfl (fun T30 X30 e30 => ?_)
    refine g_iloadN X30 hx hby d4_232 (pc' := 233) rfl rfl ?_
    refine a_aaload X30 hx hby hZ e30 A_ol rfl (by decide) (by decide) (v := (.ref tl)) (rfl) d4_233 (pc' := 234) rfl ?_
    refine g_iload X30 hx hby d4_234 (pc' := 236) rfl rfl ?_
    refine a_iaload X30 hx hby hZ e30 A_tl (by decide) (by decide) (v := (.int ((own_ui g 1 (v.toInt32)) 0))) (rfl) d4_236 (pc' := 237) rfl ?_
    refine g_bipush X30 hx hby d4_237 (pc' := 239) rfl (n := (31 : Int32)) (by first | rfl | decide) ?_
    refine g_ishr X30 hx hby d4_239 (pc' := 240) rfl ?_
    refine a_iastore X30 hx hby hZ e30 A_th (by decide) (by decide) d4_240 (pc' := 241) rfl (fun T31 h31 X31 e31 W31 => ?_)
    replace E_o := E_o.wr W31
    replace F1 := F1.other W31 (Or.inl ne20)
    replace F2 := F2.other W31 (Or.inl ne20)
    replace F3 := F3.other W31 (Or.inl ne20)
    replace A_ol := A_ol.other W31 ne21
    replace A_tl := A_tl.other W31 ne22
    replace A_oh := A_oh.other W31 ne23
    replace O_oh := O_oh.wr W31
    replace E_th := E_th.wr W31
    have Z32 : n0 ≤ h31.size := by rw [W31.size]; exact Z27
    have N33 := Fr.snoc X31 N28 g24
    replace A_th : Ara Z h31 th .int 16 (fun jz => .int ((own_ui (fun _ => (0 : Int32)) 0 (((own_ui g 1 (v.toInt32)) 0) >>> ((31 : Int32) &&& 31))) jz)) := A_th.setI W31
    refine g_iinc X31 hx hby d4_241 (pc' := 244) rfl rfl (Ls' := #[.val (.ref o), .val (.long v), .second, .val (.int (0 : Int32)), .val (.int (1 : Int32)), .val (.int (1 : Int32))]) rfl ?_
    refine g_goto X31 hx hby d4_244 (pc' := 213) (by decide) (by decide) ?_
    refine g_iload X31 hx hby d4_213 (pc' := 215) rfl rfl ?_
    refine g_iload X31 hx hby d4_215 (pc' := 217) rfl rfl ?_
    refine g_icmpge X31 hx hby d4_217 (pt := 247) (pf := 220) (by decide) (by decide) rfl (fun (h217 : 1 ≤ 1) => ?_) (fun (h217 : 1 < 1) => (by exfalso; revert h217; decide))
    refine g_aloadN X31 hx hby d4_247 (pc' := 248) rfl rfl rfl ?_
    refine g_getF X31 hx hby hZ hown e31 (hw _ (List.mem_of_getElem? (i := 19) rfl)) F3 d4_248 (pc' := 251) rfl (fun T34 X34 e34 => ?_)
    refine g_iloadN X34 hx hby d4_251 (pc' := 252) rfl rfl ?_
    refine a_aaload X34 hx hby hZ e34 A_oh rfl (by decide) (by decide) (v := (.ref th)) (rfl) d4_252 (pc' := 253) rfl ?_
    refine g_ifnull X34 hx hby rfl d4_253 (pt := 270) (pf := 256) (by decide) (by decide) rfl (fun qz => nomatch qz) (fun bz qz => ?_)
    refine g_aloadN X34 hx hby d4_256 (pc' := 257) rfl rfl rfl ?_
    refine g_getF X34 hx hby hZ hown e34 (hw _ (List.mem_of_getElem? (i := 19) rfl)) F3 d4_257 (pc' := 260) rfl (fun T35 X35 e35 => ?_)
    refine g_iloadN X35 hx hby d4_260 (pc' := 261) rfl rfl ?_
    refine a_aaload X35 hx hby hZ e35 A_oh rfl (by decide) (by decide) (v := (.ref th)) (rfl) d4_261 (pc' := 262) rfl ?_
    refine g_iload X35 hx hby d4_262 (pc' := 264) rfl rfl ?_
    refine g_lloadN X35 hx hby d4_264 (pc' := 265) rfl rfl ?_
    refine g_bipush X35 hx hby d4_265 (pc' := 267) rfl (n := (32 : Int32)) (by first | rfl | decide) ?_
    refine g_lushr X35 hx hby d4_267 (pc' := 268) rfl ?_
    refine g_l2i X35 hx hby d4_268 (pc' := 269) rfl ?_
    refine a_iastore X35 hx hby hZ e35 A_th (by decide) (by decide) d4_269 (pc' := 270) rfl (fun T36 h36 X36 e36 W36 => ?_)
    replace E_o := E_o.wr W36
    replace F1 := F1.other W36 (Or.inl ne20)
    replace F2 := F2.other W36 (Or.inl ne20)
    replace F3 := F3.other W36 (Or.inl ne20)
    replace A_ol := A_ol.other W36 ne21
    replace A_tl := A_tl.other W36 ne22
    replace A_oh := A_oh.other W36 ne23
    replace O_oh := O_oh.wr W36
    replace E_th := E_th.wr W36
    have Z37 : n0 ≤ h36.size := by rw [W36.size]; exact Z32
    have N38 := Fr.snoc X36 N33 g24
    replace A_th : Ara Z h36 th .int 16 (fun jz => .int ((own_ui (own_ui (fun _ => (0 : Int32)) 0 (((own_ui g 1 (v.toInt32)) 0) >>> ((31 : Int32) &&& 31))) 1 ((XT.ushrL v (32 : Int32)).toInt32)) jz)) := A_th.setI W36
    refine g_aloadN X36 hx hby d4_270 (pc' := 271) rfl rfl rfl ?_
    refine g_dup X36 hx hby d4_271 (pc' := 272) rfl rfl ?_
    refine g_getF X36 hx hby hZ hown e36 (hw _ (List.mem_of_getElem? (i := 26) rfl)) F1 d4_272 (pc' := 275) rfl (fun T39 X39 e39 => ?_)
    refine g_iconst X39 hx hby d4_275 (pc' := 276) rfl (n := (1 : Int32)) (by first | rfl | decide) ?_
    refine g_iadd X39 hx hby d4_276 (pc' := 277) rfl ?_
    show Go p e below s (QCol Z n0 o (2 : Int32) 2 (own_ul q 1 v)) ({ frames := 0, cells := 1, slots := 16, locals := 0 } : Room).cells ({ frames := 0, cells := 1, slots := 16, locals := 0 } : Room).slots m T39 277 #[.val (.ref o), .val (.long v), .second, .val (.int (0 : Int32)), .val (.int (1 : Int32)), .val (.int (1 : Int32))] [(.int (2 : Int32)), (.ref o)]
    refine g_putF X39 hx hby hZ hown e39 (hw _ (List.mem_of_getElem? (i := 26) rfl)) F1 E_o (Or.inl (hw _ (List.mem_of_getElem? (i := 27) rfl))) (hw _ (List.mem_of_getElem? (i := 5) rfl)) (ty := .int) (by decide) rfl rfl d4_277 (pc' := 280) rfl (fun T40 h40 X40 e40 W40 => ?_)
    replace E_o := E_o.wr W40
    replace F1 := F1.same W40
    replace F2 := F2.other W40 (Or.inr (slot_ne (Or.inl (hw _ (List.mem_of_getElem? (i := 18) rfl))) (Or.inl (hw _ (List.mem_of_getElem? (i := 27) rfl))) (by decide) (t := (.array (.array .int))) (t' := .int) (by decide) (by decide)))
    replace F3 := F3.other W40 (Or.inr (slot_ne (Or.inl (hw _ (List.mem_of_getElem? (i := 20) rfl))) (Or.inl (hw _ (List.mem_of_getElem? (i := 27) rfl))) (by decide) (t := (.array (.array .int))) (t' := .int) (by decide) (by decide)))
    replace A_ol := A_ol.other W40 (Ne.symm n1)
    replace A_tl := A_tl.other W40 (Ne.symm n3)
    replace A_oh := A_oh.other W40 (Ne.symm n2)
    replace O_oh := O_oh.wr W40
    replace A_th := A_th.other W40 (Ne.symm ne20)
    replace E_th := E_th.wr W40
    have Z41 : n0 ≤ h40.size := by rw [W40.size]; exact Z37
    have N42 := Fr.snoc X40 N38 g_o
    exact g_retV X40 hx hby hlk hret d4_280 (by decide) (by decide) (by rw [e40]; exact ⟨rfl, N42, ol, oh, tl, _, g_ol, g_oh, g_tl, n1, n2, n3, n4, n5, n6, E_o, F1, F2, F3, A_ol, A_tl, own_c1 g q 1 v hg, Or.inr ⟨th, _, g24, ne20, ne21, ne23, ne22, A_oh, A_th, own_c3 _ q 1 v (fun j hj => by
          have e : j = 0 := by omega
          rcases e with rfl
          · show (g 0) >>> ((31 : Int32) &&& 31) = _; rw [hg 0 (by decide)]; exact own_sign (q 0) (hf 0 (by decide)))⟩⟩)
theorem ef_4_rm_as1 (m : MethodId) (o : Addr) (v : Int64) : entryFrame m #[(.ref o), (.long v)] 6 = mkF m 0 #[.val (.ref o), .val (.long v), .second, .unset, .unset, .unset] [] := by first | (simp [entryFrame, mkF, argsToLocals, Value.category]; done) | rfl
set_option maxRecDepth 65536 in
set_option maxHeartbeats 40000000 in
theorem rm_as1 (l : Launch) (Z : State) (a0 : Array Value) (hw : ∀ d ∈ tables_1, d.before a0 Z = true) (o : Addr) (v : Int64) (n0 : Nat) (ol oh tl th : Addr) (g gh : Nat → Int32) (q : Nat → Int64) (h0 : Heap) (Z0 : n0 ≤ h0.size) (g_o : n0 ≤ o) (g_ol : n0 ≤ ol) (g_oh : n0 ≤ oh) (g_tl : n0 ≤ tl) (n1 : o ≠ ol) (n2 : o ≠ oh) (n3 : o ≠ tl) (n4 : ol ≠ oh) (n5 : ol ≠ tl) (n6 : oh ≠ tl) (E_o : Exa Z h0 o "com/example/isolens/isolens/history/LongColumn") (F1 : Fld Z h0 o "com/example/isolens/isolens/history/LongColumn" "size" "I" (.int (1 : Int32))) (F2 : Fld Z h0 o "com/example/isolens/isolens/history/LongColumn" "low" "[[I" (.ref ol)) (F3 : Fld Z h0 o "com/example/isolens/isolens/history/LongColumn" "high" "[[I" (.ref oh)) (A_ol : Ara Z h0 ol (.array .int) 1 (fun _ => (.ref tl))) (A_tl : Ara Z h0 tl .int 16 (fun j => .int (g j))) (g_th : n0 ≤ th) (m1 : o ≠ th) (m2 : ol ≠ th) (m3 : oh ≠ th) (m4 : tl ≠ th) (A_oh : Ara Z h0 oh (.array .int) 1 (fun _ => (.ref th))) (A_th : Ara Z h0 th .int 16 (fun j => .int (gh j))) (hg : ∀ j, j < 1 → g j = (q j).toInt32) (hh : ∀ j, j < 1 → gh j = (XT.ushrL (q j) 32).toInt32) :
    Ct l Z (⟨"com/example/isolens/isolens/history/LongColumn", "add", "(J)V"⟩ : MethodName) prog_109_method_3_code 6 none ({ frames := 0, cells := 1, slots := 16, locals := 0 } : Room) #[(.ref o), (.long v)] h0 (QCol Z n0 o (2 : Int32) 2 (own_ul q 1 v)) := by
  refine own_met (plainFor_of_name pn_4) (fun m => ef_4_rm_as1 m o v) ?_
  intro p e s m below meth c T0 X0 hx hby hml hown hnm hret hlk hZ e0
  have N0 := Fr.nil n0
  refine g_aloadN X0 hx hby d4_0 (pc' := 1) rfl rfl rfl ?_
  refine g_getF X0 hx hby hZ hown e0 (hw _ (List.mem_of_getElem? (i := 26) rfl)) F1 d4_1 (pc' := 4) rfl (fun T1 X1 e1 => ?_)
  refine g_ldcI X1 hx hby hZ hown (hw _ (List.mem_of_getElem? (i := 28) rfl)) d4_4 (pc' := 6) rfl ?_
  refine g_icmpne X1 hx hby d4_6 (pt := 26) (pf := 9) (by decide) (by decide) rfl (fun (h6 : ¬ (1 : Int32) = (2147483647 : Int32)) => ?_) (fun (h6 : (1 : Int32) = (2147483647 : Int32)) => (by exfalso; revert h6; decide))
  refine g_aloadN X1 hx hby d4_26 (pc' := 27) rfl rfl rfl ?_
  refine g_getF X1 hx hby hZ hown e1 (hw _ (List.mem_of_getElem? (i := 26) rfl)) F1 d4_27 (pc' := 30) rfl (fun T2 X2 e2 => ?_)
  refine g_bipush X2 hx hby d4_30 (pc' := 32) rfl (n := (16 : Int32)) (by first | rfl | decide) ?_
  refine g_iushr X2 hx hby d4_32 (pc' := 33) rfl ?_
  show Go p e below s (QCol Z n0 o (2 : Int32) 2 (own_ul q 1 v)) ({ frames := 0, cells := 1, slots := 16, locals := 0 } : Room).cells ({ frames := 0, cells := 1, slots := 16, locals := 0 } : Room).slots m T2 33 #[.val (.ref o), .val (.long v), .second, .unset, .unset, .unset] [(.int (0 : Int32))]
  refine g_istoreN X2 hx hby d4_33 (pc' := 34) rfl (Ls' := #[.val (.ref o), .val (.long v), .second, .val (.int (0 : Int32)), .unset, .unset]) rfl ?_
  refine g_aloadN X2 hx hby d4_34 (pc' := 35) rfl rfl rfl ?_
  refine g_getF X2 hx hby hZ hown e2 (hw _ (List.mem_of_getElem? (i := 26) rfl)) F1 d4_35 (pc' := 38) rfl (fun T3 X3 e3 => ?_)
  refine g_ldcI X3 hx hby hZ hown (hw _ (List.mem_of_getElem? (i := 29) rfl)) d4_38 (pc' := 40) rfl ?_
  refine g_iand X3 hx hby d4_40 (pc' := 41) rfl ?_
  show Go p e below s (QCol Z n0 o (2 : Int32) 2 (own_ul q 1 v)) ({ frames := 0, cells := 1, slots := 16, locals := 0 } : Room).cells ({ frames := 0, cells := 1, slots := 16, locals := 0 } : Room).slots m T3 41 #[.val (.ref o), .val (.long v), .second, .val (.int (0 : Int32)), .unset, .unset] [(.int (1 : Int32))]
  refine g_istore X3 hx hby d4_41 (pc' := 43) rfl (Ls' := #[.val (.ref o), .val (.long v), .second, .val (.int (0 : Int32)), .val (.int (1 : Int32)), .unset]) rfl ?_
  refine g_iloadN X3 hx hby d4_43 (pc' := 44) rfl rfl ?_
  refine g_aloadN X3 hx hby d4_44 (pc' := 45) rfl rfl rfl ?_
  refine g_getF X3 hx hby hZ hown e3 (hw _ (List.mem_of_getElem? (i := 17) rfl)) F2 d4_45 (pc' := 48) rfl (fun T4 X4 e4 => ?_)
  refine a_arraylength X4 hx hby hZ e4 A_ol (N := (1 : Int32)) rfl d4_48 (pc' := 49) rfl ?_
  refine g_icmpne X4 hx hby d4_49 (pt := 86) (pf := 52) (by decide) (by decide) rfl (fun (h49 : ¬ (0 : Int32) = (1 : Int32)) => ?_) (fun (h49 : (0 : Int32) = (1 : Int32)) => (by exfalso; revert h49; decide))
  refine g_aloadN X4 hx hby d4_86 (pc' := 87) rfl rfl rfl ?_
  refine g_getF X4 hx hby hZ hown e4 (hw _ (List.mem_of_getElem? (i := 17) rfl)) F2 d4_87 (pc' := 90) rfl (fun T5 X5 e5 => ?_)
  refine g_iloadN X5 hx hby d4_90 (pc' := 91) rfl rfl ?_
  refine a_aaload X5 hx hby hZ e5 A_ol rfl (by decide) (by decide) (v := (.ref tl)) (rfl) d4_91 (pc' := 92) rfl ?_
  refine g_ifnonnull X5 hx hby rfl d4_92 (pt := 108) (pf := 95) (by decide) (by decide) rfl (fun bz qz => ?_) (fun qz => nomatch qz)
  refine g_iload X5 hx hby d4_108 (pc' := 110) rfl rfl ?_
  refine g_aloadN X5 hx hby d4_110 (pc' := 111) rfl rfl rfl ?_
  refine g_getF X5 hx hby hZ hown e5 (hw _ (List.mem_of_getElem? (i := 17) rfl)) F2 d4_111 (pc' := 114) rfl (fun T6 X6 e6 => ?_)
  refine g_iloadN X6 hx hby d4_114 (pc' := 115) rfl rfl ?_
  refine a_aaload X6 hx hby hZ e6 A_ol rfl (by decide) (by decide) (v := (.ref tl)) (rfl) d4_115 (pc' := 116) rfl ?_
  refine a_arraylength X6 hx hby hZ e6 A_tl (N := (16 : Int32)) rfl d4_116 (pc' := 117) rfl ?_
  refine g_icmpne X6 hx hby d4_117 (pt := 167) (pf := 120) (by decide) (by decide) rfl (fun (h117 : ¬ (1 : Int32) = (16 : Int32)) => ?_) (fun (h117 : (1 : Int32) = (16 : Int32)) => (by exfalso; revert h117; decide))
  refine g_aloadN X6 hx hby d4_167 (pc' := 168) rfl rfl rfl ?_
  refine g_getF X6 hx hby hZ hown e6 (hw _ (List.mem_of_getElem? (i := 17) rfl)) F2 d4_168 (pc' := 171) rfl (fun T7 X7 e7 => ?_)
  refine g_iloadN X7 hx hby d4_171 (pc' := 172) rfl rfl ?_
  refine a_aaload X7 hx hby hZ e7 A_ol rfl (by decide) (by decide) (v := (.ref tl)) (rfl) d4_172 (pc' := 173) rfl ?_
  refine g_iload X7 hx hby d4_173 (pc' := 175) rfl rfl ?_
  refine g_lloadN X7 hx hby d4_175 (pc' := 176) rfl rfl ?_
  refine g_l2i X7 hx hby d4_176 (pc' := 177) rfl ?_
  refine a_iastore X7 hx hby hZ e7 A_tl (by decide) (by decide) d4_177 (pc' := 178) rfl (fun T8 h8 X8 e8 W8 => ?_)
  replace E_o := E_o.wr W8
  replace F1 := F1.other W8 (Or.inl n3)
  replace F2 := F2.other W8 (Or.inl n3)
  replace F3 := F3.other W8 (Or.inl n3)
  replace A_ol := A_ol.other W8 n5
  replace A_oh := A_oh.other W8 n6
  replace A_th := A_th.other W8 (Ne.symm m4)
  have Z9 : n0 ≤ h8.size := by rw [W8.size]; exact Z0
  have N10 := Fr.snoc X8 N0 g_tl
  replace A_tl : Ara Z h8 tl .int 16 (fun jz => .int ((own_ui g 1 (v.toInt32)) jz)) := A_tl.setI W8
  refine g_aloadN X8 hx hby d4_178 (pc' := 179) rfl rfl rfl ?_
  refine g_getF X8 hx hby hZ hown e8 (hw _ (List.mem_of_getElem? (i := 19) rfl)) F3 d4_179 (pc' := 182) rfl (fun T11 X11 e11 => ?_)
  refine g_iloadN X11 hx hby d4_182 (pc' := 183) rfl rfl ?_
  refine a_aaload X11 hx hby hZ e11 A_oh rfl (by decide) (by decide) (v := (.ref th)) (rfl) d4_183 (pc' := 184) rfl ?_
  refine g_ifnonnull X11 hx hby rfl d4_184 (pt := 247) (pf := 187) (by decide) (by decide) rfl (fun bz qz => ?_) (fun qz => nomatch qz)
  refine g_aloadN X11 hx hby d4_247 (pc' := 248) rfl rfl rfl ?_
  refine g_getF X11 hx hby hZ hown e11 (hw _ (List.mem_of_getElem? (i := 19) rfl)) F3 d4_248 (pc' := 251) rfl (fun T12 X12 e12 => ?_)
  refine g_iloadN X12 hx hby d4_251 (pc' := 252) rfl rfl ?_
  refine a_aaload X12 hx hby hZ e12 A_oh rfl (by decide) (by decide) (v := (.ref th)) (rfl) d4_252 (pc' := 253) rfl ?_
  refine g_ifnull X12 hx hby rfl d4_253 (pt := 270) (pf := 256) (by decide) (by decide) rfl (fun qz => nomatch qz) (fun bz qz => ?_)
  refine g_aloadN X12 hx hby d4_256 (pc' := 257) rfl rfl rfl ?_
  refine g_getF X12 hx hby hZ hown e12 (hw _ (List.mem_of_getElem? (i := 19) rfl)) F3 d4_257 (pc' := 260) rfl (fun T13 X13 e13 => ?_)
  refine g_iloadN X13 hx hby d4_260 (pc' := 261) rfl rfl ?_
  refine a_aaload X13 hx hby hZ e13 A_oh rfl (by decide) (by decide) (v := (.ref th)) (rfl) d4_261 (pc' := 262) rfl ?_
  refine g_iload X13 hx hby d4_262 (pc' := 264) rfl rfl ?_
  refine g_lloadN X13 hx hby d4_264 (pc' := 265) rfl rfl ?_
  refine g_bipush X13 hx hby d4_265 (pc' := 267) rfl (n := (32 : Int32)) (by first | rfl | decide) ?_
  refine g_lushr X13 hx hby d4_267 (pc' := 268) rfl ?_
  refine g_l2i X13 hx hby d4_268 (pc' := 269) rfl ?_
  refine a_iastore X13 hx hby hZ e13 A_th (by decide) (by decide) d4_269 (pc' := 270) rfl (fun T14 h14 X14 e14 W14 => ?_)
  replace E_o := E_o.wr W14
  replace F1 := F1.other W14 (Or.inl m1)
  replace F2 := F2.other W14 (Or.inl m1)
  replace F3 := F3.other W14 (Or.inl m1)
  replace A_ol := A_ol.other W14 m2
  replace A_tl := A_tl.other W14 m4
  replace A_oh := A_oh.other W14 m3
  have Z15 : n0 ≤ h14.size := by rw [W14.size]; exact Z9
  have N16 := Fr.snoc X14 N10 g_th
  replace A_th : Ara Z h14 th .int 16 (fun jz => .int ((own_ui gh 1 ((XT.ushrL v (32 : Int32)).toInt32)) jz)) := A_th.setI W14
  refine g_aloadN X14 hx hby d4_270 (pc' := 271) rfl rfl rfl ?_
  refine g_dup X14 hx hby d4_271 (pc' := 272) rfl rfl ?_
  refine g_getF X14 hx hby hZ hown e14 (hw _ (List.mem_of_getElem? (i := 26) rfl)) F1 d4_272 (pc' := 275) rfl (fun T17 X17 e17 => ?_)
  refine g_iconst X17 hx hby d4_275 (pc' := 276) rfl (n := (1 : Int32)) (by first | rfl | decide) ?_
  refine g_iadd X17 hx hby d4_276 (pc' := 277) rfl ?_
  show Go p e below s (QCol Z n0 o (2 : Int32) 2 (own_ul q 1 v)) ({ frames := 0, cells := 1, slots := 16, locals := 0 } : Room).cells ({ frames := 0, cells := 1, slots := 16, locals := 0 } : Room).slots m T17 277 #[.val (.ref o), .val (.long v), .second, .val (.int (0 : Int32)), .val (.int (1 : Int32)), .unset] [(.int (2 : Int32)), (.ref o)]
  refine g_putF X17 hx hby hZ hown e17 (hw _ (List.mem_of_getElem? (i := 26) rfl)) F1 E_o (Or.inl (hw _ (List.mem_of_getElem? (i := 27) rfl))) (hw _ (List.mem_of_getElem? (i := 5) rfl)) (ty := .int) (by decide) rfl rfl d4_277 (pc' := 280) rfl (fun T18 h18 X18 e18 W18 => ?_)
  replace E_o := E_o.wr W18
  replace F1 := F1.same W18
  replace F2 := F2.other W18 (Or.inr (slot_ne (Or.inl (hw _ (List.mem_of_getElem? (i := 18) rfl))) (Or.inl (hw _ (List.mem_of_getElem? (i := 27) rfl))) (by decide) (t := (.array (.array .int))) (t' := .int) (by decide) (by decide)))
  replace F3 := F3.other W18 (Or.inr (slot_ne (Or.inl (hw _ (List.mem_of_getElem? (i := 20) rfl))) (Or.inl (hw _ (List.mem_of_getElem? (i := 27) rfl))) (by decide) (t := (.array (.array .int))) (t' := .int) (by decide) (by decide)))
  replace A_ol := A_ol.other W18 (Ne.symm n1)
  replace A_tl := A_tl.other W18 (Ne.symm n3)
  replace A_oh := A_oh.other W18 (Ne.symm n2)
  replace A_th := A_th.other W18 (Ne.symm m1)
  have Z19 : n0 ≤ h18.size := by rw [W18.size]; exact Z15
  have N20 := Fr.snoc X18 N16 g_o
  exact g_retV X18 hx hby hlk hret d4_280 (by decide) (by decide) (by rw [e18]; exact ⟨rfl, N20, ol, oh, tl, _, g_ol, g_oh, g_tl, n1, n2, n3, n4, n5, n6, E_o, F1, F2, F3, A_ol, A_tl, own_c1 g q 1 v hg, Or.inr ⟨th, _, g_th, m1, m2, m3, m4, A_oh, A_th, own_c3 gh q 1 v hh⟩⟩)
theorem rm_add1 (l : Launch) (Z : State) (a0 : Array Value) (hw : ∀ d ∈ tables_1, d.before a0 Z = true) (o : Addr) (v : Int64) (n0 : Nat) (q : Nat → Int64) (h0 : Heap) (g_o : n0 ≤ o) (cl : Col Z n0 h0 o (1 : Int32) 1 q) :
    Ct l Z (⟨"com/example/isolens/isolens/history/LongColumn", "add", "(J)V"⟩ : MethodName) prog_109_method_3_code 6 none ({ frames := 0, cells := 1, slots := 16, locals := 0 } : Room) #[(.ref o), (.long v)] h0 (QCol Z n0 o (2 : Int32) 2 (own_ul q 1 v)) := by
  have Z0 := own_colsz cl
  obtain ⟨ol, oh, tl, g, g_ol, g_oh, g_tl, n1, n2, n3, n4, n5, n6, E_o, F1, F2, F3, A_ol, A_tl, hg, c⟩ := cl
  rcases c with ⟨A_oh, O_oh, hf⟩ | ⟨th, gh, g_th, m1, m2, m3, m4, A_oh, A_th, hh⟩
  · exact rm_an1 l Z a0 hw o v n0 ol oh tl g q h0 Z0 g_o g_ol g_oh g_tl n1 n2 n3 n4 n5 n6 E_o F1 F2 F3 A_ol A_tl A_oh O_oh hg hf
  · exact rm_as1 l Z a0 hw o v n0 ol oh tl th g gh q h0 Z0 g_o g_ol g_oh g_tl n1 n2 n3 n4 n5 n6 E_o F1 F2 F3 A_ol A_tl g_th m1 m2 m3 m4 A_oh A_th hg hh
theorem ef_4_rm_an2 (m : MethodId) (o : Addr) (v : Int64) : entryFrame m #[(.ref o), (.long v)] 6 = mkF m 0 #[.val (.ref o), .val (.long v), .second, .unset, .unset, .unset] [] := by first | (simp [entryFrame, mkF, argsToLocals, Value.category]; done) | rfl
set_option maxRecDepth 65536 in
set_option maxHeartbeats 40000000 in
theorem rm_an2 (l : Launch) (Z : State) (a0 : Array Value) (hw : ∀ d ∈ tables_1, d.before a0 Z = true) (o : Addr) (v : Int64) (n0 : Nat) (ol oh tl : Addr) (g : Nat → Int32) (q : Nat → Int64) (h0 : Heap) (Z0 : n0 ≤ h0.size) (g_o : n0 ≤ o) (g_ol : n0 ≤ ol) (g_oh : n0 ≤ oh) (g_tl : n0 ≤ tl) (n1 : o ≠ ol) (n2 : o ≠ oh) (n3 : o ≠ tl) (n4 : ol ≠ oh) (n5 : ol ≠ tl) (n6 : oh ≠ tl) (E_o : Exa Z h0 o "com/example/isolens/isolens/history/LongColumn") (F1 : Fld Z h0 o "com/example/isolens/isolens/history/LongColumn" "size" "I" (.int (2 : Int32))) (F2 : Fld Z h0 o "com/example/isolens/isolens/history/LongColumn" "low" "[[I" (.ref ol)) (F3 : Fld Z h0 o "com/example/isolens/isolens/history/LongColumn" "high" "[[I" (.ref oh)) (A_ol : Ara Z h0 ol (.array .int) 1 (fun _ => (.ref tl))) (A_tl : Ara Z h0 tl .int 16 (fun j => .int (g j))) (A_oh : Ara Z h0 oh (.array .int) 1 (fun _ => .null)) (O_oh : Ovi Z h0 oh) (hg : ∀ j, j < 2 → g j = (q j).toInt32) (hf : ∀ j, j < 2 → q j = (q j).toInt32.toInt64) :
    Ct l Z (⟨"com/example/isolens/isolens/history/LongColumn", "add", "(J)V"⟩ : MethodName) prog_109_method_3_code 6 none ({ frames := 0, cells := 1, slots := 16, locals := 0 } : Room) #[(.ref o), (.long v)] h0 (QCol Z n0 o (3 : Int32) 3 (own_ul q 2 v)) := by
  refine own_met (plainFor_of_name pn_4) (fun m => ef_4_rm_an2 m o v) ?_
  intro p e s m below meth c T0 X0 hx hby hml hown hnm hret hlk hZ e0
  have N0 := Fr.nil n0
  refine g_aloadN X0 hx hby d4_0 (pc' := 1) rfl rfl rfl ?_
  refine g_getF X0 hx hby hZ hown e0 (hw _ (List.mem_of_getElem? (i := 26) rfl)) F1 d4_1 (pc' := 4) rfl (fun T1 X1 e1 => ?_)
  refine g_ldcI X1 hx hby hZ hown (hw _ (List.mem_of_getElem? (i := 28) rfl)) d4_4 (pc' := 6) rfl ?_
  refine g_icmpne X1 hx hby d4_6 (pt := 26) (pf := 9) (by decide) (by decide) rfl (fun (h6 : ¬ (2 : Int32) = (2147483647 : Int32)) => ?_) (fun (h6 : (2 : Int32) = (2147483647 : Int32)) => (by exfalso; revert h6; decide))
  refine g_aloadN X1 hx hby d4_26 (pc' := 27) rfl rfl rfl ?_
  refine g_getF X1 hx hby hZ hown e1 (hw _ (List.mem_of_getElem? (i := 26) rfl)) F1 d4_27 (pc' := 30) rfl (fun T2 X2 e2 => ?_)
  refine g_bipush X2 hx hby d4_30 (pc' := 32) rfl (n := (16 : Int32)) (by first | rfl | decide) ?_
  refine g_iushr X2 hx hby d4_32 (pc' := 33) rfl ?_
  show Go p e below s (QCol Z n0 o (3 : Int32) 3 (own_ul q 2 v)) ({ frames := 0, cells := 1, slots := 16, locals := 0 } : Room).cells ({ frames := 0, cells := 1, slots := 16, locals := 0 } : Room).slots m T2 33 #[.val (.ref o), .val (.long v), .second, .unset, .unset, .unset] [(.int (0 : Int32))]
  refine g_istoreN X2 hx hby d4_33 (pc' := 34) rfl (Ls' := #[.val (.ref o), .val (.long v), .second, .val (.int (0 : Int32)), .unset, .unset]) rfl ?_
  refine g_aloadN X2 hx hby d4_34 (pc' := 35) rfl rfl rfl ?_
  refine g_getF X2 hx hby hZ hown e2 (hw _ (List.mem_of_getElem? (i := 26) rfl)) F1 d4_35 (pc' := 38) rfl (fun T3 X3 e3 => ?_)
  refine g_ldcI X3 hx hby hZ hown (hw _ (List.mem_of_getElem? (i := 29) rfl)) d4_38 (pc' := 40) rfl ?_
  refine g_iand X3 hx hby d4_40 (pc' := 41) rfl ?_
  show Go p e below s (QCol Z n0 o (3 : Int32) 3 (own_ul q 2 v)) ({ frames := 0, cells := 1, slots := 16, locals := 0 } : Room).cells ({ frames := 0, cells := 1, slots := 16, locals := 0 } : Room).slots m T3 41 #[.val (.ref o), .val (.long v), .second, .val (.int (0 : Int32)), .unset, .unset] [(.int (2 : Int32))]
  refine g_istore X3 hx hby d4_41 (pc' := 43) rfl (Ls' := #[.val (.ref o), .val (.long v), .second, .val (.int (0 : Int32)), .val (.int (2 : Int32)), .unset]) rfl ?_
  refine g_iloadN X3 hx hby d4_43 (pc' := 44) rfl rfl ?_
  refine g_aloadN X3 hx hby d4_44 (pc' := 45) rfl rfl rfl ?_
  refine g_getF X3 hx hby hZ hown e3 (hw _ (List.mem_of_getElem? (i := 17) rfl)) F2 d4_45 (pc' := 48) rfl (fun T4 X4 e4 => ?_)
  refine a_arraylength X4 hx hby hZ e4 A_ol (N := (1 : Int32)) rfl d4_48 (pc' := 49) rfl ?_
  refine g_icmpne X4 hx hby d4_49 (pt := 86) (pf := 52) (by decide) (by decide) rfl (fun (h49 : ¬ (0 : Int32) = (1 : Int32)) => ?_) (fun (h49 : (0 : Int32) = (1 : Int32)) => (by exfalso; revert h49; decide))
  refine g_aloadN X4 hx hby d4_86 (pc' := 87) rfl rfl rfl ?_
  refine g_getF X4 hx hby hZ hown e4 (hw _ (List.mem_of_getElem? (i := 17) rfl)) F2 d4_87 (pc' := 90) rfl (fun T5 X5 e5 => ?_)
  refine g_iloadN X5 hx hby d4_90 (pc' := 91) rfl rfl ?_
  refine a_aaload X5 hx hby hZ e5 A_ol rfl (by decide) (by decide) (v := (.ref tl)) (rfl) d4_91 (pc' := 92) rfl ?_
  refine g_ifnonnull X5 hx hby rfl d4_92 (pt := 108) (pf := 95) (by decide) (by decide) rfl (fun bz qz => ?_) (fun qz => nomatch qz)
  refine g_iload X5 hx hby d4_108 (pc' := 110) rfl rfl ?_
  refine g_aloadN X5 hx hby d4_110 (pc' := 111) rfl rfl rfl ?_
  refine g_getF X5 hx hby hZ hown e5 (hw _ (List.mem_of_getElem? (i := 17) rfl)) F2 d4_111 (pc' := 114) rfl (fun T6 X6 e6 => ?_)
  refine g_iloadN X6 hx hby d4_114 (pc' := 115) rfl rfl ?_
  refine a_aaload X6 hx hby hZ e6 A_ol rfl (by decide) (by decide) (v := (.ref tl)) (rfl) d4_115 (pc' := 116) rfl ?_
  refine a_arraylength X6 hx hby hZ e6 A_tl (N := (16 : Int32)) rfl d4_116 (pc' := 117) rfl ?_
  refine g_icmpne X6 hx hby d4_117 (pt := 167) (pf := 120) (by decide) (by decide) rfl (fun (h117 : ¬ (2 : Int32) = (16 : Int32)) => ?_) (fun (h117 : (2 : Int32) = (16 : Int32)) => (by exfalso; revert h117; decide))
  refine g_aloadN X6 hx hby d4_167 (pc' := 168) rfl rfl rfl ?_
  refine g_getF X6 hx hby hZ hown e6 (hw _ (List.mem_of_getElem? (i := 17) rfl)) F2 d4_168 (pc' := 171) rfl (fun T7 X7 e7 => ?_)
  refine g_iloadN X7 hx hby d4_171 (pc' := 172) rfl rfl ?_
  refine a_aaload X7 hx hby hZ e7 A_ol rfl (by decide) (by decide) (v := (.ref tl)) (rfl) d4_172 (pc' := 173) rfl ?_
  refine g_iload X7 hx hby d4_173 (pc' := 175) rfl rfl ?_
  refine g_lloadN X7 hx hby d4_175 (pc' := 176) rfl rfl ?_
  refine g_l2i X7 hx hby d4_176 (pc' := 177) rfl ?_
  refine a_iastore X7 hx hby hZ e7 A_tl (by decide) (by decide) d4_177 (pc' := 178) rfl (fun T8 h8 X8 e8 W8 => ?_)
  replace E_o := E_o.wr W8
  replace F1 := F1.other W8 (Or.inl n3)
  replace F2 := F2.other W8 (Or.inl n3)
  replace F3 := F3.other W8 (Or.inl n3)
  replace A_ol := A_ol.other W8 n5
  replace A_oh := A_oh.other W8 n6
  replace O_oh := O_oh.wr W8
  have Z9 : n0 ≤ h8.size := by rw [W8.size]; exact Z0
  have N10 := Fr.snoc X8 N0 g_tl
  replace A_tl : Ara Z h8 tl .int 16 (fun jz => .int ((own_ui g 2 (v.toInt32)) jz)) := A_tl.setI W8
  refine g_aloadN X8 hx hby d4_178 (pc' := 179) rfl rfl rfl ?_
  refine g_getF X8 hx hby hZ hown e8 (hw _ (List.mem_of_getElem? (i := 19) rfl)) F3 d4_179 (pc' := 182) rfl (fun T11 X11 e11 => ?_)
  refine g_iloadN X11 hx hby d4_182 (pc' := 183) rfl rfl ?_
  refine a_aaload X11 hx hby hZ e11 A_oh rfl (by decide) (by decide) (v := .null) (rfl) d4_183 (pc' := 184) rfl ?_
  refine g_ifnonnull X11 hx hby rfl d4_184 (pt := 247) (pf := 187) (by decide) (by decide) rfl (fun bz qz => nomatch qz) (fun qz => ?_)
  refine g_lloadN X11 hx hby d4_187 (pc' := 188) rfl rfl ?_
  refine g_lloadN X11 hx hby d4_188 (pc' := 189) rfl rfl ?_
  refine g_l2i X11 hx hby d4_189 (pc' := 190) rfl ?_
  refine g_i2l X11 hx hby d4_190 (pc' := 191) rfl ?_
  refine g_lcmpeq X11 hx hby d4_191 (pc' := 192) rfl d4_192 (pt := 247) (pf := 195) (by decide) (by decide) rfl (fun (h192 : v = ((v.toInt32).toInt64)) => ?_) (fun (h192 : ¬ v = ((v.toInt32).toInt64)) => ?_)
  · have h192i : v.toInt = ((v.toInt32).toInt64).toInt := congrArg Int64.toInt h192
    refine g_aloadN X11 hx hby d4_247 (pc' := 248) rfl rfl rfl ?_
    refine g_getF X11 hx hby hZ hown e11 (hw _ (List.mem_of_getElem? (i := 19) rfl)) F3 d4_248 (pc' := 251) rfl (fun T12 X12 e12 => ?_)
    refine g_iloadN X12 hx hby d4_251 (pc' := 252) rfl rfl ?_
    refine a_aaload X12 hx hby hZ e12 A_oh rfl (by decide) (by decide) (v := .null) (rfl) d4_252 (pc' := 253) rfl ?_
    refine g_ifnull X12 hx hby rfl d4_253 (pt := 270) (pf := 256) (by decide) (by decide) rfl (fun qz => ?_) (fun bz qz => nomatch qz)
    refine g_aloadN X12 hx hby d4_270 (pc' := 271) rfl rfl rfl ?_
    refine g_dup X12 hx hby d4_271 (pc' := 272) rfl rfl ?_
    refine g_getF X12 hx hby hZ hown e12 (hw _ (List.mem_of_getElem? (i := 26) rfl)) F1 d4_272 (pc' := 275) rfl (fun T13 X13 e13 => ?_)
    refine g_iconst X13 hx hby d4_275 (pc' := 276) rfl (n := (1 : Int32)) (by first | rfl | decide) ?_
    refine g_iadd X13 hx hby d4_276 (pc' := 277) rfl ?_
    show Go p e below s (QCol Z n0 o (3 : Int32) 3 (own_ul q 2 v)) ({ frames := 0, cells := 1, slots := 16, locals := 0 } : Room).cells ({ frames := 0, cells := 1, slots := 16, locals := 0 } : Room).slots m T13 277 #[.val (.ref o), .val (.long v), .second, .val (.int (0 : Int32)), .val (.int (2 : Int32)), .unset] [(.int (3 : Int32)), (.ref o)]
    refine g_putF X13 hx hby hZ hown e13 (hw _ (List.mem_of_getElem? (i := 26) rfl)) F1 E_o (Or.inl (hw _ (List.mem_of_getElem? (i := 27) rfl))) (hw _ (List.mem_of_getElem? (i := 5) rfl)) (ty := .int) (by decide) rfl rfl d4_277 (pc' := 280) rfl (fun T14 h14 X14 e14 W14 => ?_)
    replace E_o := E_o.wr W14
    replace F1 := F1.same W14
    replace F2 := F2.other W14 (Or.inr (slot_ne (Or.inl (hw _ (List.mem_of_getElem? (i := 18) rfl))) (Or.inl (hw _ (List.mem_of_getElem? (i := 27) rfl))) (by decide) (t := (.array (.array .int))) (t' := .int) (by decide) (by decide)))
    replace F3 := F3.other W14 (Or.inr (slot_ne (Or.inl (hw _ (List.mem_of_getElem? (i := 20) rfl))) (Or.inl (hw _ (List.mem_of_getElem? (i := 27) rfl))) (by decide) (t := (.array (.array .int))) (t' := .int) (by decide) (by decide)))
    replace A_ol := A_ol.other W14 (Ne.symm n1)
    replace A_tl := A_tl.other W14 (Ne.symm n3)
    replace A_oh := A_oh.other W14 (Ne.symm n2)
    replace O_oh := O_oh.wr W14
    have Z15 : n0 ≤ h14.size := by rw [W14.size]; exact Z9
    have N16 := Fr.snoc X14 N10 g_o
    exact g_retV X14 hx hby hlk hret d4_280 (by decide) (by decide) (by rw [e14]; exact ⟨rfl, N16, ol, oh, tl, _, g_ol, g_oh, g_tl, n1, n2, n3, n4, n5, n6, E_o, F1, F2, F3, A_ol, A_tl, own_c1 g q 2 v hg, Or.inl ⟨A_oh, O_oh, own_c2 q 2 v hf h192⟩⟩)
  · have h192i : ¬ v.toInt = ((v.toInt32).toInt64).toInt := fun q => h192 (Int64.toInt_inj.mp q)
    refine g_aloadN X11 hx hby d4_195 (pc' := 196) rfl rfl rfl ?_
    refine g_getF X11 hx hby hZ hown e11 (hw _ (List.mem_of_getElem? (i := 19) rfl)) F3 d4_196 (pc' := 199) rfl (fun T17 X17 e17 => ?_)
    refine g_iloadN X17 hx hby d4_199 (pc' := 200) rfl rfl ?_
    refine g_aloadN X17 hx hby d4_200 (pc' := 201) rfl rfl rfl ?_
    refine g_getF X17 hx hby hZ hown e17 (hw _ (List.mem_of_getElem? (i := 17) rfl)) F2 d4_201 (pc' := 204) rfl (fun T18 X18 e18 => ?_)
    refine g_iloadN X18 hx hby d4_204 (pc' := 205) rfl rfl ?_
    refine a_aaload X18 hx hby hZ e18 A_ol rfl (by decide) (by decide) (v := (.ref tl)) (rfl) d4_205 (pc' := 206) rfl ?_
    refine a_arraylength X18 hx hby hZ e18 A_tl (N := (16 : Int32)) rfl d4_206 (pc' := 207) rfl ?_
    refine g_newAE X18 hx hby hZ e18 (N := 16) (hw _ (List.mem_of_getElem? (i := 15) rfl)) d4_207 (pc' := 209) rfl rfl (cap := 16) (Nat.le_refl _) (by decide) (by decide) (by decide) (fun T19 h19 th g19 X19 e19 E19 A_th E_th => ?_)
    have ne20 : o ≠ th := by rw [g19]; exact Nat.ne_of_lt E_o.lt
    have ne21 : ol ≠ th := by rw [g19]; exact Nat.ne_of_lt A_ol.lt
    have ne22 : tl ≠ th := by rw [g19]; exact Nat.ne_of_lt A_tl.lt
    have ne23 : oh ≠ th := by rw [g19]; exact Nat.ne_of_lt A_oh.lt
    have g24 : n0 ≤ th := by rw [g19]; exact Z9
    replace E_o := E_o.ext E19
    replace F1 := F1.ext E19
    replace F2 := F2.ext E19
    replace F3 := F3.ext E19
    replace A_ol := A_ol.ext E19
    replace A_tl := A_tl.ext E19
    replace A_oh := A_oh.ext E19
    replace O_oh := O_oh.ext E19
    have Z25 : n0 ≤ h19.size := Nat.le_trans Z9 E19.1
    replace X19 : Stand p l e ({ frames := 0, cells := 1, slots := 16, locals := 0 } : Room) s m _ below meth c T19 _ 1 16 := X19
    replace A_th : Ara Z h19 th .int 16 (fun jz => .int ((fun _ => (0 : Int32)) jz)) := A_th
    refine a_aastore X19 hx hby hZ e19 A_oh rfl (O_oh.sto A_oh E_th) (by decide) (by decide) d4_209 (pc' := 210) rfl (fun T26 h26 X26 e26 W26 => ?_)
    replace E_o := E_o.wr W26
    replace F1 := F1.other W26 (Or.inl n2)
    replace F2 := F2.other W26 (Or.inl n2)
    replace F3 := F3.other W26 (Or.inl n2)
    replace A_ol := A_ol.other W26 n4
    replace A_tl := A_tl.other W26 (Ne.symm n6)
    replace O_oh := O_oh.wr W26
    replace A_th := A_th.other W26 (Ne.symm ne23)
    replace E_th := E_th.wr W26
    have Z27 : n0 ≤ h26.size := by rw [W26.size]; exact Z25
    have N28 := Fr.snoc X26 N10 g_oh
    replace A_oh : Ara Z h26 oh (.array .int) 1 (fun _ => (.ref th)) := (A_oh.set W26).eq (fun j hj => by rw [Nat.lt_one_iff.mp hj]; rfl)
    refine g_iconst X26 hx hby d4_210 (pc' := 211) rfl (n := (0 : Int32)) (by first | rfl | decide) ?_
    refine g_istore X26 hx hby d4_211 (pc' := 213) rfl (Ls' := #[.val (.ref o), .val (.long v), .second, .val (.int (0 : Int32)), .val (.int (2 : Int32)), .val (.int (0 : Int32))]) rfl ?_
    refine g_iload X26 hx hby d4_213 (pc' := 215) rfl rfl ?_
    refine g_iload X26 hx hby d4_215 (pc' := 217) rfl rfl ?_
    refine g_icmpge X26 hx hby d4_217 (pt := 247) (pf := 220) (by decide) (by decide) rfl (fun (h217 : 2 ≤ 0) => (by exfalso; revert h217; decide)) (fun (h217 : 0 < 2) => ?_)
    refine g_aloadN X26 hx hby d4_220 (pc' := 221) rfl rfl rfl ?_
    refine g_getF X26 hx hby hZ hown e26 (hw _ (List.mem_of_getElem? (i := 19) rfl)) F3 d4_221 (pc' := 224) rfl (fun T29 X29 e29 => ?_)
    refine g_iloadN X29 hx hby d4_224 (pc' := 225) rfl rfl ?_
    refine a_aaload X29 hx hby hZ e29 A_oh rfl (by decide) (by decide) (v := (.ref th)) (rfl) d4_225 (pc' := 226) rfl ?_
    refine g_iload X29 hx hby d4_226 (pc' := 228) rfl rfl ?_
    refine g_aloadN X29 hx hby d4_228 (pc' := 229) rfl rfl rfl ?_
    refine g_getF X29 hx hby hZ hown e29 (hw _ (List.mem_of_getElem? (i := 17) rfl)) F2 d4_229 (pc' := 232) rfl (fun T30 X30 e30 => ?_)
    refine g_iloadN X30 hx hby d4_232 (pc' := 233) rfl rfl ?_
    refine a_aaload X30 hx hby hZ e30 A_ol rfl (by decide) (by decide) (v := (.ref tl)) (rfl) d4_233 (pc' := 234) rfl ?_
    refine g_iload X30 hx hby d4_234 (pc' := 236) rfl rfl ?_
    refine a_iaload X30 hx hby hZ e30 A_tl (by decide) (by decide) (v := (.int ((own_ui g 2 (v.toInt32)) 0))) (rfl) d4_236 (pc' := 237) rfl ?_
    refine g_bipush X30 hx hby d4_237 (pc' := 239) rfl (n := (31 : Int32)) (by first | rfl | decide) ?_
    refine g_ishr X30 hx hby d4_239 (pc' := 240) rfl ?_
    refine a_iastore X30 hx hby hZ e30 A_th (by decide) (by decide) d4_240 (pc' := 241) rfl (fun T31 h31 X31 e31 W31 => ?_)
    replace E_o := E_o.wr W31
    replace F1 := F1.other W31 (Or.inl ne20)
    replace F2 := F2.other W31 (Or.inl ne20)
    replace F3 := F3.other W31 (Or.inl ne20)
    replace A_ol := A_ol.other W31 ne21
    replace A_tl := A_tl.other W31 ne22
    replace A_oh := A_oh.other W31 ne23
    replace O_oh := O_oh.wr W31
    replace E_th := E_th.wr W31
    have Z32 : n0 ≤ h31.size := by rw [W31.size]; exact Z27
    have N33 := Fr.snoc X31 N28 g24
    replace A_th : Ara Z h31 th .int 16 (fun jz => .int ((own_ui (fun _ => (0 : Int32)) 0 (((own_ui g 2 (v.toInt32)) 0) >>> ((31 : Int32) &&& 31))) jz)) := A_th.setI W31
    refine g_iinc X31 hx hby d4_241 (pc' := 244) rfl rfl (Ls' := #[.val (.ref o), .val (.long v), .second, .val (.int (0 : Int32)), .val (.int (2 : Int32)), .val (.int (1 : Int32))]) rfl ?_
    refine g_goto X31 hx hby d4_244 (pc' := 213) (by decide) (by decide) ?_
    refine g_iload X31 hx hby d4_213 (pc' := 215) rfl rfl ?_
    refine g_iload X31 hx hby d4_215 (pc' := 217) rfl rfl ?_
    refine g_icmpge X31 hx hby d4_217 (pt := 247) (pf := 220) (by decide) (by decide) rfl (fun (h217 : 2 ≤ 1) => (by exfalso; revert h217; decide)) (fun (h217 : 1 < 2) => ?_)
    refine g_aloadN X31 hx hby d4_220 (pc' := 221) rfl rfl rfl ?_
    refine g_getF X31 hx hby hZ hown e31 (hw _ (List.mem_of_getElem? (i := 19) rfl)) F3 d4_221 (pc' := 224) rfl (fun T34 X34 e34 => ?_)
    refine g_iloadN X34 hx hby d4_224 (pc' := 225) rfl rfl ?_
    refine a_aaload X34 hx hby hZ e34 A_oh rfl (by decide) (by decide) (v := (.ref th)) (rfl) d4_225 (pc' := 226) rfl ?_
    refine g_iload X34 hx hby d4_226 (pc' := 228) rfl rfl ?_
    refine g_aloadN X34 hx hby d4_228 (pc' := 229) rfl rfl rfl ?_
    refine g_getF X34 hx hby hZ hown e34 (hw _ (List.mem_of_getElem? (i := 17) rfl)) F2 d4_229 (pc' := 232) rfl (fun T35 X35 e35 => ?_)
    refine g_iloadN X35 hx hby d4_232 (pc' := 233) rfl rfl ?_
    refine a_aaload X35 hx hby hZ e35 A_ol rfl (by decide) (by decide) (v := (.ref tl)) (rfl) d4_233 (pc' := 234) rfl ?_
    refine g_iload X35 hx hby d4_234 (pc' := 236) rfl rfl ?_
    refine a_iaload X35 hx hby hZ e35 A_tl (by decide) (by decide) (v := (.int ((own_ui g 2 (v.toInt32)) 1))) (rfl) d4_236 (pc' := 237) rfl ?_
    refine g_bipush X35 hx hby d4_237 (pc' := 239) rfl (n := (31 : Int32)) (by first | rfl | decide) ?_
    refine g_ishr X35 hx hby d4_239 (pc' := 240) rfl ?_
    refine a_iastore X35 hx hby hZ e35 A_th (by decide) (by decide) d4_240 (pc' := 241) rfl (fun T36 h36 X36 e36 W36 => ?_)
    replace E_o := E_o.wr W36
    replace F1 := F1.other W36 (Or.inl ne20)
    replace F2 := F2.other W36 (Or.inl ne20)
    replace F3 := F3.other W36 (Or.inl ne20)
    replace A_ol := A_ol.other W36 ne21
    replace A_tl := A_tl.other W36 ne22
    replace A_oh := A_oh.other W36 ne23
    replace O_oh := O_oh.wr W36
    replace E_th := E_th.wr W36
    have Z37 : n0 ≤ h36.size := by rw [W36.size]; exact Z32
    have N38 := Fr.snoc X36 N33 g24
    replace A_th : Ara Z h36 th .int 16 (fun jz => .int ((own_ui (own_ui (fun _ => (0 : Int32)) 0 (((own_ui g 2 (v.toInt32)) 0) >>> ((31 : Int32) &&& 31))) 1 (((own_ui g 2 (v.toInt32)) 1) >>> ((31 : Int32) &&& 31))) jz)) := A_th.setI W36
    refine g_iinc X36 hx hby d4_241 (pc' := 244) rfl rfl (Ls' := #[.val (.ref o), .val (.long v), .second, .val (.int (0 : Int32)), .val (.int (2 : Int32)), .val (.int (2 : Int32))]) rfl ?_
    refine g_goto X36 hx hby d4_244 (pc' := 213) (by decide) (by decide) ?_
    refine g_iload X36 hx hby d4_213 (pc' := 215) rfl rfl ?_
    refine g_iload X36 hx hby d4_215 (pc' := 217) rfl rfl ?_
    refine g_icmpge X36 hx hby d4_217 (pt := 247) (pf := 220) (by decide) (by decide) rfl (fun (h217 : 2 ≤ 2) => ?_) (fun (h217 : 2 < 2) => (by exfalso; revert h217; decide))
    refine g_aloadN X36 hx hby d4_247 (pc' := 248) rfl rfl rfl ?_
    refine g_getF X36 hx hby hZ hown e36 (hw _ (List.mem_of_getElem? (i := 19) rfl)) F3 d4_248 (pc' := 251) rfl (fun T39 X39 e39 => ?_)
    refine g_iloadN X39 hx hby d4_251 (pc' := 252) rfl rfl ?_
    refine a_aaload X39 hx hby hZ e39 A_oh rfl (by decide) (by decide) (v := (.ref th)) (rfl) d4_252 (pc' := 253) rfl ?_
    refine g_ifnull X39 hx hby rfl d4_253 (pt := 270) (pf := 256) (by decide) (by decide) rfl (fun qz => nomatch qz) (fun bz qz => ?_)
    refine g_aloadN X39 hx hby d4_256 (pc' := 257) rfl rfl rfl ?_
    refine g_getF X39 hx hby hZ hown e39 (hw _ (List.mem_of_getElem? (i := 19) rfl)) F3 d4_257 (pc' := 260) rfl (fun T40 X40 e40 => ?_)
    refine g_iloadN X40 hx hby d4_260 (pc' := 261) rfl rfl ?_
    refine a_aaload X40 hx hby hZ e40 A_oh rfl (by decide) (by decide) (v := (.ref th)) (rfl) d4_261 (pc' := 262) rfl ?_
    refine g_iload X40 hx hby d4_262 (pc' := 264) rfl rfl ?_
    refine g_lloadN X40 hx hby d4_264 (pc' := 265) rfl rfl ?_
    refine g_bipush X40 hx hby d4_265 (pc' := 267) rfl (n := (32 : Int32)) (by first | rfl | decide) ?_
    refine g_lushr X40 hx hby d4_267 (pc' := 268) rfl ?_
    refine g_l2i X40 hx hby d4_268 (pc' := 269) rfl ?_
    refine a_iastore X40 hx hby hZ e40 A_th (by decide) (by decide) d4_269 (pc' := 270) rfl (fun T41 h41 X41 e41 W41 => ?_)
    replace E_o := E_o.wr W41
    replace F1 := F1.other W41 (Or.inl ne20)
    replace F2 := F2.other W41 (Or.inl ne20)
    replace F3 := F3.other W41 (Or.inl ne20)
    replace A_ol := A_ol.other W41 ne21
    replace A_tl := A_tl.other W41 ne22
    replace A_oh := A_oh.other W41 ne23
    replace O_oh := O_oh.wr W41
    replace E_th := E_th.wr W41
    have Z42 : n0 ≤ h41.size := by rw [W41.size]; exact Z37
    have N43 := Fr.snoc X41 N38 g24
    replace A_th : Ara Z h41 th .int 16 (fun jz => .int ((own_ui (own_ui (own_ui (fun _ => (0 : Int32)) 0 (((own_ui g 2 (v.toInt32)) 0) >>> ((31 : Int32) &&& 31))) 1 (((own_ui g 2 (v.toInt32)) 1) >>> ((31 : Int32) &&& 31))) 2 ((XT.ushrL v (32 : Int32)).toInt32)) jz)) := A_th.setI W41
    refine g_aloadN X41 hx hby d4_270 (pc' := 271) rfl rfl rfl ?_
    refine g_dup X41 hx hby d4_271 (pc' := 272) rfl rfl ?_
    refine g_getF X41 hx hby hZ hown e41 (hw _ (List.mem_of_getElem? (i := 26) rfl)) F1 d4_272 (pc' := 275) rfl (fun T44 X44 e44 => ?_)
    refine g_iconst X44 hx hby d4_275 (pc' := 276) rfl (n := (1 : Int32)) (by first | rfl | decide) ?_
    refine g_iadd X44 hx hby d4_276 (pc' := 277) rfl ?_
    show Go p e below s (QCol Z n0 o (3 : Int32) 3 (own_ul q 2 v)) ({ frames := 0, cells := 1, slots := 16, locals := 0 } : Room).cells ({ frames := 0, cells := 1, slots := 16, locals := 0 } : Room).slots m T44 277 #[.val (.ref o), .val (.long v), .second, .val (.int (0 : Int32)), .val (.int (2 : Int32)), .val (.int (2 : Int32))] [(.int (3 : Int32)), (.ref o)]
    refine g_putF X44 hx hby hZ hown e44 (hw _ (List.mem_of_getElem? (i := 26) rfl)) F1 E_o (Or.inl (hw _ (List.mem_of_getElem? (i := 27) rfl))) (hw _ (List.mem_of_getElem? (i := 5) rfl)) (ty := .int) (by decide) rfl rfl d4_277 (pc' := 280) rfl (fun T45 h45 X45 e45 W45 => ?_)
    replace E_o := E_o.wr W45
    replace F1 := F1.same W45
    replace F2 := F2.other W45 (Or.inr (slot_ne (Or.inl (hw _ (List.mem_of_getElem? (i := 18) rfl))) (Or.inl (hw _ (List.mem_of_getElem? (i := 27) rfl))) (by decide) (t := (.array (.array .int))) (t' := .int) (by decide) (by decide)))
    replace F3 := F3.other W45 (Or.inr (slot_ne (Or.inl (hw _ (List.mem_of_getElem? (i := 20) rfl))) (Or.inl (hw _ (List.mem_of_getElem? (i := 27) rfl))) (by decide) (t := (.array (.array .int))) (t' := .int) (by decide) (by decide)))
    replace A_ol := A_ol.other W45 (Ne.symm n1)
    replace A_tl := A_tl.other W45 (Ne.symm n3)
    replace A_oh := A_oh.other W45 (Ne.symm n2)
    replace O_oh := O_oh.wr W45
    replace A_th := A_th.other W45 (Ne.symm ne20)
    replace E_th := E_th.wr W45
    have Z46 : n0 ≤ h45.size := by rw [W45.size]; exact Z42
    have N47 := Fr.snoc X45 N43 g_o
    exact g_retV X45 hx hby hlk hret d4_280 (by decide) (by decide) (by rw [e45]; exact ⟨rfl, N47, ol, oh, tl, _, g_ol, g_oh, g_tl, n1, n2, n3, n4, n5, n6, E_o, F1, F2, F3, A_ol, A_tl, own_c1 g q 2 v hg, Or.inr ⟨th, _, g24, ne20, ne21, ne23, ne22, A_oh, A_th, own_c3 _ q 2 v (fun j hj => by
          have e : j = 0 ∨ j = 1 := by omega
          rcases e with rfl | rfl
          · show (g 0) >>> ((31 : Int32) &&& 31) = _; rw [hg 0 (by decide)]; exact own_sign (q 0) (hf 0 (by decide))
          · show (g 1) >>> ((31 : Int32) &&& 31) = _; rw [hg 1 (by decide)]; exact own_sign (q 1) (hf 1 (by decide)))⟩⟩)
theorem ef_4_rm_as2 (m : MethodId) (o : Addr) (v : Int64) : entryFrame m #[(.ref o), (.long v)] 6 = mkF m 0 #[.val (.ref o), .val (.long v), .second, .unset, .unset, .unset] [] := by first | (simp [entryFrame, mkF, argsToLocals, Value.category]; done) | rfl
set_option maxRecDepth 65536 in
set_option maxHeartbeats 40000000 in
theorem rm_as2 (l : Launch) (Z : State) (a0 : Array Value) (hw : ∀ d ∈ tables_1, d.before a0 Z = true) (o : Addr) (v : Int64) (n0 : Nat) (ol oh tl th : Addr) (g gh : Nat → Int32) (q : Nat → Int64) (h0 : Heap) (Z0 : n0 ≤ h0.size) (g_o : n0 ≤ o) (g_ol : n0 ≤ ol) (g_oh : n0 ≤ oh) (g_tl : n0 ≤ tl) (n1 : o ≠ ol) (n2 : o ≠ oh) (n3 : o ≠ tl) (n4 : ol ≠ oh) (n5 : ol ≠ tl) (n6 : oh ≠ tl) (E_o : Exa Z h0 o "com/example/isolens/isolens/history/LongColumn") (F1 : Fld Z h0 o "com/example/isolens/isolens/history/LongColumn" "size" "I" (.int (2 : Int32))) (F2 : Fld Z h0 o "com/example/isolens/isolens/history/LongColumn" "low" "[[I" (.ref ol)) (F3 : Fld Z h0 o "com/example/isolens/isolens/history/LongColumn" "high" "[[I" (.ref oh)) (A_ol : Ara Z h0 ol (.array .int) 1 (fun _ => (.ref tl))) (A_tl : Ara Z h0 tl .int 16 (fun j => .int (g j))) (g_th : n0 ≤ th) (m1 : o ≠ th) (m2 : ol ≠ th) (m3 : oh ≠ th) (m4 : tl ≠ th) (A_oh : Ara Z h0 oh (.array .int) 1 (fun _ => (.ref th))) (A_th : Ara Z h0 th .int 16 (fun j => .int (gh j))) (hg : ∀ j, j < 2 → g j = (q j).toInt32) (hh : ∀ j, j < 2 → gh j = (XT.ushrL (q j) 32).toInt32) :
    Ct l Z (⟨"com/example/isolens/isolens/history/LongColumn", "add", "(J)V"⟩ : MethodName) prog_109_method_3_code 6 none ({ frames := 0, cells := 1, slots := 16, locals := 0 } : Room) #[(.ref o), (.long v)] h0 (QCol Z n0 o (3 : Int32) 3 (own_ul q 2 v)) := by
  refine own_met (plainFor_of_name pn_4) (fun m => ef_4_rm_as2 m o v) ?_
  intro p e s m below meth c T0 X0 hx hby hml hown hnm hret hlk hZ e0
  have N0 := Fr.nil n0
  refine g_aloadN X0 hx hby d4_0 (pc' := 1) rfl rfl rfl ?_
  refine g_getF X0 hx hby hZ hown e0 (hw _ (List.mem_of_getElem? (i := 26) rfl)) F1 d4_1 (pc' := 4) rfl (fun T1 X1 e1 => ?_)
  refine g_ldcI X1 hx hby hZ hown (hw _ (List.mem_of_getElem? (i := 28) rfl)) d4_4 (pc' := 6) rfl ?_
  refine g_icmpne X1 hx hby d4_6 (pt := 26) (pf := 9) (by decide) (by decide) rfl (fun (h6 : ¬ (2 : Int32) = (2147483647 : Int32)) => ?_) (fun (h6 : (2 : Int32) = (2147483647 : Int32)) => (by exfalso; revert h6; decide))
  refine g_aloadN X1 hx hby d4_26 (pc' := 27) rfl rfl rfl ?_
  refine g_getF X1 hx hby hZ hown e1 (hw _ (List.mem_of_getElem? (i := 26) rfl)) F1 d4_27 (pc' := 30) rfl (fun T2 X2 e2 => ?_)
  refine g_bipush X2 hx hby d4_30 (pc' := 32) rfl (n := (16 : Int32)) (by first | rfl | decide) ?_
  refine g_iushr X2 hx hby d4_32 (pc' := 33) rfl ?_
  show Go p e below s (QCol Z n0 o (3 : Int32) 3 (own_ul q 2 v)) ({ frames := 0, cells := 1, slots := 16, locals := 0 } : Room).cells ({ frames := 0, cells := 1, slots := 16, locals := 0 } : Room).slots m T2 33 #[.val (.ref o), .val (.long v), .second, .unset, .unset, .unset] [(.int (0 : Int32))]
  refine g_istoreN X2 hx hby d4_33 (pc' := 34) rfl (Ls' := #[.val (.ref o), .val (.long v), .second, .val (.int (0 : Int32)), .unset, .unset]) rfl ?_
  refine g_aloadN X2 hx hby d4_34 (pc' := 35) rfl rfl rfl ?_
  refine g_getF X2 hx hby hZ hown e2 (hw _ (List.mem_of_getElem? (i := 26) rfl)) F1 d4_35 (pc' := 38) rfl (fun T3 X3 e3 => ?_)
  refine g_ldcI X3 hx hby hZ hown (hw _ (List.mem_of_getElem? (i := 29) rfl)) d4_38 (pc' := 40) rfl ?_
  refine g_iand X3 hx hby d4_40 (pc' := 41) rfl ?_
  show Go p e below s (QCol Z n0 o (3 : Int32) 3 (own_ul q 2 v)) ({ frames := 0, cells := 1, slots := 16, locals := 0 } : Room).cells ({ frames := 0, cells := 1, slots := 16, locals := 0 } : Room).slots m T3 41 #[.val (.ref o), .val (.long v), .second, .val (.int (0 : Int32)), .unset, .unset] [(.int (2 : Int32))]
  refine g_istore X3 hx hby d4_41 (pc' := 43) rfl (Ls' := #[.val (.ref o), .val (.long v), .second, .val (.int (0 : Int32)), .val (.int (2 : Int32)), .unset]) rfl ?_
  refine g_iloadN X3 hx hby d4_43 (pc' := 44) rfl rfl ?_
  refine g_aloadN X3 hx hby d4_44 (pc' := 45) rfl rfl rfl ?_
  refine g_getF X3 hx hby hZ hown e3 (hw _ (List.mem_of_getElem? (i := 17) rfl)) F2 d4_45 (pc' := 48) rfl (fun T4 X4 e4 => ?_)
  refine a_arraylength X4 hx hby hZ e4 A_ol (N := (1 : Int32)) rfl d4_48 (pc' := 49) rfl ?_
  refine g_icmpne X4 hx hby d4_49 (pt := 86) (pf := 52) (by decide) (by decide) rfl (fun (h49 : ¬ (0 : Int32) = (1 : Int32)) => ?_) (fun (h49 : (0 : Int32) = (1 : Int32)) => (by exfalso; revert h49; decide))
  refine g_aloadN X4 hx hby d4_86 (pc' := 87) rfl rfl rfl ?_
  refine g_getF X4 hx hby hZ hown e4 (hw _ (List.mem_of_getElem? (i := 17) rfl)) F2 d4_87 (pc' := 90) rfl (fun T5 X5 e5 => ?_)
  refine g_iloadN X5 hx hby d4_90 (pc' := 91) rfl rfl ?_
  refine a_aaload X5 hx hby hZ e5 A_ol rfl (by decide) (by decide) (v := (.ref tl)) (rfl) d4_91 (pc' := 92) rfl ?_
  refine g_ifnonnull X5 hx hby rfl d4_92 (pt := 108) (pf := 95) (by decide) (by decide) rfl (fun bz qz => ?_) (fun qz => nomatch qz)
  refine g_iload X5 hx hby d4_108 (pc' := 110) rfl rfl ?_
  refine g_aloadN X5 hx hby d4_110 (pc' := 111) rfl rfl rfl ?_
  refine g_getF X5 hx hby hZ hown e5 (hw _ (List.mem_of_getElem? (i := 17) rfl)) F2 d4_111 (pc' := 114) rfl (fun T6 X6 e6 => ?_)
  refine g_iloadN X6 hx hby d4_114 (pc' := 115) rfl rfl ?_
  refine a_aaload X6 hx hby hZ e6 A_ol rfl (by decide) (by decide) (v := (.ref tl)) (rfl) d4_115 (pc' := 116) rfl ?_
  refine a_arraylength X6 hx hby hZ e6 A_tl (N := (16 : Int32)) rfl d4_116 (pc' := 117) rfl ?_
  refine g_icmpne X6 hx hby d4_117 (pt := 167) (pf := 120) (by decide) (by decide) rfl (fun (h117 : ¬ (2 : Int32) = (16 : Int32)) => ?_) (fun (h117 : (2 : Int32) = (16 : Int32)) => (by exfalso; revert h117; decide))
  refine g_aloadN X6 hx hby d4_167 (pc' := 168) rfl rfl rfl ?_
  refine g_getF X6 hx hby hZ hown e6 (hw _ (List.mem_of_getElem? (i := 17) rfl)) F2 d4_168 (pc' := 171) rfl (fun T7 X7 e7 => ?_)
  refine g_iloadN X7 hx hby d4_171 (pc' := 172) rfl rfl ?_
  refine a_aaload X7 hx hby hZ e7 A_ol rfl (by decide) (by decide) (v := (.ref tl)) (rfl) d4_172 (pc' := 173) rfl ?_
  refine g_iload X7 hx hby d4_173 (pc' := 175) rfl rfl ?_
  refine g_lloadN X7 hx hby d4_175 (pc' := 176) rfl rfl ?_
  refine g_l2i X7 hx hby d4_176 (pc' := 177) rfl ?_
  refine a_iastore X7 hx hby hZ e7 A_tl (by decide) (by decide) d4_177 (pc' := 178) rfl (fun T8 h8 X8 e8 W8 => ?_)
  replace E_o := E_o.wr W8
  replace F1 := F1.other W8 (Or.inl n3)
  replace F2 := F2.other W8 (Or.inl n3)
  replace F3 := F3.other W8 (Or.inl n3)
  replace A_ol := A_ol.other W8 n5
  replace A_oh := A_oh.other W8 n6
  replace A_th := A_th.other W8 (Ne.symm m4)
  have Z9 : n0 ≤ h8.size := by rw [W8.size]; exact Z0
  have N10 := Fr.snoc X8 N0 g_tl
  replace A_tl : Ara Z h8 tl .int 16 (fun jz => .int ((own_ui g 2 (v.toInt32)) jz)) := A_tl.setI W8
  refine g_aloadN X8 hx hby d4_178 (pc' := 179) rfl rfl rfl ?_
  refine g_getF X8 hx hby hZ hown e8 (hw _ (List.mem_of_getElem? (i := 19) rfl)) F3 d4_179 (pc' := 182) rfl (fun T11 X11 e11 => ?_)
  refine g_iloadN X11 hx hby d4_182 (pc' := 183) rfl rfl ?_
  refine a_aaload X11 hx hby hZ e11 A_oh rfl (by decide) (by decide) (v := (.ref th)) (rfl) d4_183 (pc' := 184) rfl ?_
  refine g_ifnonnull X11 hx hby rfl d4_184 (pt := 247) (pf := 187) (by decide) (by decide) rfl (fun bz qz => ?_) (fun qz => nomatch qz)
  refine g_aloadN X11 hx hby d4_247 (pc' := 248) rfl rfl rfl ?_
  refine g_getF X11 hx hby hZ hown e11 (hw _ (List.mem_of_getElem? (i := 19) rfl)) F3 d4_248 (pc' := 251) rfl (fun T12 X12 e12 => ?_)
  refine g_iloadN X12 hx hby d4_251 (pc' := 252) rfl rfl ?_
  refine a_aaload X12 hx hby hZ e12 A_oh rfl (by decide) (by decide) (v := (.ref th)) (rfl) d4_252 (pc' := 253) rfl ?_
  refine g_ifnull X12 hx hby rfl d4_253 (pt := 270) (pf := 256) (by decide) (by decide) rfl (fun qz => nomatch qz) (fun bz qz => ?_)
  refine g_aloadN X12 hx hby d4_256 (pc' := 257) rfl rfl rfl ?_
  refine g_getF X12 hx hby hZ hown e12 (hw _ (List.mem_of_getElem? (i := 19) rfl)) F3 d4_257 (pc' := 260) rfl (fun T13 X13 e13 => ?_)
  refine g_iloadN X13 hx hby d4_260 (pc' := 261) rfl rfl ?_
  refine a_aaload X13 hx hby hZ e13 A_oh rfl (by decide) (by decide) (v := (.ref th)) (rfl) d4_261 (pc' := 262) rfl ?_
  refine g_iload X13 hx hby d4_262 (pc' := 264) rfl rfl ?_
  refine g_lloadN X13 hx hby d4_264 (pc' := 265) rfl rfl ?_
  refine g_bipush X13 hx hby d4_265 (pc' := 267) rfl (n := (32 : Int32)) (by first | rfl | decide) ?_
  refine g_lushr X13 hx hby d4_267 (pc' := 268) rfl ?_
  refine g_l2i X13 hx hby d4_268 (pc' := 269) rfl ?_
  refine a_iastore X13 hx hby hZ e13 A_th (by decide) (by decide) d4_269 (pc' := 270) rfl (fun T14 h14 X14 e14 W14 => ?_)
  replace E_o := E_o.wr W14
  replace F1 := F1.other W14 (Or.inl m1)
  replace F2 := F2.other W14 (Or.inl m1)
  replace F3 := F3.other W14 (Or.inl m1)
  replace A_ol := A_ol.other W14 m2
  replace A_tl := A_tl.other W14 m4
  replace A_oh := A_oh.other W14 m3
  have Z15 : n0 ≤ h14.size := by rw [W14.size]; exact Z9
  have N16 := Fr.snoc X14 N10 g_th
  replace A_th : Ara Z h14 th .int 16 (fun jz => .int ((own_ui gh 2 ((XT.ushrL v (32 : Int32)).toInt32)) jz)) := A_th.setI W14
  refine g_aloadN X14 hx hby d4_270 (pc' := 271) rfl rfl rfl ?_
  refine g_dup X14 hx hby d4_271 (pc' := 272) rfl rfl ?_
  refine g_getF X14 hx hby hZ hown e14 (hw _ (List.mem_of_getElem? (i := 26) rfl)) F1 d4_272 (pc' := 275) rfl (fun T17 X17 e17 => ?_)
  refine g_iconst X17 hx hby d4_275 (pc' := 276) rfl (n := (1 : Int32)) (by first | rfl | decide) ?_
  refine g_iadd X17 hx hby d4_276 (pc' := 277) rfl ?_
  show Go p e below s (QCol Z n0 o (3 : Int32) 3 (own_ul q 2 v)) ({ frames := 0, cells := 1, slots := 16, locals := 0 } : Room).cells ({ frames := 0, cells := 1, slots := 16, locals := 0 } : Room).slots m T17 277 #[.val (.ref o), .val (.long v), .second, .val (.int (0 : Int32)), .val (.int (2 : Int32)), .unset] [(.int (3 : Int32)), (.ref o)]
  refine g_putF X17 hx hby hZ hown e17 (hw _ (List.mem_of_getElem? (i := 26) rfl)) F1 E_o (Or.inl (hw _ (List.mem_of_getElem? (i := 27) rfl))) (hw _ (List.mem_of_getElem? (i := 5) rfl)) (ty := .int) (by decide) rfl rfl d4_277 (pc' := 280) rfl (fun T18 h18 X18 e18 W18 => ?_)
  replace E_o := E_o.wr W18
  replace F1 := F1.same W18
  replace F2 := F2.other W18 (Or.inr (slot_ne (Or.inl (hw _ (List.mem_of_getElem? (i := 18) rfl))) (Or.inl (hw _ (List.mem_of_getElem? (i := 27) rfl))) (by decide) (t := (.array (.array .int))) (t' := .int) (by decide) (by decide)))
  replace F3 := F3.other W18 (Or.inr (slot_ne (Or.inl (hw _ (List.mem_of_getElem? (i := 20) rfl))) (Or.inl (hw _ (List.mem_of_getElem? (i := 27) rfl))) (by decide) (t := (.array (.array .int))) (t' := .int) (by decide) (by decide)))
  replace A_ol := A_ol.other W18 (Ne.symm n1)
  replace A_tl := A_tl.other W18 (Ne.symm n3)
  replace A_oh := A_oh.other W18 (Ne.symm n2)
  replace A_th := A_th.other W18 (Ne.symm m1)
  have Z19 : n0 ≤ h18.size := by rw [W18.size]; exact Z15
  have N20 := Fr.snoc X18 N16 g_o
  exact g_retV X18 hx hby hlk hret d4_280 (by decide) (by decide) (by rw [e18]; exact ⟨rfl, N20, ol, oh, tl, _, g_ol, g_oh, g_tl, n1, n2, n3, n4, n5, n6, E_o, F1, F2, F3, A_ol, A_tl, own_c1 g q 2 v hg, Or.inr ⟨th, _, g_th, m1, m2, m3, m4, A_oh, A_th, own_c3 gh q 2 v hh⟩⟩)
theorem rm_add2 (l : Launch) (Z : State) (a0 : Array Value) (hw : ∀ d ∈ tables_1, d.before a0 Z = true) (o : Addr) (v : Int64) (n0 : Nat) (q : Nat → Int64) (h0 : Heap) (g_o : n0 ≤ o) (cl : Col Z n0 h0 o (2 : Int32) 2 q) :
    Ct l Z (⟨"com/example/isolens/isolens/history/LongColumn", "add", "(J)V"⟩ : MethodName) prog_109_method_3_code 6 none ({ frames := 0, cells := 1, slots := 16, locals := 0 } : Room) #[(.ref o), (.long v)] h0 (QCol Z n0 o (3 : Int32) 3 (own_ul q 2 v)) := by
  have Z0 := own_colsz cl
  obtain ⟨ol, oh, tl, g, g_ol, g_oh, g_tl, n1, n2, n3, n4, n5, n6, E_o, F1, F2, F3, A_ol, A_tl, hg, c⟩ := cl
  rcases c with ⟨A_oh, O_oh, hf⟩ | ⟨th, gh, g_th, m1, m2, m3, m4, A_oh, A_th, hh⟩
  · exact rm_an2 l Z a0 hw o v n0 ol oh tl g q h0 Z0 g_o g_ol g_oh g_tl n1 n2 n3 n4 n5 n6 E_o F1 F2 F3 A_ol A_tl A_oh O_oh hg hf
  · exact rm_as2 l Z a0 hw o v n0 ol oh tl th g gh q h0 Z0 g_o g_ol g_oh g_tl n1 n2 n3 n4 n5 n6 E_o F1 F2 F3 A_ol A_tl g_th m1 m2 m3 m4 A_oh A_th hg hh
theorem ef_5 (m : MethodId) (o : Addr) : entryFrame m #[(.ref o)] 1 = mkF m 0 #[.val (.ref o)] [] := by first | (simp [entryFrame, mkF, argsToLocals, Value.category]; done) | rfl
theorem pn_5 : plainName "com/example/isolens/isolens/history/LongColumn" = true := by first | (simp [plainName, overriddenIn]; done) | decide +kernel
theorem d5_0 : decode prog_109_method_4_code 0 = .ok (.aload_n 0, 1) := by decide +kernel
theorem d5_1 : decode prog_109_method_4_code 1 = .ok (.getfield 21, 3) := by decide +kernel
theorem d5_4 : decode prog_109_method_4_code 4 = .ok (.ireturn, 1) := by decide +kernel
set_option maxRecDepth 65536 in
set_option maxHeartbeats 40000000 in
theorem rm5 (l : Launch) (Z : State) (a0 : Array Value) (hw : ∀ d ∈ tables_1, d.before a0 Z = true) (o : Addr) (k : Int32) (h0 : Heap) (F1 : Fld Z h0 o "com/example/isolens/isolens/history/LongColumn" "size" "I" (.int k)) :
    Ct l Z (⟨"com/example/isolens/isolens/history/LongColumn", "size", "()I"⟩ : MethodName) prog_109_method_4_code 1 (some .int) ({ frames := 0, cells := 0, slots := 0, locals := 0 } : Room) #[(.ref o)] h0 (QI h0 (fun r => r = k)) := by
  refine own_met (plainFor_of_name pn_5) (fun m => ef_5 m o) ?_
  intro p e s m below meth c T0 X0 hx hby hml hown hnm hret hlk hZ e0
  refine g_aloadN X0 hx hby d5_0 (pc' := 1) rfl rfl rfl ?_
  refine g_getF X0 hx hby hZ hown e0 (hw _ (List.mem_of_getElem? (i := 26) rfl)) F1 d5_1 (pc' := 4) rfl (fun T1 X1 e1 => ?_)
  exact g_retI X1 hx hby hlk hret d5_4 (by decide) (by decide) (⟨⟨_, rfl, rfl⟩, e1, rfl⟩)
theorem ef_6_rm_gn0 (m : MethodId) (o : Addr) : entryFrame m #[(.ref o), (.int (0 : Int32))] 5 = mkF m 0 #[.val (.ref o), .val (.int (0 : Int32)), .unset, .unset, .unset] [] := by first | (simp [entryFrame, mkF, argsToLocals, Value.category]; done) | rfl
theorem pn_6 : plainName "com/example/isolens/isolens/history/LongColumn" = true := by first | (simp [plainName, overriddenIn]; done) | decide +kernel
theorem d6_0 : decode prog_109_method_2_code 0 = .ok (.iload_n 1, 1) := by decide +kernel
theorem d6_1 : decode prog_109_method_2_code 1 = .ok (.bipush 16, 2) := by decide +kernel
theorem d6_3 : decode prog_109_method_2_code 3 = .ok (.iushr, 1) := by decide +kernel
theorem d6_4 : decode prog_109_method_2_code 4 = .ok (.istore_n 2, 1) := by decide +kernel
theorem d6_5 : decode prog_109_method_2_code 5 = .ok (.aload_n 0, 1) := by decide +kernel
theorem d6_6 : decode prog_109_method_2_code 6 = .ok (.getfield 11, 3) := by decide +kernel
theorem d6_9 : decode prog_109_method_2_code 9 = .ok (.iload_n 2, 1) := by decide +kernel
theorem d6_10 : decode prog_109_method_2_code 10 = .ok (.aaload, 1) := by decide +kernel
theorem d6_11 : decode prog_109_method_2_code 11 = .ok (.iload_n 1, 1) := by decide +kernel
theorem d6_12 : decode prog_109_method_2_code 12 = .ok (.ldc 18, 2) := by decide +kernel
theorem d6_14 : decode prog_109_method_2_code 14 = .ok (.iand, 1) := by decide +kernel
theorem d6_15 : decode prog_109_method_2_code 15 = .ok (.iaload, 1) := by decide +kernel
theorem d6_16 : decode prog_109_method_2_code 16 = .ok (.istore_n 3, 1) := by decide +kernel
theorem d6_17 : decode prog_109_method_2_code 17 = .ok (.aload_n 0, 1) := by decide +kernel
theorem d6_18 : decode prog_109_method_2_code 18 = .ok (.getfield 15, 3) := by decide +kernel
theorem d6_21 : decode prog_109_method_2_code 21 = .ok (.iload_n 2, 1) := by decide +kernel
theorem d6_22 : decode prog_109_method_2_code 22 = .ok (.aaload, 1) := by decide +kernel
theorem d6_23 : decode prog_109_method_2_code 23 = .ok (.astore 4, 2) := by decide +kernel
theorem d6_25 : decode prog_109_method_2_code 25 = .ok (.aload 4, 2) := by decide +kernel
theorem d6_27 : decode prog_109_method_2_code 27 = .ok (.ifnonnull 8, 3) := by decide +kernel
theorem d6_30 : decode prog_109_method_2_code 30 = .ok (.iload_n 3, 1) := by decide +kernel
theorem d6_31 : decode prog_109_method_2_code 31 = .ok (.i2l, 1) := by decide +kernel
theorem d6_32 : decode prog_109_method_2_code 32 = .ok (.goto 21, 3) := by decide +kernel
theorem d6_53 : decode prog_109_method_2_code 53 = .ok (.lreturn, 1) := by decide +kernel
set_option maxRecDepth 65536 in
set_option maxHeartbeats 40000000 in
theorem rm_gn0 (l : Launch) (Z : State) (a0 : Array Value) (hw : ∀ d ∈ tables_1, d.before a0 Z = true) (o : Addr) (ol oh tl : Addr) (g : Nat → Int32) (h0 : Heap) (F2 : Fld Z h0 o "com/example/isolens/isolens/history/LongColumn" "low" "[[I" (.ref ol)) (F3 : Fld Z h0 o "com/example/isolens/isolens/history/LongColumn" "high" "[[I" (.ref oh)) (A_ol : Ara Z h0 ol (.array .int) 1 (fun _ => (.ref tl))) (A_tl : Ara Z h0 tl .int 16 (fun j => .int (g j))) (A_oh : Ara Z h0 oh (.array .int) 1 (fun _ => .null)) :
    Ct l Z (⟨"com/example/isolens/isolens/history/LongColumn", "get", "(I)J"⟩ : MethodName) prog_109_method_2_code 5 (some .long) ({ frames := 0, cells := 0, slots := 0, locals := 0 } : Room) #[(.ref o), (.int (0 : Int32))] h0 (QL h0 (fun r => r = (g 0).toInt64)) := by
  refine own_met (plainFor_of_name pn_6) (fun m => ef_6_rm_gn0 m o) ?_
  intro p e s m below meth c T0 X0 hx hby hml hown hnm hret hlk hZ e0
  refine g_iloadN X0 hx hby d6_0 (pc' := 1) rfl rfl ?_
  refine g_bipush X0 hx hby d6_1 (pc' := 3) rfl (n := (16 : Int32)) (by first | rfl | decide) ?_
  refine g_iushr X0 hx hby d6_3 (pc' := 4) rfl ?_
  show Go p e below s (QL h0 (fun r => r = (g 0).toInt64)) ({ frames := 0, cells := 0, slots := 0, locals := 0 } : Room).cells ({ frames := 0, cells := 0, slots := 0, locals := 0 } : Room).slots m T0 4 #[.val (.ref o), .val (.int (0 : Int32)), .unset, .unset, .unset] [(.int (0 : Int32))]
  refine g_istoreN X0 hx hby d6_4 (pc' := 5) rfl (Ls' := #[.val (.ref o), .val (.int (0 : Int32)), .val (.int (0 : Int32)), .unset, .unset]) rfl ?_
  refine g_aloadN X0 hx hby d6_5 (pc' := 6) rfl rfl rfl ?_
  refine g_getF X0 hx hby hZ hown e0 (hw _ (List.mem_of_getElem? (i := 17) rfl)) F2 d6_6 (pc' := 9) rfl (fun T1 X1 e1 => ?_)
  refine g_iloadN X1 hx hby d6_9 (pc' := 10) rfl rfl ?_
  refine a_aaload X1 hx hby hZ e1 A_ol rfl (by decide) (by decide) (v := (.ref tl)) (rfl) d6_10 (pc' := 11) rfl ?_
  refine g_iloadN X1 hx hby d6_11 (pc' := 12) rfl rfl ?_
  refine g_ldcI X1 hx hby hZ hown (hw _ (List.mem_of_getElem? (i := 29) rfl)) d6_12 (pc' := 14) rfl ?_
  refine g_iand X1 hx hby d6_14 (pc' := 15) rfl ?_
  show Go p e below s (QL h0 (fun r => r = (g 0).toInt64)) ({ frames := 0, cells := 0, slots := 0, locals := 0 } : Room).cells ({ frames := 0, cells := 0, slots := 0, locals := 0 } : Room).slots m T1 15 #[.val (.ref o), .val (.int (0 : Int32)), .val (.int (0 : Int32)), .unset, .unset] [(.int (0 : Int32)), (.ref tl)]
  refine a_iaload X1 hx hby hZ e1 A_tl (by decide) (by decide) (v := (.int (g 0))) (rfl) d6_15 (pc' := 16) rfl ?_
  refine g_istoreN X1 hx hby d6_16 (pc' := 17) rfl (Ls' := #[.val (.ref o), .val (.int (0 : Int32)), .val (.int (0 : Int32)), .val (.int (g 0)), .unset]) rfl ?_
  refine g_aloadN X1 hx hby d6_17 (pc' := 18) rfl rfl rfl ?_
  refine g_getF X1 hx hby hZ hown e1 (hw _ (List.mem_of_getElem? (i := 19) rfl)) F3 d6_18 (pc' := 21) rfl (fun T2 X2 e2 => ?_)
  refine g_iloadN X2 hx hby d6_21 (pc' := 22) rfl rfl ?_
  refine a_aaload X2 hx hby hZ e2 A_oh rfl (by decide) (by decide) (v := .null) (rfl) d6_22 (pc' := 23) rfl ?_
  refine g_astore X2 hx hby d6_23 (pc' := 25) rfl rfl (Ls' := #[.val (.ref o), .val (.int (0 : Int32)), .val (.int (0 : Int32)), .val (.int (g 0)), .val .null]) rfl ?_
  refine g_aload X2 hx hby d6_25 (pc' := 27) rfl rfl rfl ?_
  refine g_ifnonnull X2 hx hby rfl d6_27 (pt := 35) (pf := 30) (by decide) (by decide) rfl (fun bz qz => nomatch qz) (fun qz => ?_)
  refine g_iloadN X2 hx hby d6_30 (pc' := 31) rfl rfl ?_
  refine g_i2l X2 hx hby d6_31 (pc' := 32) rfl ?_
  refine g_goto X2 hx hby d6_32 (pc' := 53) (by decide) (by decide) ?_
  exact g_retL X2 hx hby hlk hret d6_53 (by decide) (by decide) (⟨⟨_, rfl, rfl⟩, e2, rfl⟩)
theorem ef_6_rm_gs0 (m : MethodId) (o : Addr) : entryFrame m #[(.ref o), (.int (0 : Int32))] 5 = mkF m 0 #[.val (.ref o), .val (.int (0 : Int32)), .unset, .unset, .unset] [] := by first | (simp [entryFrame, mkF, argsToLocals, Value.category]; done) | rfl
theorem d6_35 : decode prog_109_method_2_code 35 = .ok (.aload 4, 2) := by decide +kernel
theorem d6_37 : decode prog_109_method_2_code 37 = .ok (.iload_n 1, 1) := by decide +kernel
theorem d6_38 : decode prog_109_method_2_code 38 = .ok (.ldc 18, 2) := by decide +kernel
theorem d6_40 : decode prog_109_method_2_code 40 = .ok (.iand, 1) := by decide +kernel
theorem d6_41 : decode prog_109_method_2_code 41 = .ok (.iaload, 1) := by decide +kernel
theorem d6_42 : decode prog_109_method_2_code 42 = .ok (.i2l, 1) := by decide +kernel
theorem d6_43 : decode prog_109_method_2_code 43 = .ok (.bipush 32, 2) := by decide +kernel
theorem d6_45 : decode prog_109_method_2_code 45 = .ok (.lshl, 1) := by decide +kernel
theorem d6_46 : decode prog_109_method_2_code 46 = .ok (.iload_n 3, 1) := by decide +kernel
theorem d6_47 : decode prog_109_method_2_code 47 = .ok (.i2l, 1) := by decide +kernel
theorem d6_48 : decode prog_109_method_2_code 48 = .ok (.ldc2_w 19, 3) := by decide +kernel
theorem d6_51 : decode prog_109_method_2_code 51 = .ok (.land, 1) := by decide +kernel
theorem d6_52 : decode prog_109_method_2_code 52 = .ok (.lor, 1) := by decide +kernel
set_option maxRecDepth 65536 in
set_option maxHeartbeats 40000000 in
theorem rm_gs0 (l : Launch) (Z : State) (a0 : Array Value) (hw : ∀ d ∈ tables_1, d.before a0 Z = true) (o : Addr) (ol oh tl th : Addr) (g gh : Nat → Int32) (h0 : Heap) (F2 : Fld Z h0 o "com/example/isolens/isolens/history/LongColumn" "low" "[[I" (.ref ol)) (F3 : Fld Z h0 o "com/example/isolens/isolens/history/LongColumn" "high" "[[I" (.ref oh)) (A_ol : Ara Z h0 ol (.array .int) 1 (fun _ => (.ref tl))) (A_tl : Ara Z h0 tl .int 16 (fun j => .int (g j))) (A_oh : Ara Z h0 oh (.array .int) 1 (fun _ => (.ref th))) (A_th : Ara Z h0 th .int 16 (fun j => .int (gh j))) :
    Ct l Z (⟨"com/example/isolens/isolens/history/LongColumn", "get", "(I)J"⟩ : MethodName) prog_109_method_2_code 5 (some .long) ({ frames := 0, cells := 0, slots := 0, locals := 0 } : Room) #[(.ref o), (.int (0 : Int32))] h0 (QL h0 (fun r => r = (((gh 0).toInt64 <<< ((32 : Int32).toInt64 &&& 63)) ||| ((g 0).toInt64 &&& (4294967295 : Int64))))) := by
  refine own_met (plainFor_of_name pn_6) (fun m => ef_6_rm_gs0 m o) ?_
  intro p e s m below meth c T0 X0 hx hby hml hown hnm hret hlk hZ e0
  refine g_iloadN X0 hx hby d6_0 (pc' := 1) rfl rfl ?_
  refine g_bipush X0 hx hby d6_1 (pc' := 3) rfl (n := (16 : Int32)) (by first | rfl | decide) ?_
  refine g_iushr X0 hx hby d6_3 (pc' := 4) rfl ?_
  show Go p e below s (QL h0 (fun r => r = (((gh 0).toInt64 <<< ((32 : Int32).toInt64 &&& 63)) ||| ((g 0).toInt64 &&& (4294967295 : Int64))))) ({ frames := 0, cells := 0, slots := 0, locals := 0 } : Room).cells ({ frames := 0, cells := 0, slots := 0, locals := 0 } : Room).slots m T0 4 #[.val (.ref o), .val (.int (0 : Int32)), .unset, .unset, .unset] [(.int (0 : Int32))]
  refine g_istoreN X0 hx hby d6_4 (pc' := 5) rfl (Ls' := #[.val (.ref o), .val (.int (0 : Int32)), .val (.int (0 : Int32)), .unset, .unset]) rfl ?_
  refine g_aloadN X0 hx hby d6_5 (pc' := 6) rfl rfl rfl ?_
  refine g_getF X0 hx hby hZ hown e0 (hw _ (List.mem_of_getElem? (i := 17) rfl)) F2 d6_6 (pc' := 9) rfl (fun T1 X1 e1 => ?_)
  refine g_iloadN X1 hx hby d6_9 (pc' := 10) rfl rfl ?_
  refine a_aaload X1 hx hby hZ e1 A_ol rfl (by decide) (by decide) (v := (.ref tl)) (rfl) d6_10 (pc' := 11) rfl ?_
  refine g_iloadN X1 hx hby d6_11 (pc' := 12) rfl rfl ?_
  refine g_ldcI X1 hx hby hZ hown (hw _ (List.mem_of_getElem? (i := 29) rfl)) d6_12 (pc' := 14) rfl ?_
  refine g_iand X1 hx hby d6_14 (pc' := 15) rfl ?_
  show Go p e below s (QL h0 (fun r => r = (((gh 0).toInt64 <<< ((32 : Int32).toInt64 &&& 63)) ||| ((g 0).toInt64 &&& (4294967295 : Int64))))) ({ frames := 0, cells := 0, slots := 0, locals := 0 } : Room).cells ({ frames := 0, cells := 0, slots := 0, locals := 0 } : Room).slots m T1 15 #[.val (.ref o), .val (.int (0 : Int32)), .val (.int (0 : Int32)), .unset, .unset] [(.int (0 : Int32)), (.ref tl)]
  refine a_iaload X1 hx hby hZ e1 A_tl (by decide) (by decide) (v := (.int (g 0))) (rfl) d6_15 (pc' := 16) rfl ?_
  refine g_istoreN X1 hx hby d6_16 (pc' := 17) rfl (Ls' := #[.val (.ref o), .val (.int (0 : Int32)), .val (.int (0 : Int32)), .val (.int (g 0)), .unset]) rfl ?_
  refine g_aloadN X1 hx hby d6_17 (pc' := 18) rfl rfl rfl ?_
  refine g_getF X1 hx hby hZ hown e1 (hw _ (List.mem_of_getElem? (i := 19) rfl)) F3 d6_18 (pc' := 21) rfl (fun T2 X2 e2 => ?_)
  refine g_iloadN X2 hx hby d6_21 (pc' := 22) rfl rfl ?_
  refine a_aaload X2 hx hby hZ e2 A_oh rfl (by decide) (by decide) (v := (.ref th)) (rfl) d6_22 (pc' := 23) rfl ?_
  refine g_astore X2 hx hby d6_23 (pc' := 25) rfl rfl (Ls' := #[.val (.ref o), .val (.int (0 : Int32)), .val (.int (0 : Int32)), .val (.int (g 0)), .val (.ref th)]) rfl ?_
  refine g_aload X2 hx hby d6_25 (pc' := 27) rfl rfl rfl ?_
  refine g_ifnonnull X2 hx hby rfl d6_27 (pt := 35) (pf := 30) (by decide) (by decide) rfl (fun bz qz => ?_) (fun qz => nomatch qz)
  refine g_aload X2 hx hby d6_35 (pc' := 37) rfl rfl rfl ?_
  refine g_iloadN X2 hx hby d6_37 (pc' := 38) rfl rfl ?_
  refine g_ldcI X2 hx hby hZ hown (hw _ (List.mem_of_getElem? (i := 29) rfl)) d6_38 (pc' := 40) rfl ?_
  refine g_iand X2 hx hby d6_40 (pc' := 41) rfl ?_
  show Go p e below s (QL h0 (fun r => r = (((gh 0).toInt64 <<< ((32 : Int32).toInt64 &&& 63)) ||| ((g 0).toInt64 &&& (4294967295 : Int64))))) ({ frames := 0, cells := 0, slots := 0, locals := 0 } : Room).cells ({ frames := 0, cells := 0, slots := 0, locals := 0 } : Room).slots m T2 41 #[.val (.ref o), .val (.int (0 : Int32)), .val (.int (0 : Int32)), .val (.int (g 0)), .val (.ref th)] [(.int (0 : Int32)), (.ref th)]
  refine a_iaload X2 hx hby hZ e2 A_th (by decide) (by decide) (v := (.int (gh 0))) (rfl) d6_41 (pc' := 42) rfl ?_
  refine g_i2l X2 hx hby d6_42 (pc' := 43) rfl ?_
  refine g_bipush X2 hx hby d6_43 (pc' := 45) rfl (n := (32 : Int32)) (by first | rfl | decide) ?_
  refine g_lshl X2 hx hby d6_45 (pc' := 46) rfl ?_
  refine g_iloadN X2 hx hby d6_46 (pc' := 47) rfl rfl ?_
  refine g_i2l X2 hx hby d6_47 (pc' := 48) rfl ?_
  refine g_ldcL X2 hx hby hZ hown (hw _ (List.mem_of_getElem? (i := 40) rfl)) d6_48 (pc' := 51) rfl ?_
  refine g_land X2 hx hby d6_51 (pc' := 52) rfl ?_
  refine g_lor X2 hx hby d6_52 (pc' := 53) rfl ?_
  exact g_retL X2 hx hby hlk hret d6_53 (by decide) (by decide) (⟨⟨_, rfl, rfl⟩, e2, rfl⟩)
theorem rm_get0 (l : Launch) (Z : State) (a0 : Array Value) (hw : ∀ d ∈ tables_1, d.before a0 Z = true) (o : Addr) (n0 : Nat) (q : Nat → Int64) (h0 : Heap) (cl : Col Z n0 h0 o (3 : Int32) 3 q) :
    Ct l Z (⟨"com/example/isolens/isolens/history/LongColumn", "get", "(I)J"⟩ : MethodName) prog_109_method_2_code 5 (some .long) ({ frames := 0, cells := 0, slots := 0, locals := 0 } : Room) #[(.ref o), (.int (0 : Int32))] h0 (QL h0 (fun r => r = q 0)) := by
  obtain ⟨ol, oh, tl, g, -, -, -, -, -, -, -, -, -, -, -, F2, F3, A_ol, A_tl, hg, c⟩ := cl
  rcases c with ⟨A_oh, O_oh, hf⟩ | ⟨th, gh, g_th, m1, m2, m3, m4, A_oh, A_th, hh⟩
  · have M := rm_gn0 l Z a0 hw o ol oh tl g h0 F2 F3 A_ol A_tl A_oh
    rw [hg 0 (by decide), ← hf 0 (by decide)] at M
    exact M
  · have M := rm_gs0 l Z a0 hw o ol oh tl th g gh h0 F2 F3 A_ol A_tl A_oh A_th
    rw [hg 0 (by decide), hh 0 (by decide), own_join (q 0) _ _ (own_hi (q 0)) (own_lo (q 0))] at M
    exact M
theorem ef_6_rm_gn1 (m : MethodId) (o : Addr) : entryFrame m #[(.ref o), (.int (1 : Int32))] 5 = mkF m 0 #[.val (.ref o), .val (.int (1 : Int32)), .unset, .unset, .unset] [] := by first | (simp [entryFrame, mkF, argsToLocals, Value.category]; done) | rfl
set_option maxRecDepth 65536 in
set_option maxHeartbeats 40000000 in
theorem rm_gn1 (l : Launch) (Z : State) (a0 : Array Value) (hw : ∀ d ∈ tables_1, d.before a0 Z = true) (o : Addr) (ol oh tl : Addr) (g : Nat → Int32) (h0 : Heap) (F2 : Fld Z h0 o "com/example/isolens/isolens/history/LongColumn" "low" "[[I" (.ref ol)) (F3 : Fld Z h0 o "com/example/isolens/isolens/history/LongColumn" "high" "[[I" (.ref oh)) (A_ol : Ara Z h0 ol (.array .int) 1 (fun _ => (.ref tl))) (A_tl : Ara Z h0 tl .int 16 (fun j => .int (g j))) (A_oh : Ara Z h0 oh (.array .int) 1 (fun _ => .null)) :
    Ct l Z (⟨"com/example/isolens/isolens/history/LongColumn", "get", "(I)J"⟩ : MethodName) prog_109_method_2_code 5 (some .long) ({ frames := 0, cells := 0, slots := 0, locals := 0 } : Room) #[(.ref o), (.int (1 : Int32))] h0 (QL h0 (fun r => r = (g 1).toInt64)) := by
  refine own_met (plainFor_of_name pn_6) (fun m => ef_6_rm_gn1 m o) ?_
  intro p e s m below meth c T0 X0 hx hby hml hown hnm hret hlk hZ e0
  refine g_iloadN X0 hx hby d6_0 (pc' := 1) rfl rfl ?_
  refine g_bipush X0 hx hby d6_1 (pc' := 3) rfl (n := (16 : Int32)) (by first | rfl | decide) ?_
  refine g_iushr X0 hx hby d6_3 (pc' := 4) rfl ?_
  show Go p e below s (QL h0 (fun r => r = (g 1).toInt64)) ({ frames := 0, cells := 0, slots := 0, locals := 0 } : Room).cells ({ frames := 0, cells := 0, slots := 0, locals := 0 } : Room).slots m T0 4 #[.val (.ref o), .val (.int (1 : Int32)), .unset, .unset, .unset] [(.int (0 : Int32))]
  refine g_istoreN X0 hx hby d6_4 (pc' := 5) rfl (Ls' := #[.val (.ref o), .val (.int (1 : Int32)), .val (.int (0 : Int32)), .unset, .unset]) rfl ?_
  refine g_aloadN X0 hx hby d6_5 (pc' := 6) rfl rfl rfl ?_
  refine g_getF X0 hx hby hZ hown e0 (hw _ (List.mem_of_getElem? (i := 17) rfl)) F2 d6_6 (pc' := 9) rfl (fun T1 X1 e1 => ?_)
  refine g_iloadN X1 hx hby d6_9 (pc' := 10) rfl rfl ?_
  refine a_aaload X1 hx hby hZ e1 A_ol rfl (by decide) (by decide) (v := (.ref tl)) (rfl) d6_10 (pc' := 11) rfl ?_
  refine g_iloadN X1 hx hby d6_11 (pc' := 12) rfl rfl ?_
  refine g_ldcI X1 hx hby hZ hown (hw _ (List.mem_of_getElem? (i := 29) rfl)) d6_12 (pc' := 14) rfl ?_
  refine g_iand X1 hx hby d6_14 (pc' := 15) rfl ?_
  show Go p e below s (QL h0 (fun r => r = (g 1).toInt64)) ({ frames := 0, cells := 0, slots := 0, locals := 0 } : Room).cells ({ frames := 0, cells := 0, slots := 0, locals := 0 } : Room).slots m T1 15 #[.val (.ref o), .val (.int (1 : Int32)), .val (.int (0 : Int32)), .unset, .unset] [(.int (1 : Int32)), (.ref tl)]
  refine a_iaload X1 hx hby hZ e1 A_tl (by decide) (by decide) (v := (.int (g 1))) (rfl) d6_15 (pc' := 16) rfl ?_
  refine g_istoreN X1 hx hby d6_16 (pc' := 17) rfl (Ls' := #[.val (.ref o), .val (.int (1 : Int32)), .val (.int (0 : Int32)), .val (.int (g 1)), .unset]) rfl ?_
  refine g_aloadN X1 hx hby d6_17 (pc' := 18) rfl rfl rfl ?_
  refine g_getF X1 hx hby hZ hown e1 (hw _ (List.mem_of_getElem? (i := 19) rfl)) F3 d6_18 (pc' := 21) rfl (fun T2 X2 e2 => ?_)
  refine g_iloadN X2 hx hby d6_21 (pc' := 22) rfl rfl ?_
  refine a_aaload X2 hx hby hZ e2 A_oh rfl (by decide) (by decide) (v := .null) (rfl) d6_22 (pc' := 23) rfl ?_
  refine g_astore X2 hx hby d6_23 (pc' := 25) rfl rfl (Ls' := #[.val (.ref o), .val (.int (1 : Int32)), .val (.int (0 : Int32)), .val (.int (g 1)), .val .null]) rfl ?_
  refine g_aload X2 hx hby d6_25 (pc' := 27) rfl rfl rfl ?_
  refine g_ifnonnull X2 hx hby rfl d6_27 (pt := 35) (pf := 30) (by decide) (by decide) rfl (fun bz qz => nomatch qz) (fun qz => ?_)
  refine g_iloadN X2 hx hby d6_30 (pc' := 31) rfl rfl ?_
  refine g_i2l X2 hx hby d6_31 (pc' := 32) rfl ?_
  refine g_goto X2 hx hby d6_32 (pc' := 53) (by decide) (by decide) ?_
  exact g_retL X2 hx hby hlk hret d6_53 (by decide) (by decide) (⟨⟨_, rfl, rfl⟩, e2, rfl⟩)
theorem ef_6_rm_gs1 (m : MethodId) (o : Addr) : entryFrame m #[(.ref o), (.int (1 : Int32))] 5 = mkF m 0 #[.val (.ref o), .val (.int (1 : Int32)), .unset, .unset, .unset] [] := by first | (simp [entryFrame, mkF, argsToLocals, Value.category]; done) | rfl
set_option maxRecDepth 65536 in
set_option maxHeartbeats 40000000 in
theorem rm_gs1 (l : Launch) (Z : State) (a0 : Array Value) (hw : ∀ d ∈ tables_1, d.before a0 Z = true) (o : Addr) (ol oh tl th : Addr) (g gh : Nat → Int32) (h0 : Heap) (F2 : Fld Z h0 o "com/example/isolens/isolens/history/LongColumn" "low" "[[I" (.ref ol)) (F3 : Fld Z h0 o "com/example/isolens/isolens/history/LongColumn" "high" "[[I" (.ref oh)) (A_ol : Ara Z h0 ol (.array .int) 1 (fun _ => (.ref tl))) (A_tl : Ara Z h0 tl .int 16 (fun j => .int (g j))) (A_oh : Ara Z h0 oh (.array .int) 1 (fun _ => (.ref th))) (A_th : Ara Z h0 th .int 16 (fun j => .int (gh j))) :
    Ct l Z (⟨"com/example/isolens/isolens/history/LongColumn", "get", "(I)J"⟩ : MethodName) prog_109_method_2_code 5 (some .long) ({ frames := 0, cells := 0, slots := 0, locals := 0 } : Room) #[(.ref o), (.int (1 : Int32))] h0 (QL h0 (fun r => r = (((gh 1).toInt64 <<< ((32 : Int32).toInt64 &&& 63)) ||| ((g 1).toInt64 &&& (4294967295 : Int64))))) := by
  refine own_met (plainFor_of_name pn_6) (fun m => ef_6_rm_gs1 m o) ?_
  intro p e s m below meth c T0 X0 hx hby hml hown hnm hret hlk hZ e0
  refine g_iloadN X0 hx hby d6_0 (pc' := 1) rfl rfl ?_
  refine g_bipush X0 hx hby d6_1 (pc' := 3) rfl (n := (16 : Int32)) (by first | rfl | decide) ?_
  refine g_iushr X0 hx hby d6_3 (pc' := 4) rfl ?_
  show Go p e below s (QL h0 (fun r => r = (((gh 1).toInt64 <<< ((32 : Int32).toInt64 &&& 63)) ||| ((g 1).toInt64 &&& (4294967295 : Int64))))) ({ frames := 0, cells := 0, slots := 0, locals := 0 } : Room).cells ({ frames := 0, cells := 0, slots := 0, locals := 0 } : Room).slots m T0 4 #[.val (.ref o), .val (.int (1 : Int32)), .unset, .unset, .unset] [(.int (0 : Int32))]
  refine g_istoreN X0 hx hby d6_4 (pc' := 5) rfl (Ls' := #[.val (.ref o), .val (.int (1 : Int32)), .val (.int (0 : Int32)), .unset, .unset]) rfl ?_
  refine g_aloadN X0 hx hby d6_5 (pc' := 6) rfl rfl rfl ?_
  refine g_getF X0 hx hby hZ hown e0 (hw _ (List.mem_of_getElem? (i := 17) rfl)) F2 d6_6 (pc' := 9) rfl (fun T1 X1 e1 => ?_)
  refine g_iloadN X1 hx hby d6_9 (pc' := 10) rfl rfl ?_
  refine a_aaload X1 hx hby hZ e1 A_ol rfl (by decide) (by decide) (v := (.ref tl)) (rfl) d6_10 (pc' := 11) rfl ?_
  refine g_iloadN X1 hx hby d6_11 (pc' := 12) rfl rfl ?_
  refine g_ldcI X1 hx hby hZ hown (hw _ (List.mem_of_getElem? (i := 29) rfl)) d6_12 (pc' := 14) rfl ?_
  refine g_iand X1 hx hby d6_14 (pc' := 15) rfl ?_
  show Go p e below s (QL h0 (fun r => r = (((gh 1).toInt64 <<< ((32 : Int32).toInt64 &&& 63)) ||| ((g 1).toInt64 &&& (4294967295 : Int64))))) ({ frames := 0, cells := 0, slots := 0, locals := 0 } : Room).cells ({ frames := 0, cells := 0, slots := 0, locals := 0 } : Room).slots m T1 15 #[.val (.ref o), .val (.int (1 : Int32)), .val (.int (0 : Int32)), .unset, .unset] [(.int (1 : Int32)), (.ref tl)]
  refine a_iaload X1 hx hby hZ e1 A_tl (by decide) (by decide) (v := (.int (g 1))) (rfl) d6_15 (pc' := 16) rfl ?_
  refine g_istoreN X1 hx hby d6_16 (pc' := 17) rfl (Ls' := #[.val (.ref o), .val (.int (1 : Int32)), .val (.int (0 : Int32)), .val (.int (g 1)), .unset]) rfl ?_
  refine g_aloadN X1 hx hby d6_17 (pc' := 18) rfl rfl rfl ?_
  refine g_getF X1 hx hby hZ hown e1 (hw _ (List.mem_of_getElem? (i := 19) rfl)) F3 d6_18 (pc' := 21) rfl (fun T2 X2 e2 => ?_)
  refine g_iloadN X2 hx hby d6_21 (pc' := 22) rfl rfl ?_
  refine a_aaload X2 hx hby hZ e2 A_oh rfl (by decide) (by decide) (v := (.ref th)) (rfl) d6_22 (pc' := 23) rfl ?_
  refine g_astore X2 hx hby d6_23 (pc' := 25) rfl rfl (Ls' := #[.val (.ref o), .val (.int (1 : Int32)), .val (.int (0 : Int32)), .val (.int (g 1)), .val (.ref th)]) rfl ?_
  refine g_aload X2 hx hby d6_25 (pc' := 27) rfl rfl rfl ?_
  refine g_ifnonnull X2 hx hby rfl d6_27 (pt := 35) (pf := 30) (by decide) (by decide) rfl (fun bz qz => ?_) (fun qz => nomatch qz)
  refine g_aload X2 hx hby d6_35 (pc' := 37) rfl rfl rfl ?_
  refine g_iloadN X2 hx hby d6_37 (pc' := 38) rfl rfl ?_
  refine g_ldcI X2 hx hby hZ hown (hw _ (List.mem_of_getElem? (i := 29) rfl)) d6_38 (pc' := 40) rfl ?_
  refine g_iand X2 hx hby d6_40 (pc' := 41) rfl ?_
  show Go p e below s (QL h0 (fun r => r = (((gh 1).toInt64 <<< ((32 : Int32).toInt64 &&& 63)) ||| ((g 1).toInt64 &&& (4294967295 : Int64))))) ({ frames := 0, cells := 0, slots := 0, locals := 0 } : Room).cells ({ frames := 0, cells := 0, slots := 0, locals := 0 } : Room).slots m T2 41 #[.val (.ref o), .val (.int (1 : Int32)), .val (.int (0 : Int32)), .val (.int (g 1)), .val (.ref th)] [(.int (1 : Int32)), (.ref th)]
  refine a_iaload X2 hx hby hZ e2 A_th (by decide) (by decide) (v := (.int (gh 1))) (rfl) d6_41 (pc' := 42) rfl ?_
  refine g_i2l X2 hx hby d6_42 (pc' := 43) rfl ?_
  refine g_bipush X2 hx hby d6_43 (pc' := 45) rfl (n := (32 : Int32)) (by first | rfl | decide) ?_
  refine g_lshl X2 hx hby d6_45 (pc' := 46) rfl ?_
  refine g_iloadN X2 hx hby d6_46 (pc' := 47) rfl rfl ?_
  refine g_i2l X2 hx hby d6_47 (pc' := 48) rfl ?_
  refine g_ldcL X2 hx hby hZ hown (hw _ (List.mem_of_getElem? (i := 40) rfl)) d6_48 (pc' := 51) rfl ?_
  refine g_land X2 hx hby d6_51 (pc' := 52) rfl ?_
  refine g_lor X2 hx hby d6_52 (pc' := 53) rfl ?_
  exact g_retL X2 hx hby hlk hret d6_53 (by decide) (by decide) (⟨⟨_, rfl, rfl⟩, e2, rfl⟩)
theorem rm_get1 (l : Launch) (Z : State) (a0 : Array Value) (hw : ∀ d ∈ tables_1, d.before a0 Z = true) (o : Addr) (n0 : Nat) (q : Nat → Int64) (h0 : Heap) (cl : Col Z n0 h0 o (3 : Int32) 3 q) :
    Ct l Z (⟨"com/example/isolens/isolens/history/LongColumn", "get", "(I)J"⟩ : MethodName) prog_109_method_2_code 5 (some .long) ({ frames := 0, cells := 0, slots := 0, locals := 0 } : Room) #[(.ref o), (.int (1 : Int32))] h0 (QL h0 (fun r => r = q 1)) := by
  obtain ⟨ol, oh, tl, g, -, -, -, -, -, -, -, -, -, -, -, F2, F3, A_ol, A_tl, hg, c⟩ := cl
  rcases c with ⟨A_oh, O_oh, hf⟩ | ⟨th, gh, g_th, m1, m2, m3, m4, A_oh, A_th, hh⟩
  · have M := rm_gn1 l Z a0 hw o ol oh tl g h0 F2 F3 A_ol A_tl A_oh
    rw [hg 1 (by decide), ← hf 1 (by decide)] at M
    exact M
  · have M := rm_gs1 l Z a0 hw o ol oh tl th g gh h0 F2 F3 A_ol A_tl A_oh A_th
    rw [hg 1 (by decide), hh 1 (by decide), own_join (q 1) _ _ (own_hi (q 1)) (own_lo (q 1))] at M
    exact M
theorem ef_6_rm_gn2 (m : MethodId) (o : Addr) : entryFrame m #[(.ref o), (.int (2 : Int32))] 5 = mkF m 0 #[.val (.ref o), .val (.int (2 : Int32)), .unset, .unset, .unset] [] := by first | (simp [entryFrame, mkF, argsToLocals, Value.category]; done) | rfl
set_option maxRecDepth 65536 in
set_option maxHeartbeats 40000000 in
theorem rm_gn2 (l : Launch) (Z : State) (a0 : Array Value) (hw : ∀ d ∈ tables_1, d.before a0 Z = true) (o : Addr) (ol oh tl : Addr) (g : Nat → Int32) (h0 : Heap) (F2 : Fld Z h0 o "com/example/isolens/isolens/history/LongColumn" "low" "[[I" (.ref ol)) (F3 : Fld Z h0 o "com/example/isolens/isolens/history/LongColumn" "high" "[[I" (.ref oh)) (A_ol : Ara Z h0 ol (.array .int) 1 (fun _ => (.ref tl))) (A_tl : Ara Z h0 tl .int 16 (fun j => .int (g j))) (A_oh : Ara Z h0 oh (.array .int) 1 (fun _ => .null)) :
    Ct l Z (⟨"com/example/isolens/isolens/history/LongColumn", "get", "(I)J"⟩ : MethodName) prog_109_method_2_code 5 (some .long) ({ frames := 0, cells := 0, slots := 0, locals := 0 } : Room) #[(.ref o), (.int (2 : Int32))] h0 (QL h0 (fun r => r = (g 2).toInt64)) := by
  refine own_met (plainFor_of_name pn_6) (fun m => ef_6_rm_gn2 m o) ?_
  intro p e s m below meth c T0 X0 hx hby hml hown hnm hret hlk hZ e0
  refine g_iloadN X0 hx hby d6_0 (pc' := 1) rfl rfl ?_
  refine g_bipush X0 hx hby d6_1 (pc' := 3) rfl (n := (16 : Int32)) (by first | rfl | decide) ?_
  refine g_iushr X0 hx hby d6_3 (pc' := 4) rfl ?_
  show Go p e below s (QL h0 (fun r => r = (g 2).toInt64)) ({ frames := 0, cells := 0, slots := 0, locals := 0 } : Room).cells ({ frames := 0, cells := 0, slots := 0, locals := 0 } : Room).slots m T0 4 #[.val (.ref o), .val (.int (2 : Int32)), .unset, .unset, .unset] [(.int (0 : Int32))]
  refine g_istoreN X0 hx hby d6_4 (pc' := 5) rfl (Ls' := #[.val (.ref o), .val (.int (2 : Int32)), .val (.int (0 : Int32)), .unset, .unset]) rfl ?_
  refine g_aloadN X0 hx hby d6_5 (pc' := 6) rfl rfl rfl ?_
  refine g_getF X0 hx hby hZ hown e0 (hw _ (List.mem_of_getElem? (i := 17) rfl)) F2 d6_6 (pc' := 9) rfl (fun T1 X1 e1 => ?_)
  refine g_iloadN X1 hx hby d6_9 (pc' := 10) rfl rfl ?_
  refine a_aaload X1 hx hby hZ e1 A_ol rfl (by decide) (by decide) (v := (.ref tl)) (rfl) d6_10 (pc' := 11) rfl ?_
  refine g_iloadN X1 hx hby d6_11 (pc' := 12) rfl rfl ?_
  refine g_ldcI X1 hx hby hZ hown (hw _ (List.mem_of_getElem? (i := 29) rfl)) d6_12 (pc' := 14) rfl ?_
  refine g_iand X1 hx hby d6_14 (pc' := 15) rfl ?_
  show Go p e below s (QL h0 (fun r => r = (g 2).toInt64)) ({ frames := 0, cells := 0, slots := 0, locals := 0 } : Room).cells ({ frames := 0, cells := 0, slots := 0, locals := 0 } : Room).slots m T1 15 #[.val (.ref o), .val (.int (2 : Int32)), .val (.int (0 : Int32)), .unset, .unset] [(.int (2 : Int32)), (.ref tl)]
  refine a_iaload X1 hx hby hZ e1 A_tl (by decide) (by decide) (v := (.int (g 2))) (rfl) d6_15 (pc' := 16) rfl ?_
  refine g_istoreN X1 hx hby d6_16 (pc' := 17) rfl (Ls' := #[.val (.ref o), .val (.int (2 : Int32)), .val (.int (0 : Int32)), .val (.int (g 2)), .unset]) rfl ?_
  refine g_aloadN X1 hx hby d6_17 (pc' := 18) rfl rfl rfl ?_
  refine g_getF X1 hx hby hZ hown e1 (hw _ (List.mem_of_getElem? (i := 19) rfl)) F3 d6_18 (pc' := 21) rfl (fun T2 X2 e2 => ?_)
  refine g_iloadN X2 hx hby d6_21 (pc' := 22) rfl rfl ?_
  refine a_aaload X2 hx hby hZ e2 A_oh rfl (by decide) (by decide) (v := .null) (rfl) d6_22 (pc' := 23) rfl ?_
  refine g_astore X2 hx hby d6_23 (pc' := 25) rfl rfl (Ls' := #[.val (.ref o), .val (.int (2 : Int32)), .val (.int (0 : Int32)), .val (.int (g 2)), .val .null]) rfl ?_
  refine g_aload X2 hx hby d6_25 (pc' := 27) rfl rfl rfl ?_
  refine g_ifnonnull X2 hx hby rfl d6_27 (pt := 35) (pf := 30) (by decide) (by decide) rfl (fun bz qz => nomatch qz) (fun qz => ?_)
  refine g_iloadN X2 hx hby d6_30 (pc' := 31) rfl rfl ?_
  refine g_i2l X2 hx hby d6_31 (pc' := 32) rfl ?_
  refine g_goto X2 hx hby d6_32 (pc' := 53) (by decide) (by decide) ?_
  exact g_retL X2 hx hby hlk hret d6_53 (by decide) (by decide) (⟨⟨_, rfl, rfl⟩, e2, rfl⟩)
theorem ef_6_rm_gs2 (m : MethodId) (o : Addr) : entryFrame m #[(.ref o), (.int (2 : Int32))] 5 = mkF m 0 #[.val (.ref o), .val (.int (2 : Int32)), .unset, .unset, .unset] [] := by first | (simp [entryFrame, mkF, argsToLocals, Value.category]; done) | rfl
set_option maxRecDepth 65536 in
set_option maxHeartbeats 40000000 in
theorem rm_gs2 (l : Launch) (Z : State) (a0 : Array Value) (hw : ∀ d ∈ tables_1, d.before a0 Z = true) (o : Addr) (ol oh tl th : Addr) (g gh : Nat → Int32) (h0 : Heap) (F2 : Fld Z h0 o "com/example/isolens/isolens/history/LongColumn" "low" "[[I" (.ref ol)) (F3 : Fld Z h0 o "com/example/isolens/isolens/history/LongColumn" "high" "[[I" (.ref oh)) (A_ol : Ara Z h0 ol (.array .int) 1 (fun _ => (.ref tl))) (A_tl : Ara Z h0 tl .int 16 (fun j => .int (g j))) (A_oh : Ara Z h0 oh (.array .int) 1 (fun _ => (.ref th))) (A_th : Ara Z h0 th .int 16 (fun j => .int (gh j))) :
    Ct l Z (⟨"com/example/isolens/isolens/history/LongColumn", "get", "(I)J"⟩ : MethodName) prog_109_method_2_code 5 (some .long) ({ frames := 0, cells := 0, slots := 0, locals := 0 } : Room) #[(.ref o), (.int (2 : Int32))] h0 (QL h0 (fun r => r = (((gh 2).toInt64 <<< ((32 : Int32).toInt64 &&& 63)) ||| ((g 2).toInt64 &&& (4294967295 : Int64))))) := by
  refine own_met (plainFor_of_name pn_6) (fun m => ef_6_rm_gs2 m o) ?_
  intro p e s m below meth c T0 X0 hx hby hml hown hnm hret hlk hZ e0
  refine g_iloadN X0 hx hby d6_0 (pc' := 1) rfl rfl ?_
  refine g_bipush X0 hx hby d6_1 (pc' := 3) rfl (n := (16 : Int32)) (by first | rfl | decide) ?_
  refine g_iushr X0 hx hby d6_3 (pc' := 4) rfl ?_
  show Go p e below s (QL h0 (fun r => r = (((gh 2).toInt64 <<< ((32 : Int32).toInt64 &&& 63)) ||| ((g 2).toInt64 &&& (4294967295 : Int64))))) ({ frames := 0, cells := 0, slots := 0, locals := 0 } : Room).cells ({ frames := 0, cells := 0, slots := 0, locals := 0 } : Room).slots m T0 4 #[.val (.ref o), .val (.int (2 : Int32)), .unset, .unset, .unset] [(.int (0 : Int32))]
  refine g_istoreN X0 hx hby d6_4 (pc' := 5) rfl (Ls' := #[.val (.ref o), .val (.int (2 : Int32)), .val (.int (0 : Int32)), .unset, .unset]) rfl ?_
  refine g_aloadN X0 hx hby d6_5 (pc' := 6) rfl rfl rfl ?_
  refine g_getF X0 hx hby hZ hown e0 (hw _ (List.mem_of_getElem? (i := 17) rfl)) F2 d6_6 (pc' := 9) rfl (fun T1 X1 e1 => ?_)
  refine g_iloadN X1 hx hby d6_9 (pc' := 10) rfl rfl ?_
  refine a_aaload X1 hx hby hZ e1 A_ol rfl (by decide) (by decide) (v := (.ref tl)) (rfl) d6_10 (pc' := 11) rfl ?_
  refine g_iloadN X1 hx hby d6_11 (pc' := 12) rfl rfl ?_
  refine g_ldcI X1 hx hby hZ hown (hw _ (List.mem_of_getElem? (i := 29) rfl)) d6_12 (pc' := 14) rfl ?_
  refine g_iand X1 hx hby d6_14 (pc' := 15) rfl ?_
  show Go p e below s (QL h0 (fun r => r = (((gh 2).toInt64 <<< ((32 : Int32).toInt64 &&& 63)) ||| ((g 2).toInt64 &&& (4294967295 : Int64))))) ({ frames := 0, cells := 0, slots := 0, locals := 0 } : Room).cells ({ frames := 0, cells := 0, slots := 0, locals := 0 } : Room).slots m T1 15 #[.val (.ref o), .val (.int (2 : Int32)), .val (.int (0 : Int32)), .unset, .unset] [(.int (2 : Int32)), (.ref tl)]
  refine a_iaload X1 hx hby hZ e1 A_tl (by decide) (by decide) (v := (.int (g 2))) (rfl) d6_15 (pc' := 16) rfl ?_
  refine g_istoreN X1 hx hby d6_16 (pc' := 17) rfl (Ls' := #[.val (.ref o), .val (.int (2 : Int32)), .val (.int (0 : Int32)), .val (.int (g 2)), .unset]) rfl ?_
  refine g_aloadN X1 hx hby d6_17 (pc' := 18) rfl rfl rfl ?_
  refine g_getF X1 hx hby hZ hown e1 (hw _ (List.mem_of_getElem? (i := 19) rfl)) F3 d6_18 (pc' := 21) rfl (fun T2 X2 e2 => ?_)
  refine g_iloadN X2 hx hby d6_21 (pc' := 22) rfl rfl ?_
  refine a_aaload X2 hx hby hZ e2 A_oh rfl (by decide) (by decide) (v := (.ref th)) (rfl) d6_22 (pc' := 23) rfl ?_
  refine g_astore X2 hx hby d6_23 (pc' := 25) rfl rfl (Ls' := #[.val (.ref o), .val (.int (2 : Int32)), .val (.int (0 : Int32)), .val (.int (g 2)), .val (.ref th)]) rfl ?_
  refine g_aload X2 hx hby d6_25 (pc' := 27) rfl rfl rfl ?_
  refine g_ifnonnull X2 hx hby rfl d6_27 (pt := 35) (pf := 30) (by decide) (by decide) rfl (fun bz qz => ?_) (fun qz => nomatch qz)
  refine g_aload X2 hx hby d6_35 (pc' := 37) rfl rfl rfl ?_
  refine g_iloadN X2 hx hby d6_37 (pc' := 38) rfl rfl ?_
  refine g_ldcI X2 hx hby hZ hown (hw _ (List.mem_of_getElem? (i := 29) rfl)) d6_38 (pc' := 40) rfl ?_
  refine g_iand X2 hx hby d6_40 (pc' := 41) rfl ?_
  show Go p e below s (QL h0 (fun r => r = (((gh 2).toInt64 <<< ((32 : Int32).toInt64 &&& 63)) ||| ((g 2).toInt64 &&& (4294967295 : Int64))))) ({ frames := 0, cells := 0, slots := 0, locals := 0 } : Room).cells ({ frames := 0, cells := 0, slots := 0, locals := 0 } : Room).slots m T2 41 #[.val (.ref o), .val (.int (2 : Int32)), .val (.int (0 : Int32)), .val (.int (g 2)), .val (.ref th)] [(.int (2 : Int32)), (.ref th)]
  refine a_iaload X2 hx hby hZ e2 A_th (by decide) (by decide) (v := (.int (gh 2))) (rfl) d6_41 (pc' := 42) rfl ?_
  refine g_i2l X2 hx hby d6_42 (pc' := 43) rfl ?_
  refine g_bipush X2 hx hby d6_43 (pc' := 45) rfl (n := (32 : Int32)) (by first | rfl | decide) ?_
  refine g_lshl X2 hx hby d6_45 (pc' := 46) rfl ?_
  refine g_iloadN X2 hx hby d6_46 (pc' := 47) rfl rfl ?_
  refine g_i2l X2 hx hby d6_47 (pc' := 48) rfl ?_
  refine g_ldcL X2 hx hby hZ hown (hw _ (List.mem_of_getElem? (i := 40) rfl)) d6_48 (pc' := 51) rfl ?_
  refine g_land X2 hx hby d6_51 (pc' := 52) rfl ?_
  refine g_lor X2 hx hby d6_52 (pc' := 53) rfl ?_
  exact g_retL X2 hx hby hlk hret d6_53 (by decide) (by decide) (⟨⟨_, rfl, rfl⟩, e2, rfl⟩)
theorem rm_get2 (l : Launch) (Z : State) (a0 : Array Value) (hw : ∀ d ∈ tables_1, d.before a0 Z = true) (o : Addr) (n0 : Nat) (q : Nat → Int64) (h0 : Heap) (cl : Col Z n0 h0 o (3 : Int32) 3 q) :
    Ct l Z (⟨"com/example/isolens/isolens/history/LongColumn", "get", "(I)J"⟩ : MethodName) prog_109_method_2_code 5 (some .long) ({ frames := 0, cells := 0, slots := 0, locals := 0 } : Room) #[(.ref o), (.int (2 : Int32))] h0 (QL h0 (fun r => r = q 2)) := by
  obtain ⟨ol, oh, tl, g, -, -, -, -, -, -, -, -, -, -, -, F2, F3, A_ol, A_tl, hg, c⟩ := cl
  rcases c with ⟨A_oh, O_oh, hf⟩ | ⟨th, gh, g_th, m1, m2, m3, m4, A_oh, A_th, hh⟩
  · have M := rm_gn2 l Z a0 hw o ol oh tl g h0 F2 F3 A_ol A_tl A_oh
    rw [hg 2 (by decide), ← hf 2 (by decide)] at M
    exact M
  · have M := rm_gs2 l Z a0 hw o ol oh tl th g gh h0 F2 F3 A_ol A_tl A_oh A_th
    rw [hg 2 (by decide), hh 2 (by decide), own_join (q 2) _ _ (own_hi (q 2)) (own_lo (q 2))] at M
    exact M
theorem ef_0 (m : MethodId) (ua : Int64) (ub : Int64) (uc : Int64) (um : Int32) : entryFrame m #[(.long ua), (.long ub), (.long uc), (.int um)] maxLocals = mkF m 0 #[.val (.long ua), .second, .val (.long ub), .second, .val (.long uc), .second, .val (.int um), .unset, .unset, .unset, .unset, .unset, .unset, .unset, .unset, .unset, .unset, .unset, .unset, .unset] [] := by first | (simp [entryFrame, mkF, argsToLocals, Value.category, maxLocals]; done) | rfl
theorem pn_0 : plainName "com/example/isolens/isolens/history/LongColumnGetPinLaw" = true := by first | (simp [plainName, overriddenIn]; done) | decide +kernel
theorem pd__JI_J_302 : parseMethodDescriptor "(JI)J" = some ⟨[.long, .int], some .long⟩ := by decide +kernel
theorem pd___V_167 : parseMethodDescriptor "()V" = some ⟨[], none⟩ := by decide +kernel
theorem pd__J_V_241 : parseMethodDescriptor "(J)V" = some ⟨[.long], none⟩ := by decide +kernel
theorem pd___I_154 : parseMethodDescriptor "()I" = some ⟨[], some .int⟩ := by decide +kernel
theorem pd__I_J_228 : parseMethodDescriptor "(I)J" = some ⟨[.int], some .long⟩ := by decide +kernel
set_option maxRecDepth 65536 in
set_option maxHeartbeats 40000000 in
theorem law0 (l : Launch) (Z : State) (a0 : Array Value) (hw : ∀ d ∈ tables_1, d.before a0 Z = true) (ws : List Jvm.Cond) (ua : Int64) (ub : Int64) (uc : Int64) (um : Int32) (n0 : Nat) (h0 : Heap) (Z0 : n0 ≤ h0.size) :
    MetFree l x (head1 (Jvm.Cond.code x code maxLocals ret :: ws) room_1) (fun a U => a = #[(.long ua), (.long ub), (.long uc), (.int um)] ∧ Z.Warmed39 U.vm ∧ U.heap = h0) (fun _ _ _ _ _ => True) (fun _ U o U' => ∃ v L, o = .returned v ∧ (Q0 n0) v U'.heap L ∧ FrameEnd U o U' L room_1.cells room_1.slots) := by
  refine own_met (plainFor_of_name pn_0) (fun m => ef_0 m ua ub uc um) ?_
  intro p e s m below meth c T0 X0 hx hby hml hown hnm hret hlk hZ e0
  have N0 := Fr.nil n0
  refine g_lloadN X0 hx hby at_0 (pc' := 1) rfl rfl ?_
  refine g_iload X0 hx hby at_1 (pc' := 3) rfl rfl ?_
  refine g_iconst X0 hx hby at_3 (pc' := 4) rfl (n := (1 : Int32)) (by first | rfl | decide) ?_
  refine g_iand X0 hx hby at_4 (pc' := 5) rfl ?_
  refine g_static X0 hx hby hZ hown hml rfl (hw _ (List.mem_of_getElem? (i := 0) rfl)) (hw _ (List.mem_of_getElem? (i := 1) rfl)) (hw _ (List.mem_of_getElem? (i := 2) rfl)) (hw _ (List.mem_of_getElem? (i := 3) rfl)) (by decide) e0 (rm1 l Z a0 hw ua (um &&& (1 : Int32)) h0 ) pd__JI_J_302 (argsL := [(.long ua), (.int (um &&& (1 : Int32)))]) (rest := []) rfl rfl rfl at_5 (pc' := 8) rfl (by decide) (Nat.le_of_ble_eq_true rfl) (by decide) (by decide) ?_
  intro Tp5 vp5 Lp5 Xp5 qp5
  obtain ⟨⟨rp5, rfl, h_rp5⟩, ep5, rfl⟩ := qp5
  rw [List.append_nil] at Xp5
  replace Xp5 : Stand p l e room_1 s m _ below meth c Tp5 _ 0 0 := Xp5
  show Go p e below s (Q0 n0) room_1.cells room_1.slots m Tp5 8 #[.val (.long ua), .second, .val (.long ub), .second, .val (.long uc), .second, .val (.int um), .unset, .unset, .unset, .unset, .unset, .unset, .unset, .unset, .unset, .unset, .unset, .unset, .unset] [(.long rp5)]
  refine g_lstore Xp5 hx hby at_8 (pc' := 10) rfl (Ls' := #[.val (.long ua), .second, .val (.long ub), .second, .val (.long uc), .second, .val (.int um), .val (.long rp5), .second, .unset, .unset, .unset, .unset, .unset, .unset, .unset, .unset, .unset, .unset, .unset]) rfl ?_
  refine g_lloadN Xp5 hx hby at_10 (pc' := 11) rfl rfl ?_
  refine g_iload Xp5 hx hby at_11 (pc' := 13) rfl rfl ?_
  refine g_iconst Xp5 hx hby at_13 (pc' := 14) rfl (n := (2 : Int32)) (by first | rfl | decide) ?_
  refine g_iand Xp5 hx hby at_14 (pc' := 15) rfl ?_
  refine g_static Xp5 hx hby hZ hown hml rfl (hw _ (List.mem_of_getElem? (i := 0) rfl)) (hw _ (List.mem_of_getElem? (i := 1) rfl)) (hw _ (List.mem_of_getElem? (i := 2) rfl)) (hw _ (List.mem_of_getElem? (i := 3) rfl)) (by decide) ep5 (rm1 l Z a0 hw ub (um &&& (2 : Int32)) h0 ) pd__JI_J_302 (argsL := [(.long ub), (.int (um &&& (2 : Int32)))]) (rest := []) rfl rfl rfl at_15 (pc' := 18) rfl (by decide) (Nat.le_of_ble_eq_true rfl) (by decide) (by decide) ?_
  intro Tp15 vp15 Lp15 Xp15 qp15
  obtain ⟨⟨rp15, rfl, h_rp15⟩, ep15, rfl⟩ := qp15
  rw [List.append_nil] at Xp15
  replace Xp15 : Stand p l e room_1 s m _ below meth c Tp15 _ 0 0 := Xp15
  show Go p e below s (Q0 n0) room_1.cells room_1.slots m Tp15 18 #[.val (.long ua), .second, .val (.long ub), .second, .val (.long uc), .second, .val (.int um), .val (.long rp5), .second, .unset, .unset, .unset, .unset, .unset, .unset, .unset, .unset, .unset, .unset, .unset] [(.long rp15)]
  refine g_lstore Xp15 hx hby at_18 (pc' := 20) rfl (Ls' := #[.val (.long ua), .second, .val (.long ub), .second, .val (.long uc), .second, .val (.int um), .val (.long rp5), .second, .val (.long rp15), .second, .unset, .unset, .unset, .unset, .unset, .unset, .unset, .unset, .unset]) rfl ?_
  refine g_lload Xp15 hx hby at_20 (pc' := 22) rfl rfl ?_
  refine g_iload Xp15 hx hby at_22 (pc' := 24) rfl rfl ?_
  refine g_iconst Xp15 hx hby at_24 (pc' := 25) rfl (n := (4 : Int32)) (by first | rfl | decide) ?_
  refine g_iand Xp15 hx hby at_25 (pc' := 26) rfl ?_
  refine g_static Xp15 hx hby hZ hown hml rfl (hw _ (List.mem_of_getElem? (i := 0) rfl)) (hw _ (List.mem_of_getElem? (i := 1) rfl)) (hw _ (List.mem_of_getElem? (i := 2) rfl)) (hw _ (List.mem_of_getElem? (i := 3) rfl)) (by decide) ep15 (rm1 l Z a0 hw uc (um &&& (4 : Int32)) h0 ) pd__JI_J_302 (argsL := [(.long uc), (.int (um &&& (4 : Int32)))]) (rest := []) rfl rfl rfl at_26 (pc' := 29) rfl (by decide) (Nat.le_of_ble_eq_true rfl) (by decide) (by decide) ?_
  intro Tp26 vp26 Lp26 Xp26 qp26
  obtain ⟨⟨rp26, rfl, h_rp26⟩, ep26, rfl⟩ := qp26
  rw [List.append_nil] at Xp26
  replace Xp26 : Stand p l e room_1 s m _ below meth c Tp26 _ 0 0 := Xp26
  show Go p e below s (Q0 n0) room_1.cells room_1.slots m Tp26 29 #[.val (.long ua), .second, .val (.long ub), .second, .val (.long uc), .second, .val (.int um), .val (.long rp5), .second, .val (.long rp15), .second, .unset, .unset, .unset, .unset, .unset, .unset, .unset, .unset, .unset] [(.long rp26)]
  refine g_lstore Xp26 hx hby at_29 (pc' := 31) rfl (Ls' := #[.val (.long ua), .second, .val (.long ub), .second, .val (.long uc), .second, .val (.int um), .val (.long rp5), .second, .val (.long rp15), .second, .val (.long rp26), .second, .unset, .unset, .unset, .unset, .unset, .unset, .unset]) rfl ?_
  refine g_new Xp26 hx hby hZ hown ep26 (hw _ (List.mem_of_getElem? (i := 4) rfl)) (hw _ (List.mem_of_getElem? (i := 5) rfl)) (hw _ (List.mem_of_getElem? (i := 6) rfl)) at_31 (pc' := 34) rfl (by decide) (by decide) (fun T1 h1 o g1 X1 e1 E1 A1 D1 => ?_)
  have g2 : n0 ≤ o := by rw [g1]; exact Z0
  have Z3 : n0 ≤ h1.size := Nat.le_trans Z0 E1.1
  replace X1 : Stand p l e room_1 s m _ below meth c T1 _ 1 3 := X1
  have E_o : Exa Z h1 o "com/example/isolens/isolens/history/LongColumn" := A1
  have F_low_o : Fld Z h1 o "com/example/isolens/isolens/history/LongColumn" "low" "[[I" .null := D1 (Or.inl (hw _ (List.mem_of_getElem? (i := 18) rfl))) (ty := (.array (.array .int))) (by decide)
  have F_high_o : Fld Z h1 o "com/example/isolens/isolens/history/LongColumn" "high" "[[I" .null := D1 (Or.inl (hw _ (List.mem_of_getElem? (i := 20) rfl))) (ty := (.array (.array .int))) (by decide)
  have F_size_o : Fld Z h1 o "com/example/isolens/isolens/history/LongColumn" "size" "I" (.int (0 : Int32)) := D1 (Or.inl (hw _ (List.mem_of_getElem? (i := 27) rfl))) (ty := .int) (by decide)
  refine g_dup X1 hx hby at_34 (pc' := 35) rfl rfl ?_
  refine g_special X1 hx hby hZ hown rfl hml rfl (hw _ (List.mem_of_getElem? (i := 7) rfl)) (hw _ (List.mem_of_getElem? (i := 8) rfl)) (hw _ (List.mem_of_getElem? (i := 6) rfl)) rfl (hw _ (List.mem_of_getElem? (i := 9) rfl)) (by decide) e1 (rm2 l Z a0 hw o n0 h1 Z3 g2 E_o F_size_o F_low_o F_high_o) pd___V_167 (a := o) (argsL := []) (rest := [(.ref o)]) rfl rfl rfl at_35 (pc' := 38) rfl (by decide) (Nat.le_of_ble_eq_true rfl) (by decide) (by decide) ?_
  intro Tp35 vp35 Lp35 Xp35 qp35
  obtain ⟨rfl, Nqp35, colp35⟩ := qp35
  replace Xp35 : Stand p l e room_1 s m _ below meth c Tp35 _ 4 21 := Xp35
  have Np35 := Fr.app N0 Nqp35
  show Go p e below s (Q0 n0) room_1.cells room_1.slots m Tp35 38 #[.val (.long ua), .second, .val (.long ub), .second, .val (.long uc), .second, .val (.int um), .val (.long rp5), .second, .val (.long rp15), .second, .val (.long rp26), .second, .unset, .unset, .unset, .unset, .unset, .unset, .unset] [(.ref o)]
  have Zsp35 : n0 ≤ Tp35.heap.size := own_colsz colp35
  refine g_astore Xp35 hx hby at_38 (pc' := 40) rfl rfl (Ls' := #[.val (.long ua), .second, .val (.long ub), .second, .val (.long uc), .second, .val (.int um), .val (.long rp5), .second, .val (.long rp15), .second, .val (.long rp26), .second, .val (.ref o), .unset, .unset, .unset, .unset, .unset, .unset]) rfl ?_
  refine g_aload Xp35 hx hby at_40 (pc' := 42) rfl rfl rfl ?_
  refine g_lload Xp35 hx hby at_42 (pc' := 44) rfl rfl ?_
  refine g_virtual Xp35 hx hby hZ hown hml rfl (hw _ (List.mem_of_getElem? (i := 21) rfl)) (hw _ (List.mem_of_getElem? (i := 22) rfl)) (hw _ (List.mem_of_getElem? (i := 24) rfl)) (hw _ (List.mem_of_getElem? (i := 23) rfl)) (hw _ (List.mem_of_getElem? (i := 6) rfl)) (hw _ (List.mem_of_getElem? (i := 25) rfl)) (by decide) rfl (rm_add0 l Z a0 hw o rp5 n0 _ Tp35.heap g2 colp35) pd__J_V_241 (own_colexa colp35) (argsL := [(.long rp5)]) (rest := []) rfl rfl rfl at_44 (pc' := 47) rfl (by decide) (Nat.le_of_ble_eq_true rfl) (by decide) (by decide) ?_
  intro Tp44 vp44 Lp44 Xp44 qp44
  obtain ⟨rfl, Nqp44, colp44⟩ := qp44
  replace Xp44 : Stand p l e room_1 s m _ below meth c Tp44 _ 5 37 := Xp44
  have Np44 := Fr.app Np35 Nqp44
  show Go p e below s (Q0 n0) room_1.cells room_1.slots m Tp44 47 #[.val (.long ua), .second, .val (.long ub), .second, .val (.long uc), .second, .val (.int um), .val (.long rp5), .second, .val (.long rp15), .second, .val (.long rp26), .second, .val (.ref o), .unset, .unset, .unset, .unset, .unset, .unset] []
  have Zsp44 : n0 ≤ Tp44.heap.size := own_colsz colp44
  refine g_aload Xp44 hx hby at_47 (pc' := 49) rfl rfl rfl ?_
  refine g_lload Xp44 hx hby at_49 (pc' := 51) rfl rfl ?_
  refine g_virtual Xp44 hx hby hZ hown hml rfl (hw _ (List.mem_of_getElem? (i := 21) rfl)) (hw _ (List.mem_of_getElem? (i := 22) rfl)) (hw _ (List.mem_of_getElem? (i := 24) rfl)) (hw _ (List.mem_of_getElem? (i := 23) rfl)) (hw _ (List.mem_of_getElem? (i := 6) rfl)) (hw _ (List.mem_of_getElem? (i := 25) rfl)) (by decide) rfl (rm_add1 l Z a0 hw o rp15 n0 _ Tp44.heap g2 colp44) pd__J_V_241 (own_colexa colp44) (argsL := [(.long rp15)]) (rest := []) rfl rfl rfl at_51 (pc' := 54) rfl (by decide) (Nat.le_of_ble_eq_true rfl) (by decide) (by decide) ?_
  intro Tp51 vp51 Lp51 Xp51 qp51
  obtain ⟨rfl, Nqp51, colp51⟩ := qp51
  replace Xp51 : Stand p l e room_1 s m _ below meth c Tp51 _ 6 53 := Xp51
  have Np51 := Fr.app Np44 Nqp51
  show Go p e below s (Q0 n0) room_1.cells room_1.slots m Tp51 54 #[.val (.long ua), .second, .val (.long ub), .second, .val (.long uc), .second, .val (.int um), .val (.long rp5), .second, .val (.long rp15), .second, .val (.long rp26), .second, .val (.ref o), .unset, .unset, .unset, .unset, .unset, .unset] []
  have Zsp51 : n0 ≤ Tp51.heap.size := own_colsz colp51
  refine g_aload Xp51 hx hby at_54 (pc' := 56) rfl rfl rfl ?_
  refine g_lload Xp51 hx hby at_56 (pc' := 58) rfl rfl ?_
  refine g_virtual Xp51 hx hby hZ hown hml rfl (hw _ (List.mem_of_getElem? (i := 21) rfl)) (hw _ (List.mem_of_getElem? (i := 22) rfl)) (hw _ (List.mem_of_getElem? (i := 24) rfl)) (hw _ (List.mem_of_getElem? (i := 23) rfl)) (hw _ (List.mem_of_getElem? (i := 6) rfl)) (hw _ (List.mem_of_getElem? (i := 25) rfl)) (by decide) rfl (rm_add2 l Z a0 hw o rp26 n0 _ Tp51.heap g2 colp51) pd__J_V_241 (own_colexa colp51) (argsL := [(.long rp26)]) (rest := []) rfl rfl rfl at_58 (pc' := 61) rfl (by decide) (Nat.le_of_ble_eq_true rfl) (by decide) (by decide) ?_
  intro Tp58 vp58 Lp58 Xp58 qp58
  obtain ⟨rfl, Nqp58, colp58⟩ := qp58
  replace Xp58 : Stand p l e room_1 s m _ below meth c Tp58 _ 7 69 := Xp58
  have Np58 := Fr.app Np51 Nqp58
  show Go p e below s (Q0 n0) room_1.cells room_1.slots m Tp58 61 #[.val (.long ua), .second, .val (.long ub), .second, .val (.long uc), .second, .val (.int um), .val (.long rp5), .second, .val (.long rp15), .second, .val (.long rp26), .second, .val (.ref o), .unset, .unset, .unset, .unset, .unset, .unset] []
  have Zsp58 : n0 ≤ Tp58.heap.size := own_colsz colp58
  refine g_aload Xp58 hx hby at_61 (pc' := 63) rfl rfl rfl ?_
  refine g_virtual Xp58 hx hby hZ hown hml rfl (hw _ (List.mem_of_getElem? (i := 30) rfl)) (hw _ (List.mem_of_getElem? (i := 31) rfl)) (hw _ (List.mem_of_getElem? (i := 33) rfl)) (hw _ (List.mem_of_getElem? (i := 32) rfl)) (hw _ (List.mem_of_getElem? (i := 6) rfl)) (hw _ (List.mem_of_getElem? (i := 34) rfl)) (by decide) rfl (rm5 l Z a0 hw o _ Tp58.heap (own_colfld colp58)) pd___I_154 (own_colexa colp58) (argsL := []) (rest := []) rfl rfl rfl at_63 (pc' := 66) rfl (by decide) (Nat.le_of_ble_eq_true rfl) (by decide) (by decide) ?_
  intro Tp63 vp63 Lp63 Xp63 qp63
  obtain ⟨⟨rp63, rfl, h_rp63⟩, ep63, rfl⟩ := qp63
  rw [List.append_nil] at Xp63
  replace Xp63 : Stand p l e room_1 s m _ below meth c Tp63 _ 7 69 := Xp63
  show Go p e below s (Q0 n0) room_1.cells room_1.slots m Tp63 66 #[.val (.long ua), .second, .val (.long ub), .second, .val (.long uc), .second, .val (.int um), .val (.long rp5), .second, .val (.long rp15), .second, .val (.long rp26), .second, .val (.ref o), .unset, .unset, .unset, .unset, .unset, .unset] [(.int rp63)]
  refine g_iconst Xp63 hx hby at_66 (pc' := 67) rfl (n := (3 : Int32)) (by first | rfl | decide) ?_
  refine g_icmpeq Xp63 hx hby at_67 (pt := 72) (pf := 70) (by decide) (by decide) rfl (fun (h67 : rp63 = (3 : Int32)) => ?_) (fun (h67 : ¬ rp63 = (3 : Int32)) => (by exfalso; exact h67 h_rp63))
  have h67i : rp63.toInt = 3 := congrArg Int32.toInt h67
  refine g_aload Xp63 hx hby at_72 (pc' := 74) rfl rfl rfl ?_
  refine g_iconst Xp63 hx hby at_74 (pc' := 75) rfl (n := (0 : Int32)) (by first | rfl | decide) ?_
  refine g_virtual Xp63 hx hby hZ hown hml rfl (hw _ (List.mem_of_getElem? (i := 35) rfl)) (hw _ (List.mem_of_getElem? (i := 36) rfl)) (hw _ (List.mem_of_getElem? (i := 38) rfl)) (hw _ (List.mem_of_getElem? (i := 37) rfl)) (hw _ (List.mem_of_getElem? (i := 6) rfl)) (hw _ (List.mem_of_getElem? (i := 39) rfl)) (by decide) ep63 (rm_get0 l Z a0 hw o n0 _ Tp58.heap colp58) pd__I_J_228 (own_colexa colp58) (argsL := [(.int (0 : Int32))]) (rest := []) rfl rfl rfl at_75 (pc' := 78) rfl (by decide) (Nat.le_of_ble_eq_true rfl) (by decide) (by decide) ?_
  intro Tp75 vp75 Lp75 Xp75 qp75
  obtain ⟨⟨rp75, rfl, h_rp75⟩, ep75, rfl⟩ := qp75
  rw [List.append_nil] at Xp75
  replace Xp75 : Stand p l e room_1 s m _ below meth c Tp75 _ 7 69 := Xp75
  show Go p e below s (Q0 n0) room_1.cells room_1.slots m Tp75 78 #[.val (.long ua), .second, .val (.long ub), .second, .val (.long uc), .second, .val (.int um), .val (.long rp5), .second, .val (.long rp15), .second, .val (.long rp26), .second, .val (.ref o), .unset, .unset, .unset, .unset, .unset, .unset] [(.long rp75)]
  refine g_lstore Xp75 hx hby at_78 (pc' := 80) rfl (Ls' := #[.val (.long ua), .second, .val (.long ub), .second, .val (.long uc), .second, .val (.int um), .val (.long rp5), .second, .val (.long rp15), .second, .val (.long rp26), .second, .val (.ref o), .val (.long rp75), .second, .unset, .unset, .unset, .unset]) rfl ?_
  refine g_aload Xp75 hx hby at_80 (pc' := 82) rfl rfl rfl ?_
  refine g_iconst Xp75 hx hby at_82 (pc' := 83) rfl (n := (1 : Int32)) (by first | rfl | decide) ?_
  refine g_virtual Xp75 hx hby hZ hown hml rfl (hw _ (List.mem_of_getElem? (i := 35) rfl)) (hw _ (List.mem_of_getElem? (i := 36) rfl)) (hw _ (List.mem_of_getElem? (i := 38) rfl)) (hw _ (List.mem_of_getElem? (i := 37) rfl)) (hw _ (List.mem_of_getElem? (i := 6) rfl)) (hw _ (List.mem_of_getElem? (i := 39) rfl)) (by decide) ep75 (rm_get1 l Z a0 hw o n0 _ Tp58.heap colp58) pd__I_J_228 (own_colexa colp58) (argsL := [(.int (1 : Int32))]) (rest := []) rfl rfl rfl at_83 (pc' := 86) rfl (by decide) (Nat.le_of_ble_eq_true rfl) (by decide) (by decide) ?_
  intro Tp83 vp83 Lp83 Xp83 qp83
  obtain ⟨⟨rp83, rfl, h_rp83⟩, ep83, rfl⟩ := qp83
  rw [List.append_nil] at Xp83
  replace Xp83 : Stand p l e room_1 s m _ below meth c Tp83 _ 7 69 := Xp83
  show Go p e below s (Q0 n0) room_1.cells room_1.slots m Tp83 86 #[.val (.long ua), .second, .val (.long ub), .second, .val (.long uc), .second, .val (.int um), .val (.long rp5), .second, .val (.long rp15), .second, .val (.long rp26), .second, .val (.ref o), .val (.long rp75), .second, .unset, .unset, .unset, .unset] [(.long rp83)]
  refine g_lstore Xp83 hx hby at_86 (pc' := 88) rfl (Ls' := #[.val (.long ua), .second, .val (.long ub), .second, .val (.long uc), .second, .val (.int um), .val (.long rp5), .second, .val (.long rp15), .second, .val (.long rp26), .second, .val (.ref o), .val (.long rp75), .second, .val (.long rp83), .second, .unset, .unset]) rfl ?_
  refine g_aload Xp83 hx hby at_88 (pc' := 90) rfl rfl rfl ?_
  refine g_iconst Xp83 hx hby at_90 (pc' := 91) rfl (n := (2 : Int32)) (by first | rfl | decide) ?_
  refine g_virtual Xp83 hx hby hZ hown hml rfl (hw _ (List.mem_of_getElem? (i := 35) rfl)) (hw _ (List.mem_of_getElem? (i := 36) rfl)) (hw _ (List.mem_of_getElem? (i := 38) rfl)) (hw _ (List.mem_of_getElem? (i := 37) rfl)) (hw _ (List.mem_of_getElem? (i := 6) rfl)) (hw _ (List.mem_of_getElem? (i := 39) rfl)) (by decide) ep83 (rm_get2 l Z a0 hw o n0 _ Tp58.heap colp58) pd__I_J_228 (own_colexa colp58) (argsL := [(.int (2 : Int32))]) (rest := []) rfl rfl rfl at_91 (pc' := 94) rfl (by decide) (Nat.le_of_ble_eq_true rfl) (by decide) (by decide) ?_
  intro Tp91 vp91 Lp91 Xp91 qp91
  obtain ⟨⟨rp91, rfl, h_rp91⟩, ep91, rfl⟩ := qp91
  rw [List.append_nil] at Xp91
  replace Xp91 : Stand p l e room_1 s m _ below meth c Tp91 _ 7 69 := Xp91
  show Go p e below s (Q0 n0) room_1.cells room_1.slots m Tp91 94 #[.val (.long ua), .second, .val (.long ub), .second, .val (.long uc), .second, .val (.int um), .val (.long rp5), .second, .val (.long rp15), .second, .val (.long rp26), .second, .val (.ref o), .val (.long rp75), .second, .val (.long rp83), .second, .unset, .unset] [(.long rp91)]
  refine g_lstore Xp91 hx hby at_94 (pc' := 96) rfl (Ls' := #[.val (.long ua), .second, .val (.long ub), .second, .val (.long uc), .second, .val (.int um), .val (.long rp5), .second, .val (.long rp15), .second, .val (.long rp26), .second, .val (.ref o), .val (.long rp75), .second, .val (.long rp83), .second, .val (.long rp91), .second]) rfl ?_
  refine g_lload Xp91 hx hby at_96 (pc' := 98) rfl rfl ?_
  refine g_lload Xp91 hx hby at_98 (pc' := 100) rfl rfl ?_
  refine g_lcmpne Xp91 hx hby at_100 (pc' := 101) rfl at_101 (pt := 124) (pf := 104) (by decide) (by decide) rfl (fun (h101 : ¬ rp75 = rp5) => (by exfalso; exact h101 h_rp75)) (fun (h101 : rp75 = rp5) => ?_)
  have h101i : rp75.toInt = rp5.toInt := congrArg Int64.toInt h101
  refine g_lload Xp91 hx hby at_104 (pc' := 106) rfl rfl ?_
  refine g_lload Xp91 hx hby at_106 (pc' := 108) rfl rfl ?_
  refine g_lcmpne Xp91 hx hby at_108 (pc' := 109) rfl at_109 (pt := 124) (pf := 112) (by decide) (by decide) rfl (fun (h109 : ¬ rp83 = rp15) => (by exfalso; exact h109 h_rp83)) (fun (h109 : rp83 = rp15) => ?_)
  have h109i : rp83.toInt = rp15.toInt := congrArg Int64.toInt h109
  refine g_lload Xp91 hx hby at_112 (pc' := 114) rfl rfl ?_
  refine g_lload Xp91 hx hby at_114 (pc' := 116) rfl rfl ?_
  refine g_lcmpne Xp91 hx hby at_116 (pc' := 117) rfl at_117 (pt := 124) (pf := 120) (by decide) (by decide) rfl (fun (h117 : ¬ rp91 = rp26) => (by exfalso; exact h117 h_rp91)) (fun (h117 : rp91 = rp26) => ?_)
  have h117i : rp91.toInt = rp26.toInt := congrArg Int64.toInt h117
  refine g_iconst Xp91 hx hby at_120 (pc' := 121) rfl (n := (1 : Int32)) (by first | rfl | decide) ?_
  refine g_goto Xp91 hx hby at_121 (pc' := 125) (by decide) (by decide) ?_
  exact g_retZ Xp91 hx hby hlk (Or.inr rfl) hret at_125 (by decide) (by decide) (⟨rfl, Np58⟩)
set_option maxRecDepth 65536 in
set_option maxHeartbeats 40000000 in
theorem comes_1 {Post : Tables → Env → Array Value → State → Outcome → State → Prop} (hpost : ∀ tb e args s v u, (limb_1_1.after args s (.returned v) u = true ∧ limb_1_2.after args s (.returned v) u = true ∧ True) → FrameEnd s (.returned v) u (Jvm.fieldLocs frame_1_writes args s ++ Jvm.arrayLocs frame_1_arrays args s ++ Jvm.staticLocs frame_1_statics s) 24 192 → Post tb e args s (.returned v) u) :
    ArmFor flags0 classFile x code maxLocals ret World_1 tables_1 room_1 Calls_1 rest_1 Pre_1 Post := by
  intro l hfl _ _ p e ha hc hk s m args below hf hA hF happ hP
  obtain ⟨hcalls, hrest, hpre⟩ := hP
  obtain ⟨-, -, -, hnamed, -, -, -, hat⟩ := (Spec.applies_iff hf).mp happ
  obtain ⟨hg, hn⟩ := and_e (Cond.before_iff.mp (show (Jvm.Cond.and given_1 narrow_1).before args s = true from hpre))
  obtain ⟨g1, g2⟩ := and_e hg
  obtain ⟨g3, g4⟩ := and_e g2
  obtain ⟨g5, g6⟩ := and_e g4
  obtain ⟨g7, g8⟩ := and_e g6
  obtain ⟨w0, w1, w2, w3, rfl⟩ : ∃ w0 w1 w2 w3 : Value, args = #[w0, w1, w2, w3] := by
    have hs : args.size = 4 := by simpa [Cond.value, given_1] using g1
    obtain ⟨L⟩ := args
    match L, hs with
    | [w0, w1, w2, w3], _ => exact ⟨w0, w1, w2, w3, rfl⟩
  have hw := fun d (hd : d ∈ tables_1) => atoms_spec (ws := Jvm.Cond.code x code maxLocals ret :: tables_1) hat d (List.mem_cons_of_mem _ hd)
  have hfit : Fit s := fun {y c} hc i hi => by
    obtain ⟨ha, rfl⟩ := Array.getElem?_eq_some_iff.mp hc
    have q := List.all_eq_true.mp ((Array.all_eq_true_iff_forall_mem.mp hF) _ (Array.getElem_mem ha)) i (List.mem_range.mpr hi)
    simpa [Array.getElem?_eq_getElem hi] using q
  obtain ⟨i0, ei0⟩ := isL_v g3
  obtain rfl : w0 = (.long i0) := Option.some.inj ei0
  obtain ⟨i1, ei1⟩ := isL_v g5
  obtain rfl : w1 = (.long i1) := Option.some.inj ei1
  obtain ⟨i2, ei2⟩ := isL_v g7
  obtain rfl : w2 = (.long i2) := Option.some.inj ei2
  obtain ⟨i3, ei3⟩ := is_v g8
  obtain rfl : w3 = (.int i3) := Option.some.inj ei3
  obtain ⟨n, o, h1, h2, h3, _, L, rfl, ⟨rfl, N⟩, hq⟩ := law0 l s _ hw tables_1 i0 i1 i2 i3 s.heap.size s.heap (Nat.le_refl _) p e ha hc hk s m _ below hf ((Spec.applies_iff_loose hf).mp happ).1 ⟨rfl, State.Warmed39.refl s, rfl⟩ trivial
  refine ⟨n, _, h1, h2, h3, hpost _ _ _ _ _ _ ⟨Cond.after_iff.mpr rfl, Cond.after_iff.mpr (eq_i res_at (Term.int_eval (1)) rfl), trivial⟩ ⟨hq.1, hq.2.1, (hq.2.2.sift fun y hy => Or.inr (N y hy)).mono (by decide) (by decide)⟩⟩
theorem main_1_1 : Claimed_1_1 := comes_1 fun _ _ _ _ _ _ h hF => ⟨h.1, hF⟩
theorem main_1_2 : Claimed_1_2 := comes_1 fun _ _ _ _ _ _ h hF => ⟨h.2.1, hF⟩
end Jvm.Pilot.@@N@@
namespace Jvm.Pilot.@@N@@
open Jvm Jvm.ClassFile Sem Op Lib Jvm.Free Jvm.Stand Jvm.Pilot.@@N@@.Jvm.D
/-! MADE BY PROGRAM (witnessworld.py) out of the Statement's table words and the real class files: 10 classes; the members and pool entries that the words name. The judged class is class 1, her method 2. -/
namespace start1
open Jvm.ClassFile
def u (s : String) : CpInfo := .utf8 (stringToUtf16 s)
/-- a pool by its gaps: so many unusable entries, then the entry; so many at the end -/
def gap : Nat → List CpInfo → List CpInfo
  | 0, r => r
  | n + 1, r => .unusable :: gap n r
def poolList (es : List (Nat × CpInfo)) (last : Nat) : List CpInfo := es.foldr (fun e r => gap e.1 (e.2 :: r)) (gap last [])
def pool (es : List (Nat × CpInfo)) (last : Nat) : Array CpInfo := ⟨poolList es last⟩
def fileOf (pool : Array CpInfo) (this : Nat) (attrs : Array Attribute := #[]) (ms : Array MethodInfo := #[]) (fl : Nat := 33) (sup : Nat := 0) (ifs : Array Nat := #[]) (fds : Array FieldInfo := #[]) : ClassFile where
  minorVersion := 0
  majorVersion := 65
  constantPool := pool
  accessFlags := fl
  thisClass := this
  superClass := sup
  interfaces := ifs
  fields := fds
  methods := ms
  attributes := attrs
def plain (name : String) (sup : Option ClassId) : Class where
  name := name
  kind := .ordinary
  loader := none
  accessFlags := 33
  super := sup
  interfaces := #[]
  cf := none
  fields := #[]
  methods := #[]
  instanceTypes := #[]
  staticTypes := #[]
  resolved := #[]
  callSites := []
  init := .initialized
  statics := none
  mirror := none

def pool0 : Array CpInfo := pool [(5, u "<init>"), (0, u "()V"), (1, .class_ 10), (1, u "java/lang/Object")] 113

def k0c0 : Code := { maxStack := 0, maxLocals := 1, code := object_method_1_code, exceptionTable := #[], attributes := #[] }
def k0m0 : Method := { name := "<init>", desc := "()V", sig := { parameters := [], returnType := none }, accessFlags := 1, code := some k0c0 }
/-- java/lang/Object -/
def k0 : Class := { plain "java/lang/Object" none with
  accessFlags := 33
  interfaces := #[]
  cf := some (fileOf pool0 8 #[] #[{ accessFlags := 1, nameIndex := 5, descriptorIndex := 6, attributes := #[] }] 33 0 #[] #[])
  fields := #[]
  methods := #[k0m0]
  instanceTypes := #[]
  staticTypes := #[]
  resolved := Array.replicate 124 none
  statics := none }

def pool1 : Array CpInfo := pool [(2, .class_ 4), (0, .nameAndType 5 6), (0, u "java/lang/Object"), (0, u "<init>"), (0, u "()V"), (0, .methodref 8 9), (0, .class_ 10), (0, .nameAndType 11 12), (0, u "com/example/isolens/isolens/history/LongColumnGetPinLaw"), (0, u "pick"), (0, u "(JI)J"), (0, .class_ 14), (0, u "com/example/isolens/isolens/history/LongColumn"), (0, .methodref 13 3), (0, .methodref 13 17), (0, .nameAndType 18 19), (0, u "add"), (0, u "(J)V"), (0, .methodref 13 21), (0, .nameAndType 22 23), (0, u "size"), (0, u "()I"), (0, .methodref 13 25), (0, .nameAndType 26 27), (0, u "get"), (0, u "(I)J"), (3, u "law"), (0, u "(JJJI)Z")] 2

def k1m0 : Method := { name := "<init>", desc := "()V", sig := { parameters := [], returnType := none }, accessFlags := 1, code := none }
def k1c1 : Code := { maxStack := 2, maxLocals := 3, code := method_2_code, exceptionTable := #[], attributes := #[] }
def k1m1 : Method := { name := "pick", desc := "(JI)J", sig := { parameters := [.long, .int], returnType := some .long }, accessFlags := 10, code := some k1c1 }
def k1c2 : Code := { maxStack := 4, maxLocals := 20, code := code, exceptionTable := #[], attributes := #[] }
def k1m2 : Method := { name := "law", desc := "(JJJI)Z", sig := { parameters := [.long, .long, .long, .int], returnType := some .boolean }, accessFlags := 9, code := some k1c2 }
/-- com/example/isolens/isolens/history/LongColumnGetPinLaw -/
def k1 : Class := { plain "com/example/isolens/isolens/history/LongColumnGetPinLaw" (some 0) with
  accessFlags := 49
  interfaces := #[]
  cf := some (fileOf pool1 8 #[] #[{ accessFlags := 1, nameIndex := 5, descriptorIndex := 6, attributes := #[] }, { accessFlags := 10, nameIndex := 11, descriptorIndex := 12, attributes := #[] }, { accessFlags := 9, nameIndex := 31, descriptorIndex := 32, attributes := #[] }] 49 2 #[] #[])
  fields := #[]
  methods := #[k1m0, k1m1, k1m2]
  instanceTypes := #[]
  staticTypes := #[]
  resolved := Array.replicate 35 none
  statics := none }

def pool2 : Array CpInfo := pool [(1, .class_ 2), (0, u "com/example/isolens/isolens/history/LongColumn"), (0, .methodref 4 5), (0, .class_ 6), (0, .nameAndType 7 8), (0, u "java/lang/Object"), (0, u "<init>"), (0, u "()V"), (0, .class_ 10), (0, u "[I"), (0, .fieldref 1 12), (0, .nameAndType 13 14), (0, u "low"), (0, u "[[I"), (0, .fieldref 1 16), (0, .nameAndType 17 14), (0, u "high"), (0, .integer 65535), (0, .long 4294967295), (1, .fieldref 1 22), (0, .nameAndType 23 24), (0, u "size"), (0, u "I"), (2, .integer 2147483647), (16, .integer 65536), (5, u "get"), (0, u "(I)J"), (0, u "CHUNK_BITS"), (2, u "CHUNK"), (0, u "MASK"), (3, u "add"), (0, u "(J)V"), (0, u "()I")] 19

def k2c0 : Code := { maxStack := 5, maxLocals := 1, code := prog_109_method_1_code, exceptionTable := #[], attributes := #[] }
def k2m0 : Method := { name := "<init>", desc := "()V", sig := { parameters := [], returnType := none }, accessFlags := 0, code := some k2c0 }
def k2c1 : Code := { maxStack := 6, maxLocals := 5, code := prog_109_method_2_code, exceptionTable := #[], attributes := #[] }
def k2m1 : Method := { name := "get", desc := "(I)J", sig := { parameters := [.int], returnType := some .long }, accessFlags := 0, code := some k2c1 }
def k2c2 : Code := { maxStack := 5, maxLocals := 6, code := prog_109_method_3_code, exceptionTable := #[], attributes := #[] }
def k2m2 : Method := { name := "add", desc := "(J)V", sig := { parameters := [.long], returnType := none }, accessFlags := 0, code := some k2c2 }
def k2c3 : Code := { maxStack := 1, maxLocals := 1, code := prog_109_method_4_code, exceptionTable := #[], attributes := #[] }
def k2m3 : Method := { name := "size", desc := "()I", sig := { parameters := [], returnType := some .int }, accessFlags := 0, code := some k2c3 }
/-- com/example/isolens/isolens/history/LongColumn -/
def k2 : Class := { plain "com/example/isolens/isolens/history/LongColumn" (some 0) with
  accessFlags := 48
  interfaces := #[]
  cf := some (fileOf pool2 1 #[] #[{ accessFlags := 0, nameIndex := 7, descriptorIndex := 8, attributes := #[] }, { accessFlags := 0, nameIndex := 50, descriptorIndex := 51, attributes := #[] }, { accessFlags := 0, nameIndex := 60, descriptorIndex := 61, attributes := #[] }, { accessFlags := 0, nameIndex := 23, descriptorIndex := 62, attributes := #[] }] 48 4 #[] #[{ accessFlags := 26, nameIndex := 52, descriptorIndex := 24, attributes := #[] }, { accessFlags := 26, nameIndex := 55, descriptorIndex := 24, attributes := #[] }, { accessFlags := 26, nameIndex := 56, descriptorIndex := 24, attributes := #[] }, { accessFlags := 2, nameIndex := 13, descriptorIndex := 14, attributes := #[] }, { accessFlags := 2, nameIndex := 17, descriptorIndex := 14, attributes := #[] }, { accessFlags := 2, nameIndex := 23, descriptorIndex := 24, attributes := #[] }])
  fields := #[{ name := "CHUNK_BITS", type := .int, accessFlags := 26, slot := 0, constantValue := 0 }, { name := "CHUNK", type := .int, accessFlags := 26, slot := 1, constantValue := 0 }, { name := "MASK", type := .int, accessFlags := 26, slot := 2, constantValue := 0 }, { name := "low", type := (.array (.array .int)), accessFlags := 2, slot := 0, constantValue := 0 }, { name := "high", type := (.array (.array .int)), accessFlags := 2, slot := 1, constantValue := 0 }, { name := "size", type := .int, accessFlags := 2, slot := 2, constantValue := 0 }]
  methods := #[k2m0, k2m1, k2m2, k2m3]
  instanceTypes := #[(.array (.array .int)), (.array (.array .int)), .int]
  staticTypes := #[.int, .int, .int]
  resolved := Array.replicate 82 none
  statics := none }

def pool3 : Array CpInfo := pool [(1, u "java/lang/Cloneable"), (0, .class_ 1), (0, u "java/lang/Object"), (0, .class_ 3)] 3

/-- java/lang/Cloneable -/
def k3 : Class := { plain "java/lang/Cloneable" (some 0) with
  accessFlags := 1537
  interfaces := #[]
  cf := some (fileOf pool3 2 #[] #[] 1537 4 #[] #[])
  fields := #[]
  methods := #[]
  instanceTypes := #[]
  staticTypes := #[]
  resolved := Array.replicate 8 none
  statics := none }

def pool4 : Array CpInfo := pool [(1, u "java/io/Serializable"), (0, .class_ 1), (0, u "java/lang/Object"), (0, .class_ 3)] 3

/-- java/io/Serializable -/
def k4 : Class := { plain "java/io/Serializable" (some 0) with
  accessFlags := 1537
  interfaces := #[]
  cf := some (fileOf pool4 2 #[] #[] 1537 4 #[] #[])
  fields := #[]
  methods := #[]
  instanceTypes := #[]
  staticTypes := #[]
  resolved := Array.replicate 8 none
  statics := none }

/-- the primitive byte -/
def k5 : Class := { plain "byte" none with kind := .primitive 'B', accessFlags := 0x411 }
/-- [B -/
def k6 : Class := { plain "[B" (some 0) with kind := .array 5 .byte, interfaces := #[3, 4], accessFlags := 1041 }

/-- the primitive int -/
def k7 : Class := { plain "int" none with kind := .primitive 'I', accessFlags := 0x411 }
/-- [I -/
def k8 : Class := { plain "[I" (some 0) with kind := .array 7 .int, interfaces := #[3, 4], accessFlags := 1041 }

/-- [L[I; -/
def k9 : Class := { plain "[[I" (some 0) with kind := .array 8 (.array .int), interfaces := #[3, 4], accessFlags := 1041 }

def heap : Heap := #[{ cls := 9, slots := #[.null], vm := .none }]
def classes : Array Class := #[k0, k1, k2, k3, k4, k5, k6, k7, k8, k9]
def interned : List (Array UInt16 × Addr) := []
def slotsUsed : Nat := 1
def theMethod : MethodId := ⟨1, 2⟩
def args0 : Array Value := #[.long 5, .long 7, .long 1, .int 9]
def aboutOver (below : List Frame) : State where
  vm := { classes := classes, interned := interned.toArray }
  heap := heap
  slotsUsed := slotsUsed
  threads := #[{ frames := .invoking theMethod args0 :: below }]
def below0 : List Frame := [.native { method := ⟨0, 0⟩, args := #[] }]
def about1 : State := aboutOver below0
def p0 : Program := .bare "" "" ""
def e0 : Env := launch0.env 0 0 0
theorem w_frames : about1.frames = Frame.invoking theMethod args0 :: below0 := rfl
set_option maxRecDepth 65536 in
theorem w_args : argsFit about1.vm theMethod args0 = true := by decide +kernel
set_option maxRecDepth 65536 in
theorem w_heap : heapFits about1 = true := by decide +kernel
set_option maxRecDepth 65536 in
theorem w_runnable : about1.curStatus? = some .runnable := by decide +kernel
set_option maxRecDepth 65536 in
theorem w_alone : about1.alone = true := by decide +kernel
set_option maxRecDepth 65536 in
theorem w_named : about1.methodNamed? x = some theMethod := by decide +kernel
set_option maxRecDepth 65536 in
theorem w_hears : about1.hears theMethod below0 = true := by decide +kernel
set_option maxRecDepth 65536 in
theorem w_ripe : about1.ripe theMethod args0 below0 = true := by decide +kernel
theorem w_running : about1.status = .running := rfl
set_option maxRecDepth 65536 in
theorem w_room : about1.hasRoom e0.platform room_1 = true :=
  launch0.hasRoom_least _ room_1 (by decide +kernel) (by decide +kernel) (by decide +kernel) (by decide +kernel) (by decide +kernel) (by decide +kernel)
theorem allAtoms_all (ts : List Jvm.Cond) (a : Array Jvm.Value) (st : Jvm.State) : (allAtoms ts).before a st = ts.all (fun c => c.before a st) := by
  induction ts with
  | nil => rfl
  | cons c t ih =>
    show (Jvm.Cond.and c (allAtoms t)).before a st = _
    rw [Jvm.Cond.before_and, ih, List.all_cons]
def words1 : List Jvm.Cond := Jvm.Cond.code x code maxLocals ret :: tables_1
/-- a 'code' word, met by the world's own term for the bytes: nothing is compared byte by byte -/
theorem code_word {y : MethodName} {bytes : ByteArray} {mx : Nat} {rt : Option FieldType} {a : Array Value} {s : State} {m : MethodId} {meth : Method} {c : Code} (h1 : s.methodNamed? y = some m) (h2 : s.vm.method? m = some meth) (h3 : meth.code = some c) (h4 : c.code = bytes)
    (h5 : (c.maxLocals == mx && c.exceptionTable.isEmpty && decide (c.maxStack ≤ mostOperands) && decide (meth.sig.returnType = rt) && !meth.locks && decide (parseMethodDescriptor y.desc = some meth.sig)) = true) : (Jvm.Cond.code y bytes mx rt).before a s = true := by
  simp only [Bool.and_eq_true, beq_iff_eq, Bool.not_eq_true', decide_eq_true_eq] at h5
  obtain ⟨⟨⟨⟨⟨g1, g2⟩, g3⟩, g4⟩, g5⟩, g6⟩ := h5
  simp [Cond.before, Cond.holds, Cond.value, h1, h2, h3, h4, g1, g2, g3, g4, g5, g6]
def isCode : Jvm.Cond → Bool
  | .code _ _ _ _ => true
  | _ => false
theorem all_split {L : List Jvm.Cond} {P : Jvm.Cond → Bool} (h1 : L.all (fun c => isCode c || P c) = true) (h2 : ∀ c ∈ L.filter isCode, P c = true) : L.all P = true := by
  refine List.all_eq_true.mpr fun c hc => ?_
  have h := List.all_eq_true.mp h1 c hc
  rcases Bool.eq_false_or_eq_true (isCode c) with hi | hi
  · exact h2 c (List.mem_filter.mpr ⟨hc, hi⟩)
  · simpa [hi] using h
set_option maxRecDepth 65536 in
theorem w_c0 : (Jvm.Cond.code x code maxLocals ret).before args0 about1 = true := code_word (m := ⟨1, 2⟩) (meth := k1m2) (c := k1c2) (by decide +kernel) rfl rfl rfl (by decide +kernel)
set_option maxRecDepth 65536 in
theorem w_c1 : (Jvm.Cond.code ({ cls := "com/example/isolens/isolens/history/LongColumnGetPinLaw", name := "pick", desc := "(JI)J" } : Jvm.MethodName) method_2_code (3 : Nat) (Option.some Jvm.ClassFile.FieldType.long)).before args0 about1 = true := code_word (m := ⟨1, 1⟩) (meth := k1m1) (c := k1c1) (by decide +kernel) rfl rfl rfl (by decide +kernel)
set_option maxRecDepth 65536 in
theorem w_c2 : (Jvm.Cond.code ({ cls := "com/example/isolens/isolens/history/LongColumn", name := "<init>", desc := "()V" } : Jvm.MethodName) prog_109_method_1_code (1 : Nat) (Option.none : Option Jvm.ClassFile.FieldType)).before args0 about1 = true := code_word (m := ⟨2, 0⟩) (meth := k2m0) (c := k2c0) (by decide +kernel) rfl rfl rfl (by decide +kernel)
set_option maxRecDepth 65536 in
theorem w_c3 : (Jvm.Cond.code ({ cls := "java/lang/Object", name := "<init>", desc := "()V" } : Jvm.MethodName) object_method_1_code (1 : Nat) (Option.none : Option Jvm.ClassFile.FieldType)).before args0 about1 = true := code_word (m := ⟨0, 0⟩) (meth := k0m0) (c := k0c0) (by decide +kernel) rfl rfl rfl (by decide +kernel)
set_option maxRecDepth 65536 in
theorem w_c4 : (Jvm.Cond.code ({ cls := "com/example/isolens/isolens/history/LongColumn", name := "add", desc := "(J)V" } : Jvm.MethodName) prog_109_method_3_code (6 : Nat) (Option.none : Option Jvm.ClassFile.FieldType)).before args0 about1 = true := code_word (m := ⟨2, 2⟩) (meth := k2m2) (c := k2c2) (by decide +kernel) rfl rfl rfl (by decide +kernel)
set_option maxRecDepth 65536 in
theorem w_c5 : (Jvm.Cond.code ({ cls := "com/example/isolens/isolens/history/LongColumn", name := "size", desc := "()I" } : Jvm.MethodName) prog_109_method_4_code (1 : Nat) (Option.some Jvm.ClassFile.FieldType.int)).before args0 about1 = true := code_word (m := ⟨2, 3⟩) (meth := k2m3) (c := k2c3) (by decide +kernel) rfl rfl rfl (by decide +kernel)
set_option maxRecDepth 65536 in
theorem w_c6 : (Jvm.Cond.code ({ cls := "com/example/isolens/isolens/history/LongColumn", name := "get", desc := "(I)J" } : Jvm.MethodName) prog_109_method_2_code (5 : Nat) (Option.some Jvm.ClassFile.FieldType.long)).before args0 about1 = true := code_word (m := ⟨2, 1⟩) (meth := k2m1) (c := k2c1) (by decide +kernel) rfl rfl rfl (by decide +kernel)
def codes1 : List Jvm.Cond := [Jvm.Cond.code x code maxLocals ret, Jvm.Cond.code ({ cls := "com/example/isolens/isolens/history/LongColumnGetPinLaw", name := "pick", desc := "(JI)J" } : Jvm.MethodName) method_2_code (3 : Nat) (Option.some Jvm.ClassFile.FieldType.long), Jvm.Cond.code ({ cls := "com/example/isolens/isolens/history/LongColumn", name := "<init>", desc := "()V" } : Jvm.MethodName) prog_109_method_1_code (1 : Nat) (Option.none : Option Jvm.ClassFile.FieldType), Jvm.Cond.code ({ cls := "java/lang/Object", name := "<init>", desc := "()V" } : Jvm.MethodName) object_method_1_code (1 : Nat) (Option.none : Option Jvm.ClassFile.FieldType), Jvm.Cond.code ({ cls := "com/example/isolens/isolens/history/LongColumn", name := "add", desc := "(J)V" } : Jvm.MethodName) prog_109_method_3_code (6 : Nat) (Option.none : Option Jvm.ClassFile.FieldType), Jvm.Cond.code ({ cls := "com/example/isolens/isolens/history/LongColumn", name := "size", desc := "()I" } : Jvm.MethodName) prog_109_method_4_code (1 : Nat) (Option.some Jvm.ClassFile.FieldType.int), Jvm.Cond.code ({ cls := "com/example/isolens/isolens/history/LongColumn", name := "get", desc := "(I)J" } : Jvm.MethodName) prog_109_method_2_code (5 : Nat) (Option.some Jvm.ClassFile.FieldType.long)]
set_option maxRecDepth 65536 in
theorem codes_eq : words1.filter isCode = codes1 := rfl
theorem w_codes : ∀ c ∈ words1.filter isCode, c.before args0 about1 = true := by
  rw [codes_eq]
  intro c hc
  simp only [codes1, List.mem_cons, List.not_mem_nil, or_false] at hc
  rcases hc with rfl | rfl | rfl | rfl | rfl | rfl | rfl
  · exact w_c0
  · exact w_c1
  · exact w_c2
  · exact w_c3
  · exact w_c4
  · exact w_c5
  · exact w_c6
set_option maxRecDepth 65536 in
theorem w_t1 : (words1.take 24).all (fun c => isCode c || c.before args0 about1) = true := by decide +kernel
set_option maxRecDepth 65536 in
theorem w_t2 : (words1.drop 24).all (fun c => isCode c || c.before args0 about1) = true := by decide +kernel
theorem w_tables : (allAtoms (Jvm.Cond.code x code maxLocals ret :: tables_1)).before args0 about1 = true := by
  rw [allAtoms_all]
  show words1.all (fun c => c.before args0 about1) = true
  refine all_split ?_ w_codes
  rw [← List.take_append_drop 24 words1, List.all_append, w_t1, w_t2]
  rfl
set_option maxRecDepth 65536 in
theorem w_case : (Jvm.Cond.and given_1 narrow_1).before args0 about1 = true := by decide +kernel
theorem w_applies : (headSpec (Jvm.Cond.code x code maxLocals ret :: tables_1) room_1).applies x e0.platform about1 = true :=
  (Spec.applies_iff w_frames).mpr ⟨w_running, w_runnable, w_alone, w_named, w_hears, w_ripe, w_room, w_tables⟩
theorem atStart : AtStart classFile x code maxLocals ret World_1 tables_1 room_1 Calls_1 rest_1 Pre_1 launch0 p0 e0 about1 theMethod args0 below0 :=
  ⟨lists_1, trivial, launch0.admits_env _ _ _, launch0.least_env, fairChoices_fair.cas, fairChoices_fair.clock, w_frames, w_args, w_heap, w_applies, trivial, trivial, w_case⟩
end start1
theorem witness_1 : WitnessClaimed_1 := ⟨start1.p0, start1.e0, start1.about1, start1.theMethod, start1.args0, start1.below0, start1.atStart⟩
end Jvm.Pilot.@@N@@
