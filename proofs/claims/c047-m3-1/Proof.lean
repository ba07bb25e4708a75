import JvmDerived
import JvmDerived.Pilot.@@N@@Statement
import JvmDerived.Pilot.@@N@@Code
set_option linter.unusedVariables false
set_option linter.unusedSimpArgs false
namespace Jvm.Pilot.@@N@@
open Jvm Jvm.ClassFile Sem Op Lib Jvm.Free Jvm.Stand Jvm.LawKit Jvm.RoadKit Bundle Jvm.Pilot.@@N@@.Jvm.D
section OwnKit
variable {p : Program} {l : Launch} {e : Env} {R : Room} {s : State} {m : MethodId} {args : Array Value} {below : List Frame} {meth : Method} {c : Code} {T : State} {locs : List Loc} {cells slots : Nat} {bc : ByteArray} {Q : Option Value → Heap → List Loc → Prop} {mc ms : Nat} {Z : State} {a0 : Array Value} {h : Heap} {pc pc' pt pf : Nat} {Ls : Array Slot} {st rest : List Value}
/-- from this frame over T the invocation comes to its end by returning, and Q holds there -/
def Go (p : Program) (e : Env) (below : List Frame) (s : State) (Q : Option Value → Heap → List Loc → Prop) (mc ms : Nat) (m : MethodId) (T : State) (pc : Nat) (Ls : Array Slot) (st : List Value) : Prop :=
  ∃ s₂ o, Steps p.tables e below (T.setTop (mkF m pc Ls st)) s₂ ∧ s₂.status = .running ∧ Ended s₂ below o ∧ ∃ v L, o = .returned v ∧ Q v s₂.heap L ∧ FrameEnd s o s₂ L mc ms
theorem Go.of {T' : State} {Ls' : Array Slot} {st' : List Value} (k : ∀ t, Steps p.tables e below (T'.setTop (mkF m pc' Ls' st')) t → Steps p.tables e below (T.setTop (mkF m pc Ls st)) t) (g : Go p e below s Q mc ms m T' pc' Ls' st') : Go p e below s Q mc ms m T pc Ls st := by
  obtain ⟨s₂, o, h1, h2⟩ := g
  exact ⟨s₂, o, k _ h1, h2⟩
/-- a method's contract, as a caller takes it -/
def Ct (l : Launch) (Z : State) (y : MethodName) (bytes : ByteArray) (maxL : Nat) (ret : Option FieldType) (rm : Room) (as' : Array Value) (h : Heap) (Q : Option Value → Heap → List Loc → Prop) : Prop :=
  MetFree l y (head1 [Jvm.Cond.code y bytes maxL ret] rm) (fun a U => a = as' ∧ Z.Warmed39 U.vm ∧ U.heap = h) (fun _ _ _ _ _ => True) (fun _ U o U' => ∃ v L, o = .returned v ∧ Q v U'.heap L ∧ FrameEnd U o U' L rm.cells rm.slots)
theorem own_met {y : MethodName} {bytes : ByteArray} {maxL : Nat} {ret : Option FieldType} {ws : List Jvm.Cond} {rm : Room} {as' : Array Value}
    (hpl : plainFor y = true) (hef : ∀ m, entryFrame m as' maxL = mkF m 0 Ls [])
    (body : ∀ (p : Program) (e : Env) (s : State) (m : MethodId) (below : List Frame) (meth : Method) (c : Code) (T : State), Stand p l e rm s m as' below meth c T [] 0 0 → p.tables.exec = Jvm.exec → c.code = bytes → c.maxLocals = maxL →
      s.vm.findClass y.cls = some m.cls → meth.name = y.name → meth.sig.returnType = ret → meth.locks = false → Z.Warmed39 s.vm → T.heap = h → Go p e below s Q mc ms m T 0 Ls []) :
    MetFree l y (head1 (Jvm.Cond.code y bytes maxL ret :: ws) rm) (fun a U => a = as' ∧ Z.Warmed39 U.vm ∧ U.heap = h) (fun _ _ _ _ _ => True) (fun _ U o U' => ∃ v L, o = .returned v ∧ Q v U'.heap L ∧ FrameEnd U o U' L mc ms) := by
  refine MetFree.of_bodySF hpl hisR ?_
  intro p e s m args below meth c s₁ Bd hml0 hP hK
  obtain ⟨rfl, hZ, hh⟩ := hP
  obtain ⟨s₂, o, h1, h2, h3, v, L, h4, h5, h6⟩ := body p e s m below meth c s₁ (Stand.of_body Bd) Bd.exec Bd.bytes hml0 (findClass_of_methodNamed Bd.named) (name_of_methodNamed Bd.named Bd.method).1 Bd.returns Bd.notSynchronized hZ (by rw [← hh, Bd.state]; rfl)
  exact ⟨s₂, o, castTop (hef m) h1, h2, h3, v, L, h4, h5, h6⟩
theorem g_nameI {x : Int32} (k : ∀ z : Int32, z = x → Go p e below s Q mc ms m T pc Ls (.int z :: rest)) : Go p e below s Q mc ms m T pc Ls (.int x :: rest) := k x rfl
theorem g_nameL {x : Int64} (k : ∀ z : Int64, z = x → Go p e below s Q mc ms m T pc Ls (.long z :: rest)) : Go p e below s Q mc ms m T pc Ls (.long x :: rest) := k x rfl
theorem g_iloadN (X : Stand p l e R s m args below meth c T locs cells slots) (hx : p.tables.exec = Jvm.exec) (hby : c.code = bc) {n : Fin 4} {v : Int32} (hd : decode bc pc = .ok (.iload_n n, 1)) (hp : pc + 1 = pc') (hl : Ls[n.val]? = some (.val (.int v))) (k : Go p e below s Q mc ms m T pc' Ls (.int v :: st)) : Go p e below s Q mc ms m T pc Ls st := by
  subst hp; exact Go.of (fun _ q => XS.iloadN X.here hx rfl (hb hby hd) hl q) k
theorem g_iload (X : Stand p l e R s m args below meth c T locs cells slots) (hx : p.tables.exec = Jvm.exec) (hby : c.code = bc) {n : Nat} {v : Int32} (hd : decode bc pc = .ok (.iload n, 2)) (hp : pc + 2 = pc') (hl : Ls[n]? = some (.val (.int v))) (k : Go p e below s Q mc ms m T pc' Ls (.int v :: st)) : Go p e below s Q mc ms m T pc Ls st := by
  subst hp; exact Go.of (fun _ q => XS.iload X.here hx rfl (hb hby hd) hl q) k
theorem g_istoreN (X : Stand p l e R s m args below meth c T locs cells slots) (hx : p.tables.exec = Jvm.exec) (hby : c.code = bc) {n : Fin 4} {v : Int32} {Ls' : Array Slot} (hd : decode bc pc = .ok (.istore_n n, 1)) (hp : pc + 1 = pc') (hl : storeLocals Ls n.val (.int v) = some Ls') (k : Go p e below s Q mc ms m T pc' Ls' rest) : Go p e below s Q mc ms m T pc Ls (.int v :: rest) := by
  subst hp; exact Go.of (fun _ q => XS.istoreN X.here hx rfl (hb hby hd) rfl hl q) k
theorem g_istore (X : Stand p l e R s m args below meth c T locs cells slots) (hx : p.tables.exec = Jvm.exec) (hby : c.code = bc) {n : Nat} {v : Int32} {Ls' : Array Slot} (hd : decode bc pc = .ok (.istore n, 2)) (hp : pc + 2 = pc') (hl : storeLocals Ls n (.int v) = some Ls') (k : Go p e below s Q mc ms m T pc' Ls' rest) : Go p e below s Q mc ms m T pc Ls (.int v :: rest) := by
  subst hp; exact Go.of (fun _ q => XS.istore X.here hx rfl (hb hby hd) rfl hl q) k
theorem g_lloadN (X : Stand p l e R s m args below meth c T locs cells slots) (hx : p.tables.exec = Jvm.exec) (hby : c.code = bc) {n : Fin 4} {v : Int64} (hd : decode bc pc = .ok (.lload_n n, 1)) (hp : pc + 1 = pc') (hl : Ls[n.val]? = some (.val (.long v))) (k : Go p e below s Q mc ms m T pc' Ls (.long v :: st)) : Go p e below s Q mc ms m T pc Ls st := by
  subst hp; exact Go.of (fun _ q => XS.lloadN X.here hx rfl (hb hby hd) hl q) k
theorem g_lload (X : Stand p l e R s m args below meth c T locs cells slots) (hx : p.tables.exec = Jvm.exec) (hby : c.code = bc) {n : Nat} {v : Int64} (hd : decode bc pc = .ok (.lload n, 2)) (hp : pc + 2 = pc') (hl : Ls[n]? = some (.val (.long v))) (k : Go p e below s Q mc ms m T pc' Ls (.long v :: st)) : Go p e below s Q mc ms m T pc Ls st := by
  subst hp; exact Go.of (fun _ q => XS.lload X.here hx rfl (hb hby hd) hl q) k
theorem g_lstoreN (X : Stand p l e R s m args below meth c T locs cells slots) (hx : p.tables.exec = Jvm.exec) (hby : c.code = bc) {n : Fin 4} {v : Int64} {Ls' : Array Slot} (hd : decode bc pc = .ok (.lstore_n n, 1)) (hp : pc + 1 = pc') (hl : storeLocals Ls n.val (.long v) = some Ls') (k : Go p e below s Q mc ms m T pc' Ls' rest) : Go p e below s Q mc ms m T pc Ls (.long v :: rest) := by
  subst hp; exact Go.of (fun _ q => XS.lstoreN X.here hx rfl (hb hby hd) rfl hl q) k
theorem g_lstore (X : Stand p l e R s m args below meth c T locs cells slots) (hx : p.tables.exec = Jvm.exec) (hby : c.code = bc) {n : Nat} {v : Int64} {Ls' : Array Slot} (hd : decode bc pc = .ok (.lstore n, 2)) (hp : pc + 2 = pc') (hl : storeLocals Ls n (.long v) = some Ls') (k : Go p e below s Q mc ms m T pc' Ls' rest) : Go p e below s Q mc ms m T pc Ls (.long v :: rest) := by
  subst hp; exact Go.of (fun _ q => XS.lstore X.here hx rfl (hb hby hd) rfl hl q) k
theorem g_aloadN (X : Stand p l e R s m args below meth c T locs cells slots) (hx : p.tables.exec = Jvm.exec) (hby : c.code = bc) {n : Fin 4} {v : Value} (hd : decode bc pc = .ok (.aload_n n, 1)) (hp : pc + 1 = pc') (hl : Ls[n.val]? = some (.val v)) (hv : v.isRef = true) (k : Go p e below s Q mc ms m T pc' Ls (v :: st)) : Go p e below s Q mc ms m T pc Ls st := by
  subst hp; exact Go.of (fun _ q => XS.aloadN X.here hx rfl (hb hby hd) hl hv q) k
theorem g_aload (X : Stand p l e R s m args below meth c T locs cells slots) (hx : p.tables.exec = Jvm.exec) (hby : c.code = bc) {n : Nat} {v : Value} (hd : decode bc pc = .ok (.aload n, 2)) (hp : pc + 2 = pc') (hl : Ls[n]? = some (.val v)) (hv : v.isRef = true) (k : Go p e below s Q mc ms m T pc' Ls (v :: st)) : Go p e below s Q mc ms m T pc Ls st := by
  subst hp; exact Go.of (fun _ q => XS.aload X.here hx rfl (hb hby hd) hl hv q) k
theorem g_astore (X : Stand p l e R s m args below meth c T locs cells slots) (hx : p.tables.exec = Jvm.exec) (hby : c.code = bc) {n : Nat} {v : Value} {Ls' : Array Slot} (hd : decode bc pc = .ok (.astore n, 2)) (hp : pc + 2 = pc') (hv : v.isRef = true) (hl : storeLocals Ls n v = some Ls') (k : Go p e below s Q mc ms m T pc' Ls' rest) : Go p e below s Q mc ms m T pc Ls (v :: rest) := by
  subst hp; exact Go.of (fun _ q => XS.astore X.here hx rfl (hb hby hd) rfl hv hl q) k
theorem g_iconst (X : Stand p l e R s m args below meth c T locs cells slots) (hx : p.tables.exec = Jvm.exec) (hby : c.code = bc) {i : Int} {n : Int32} (hd : decode bc pc = .ok (.iconst i, 1)) (hp : pc + 1 = pc') (hn : Int32.ofInt i = n) (k : Go p e below s Q mc ms m T pc' Ls (.int n :: st)) : Go p e below s Q mc ms m T pc Ls st := by
  subst hp; exact Go.of (fun _ q => XS.iconst X.here hx rfl (hb hby hd) (by rw [hn]; exact q)) k
theorem g_bipush (X : Stand p l e R s m args below meth c T locs cells slots) (hx : p.tables.exec = Jvm.exec) (hby : c.code = bc) {i : Int} {n : Int32} (hd : decode bc pc = .ok (.bipush i, 2)) (hp : pc + 2 = pc') (hn : (Int8.ofInt i).toInt32 = n) (k : Go p e below s Q mc ms m T pc' Ls (.int n :: st)) : Go p e below s Q mc ms m T pc Ls st := by
  subst hp; exact Go.of (fun _ q => XS.bipush X.here hx rfl (hb hby hd) (by rw [hn]; exact q)) k
theorem g_sipush (X : Stand p l e R s m args below meth c T locs cells slots) (hx : p.tables.exec = Jvm.exec) (hby : c.code = bc) {i : Int} {n : Int32} (hd : decode bc pc = .ok (.sipush i, 3)) (hp : pc + 3 = pc') (hn : (Int16.ofInt i).toInt32 = n) (k : Go p e below s Q mc ms m T pc' Ls (.int n :: st)) : Go p e below s Q mc ms m T pc Ls st := by
  subst hp; exact Go.of (fun _ q => XS.sipush X.here hx rfl (hb hby hd) (by rw [hn]; exact q)) k
theorem g_lconst (X : Stand p l e R s m args below meth c T locs cells slots) (hx : p.tables.exec = Jvm.exec) (hby : c.code = bc) {i : Fin 2} {n : Int64} (hd : decode bc pc = .ok (.lconst i, 1)) (hp : pc + 1 = pc') (hn : Int64.ofNat i = n) (k : Go p e below s Q mc ms m T pc' Ls (.long n :: st)) : Go p e below s Q mc ms m T pc Ls st := by
  subst hp; exact Go.of (fun _ q => XS.lconst X.here hx rfl (hb hby hd) (by rw [hn]; exact q)) k
theorem g_iadd (X : Stand p l e R s m args below meth c T locs cells slots) (hx : p.tables.exec = Jvm.exec) (hby : c.code = bc) {x y : Int32} (hd : decode bc pc = .ok (.iadd, 1)) (hp : pc + 1 = pc')  (k : Go p e below s Q mc ms m T pc' Ls (.int (x + y) :: rest)) : Go p e below s Q mc ms m T pc Ls (.int y :: .int x :: rest) := by
  subst hp; exact Go.of (fun _ q => XS.iadd X.here hx rfl (hb hby hd) rfl q) k
theorem g_isub (X : Stand p l e R s m args below meth c T locs cells slots) (hx : p.tables.exec = Jvm.exec) (hby : c.code = bc) {x y : Int32} (hd : decode bc pc = .ok (.isub, 1)) (hp : pc + 1 = pc')  (k : Go p e below s Q mc ms m T pc' Ls (.int (x - y) :: rest)) : Go p e below s Q mc ms m T pc Ls (.int y :: .int x :: rest) := by
  subst hp; exact Go.of (fun _ q => XS.isub X.here hx rfl (hb hby hd) rfl q) k
theorem g_iand (X : Stand p l e R s m args below meth c T locs cells slots) (hx : p.tables.exec = Jvm.exec) (hby : c.code = bc) {x y : Int32} (hd : decode bc pc = .ok (.iand, 1)) (hp : pc + 1 = pc')  (k : Go p e below s Q mc ms m T pc' Ls (.int (x &&& y) :: rest)) : Go p e below s Q mc ms m T pc Ls (.int y :: .int x :: rest) := by
  subst hp; exact Go.of (fun _ q => XS.iand X.here hx rfl (hb hby hd) rfl q) k
theorem g_land (X : Stand p l e R s m args below meth c T locs cells slots) (hx : p.tables.exec = Jvm.exec) (hby : c.code = bc) {x y : Int64} (hd : decode bc pc = .ok (.land, 1)) (hp : pc + 1 = pc')  (k : Go p e below s Q mc ms m T pc' Ls (.long (x &&& y) :: rest)) : Go p e below s Q mc ms m T pc Ls (.long y :: .long x :: rest) := by
  subst hp; exact Go.of (fun _ q => XS.land X.here hx rfl (hb hby hd) rfl q) k
theorem g_ior (X : Stand p l e R s m args below meth c T locs cells slots) (hx : p.tables.exec = Jvm.exec) (hby : c.code = bc) {x y : Int32} (hd : decode bc pc = .ok (.ior, 1)) (hp : pc + 1 = pc')  (k : Go p e below s Q mc ms m T pc' Ls (.int (x ||| y) :: rest)) : Go p e below s Q mc ms m T pc Ls (.int y :: .int x :: rest) := by
  subst hp; exact Go.of (fun _ q => XS.ior X.here hx rfl (hb hby hd) rfl q) k
theorem g_lor (X : Stand p l e R s m args below meth c T locs cells slots) (hx : p.tables.exec = Jvm.exec) (hby : c.code = bc) {x y : Int64} (hd : decode bc pc = .ok (.lor, 1)) (hp : pc + 1 = pc')  (k : Go p e below s Q mc ms m T pc' Ls (.long (x ||| y) :: rest)) : Go p e below s Q mc ms m T pc Ls (.long y :: .long x :: rest) := by
  subst hp; exact Go.of (fun _ q => XS.lor X.here hx rfl (hb hby hd) rfl q) k
theorem g_ixor (X : Stand p l e R s m args below meth c T locs cells slots) (hx : p.tables.exec = Jvm.exec) (hby : c.code = bc) {x y : Int32} (hd : decode bc pc = .ok (.ixor, 1)) (hp : pc + 1 = pc')  (k : Go p e below s Q mc ms m T pc' Ls (.int (x ^^^ y) :: rest)) : Go p e below s Q mc ms m T pc Ls (.int y :: .int x :: rest) := by
  subst hp; exact Go.of (fun _ q => XS.ixor X.here hx rfl (hb hby hd) rfl q) k
theorem g_lxor (X : Stand p l e R s m args below meth c T locs cells slots) (hx : p.tables.exec = Jvm.exec) (hby : c.code = bc) {x y : Int64} (hd : decode bc pc = .ok (.lxor, 1)) (hp : pc + 1 = pc')  (k : Go p e below s Q mc ms m T pc' Ls (.long (x ^^^ y) :: rest)) : Go p e below s Q mc ms m T pc Ls (.long y :: .long x :: rest) := by
  subst hp; exact Go.of (fun _ q => XS.lxor X.here hx rfl (hb hby hd) rfl q) k
theorem g_ishl (X : Stand p l e R s m args below meth c T locs cells slots) (hx : p.tables.exec = Jvm.exec) (hby : c.code = bc) {x y : Int32} (hd : decode bc pc = .ok (.ishl, 1)) (hp : pc + 1 = pc')  (k : Go p e below s Q mc ms m T pc' Ls (.int (x <<< (y &&& 31)) :: rest)) : Go p e below s Q mc ms m T pc Ls (.int y :: .int x :: rest) := by
  subst hp; exact Go.of (fun _ q => XS.ishl X.here hx rfl (hb hby hd) rfl q) k
theorem g_iushr (X : Stand p l e R s m args below meth c T locs cells slots) (hx : p.tables.exec = Jvm.exec) (hby : c.code = bc) {x y : Int32} (hd : decode bc pc = .ok (.iushr, 1)) (hp : pc + 1 = pc')  (k : Go p e below s Q mc ms m T pc' Ls (.int ((x.toUInt32 >>> (y &&& 31).toUInt32).toInt32) :: rest)) : Go p e below s Q mc ms m T pc Ls (.int y :: .int x :: rest) := by
  subst hp; exact Go.of (fun _ q => XS.iushr X.here hx rfl (hb hby hd) rfl q) k
theorem g_lshl (X : Stand p l e R s m args below meth c T locs cells slots) (hx : p.tables.exec = Jvm.exec) (hby : c.code = bc) {x : Int64} {y : Int32} (hd : decode bc pc = .ok (.lshl, 1)) (hp : pc + 1 = pc')  (k : Go p e below s Q mc ms m T pc' Ls (.long (x <<< (y.toInt64 &&& 63)) :: rest)) : Go p e below s Q mc ms m T pc Ls (.int y :: .long x :: rest) := by
  subst hp; exact Go.of (fun _ q => XT.lshl X.here hx rfl (hb hby hd) rfl q) k
theorem g_lushr (X : Stand p l e R s m args below meth c T locs cells slots) (hx : p.tables.exec = Jvm.exec) (hby : c.code = bc) {x : Int64} {y : Int32} (hd : decode bc pc = .ok (.lushr, 1)) (hp : pc + 1 = pc')  (k : Go p e below s Q mc ms m T pc' Ls (.long (XT.ushrL x y) :: rest)) : Go p e below s Q mc ms m T pc Ls (.int y :: .long x :: rest) := by
  subst hp; exact Go.of (fun _ q => XT.lushr X.here hx rfl (hb hby hd) rfl q) k
theorem g_l2i (X : Stand p l e R s m args below meth c T locs cells slots) (hx : p.tables.exec = Jvm.exec) (hby : c.code = bc) {x : Int64} (hd : decode bc pc = .ok (.l2i, 1)) (hp : pc + 1 = pc')  (k : Go p e below s Q mc ms m T pc' Ls (.int (x.toInt32) :: rest)) : Go p e below s Q mc ms m T pc Ls (.long x :: rest) := by
  subst hp; exact Go.of (fun _ q => XS.l2i X.here hx rfl (hb hby hd) rfl q) k
theorem g_dup (X : Stand p l e R s m args below meth c T locs cells slots) (hx : p.tables.exec = Jvm.exec) (hby : c.code = bc) {x : Value} (hd : decode bc pc = .ok (.dup, 1)) (hp : pc + 1 = pc') (hc : x.category = 1) (k : Go p e below s Q mc ms m T pc' Ls (x :: x :: rest)) : Go p e below s Q mc ms m T pc Ls (x :: rest) := by
  subst hp; exact Go.of (fun _ q => XS.dup X.here hx rfl (hb hby hd) rfl hc q) k
theorem g_dup2 (X : Stand p l e R s m args below meth c T locs cells slots) (hx : p.tables.exec = Jvm.exec) (hby : c.code = bc) {x y : Value} (hd : decode bc pc = .ok (.dup2, 1)) (hp : pc + 1 = pc') (hc : x.category = 1) (hc' : y.category = 1) (k : Go p e below s Q mc ms m T pc' Ls (x :: y :: x :: y :: rest)) : Go p e below s Q mc ms m T pc Ls (x :: y :: rest) := by
  subst hp; exact Go.of (fun _ q => XT.dup2 X.here hx rfl (hb hby hd) rfl hc hc' q) k
theorem g_iinc (X : Stand p l e R s m args below meth c T locs cells slots) (hx : p.tables.exec = Jvm.exec) (hby : c.code = bc) {n : Nat} {i : Int} {x : Int32} {Ls' : Array Slot} (hd : decode bc pc = .ok (.iinc n i, 3)) (hp : pc + 3 = pc') (hl : Ls[n]? = some (.val (.int x))) (hl' : storeLocals Ls n (.int (x + Int32.ofInt i)) = some Ls') (k : Go p e below s Q mc ms m T pc' Ls' st) : Go p e below s Q mc ms m T pc Ls st := by
  subst hp; exact Go.of (fun _ q => XS.iinc X.here hx rfl (hb hby hd) hl hl' q) k
theorem g_goto (X : Stand p l e R s m args below meth c T locs cells slots) (hx : p.tables.exec = Jvm.exec) (hby : c.code = bc) {i : Int} (hd : decode bc pc = .ok (.goto i, 3)) (ho : 0 ≤ (pc : Int) + i) (hp : ((pc : Int) + i).toNat = pc') (k : Go p e below s Q mc ms m T pc' Ls st) : Go p e below s Q mc ms m T pc Ls st := Go.of (fun _ q => XS.goto X.here hx rfl rfl (hb hby hd) ho hp q) k
theorem own_hlt (x y : Int32) : if_icmp.holds .lt x y = decide (x.toInt < y.toInt) := by simp [if_icmp.holds, Int32.lt_iff_toInt_lt]
theorem own_hge (x y : Int32) : if_icmp.holds .ge x y = decide (y.toInt ≤ x.toInt) := by simp [if_icmp.holds, Int32.le_iff_toInt_le]
theorem own_hgt (x y : Int32) : if_icmp.holds .gt x y = decide (y.toInt < x.toInt) := by simp [if_icmp.holds, Int32.lt_iff_toInt_lt]
theorem own_hle (x y : Int32) : if_icmp.holds .le x y = decide (x.toInt ≤ y.toInt) := by simp [if_icmp.holds, Int32.le_iff_toInt_le]
theorem own_heq (x y : Int32) : if_icmp.holds .eq x y = decide (x = y) := by by_cases q : x = y <;> simp [if_icmp.holds, q]
theorem own_hne (x y : Int32) : if_icmp.holds .ne x y = decide (¬ x = y) := by by_cases q : x = y <;> simp [if_icmp.holds, q]
theorem g_icmp (X : Stand p l e R s m args below meth c T locs cells slots) (hx : p.tables.exec = Jvm.exec) (hby : c.code = bc) {cd : ClassFile.Cond} {i : Int} {x y : Int32} {P : Prop} [Decidable P] (hP : if_icmp.holds cd x y = decide P) (hd : decode bc pc = .ok (.if_icmp cd i, 3)) (ho : 0 ≤ (pc : Int) + i) (hp : ((pc : Int) + i).toNat = pt) (hf : pc + 3 = pf) (ky : P → Go p e below s Q mc ms m T pt Ls rest) (kn : ¬ P → Go p e below s Q mc ms m T pf Ls rest) : Go p e below s Q mc ms m T pc Ls (.int y :: .int x :: rest) := by
  subst hf
  by_cases q : P
  · exact Go.of (fun _ z => XS.icmpYes X.here hx rfl rfl (hb hby hd) rfl (by rw [hP]; exact decide_eq_true q) ho hp z) (ky q)
  · exact Go.of (fun _ z => XS.icmpNo X.here hx rfl (hb hby hd) rfl (by rw [hP]; exact decide_eq_false q) z) (kn q)
theorem g_ifc (X : Stand p l e R s m args below meth c T locs cells slots) (hx : p.tables.exec = Jvm.exec) (hby : c.code = bc) {cd : ClassFile.Cond} {i : Int} {x : Int32} {P : Prop} [Decidable P] (hP : if_icmp.holds cd x 0 = decide P) (hd : decode bc pc = .ok (.ifCond cd i, 3)) (ho : 0 ≤ (pc : Int) + i) (hp : ((pc : Int) + i).toNat = pt) (hf : pc + 3 = pf) (ky : P → Go p e below s Q mc ms m T pt Ls rest) (kn : ¬ P → Go p e below s Q mc ms m T pf Ls rest) : Go p e below s Q mc ms m T pc Ls (.int x :: rest) := by
  subst hf
  by_cases q : P
  · exact Go.of (fun _ z => XS.ifYes X.here hx rfl rfl (hb hby hd) rfl (by rw [if0, hP]; exact decide_eq_true q) ho hp z) (ky q)
  · exact Go.of (fun _ z => XS.ifNo X.here hx rfl (hb hby hd) rfl (by rw [if0, hP]; exact decide_eq_false q) z) (kn q)
theorem g_icmplt (X : Stand p l e R s m args below meth c T locs cells slots) (hx : p.tables.exec = Jvm.exec) (hby : c.code = bc) {i : Int} {x y : Int32} (hd : decode bc pc = .ok (.if_icmp .lt i, 3)) (ho : 0 ≤ (pc : Int) + i) (hp : ((pc : Int) + i).toNat = pt) (hf : pc + 3 = pf) (ky : x.toInt < y.toInt → Go p e below s Q mc ms m T pt Ls rest) (kn : y.toInt ≤ x.toInt → Go p e below s Q mc ms m T pf Ls rest) : Go p e below s Q mc ms m T pc Ls (.int y :: .int x :: rest) :=
  g_icmp X hx hby (own_hlt x y) hd ho hp hf ky (fun q => kn (Int.not_lt.mp q))
theorem g_iflt (X : Stand p l e R s m args below meth c T locs cells slots) (hx : p.tables.exec = Jvm.exec) (hby : c.code = bc) {i : Int} {x : Int32} (hd : decode bc pc = .ok (.ifCond .lt i, 3)) (ho : 0 ≤ (pc : Int) + i) (hp : ((pc : Int) + i).toNat = pt) (hf : pc + 3 = pf) (ky : x.toInt < 0 → Go p e below s Q mc ms m T pt Ls rest) (kn : 0 ≤ x.toInt → Go p e below s Q mc ms m T pf Ls rest) : Go p e below s Q mc ms m T pc Ls (.int x :: rest) :=
  g_ifc X hx hby (own_hlt x 0) hd ho hp hf ky (fun q => kn (Int.not_lt.mp q))
theorem g_icmpge (X : Stand p l e R s m args below meth c T locs cells slots) (hx : p.tables.exec = Jvm.exec) (hby : c.code = bc) {i : Int} {x y : Int32} (hd : decode bc pc = .ok (.if_icmp .ge i, 3)) (ho : 0 ≤ (pc : Int) + i) (hp : ((pc : Int) + i).toNat = pt) (hf : pc + 3 = pf) (ky : y.toInt ≤ x.toInt → Go p e below s Q mc ms m T pt Ls rest) (kn : x.toInt < y.toInt → Go p e below s Q mc ms m T pf Ls rest) : Go p e below s Q mc ms m T pc Ls (.int y :: .int x :: rest) :=
  g_icmp X hx hby (own_hge x y) hd ho hp hf ky (fun q => kn (Int.not_le.mp q))
theorem g_ifge (X : Stand p l e R s m args below meth c T locs cells slots) (hx : p.tables.exec = Jvm.exec) (hby : c.code = bc) {i : Int} {x : Int32} (hd : decode bc pc = .ok (.ifCond .ge i, 3)) (ho : 0 ≤ (pc : Int) + i) (hp : ((pc : Int) + i).toNat = pt) (hf : pc + 3 = pf) (ky : 0 ≤ x.toInt → Go p e below s Q mc ms m T pt Ls rest) (kn : x.toInt < 0 → Go p e below s Q mc ms m T pf Ls rest) : Go p e below s Q mc ms m T pc Ls (.int x :: rest) :=
  g_ifc X hx hby (own_hge x 0) hd ho hp hf ky (fun q => kn (Int.not_le.mp q))
theorem g_icmpgt (X : Stand p l e R s m args below meth c T locs cells slots) (hx : p.tables.exec = Jvm.exec) (hby : c.code = bc) {i : Int} {x y : Int32} (hd : decode bc pc = .ok (.if_icmp .gt i, 3)) (ho : 0 ≤ (pc : Int) + i) (hp : ((pc : Int) + i).toNat = pt) (hf : pc + 3 = pf) (ky : y.toInt < x.toInt → Go p e below s Q mc ms m T pt Ls rest) (kn : x.toInt ≤ y.toInt → Go p e below s Q mc ms m T pf Ls rest) : Go p e below s Q mc ms m T pc Ls (.int y :: .int x :: rest) :=
  g_icmp X hx hby (own_hgt x y) hd ho hp hf ky (fun q => kn (Int.not_lt.mp q))
theorem g_ifgt (X : Stand p l e R s m args below meth c T locs cells slots) (hx : p.tables.exec = Jvm.exec) (hby : c.code = bc) {i : Int} {x : Int32} (hd : decode bc pc = .ok (.ifCond .gt i, 3)) (ho : 0 ≤ (pc : Int) + i) (hp : ((pc : Int) + i).toNat = pt) (hf : pc + 3 = pf) (ky : 0 < x.toInt → Go p e below s Q mc ms m T pt Ls rest) (kn : x.toInt ≤ 0 → Go p e below s Q mc ms m T pf Ls rest) : Go p e below s Q mc ms m T pc Ls (.int x :: rest) :=
  g_ifc X hx hby (own_hgt x 0) hd ho hp hf ky (fun q => kn (Int.not_lt.mp q))
theorem g_icmple (X : Stand p l e R s m args below meth c T locs cells slots) (hx : p.tables.exec = Jvm.exec) (hby : c.code = bc) {i : Int} {x y : Int32} (hd : decode bc pc = .ok (.if_icmp .le i, 3)) (ho : 0 ≤ (pc : Int) + i) (hp : ((pc : Int) + i).toNat = pt) (hf : pc + 3 = pf) (ky : x.toInt ≤ y.toInt → Go p e below s Q mc ms m T pt Ls rest) (kn : y.toInt < x.toInt → Go p e below s Q mc ms m T pf Ls rest) : Go p e below s Q mc ms m T pc Ls (.int y :: .int x :: rest) :=
  g_icmp X hx hby (own_hle x y) hd ho hp hf ky (fun q => kn (Int.not_le.mp q))
theorem g_icmpeq (X : Stand p l e R s m args below meth c T locs cells slots) (hx : p.tables.exec = Jvm.exec) (hby : c.code = bc) {i : Int} {x y : Int32} (hd : decode bc pc = .ok (.if_icmp .eq i, 3)) (ho : 0 ≤ (pc : Int) + i) (hp : ((pc : Int) + i).toNat = pt) (hf : pc + 3 = pf) (ky : x = y → Go p e below s Q mc ms m T pt Ls rest) (kn : ¬ x = y → Go p e below s Q mc ms m T pf Ls rest) : Go p e below s Q mc ms m T pc Ls (.int y :: .int x :: rest) :=
  g_icmp X hx hby (own_heq x y) hd ho hp hf ky (fun q => kn (id q))
theorem g_ifeq (X : Stand p l e R s m args below meth c T locs cells slots) (hx : p.tables.exec = Jvm.exec) (hby : c.code = bc) {i : Int} {x : Int32} (hd : decode bc pc = .ok (.ifCond .eq i, 3)) (ho : 0 ≤ (pc : Int) + i) (hp : ((pc : Int) + i).toNat = pt) (hf : pc + 3 = pf) (ky : x = 0 → Go p e below s Q mc ms m T pt Ls rest) (kn : ¬ x = 0 → Go p e below s Q mc ms m T pf Ls rest) : Go p e below s Q mc ms m T pc Ls (.int x :: rest) :=
  g_ifc X hx hby (own_heq x 0) hd ho hp hf ky (fun q => kn (id q))
theorem g_icmpne (X : Stand p l e R s m args below meth c T locs cells slots) (hx : p.tables.exec = Jvm.exec) (hby : c.code = bc) {i : Int} {x y : Int32} (hd : decode bc pc = .ok (.if_icmp .ne i, 3)) (ho : 0 ≤ (pc : Int) + i) (hp : ((pc : Int) + i).toNat = pt) (hf : pc + 3 = pf) (ky : ¬ x = y → Go p e below s Q mc ms m T pt Ls rest) (kn : x = y → Go p e below s Q mc ms m T pf Ls rest) : Go p e below s Q mc ms m T pc Ls (.int y :: .int x :: rest) :=
  g_icmp X hx hby (own_hne x y) hd ho hp hf ky (fun q => kn (Decidable.not_not.mp q))
theorem g_ifne (X : Stand p l e R s m args below meth c T locs cells slots) (hx : p.tables.exec = Jvm.exec) (hby : c.code = bc) {i : Int} {x : Int32} (hd : decode bc pc = .ok (.ifCond .ne i, 3)) (ho : 0 ≤ (pc : Int) + i) (hp : ((pc : Int) + i).toNat = pt) (hf : pc + 3 = pf) (ky : ¬ x = 0 → Go p e below s Q mc ms m T pt Ls rest) (kn : x = 0 → Go p e below s Q mc ms m T pf Ls rest) : Go p e below s Q mc ms m T pc Ls (.int x :: rest) :=
  g_ifc X hx hby (own_hne x 0) hd ho hp hf ky (fun q => kn (Decidable.not_not.mp q))
theorem own_cmp (x y : Int64) : XT.cmpL x y = lcmpW x y := by simp only [XT.cmpL, lcmpW, gt_iff_lt]
theorem own_lc (x y : Int64) : ((lcmpW x y).toInt < 0 ↔ x.toInt < y.toInt) ∧ (0 < (lcmpW x y).toInt ↔ y.toInt < x.toInt) ∧ (lcmpW x y = 0 ↔ x = y) := by
  refine ⟨?_, ?_, lw_eq x y⟩
  · rw [← Int64.lt_iff_toInt_lt, ← lw_lt, Int32.lt_iff_toInt_lt]; rfl
  · rw [← Int64.lt_iff_toInt_lt, ← lw_gt, Int32.lt_iff_toInt_lt]; rfl
theorem g_lcmpeq (X : Stand p l e R s m args below meth c T locs cells slots) (hx : p.tables.exec = Jvm.exec) (hby : c.code = bc) {i : Int} {x y : Int64} (hd : decode bc pc = .ok (.lcmp, 1)) (hp1 : pc + 1 = pc') (hd' : decode bc pc' = .ok (.ifCond .eq i, 3)) (ho : 0 ≤ (pc' : Int) + i) (hp : ((pc' : Int) + i).toNat = pt) (hf : pc' + 3 = pf) (ky : x = y → Go p e below s Q mc ms m T pt Ls rest) (kn : ¬ x = y → Go p e below s Q mc ms m T pf Ls rest) : Go p e below s Q mc ms m T pc Ls (.long y :: .long x :: rest) := by
  subst hp1
  refine Go.of (fun _ q => XT.lcmp X.here hx rfl (hb hby hd) rfl (by rw [own_cmp]; exact q)) (g_ifeq X hx hby hd' ho hp hf (fun q => ky ((own_lc x y).2.2.mp q)) (fun q => kn (fun z => q ((own_lc x y).2.2.mpr z))))
theorem g_lcmpne (X : Stand p l e R s m args below meth c T locs cells slots) (hx : p.tables.exec = Jvm.exec) (hby : c.code = bc) {i : Int} {x y : Int64} (hd : decode bc pc = .ok (.lcmp, 1)) (hp1 : pc + 1 = pc') (hd' : decode bc pc' = .ok (.ifCond .ne i, 3)) (ho : 0 ≤ (pc' : Int) + i) (hp : ((pc' : Int) + i).toNat = pt) (hf : pc' + 3 = pf) (ky : ¬ x = y → Go p e below s Q mc ms m T pt Ls rest) (kn : x = y → Go p e below s Q mc ms m T pf Ls rest) : Go p e below s Q mc ms m T pc Ls (.long y :: .long x :: rest) := by
  subst hp1
  refine Go.of (fun _ q => XT.lcmp X.here hx rfl (hb hby hd) rfl (by rw [own_cmp]; exact q)) (g_ifne X hx hby hd' ho hp hf (fun q => ky (fun z => q ((own_lc x y).2.2.mpr z))) (fun q => kn ((own_lc x y).2.2.mp q)))
theorem g_ret (X : Stand p l e R s m args below meth c T locs cells slots) (hx : p.tables.exec = Jvm.exec) (hby : c.code = bc) (hlk : meth.locks = false) {t : FieldType} {w : Value} {i : Instr} (hret : meth.sig.returnType = some t) (hn : narrow t w = w) (hi : (i = .ireturn ∧ (t = .int ∨ t = .boolean ∨ t = .byte ∨ t = .char ∨ t = .short) ∧ ∃ z, w = .int z) ∨ (i = .lreturn ∧ t = .long ∧ ∃ z, w = .long z) ∨ (i = .dreturn ∧ t = .double ∧ ∃ z, w = .double z) ∨ (i = .freturn ∧ t = .float ∧ ∃ z, w = .float z) ∨ (i = .areturn ∧ t.isReference = true ∧ w.isRef = true)) (hd : decode bc pc = .ok (i, 1)) (hc : cells ≤ mc) (hs : slots ≤ ms) (hq : Q (some w) T.heap locs) : Go p e below s Q mc ms m T pc Ls (w :: rest) := by
  obtain ⟨fs, hr, hrun, hended, hW, hsame⟩ := X.leave (v := some w) (fun h => by rw [hret] at h; cases h) hlk
  exact ⟨_, _, retOut X hx hret hn hi (hb hby hd) hr, hrun, hended, _, _, rfl, hq, ⟨_, rfl⟩, hW, hsame.mono hc hs⟩
theorem g_retI (X : Stand p l e R s m args below meth c T locs cells slots) (hx : p.tables.exec = Jvm.exec) (hby : c.code = bc) (hlk : meth.locks = false) {z : Int32} (hret : meth.sig.returnType = some .int) (hd : decode bc pc = .ok (.ireturn, 1)) (hc : cells ≤ mc) (hs : slots ≤ ms) (hq : Q (some (.int z)) T.heap locs) : Go p e below s Q mc ms m T pc Ls (.int z :: rest) := g_ret X hx hby hlk hret rfl (Or.inl ⟨rfl, Or.inl rfl, _, rfl⟩) hd hc hs hq
theorem g_retZ (X : Stand p l e R s m args below meth c T locs cells slots) (hx : p.tables.exec = Jvm.exec) (hby : c.code = bc) (hlk : meth.locks = false) {z : Int32} (hz : z = 0 ∨ z = 1) (hret : meth.sig.returnType = some .boolean) (hd : decode bc pc = .ok (.ireturn, 1)) (hc : cells ≤ mc) (hs : slots ≤ ms) (hq : Q (some (.int z)) T.heap locs) : Go p e below s Q mc ms m T pc Ls (.int z :: rest) := g_ret X hx hby hlk hret (by rcases hz with rfl | rfl <;> rfl) (Or.inl ⟨rfl, Or.inr (Or.inl rfl), _, rfl⟩) hd hc hs hq
theorem g_retV (X : Stand p l e R s m args below meth c T locs cells slots) (hx : p.tables.exec = Jvm.exec) (hby : c.code = bc) (hlk : meth.locks = false) (hret : meth.sig.returnType = none) (hd : decode bc pc = .ok (.return_, 1)) (hc : cells ≤ mc) (hs : slots ≤ ms) (hq : Q none T.heap locs) : Go p e below s Q mc ms m T pc Ls [] := by
  obtain ⟨fs, hr, hrun, hended, hW, hsame⟩ := X.leave (v := none) (fun _ => rfl) hlk
  exact ⟨_, _, X.returnOut hx hret (hb hby hd) hr, hrun, hended, _, _, rfl, hq, ⟨_, rfl⟩, hW, hsame.mono hc hs⟩
theorem g_ldcwI (X : Stand p l e R s m args below meth c T locs cells slots) (hx : p.tables.exec = Jvm.exec) (hby : c.code = bc) (hZ : Z.Warmed39 s.vm) {own : String} (hown : s.vm.findClass own = some m.cls) {n : Nat} {v : Int32} (w : (Jvm.Cond.constant own n v).before a0 Z = true) (hd : decode bc pc = .ok (.ldc_w n, 3)) (hp : pc + 3 = pc') (k : Go p e below s Q mc ms m T pc' Ls (.int v :: st)) : Go p e below s Q mc ms m T pc Ls st := by
  subst hp; exact Go.of (X.ldcwInt hx hown (mvT hZ w) (g := mkF m pc Ls st) rfl (hb hby hd)) k
theorem g_ldcL (X : Stand p l e R s m args below meth c T locs cells slots) (hx : p.tables.exec = Jvm.exec) (hby : c.code = bc) (hZ : Z.Warmed39 s.vm) {own : String} (hown : s.vm.findClass own = some m.cls) {n : Nat} {v : Int64} (w : (Jvm.Cond.constantLong own n v).before a0 Z = true) (hd : decode bc pc = .ok (.ldc2_w n, 3)) (hp : pc + 3 = pc') (k : Go p e below s Q mc ms m T pc' Ls (.long v :: st)) : Go p e below s Q mc ms m T pc Ls st := by
  subst hp; exact Go.of (X.ldc2Long hx hown (mvT hZ w) (g := mkF m pc Ls st) rfl (hb hby hd)) k
theorem g_getF (X : Stand p l e R s m args below meth c T locs cells slots) (hx : p.tables.exec = Jvm.exec) (hby : c.code = bc) (hZ : Z.Warmed39 s.vm) {own : String} (hown : s.vm.findClass own = some m.cls) (eT : T.heap = h) {i : Nat} {O n d : String} {a : Addr} {v : Value} (w : (Jvm.Cond.fieldLink own i O n d).before a0 Z = true) (F : Fld Z h a O n d v) (hd : decode bc pc = .ok (.getfield i, 3)) (hp : pc + 3 = pc') (k : ∀ T', Stand p l e R s m args below meth c T' locs cells slots → T'.heap = h → Go p e below s Q mc ms m T' pc' Ls (v :: rest)) : Go p e below s Q mc ms m T pc Ls (.ref a :: rest) := by
  subst hp
  obtain ⟨T', X', e', st'⟩ := getF X hx hZ hown (host := "") (Or.inl w) Via.refl eT F (g := mkF m pc Ls (.ref a :: rest)) rfl rfl (hb hby hd)
  exact Go.of st' (k T' X' e')
theorem g_putF (X : Stand p l e R s m args below meth c T locs cells slots) (hx : p.tables.exec = Jvm.exec) (hby : c.code = bc) (hZ : Z.Warmed39 s.vm) {own : String} (hown : s.vm.findClass own = some m.cls) (eT : T.heap = h) {i kk : Nat} {O n d C : String} {a : Addr} {v old : Value} {ty : FieldType} (w : (Jvm.Cond.fieldLink own i O n d).before a0 Z = true) (F : Fld Z h a O n d old) (E : Exa Z h a C) (L : (Jvm.Cond.lays C O n d).before a0 Z = true ∨ ((Jvm.Cond.laysFinal C O n d).before a0 Z = true ∧ own = O ∧ meth.name = "<init>")) (wi : (Jvm.Cond.instantiable C kk).before a0 Z = true) (hty : parseFieldDescriptor d = some ty) (hn : narrow ty v = v) (hf : fits ty v = true) (hd : decode bc pc = .ok (.putfield i, 3)) (hp : pc + 3 = pc') (k : ∀ T' h', Stand p l e R s m args below meth c T' (locs ++ [⟨a, Jvm.RoadKit.slotOf Z O n d⟩]) cells slots → T'.heap = h' → Wr h h' a (Jvm.RoadKit.slotOf Z O n d) v → Go p e below s Q mc ms m T' pc' Ls rest) : Go p e below s Q mc ms m T pc Ls (v :: .ref a :: rest) := by
  subst hp
  obtain ⟨T', h', X', e', W', st'⟩ := putF X hx hZ hown (host := "") (Or.inl w) Via.refl eT F E L wi hty hn hf (g := mkF m pc Ls (v :: .ref a :: rest)) rfl rfl (hb hby hd)
  exact Go.of st' (k T' h' X' e' W')
theorem g_new (X : Stand p l e R s m args below meth c T locs cells slots) (hx : p.tables.exec = Jvm.exec) (hby : c.code = bc) (hZ : Z.Warmed39 s.vm) {own : String} (hown : s.vm.findClass own = some m.cls) (eT : T.heap = h) {i n : Nat} {C : String} (w : (Jvm.Cond.classLink own i C).before a0 Z = true) (wi : (Jvm.Cond.instantiable C n).before a0 Z = true) (wz : (Jvm.Cond.initialized C).before a0 Z = true) (hd : decode bc pc = .ok (.new i, 3)) (hp : pc + 3 = pc') (hc : cells + 1 ≤ R.cells) (hl : slots + n ≤ R.slots) (k : ∀ T' h' b, b = h.size → Stand p l e R s m args below meth c T' locs (cells + 1) (slots + n) → T'.heap = h' → Ext h h' → Exa Z h' b C → (∀ {O nm d : String} {ty : FieldType}, Laid Z a0 C O nm d → parseFieldDescriptor d = some ty → Fld Z h' b O nm d (defaultValue ty)) → Go p e below s Q mc ms m T' pc' Ls (.ref b :: st)) : Go p e below s Q mc ms m T pc Ls st := by
  subst hp
  obtain ⟨T', h', X', e', E', A', D', -, st'⟩ := newO X hx hZ hown w wi wz eT (g := mkF m pc Ls st) rfl (hb hby hd) hc hl
  exact Go.of st' (k T' h' _ rfl X' e' E' A' D')
theorem g_initO (X : Stand p l e R s m args below meth c T locs cells slots) (hx : p.tables.exec = Jvm.exec) (hby : c.code = bc) (hZ : Z.Warmed39 s.vm) {own : String} (hown : s.vm.findClass own = some m.cls) (eT : T.heap = h) {i ML : Nat} {a : Addr} (w1 : (Jvm.Cond.methodLink own i Lib.objectInit).before a0 Z = true) (w2 : (Jvm.Cond.instanceMethod Lib.objectInit).before a0 Z = true) (w3 : (Jvm.Cond.code Lib.objectInit ⟨#[0xb1]⟩ 1 none).before a0 Z = true) (hml : c.maxLocals = ML) (hls : Ls.size = ML) (hd : decode bc pc = .ok (.invokespecial i, 3)) (hp : pc + 3 = pc') (hf : 1 ≤ R.frames) (hl : (rest.map fun v => v.category).sum + 12 ≤ R.locals) (k : ∀ T', Stand p l e R s m args below meth c T' locs cells slots → T'.heap = h → Go p e below s Q mc ms m T' pc' Ls rest) : Go p e below s Q mc ms m T pc Ls (.ref a :: rest) := by
  subst hp
  obtain ⟨T', X', e', st'⟩ := initO X hx hZ hown w1 w2 w3 eT (g := mkF m pc Ls (.ref a :: rest)) rfl (by rw [hml]; exact hls) rfl (hb hby hd) hf (W := (rest.map fun v => v.category).sum) (by show 2 * 0 + _ ≤ _; omega) hl
  exact Go.of st' (k T' X' e')
theorem g_newP (X : Stand p l e R s m args below meth c T locs cells slots) (hx : p.tables.exec = Jvm.exec) (hby : c.code = bc) (hZ : Z.Warmed39 s.vm) (eT : T.heap = h) {aty : ArrayType} {n : Int32} (w : (Jvm.Cond.arrayClass (newarray.typeOf aty)).before a0 Z = true) (hd : decode bc pc = .ok (.newarray aty, 2)) (hp : pc + 2 = pc') (hn : ¬ n < 0) {cap : Nat} (hcap : n.toNatClampNeg ≤ cap) (hbig : cap * 8 ≤ 536870912) (hc : cells + 1 ≤ R.cells) (hl : slots + cap ≤ R.slots) (k : ∀ T' h' b cA, b = h.size → Stand p l e R s m args below meth c T' locs (cells + 1) (slots + cap) → T'.heap = h' → Ext h h' → Arv Z h' b cA (newarray.typeOf aty) n [] (defaultValue (newarray.typeOf aty)) → Go p e below s Q mc ms m T' pc' Ls (.ref b :: rest)) : Go p e below s Q mc ms m T pc Ls (.int n :: rest) := by
  subst hp
  obtain ⟨T', h', cA, X', e', E', A', st'⟩ := newP X hx hZ w eT (g := mkF m pc Ls (.int n :: rest)) rfl (hb hby hd) rfl hn hcap hbig hc hl
  exact Go.of st' (k T' h' _ cA rfl X' e' E' (Arv.new A' hn))
theorem g_lastore (X : Stand p l e R s m args below meth c T locs cells slots) (hx : p.tables.exec = Jvm.exec) (hby : c.code = bc) (hZ : Z.Warmed39 s.vm) (eT : T.heap = h) {a : Addr} {cl : Cell} (A : Arr Z h a cl .long) {j : Int32} {x : Int64} (hj : ¬ (j < 0 ∨ cl.slots.size ≤ j.toNatClampNeg)) (hd : decode bc pc = .ok (.lastore, 1)) (hp : pc + 1 = pc') (k : ∀ T' h', Stand p l e R s m args below meth c T' (locs ++ [⟨a, j.toNatClampNeg⟩]) cells slots → T'.heap = h' → Wr h h' a j.toNatClampNeg (.long x) → Go p e below s Q mc ms m T' pc' Ls rest) : Go p e below s Q mc ms m T pc Ls (.long x :: .int j :: .ref a :: rest) := by
  subst hp
  obtain ⟨T', h', X', e', W', st'⟩ := stJ X hx hZ eT A (j := j) hj (g := mkF m pc Ls (.long x :: .int j :: .ref a :: rest)) rfl rfl (hb hby hd)
  exact Go.of st' (k T' h' X' e' W')
theorem g_laload (X : Stand p l e R s m args below meth c T locs cells slots) (hx : p.tables.exec = Jvm.exec) (hby : c.code = bc) (hZ : Z.Warmed39 s.vm) (eT : T.heap = h) {a : Addr} {cl : Cell} (A : Arr Z h a cl .long) {j : Int32} {v : Value} (hj : ¬ (j < 0 ∨ cl.slots.size ≤ j.toNatClampNeg)) (hv : cl.slots[j.toNatClampNeg]? = some v) (hd : decode bc pc = .ok (.laload, 1)) (hp : pc + 1 = pc') (k : Go p e below s Q mc ms m T pc' Ls (v :: rest)) : Go p e below s Q mc ms m T pc Ls (.int j :: .ref a :: rest) := by
  subst hp
  exact Go.of (fun _ q => X.laload hx (j := j) (v := v) (by rw [eT]; exact A.1) (State.isArrayOf_alike hZ.alike A.2.1) A.2.2 hj hv (g := mkF m pc Ls (.int j :: .ref a :: rest)) rfl rfl (hb hby hd) _ q) k
theorem g_arraylength (X : Stand p l e R s m args below meth c T locs cells slots) (hx : p.tables.exec = Jvm.exec) (hby : c.code = bc) (hZ : Z.Warmed39 s.vm) (eT : T.heap = h) {a : Addr} {cl : Cell} {ty : FieldType} (A : Arr Z h a cl ty) {n : Int32} (S : cl.slots.size = n.toNatClampNeg) (hn : ¬ n < 0) (hd : decode bc pc = .ok (.arraylength, 1)) (hp : pc + 1 = pc') (k : Go p e below s Q mc ms m T pc' Ls (.int n :: rest)) : Go p e below s Q mc ms m T pc Ls (.ref a :: rest) := by
  subst hp
  exact Go.of (fun _ q => X.arraylength hx (by rw [eT]; exact A.1) (State.isArrayOf_alike hZ.alike A.2.1) (g := mkF m pc Ls (.ref a :: rest)) rfl rfl (hb hby hd) _ (by rw [len_of S hn]; exact q)) k
/-- in heap h the array at a (of kind ty) has n places; place j holds f j -/
def Ara (Z : State) (h : Heap) (a : Addr) (ty : FieldType) (n : Nat) (f : Nat → Value) : Prop := ∃ cl : Cell, Arr Z h a cl ty ∧ cl.slots.size = n ∧ n < 2147483648 ∧ ∀ j, j < n → cl.slots[j]? = some (f j)
def own_up (f : Nat → Value) (k : Nat) (v : Value) : Nat → Value := fun j => if j = k then v else f j
theorem own_up_self (f : Nat → Value) (k : Nat) (v : Value) : own_up f k v k = v := if_pos rfl
theorem own_up_ne (f : Nat → Value) {k j : Nat} (v : Value) (q : j ≠ k) : own_up f k v j = f j := if_neg q
theorem Ara.lt {h : Heap} {a : Addr} {ty : FieldType} {n : Nat} {f : Nat → Value} (V : Ara Z h a ty n f) : a < h.size := by obtain ⟨_, A, _⟩ := V; exact A.lt
theorem Ara.ext {h h' : Heap} {a : Addr} {ty : FieldType} {n : Nat} {f : Nat → Value} (V : Ara Z h a ty n f) (E : Ext h h') : Ara Z h' a ty n f := by obtain ⟨c, A, r⟩ := V; exact ⟨c, A.ext E, r⟩
theorem Ara.other {h h' : Heap} {a b : Addr} {ty : FieldType} {n : Nat} {f : Nat → Value} {sl : Nat} {v : Value} (V : Ara Z h a ty n f) (W : Wr h h' b sl v) (q : a ≠ b) : Ara Z h' a ty n f := by obtain ⟨c, A, r⟩ := V; exact ⟨c, A.other W q, r⟩
theorem Ara.set {h h' : Heap} {a : Addr} {ty : FieldType} {n k : Nat} {f : Nat → Value} {v : Value} (V : Ara Z h a ty n f) (W : Wr h h' a k v) : Ara Z h' a ty n (own_up f k v) := by
  obtain ⟨c, A, hs, hn, hf⟩ := V
  refine ⟨_, A.same W, by rw [sz_set]; exact hs, hn, fun j hj => ?_⟩
  by_cases q : k = j
  · subst q; rw [own_up_self]; simp [Cell.setSlot, hs, hj]
  · rw [own_up_ne f v (Ne.symm q), ← hf j hj]; exact Array.getElem?_setIfInBounds_ne q
theorem Ara.eq {h : Heap} {a : Addr} {ty : FieldType} {n : Nat} {f f' : Nat → Value} (V : Ara Z h a ty n f) (q : ∀ j, j < n → f j = f' j) : Ara Z h a ty n f' := by obtain ⟨c, A, hs, hn, hf⟩ := V; exact ⟨c, A, hs, hn, fun j hj => by rw [← q j hj]; exact hf j hj⟩
def own_ul (g : Nat → Int64) (k : Nat) (x : Int64) : Nat → Int64 := fun j => if j = k then x else g j
theorem Ara.setL {h h' : Heap} {a : Addr} {ty : FieldType} {n k : Nat} {g : Nat → Int64} {x : Int64} (V : Ara Z h a ty n (fun j => .long (g j))) (W : Wr h h' a k (.long x)) : Ara Z h' a ty n (fun j => .long (own_ul g k x j)) := (V.set W).eq fun j _ => by
  by_cases q : j = k <;> simp [own_up, own_ul, q]
theorem own_in {cl : Cell} {j : Int32} {n : Nat} (hs : cl.slots.size = n) (h0 : 0 ≤ j.toInt) (h1 : j.toInt < n) : ¬ (j < 0 ∨ cl.slots.size ≤ j.toNatClampNeg) := by
  rw [Int32.lt_iff_toInt_lt, hs]
  show ¬ (j.toInt < 0 ∨ n ≤ j.toInt.toNat)
  omega
theorem g_newA (X : Stand p l e R s m args below meth c T locs cells slots) (hx : p.tables.exec = Jvm.exec) (hby : c.code = bc) (hZ : Z.Warmed39 s.vm) (eT : T.heap = h) {aty : ArrayType} {n : Int32} {N : Nat} (w : (Jvm.Cond.arrayClass (newarray.typeOf aty)).before a0 Z = true) (hd : decode bc pc = .ok (.newarray aty, 2)) (hp : pc + 2 = pc') (hn : n.toInt = N) {cap : Nat} (hcap : N ≤ cap) (hbig : cap * 8 ≤ 536870912) (hc : cells + 1 ≤ R.cells) (hl : slots + cap ≤ R.slots) (k : ∀ T' h' b, b = h.size → Stand p l e R s m args below meth c T' locs (cells + 1) (slots + cap) → T'.heap = h' → Ext h h' → Ara Z h' b (newarray.typeOf aty) N (fun _ => defaultValue (newarray.typeOf aty)) → Go p e below s Q mc ms m T' pc' Ls (.ref b :: rest)) : Go p e below s Q mc ms m T pc Ls (.int n :: rest) := by
  have h1 : n.toNatClampNeg = N := by show n.toInt.toNat = N; omega
  have h2 : ¬ n < 0 := by rw [Int32.lt_iff_toInt_lt]; show ¬ n.toInt < 0; omega
  have h3 := rng32 n
  refine g_newP X hx hby hZ eT w hd hp h2 (cap := cap) (by omega) hbig hc hl (fun T' h' b cA hb' X' e' E' V => k T' h' b hb' X' e' E' ?_)
  obtain ⟨cl, A, -, hs, -, hH, -⟩ := V
  exact ⟨cl, A, by rw [hs, h1], by omega, fun j hj => by rw [hH j (by rw [hs, h1]; exact hj)]; simp⟩
theorem a_lastore (X : Stand p l e R s m args below meth c T locs cells slots) (hx : p.tables.exec = Jvm.exec) (hby : c.code = bc) (hZ : Z.Warmed39 s.vm) (eT : T.heap = h) {a : Addr} {n : Nat} {f : Nat → Value} (A : Ara Z h a .long n f) {j : Int32} {x : Int64} (h0 : 0 ≤ j.toInt) (h1 : j.toInt < n) (hd : decode bc pc = .ok (.lastore, 1)) (hp : pc + 1 = pc') (k : ∀ T' h', Stand p l e R s m args below meth c T' (locs ++ [⟨a, j.toInt.toNat⟩]) cells slots → T'.heap = h' → Wr h h' a j.toInt.toNat (.long x) → Go p e below s Q mc ms m T' pc' Ls rest) : Go p e below s Q mc ms m T pc Ls (.long x :: .int j :: .ref a :: rest) := by
  obtain ⟨cl, A, hs, hn, hf⟩ := A
  exact g_lastore X hx hby hZ eT A (own_in hs h0 h1) hd hp k
theorem a_laload (X : Stand p l e R s m args below meth c T locs cells slots) (hx : p.tables.exec = Jvm.exec) (hby : c.code = bc) (hZ : Z.Warmed39 s.vm) (eT : T.heap = h) {a : Addr} {n : Nat} {f : Nat → Value} (A : Ara Z h a .long n f) {j : Int32} {v : Value} (h0 : 0 ≤ j.toInt) (h1 : j.toInt < n) (hv : f j.toInt.toNat = v) (hd : decode bc pc = .ok (.laload, 1)) (hp : pc + 1 = pc') (k : Go p e below s Q mc ms m T pc' Ls (v :: rest)) : Go p e below s Q mc ms m T pc Ls (.int j :: .ref a :: rest) := by
  obtain ⟨cl, A, hs, hn, hf⟩ := A
  exact g_laload X hx hby hZ eT A (own_in hs h0 h1) (by show cl.slots[j.toInt.toNat]? = some v; rw [hf _ (by omega), hv]) hd hp k
theorem a_arraylength (X : Stand p l e R s m args below meth c T locs cells slots) (hx : p.tables.exec = Jvm.exec) (hby : c.code = bc) (hZ : Z.Warmed39 s.vm) (eT : T.heap = h) {a : Addr} {n : Nat} {f : Nat → Value} {ty : FieldType} (A : Ara Z h a ty n f) {N : Int32} (hN : N.toInt = n) (hd : decode bc pc = .ok (.arraylength, 1)) (hp : pc + 1 = pc') (k : Go p e below s Q mc ms m T pc' Ls (.int N :: rest)) : Go p e below s Q mc ms m T pc Ls (.ref a :: rest) := by
  obtain ⟨cl, A, hs, hn, hf⟩ := A
  exact g_arraylength X hx hby hZ eT A (n := N) (by rw [hs]; show n = N.toInt.toNat; omega) (by rw [Int32.lt_iff_toInt_lt]; show ¬ N.toInt < 0; omega) hd hp k
/-- the array at a takes arrays of ints -/
def Ovi (Z : State) (h : Heap) (a : Addr) : Prop := ∃ cl : Cell, h[a]? = some cl ∧ OvrA Z cl.cls .int "[I"
theorem Ovi.ext {h h' : Heap} {a : Addr} (V : Ovi Z h a) (E : Ext h h') : Ovi Z h' a := by obtain ⟨c, q, r⟩ := V; exact ⟨c, E.2 _ _ q, r⟩
theorem Ovi.wr {h h' : Heap} {a b : Addr} {sl : Nat} {v : Value} (V : Ovi Z h a) (W : Wr h h' b sl v) : Ovi Z h' a := by obtain ⟨c, q, r⟩ := V; obtain ⟨c', q', e, -⟩ := wr_at W q; exact ⟨c', q', e ▸ r⟩
theorem g_static (X : Stand p l e R s m args below meth c T locs cells slots) (hx : p.tables.exec = Jvm.exec) (hby : c.code = bc) (hZ : Z.Warmed39 s.vm) {own : String} (hown : s.vm.findClass own = some m.cls) {i ML : Nat} {y : MethodName} {bytes : ByteArray} {maxL : Nat} {ret : Option FieldType} {rm : Room} {as' : Array Value} {QC : Option Value → Heap → List Loc → Prop} (hml : c.maxLocals = ML) (hls : Ls.size = ML) (w1 : (Jvm.Cond.methodLink own i y).before a0 Z = true) (w2 : (Jvm.Cond.static y).before a0 Z = true) (w3 : (Jvm.Cond.initialized y.cls).before a0 Z = true) (w4 : (Jvm.Cond.code y bytes maxL ret).before a0 Z = true) (hy : y.cls ≠ "java/lang/invoke/MethodHandle" ∧ y.cls ≠ "java/lang/invoke/VarHandle") (eT : T.heap = h) (M : Ct l Z y bytes maxL ret rm as' h QC) {ps : List FieldType} {r : Option FieldType} (pd : parseMethodDescriptor y.desc = some ⟨ps, r⟩) {argsL : List Value} (hl : argsL.length = ps.length) (has : argsL.toArray = as') (hst : st = argsL.reverse ++ rest) (hd : decode bc pc = .ok (.invokestatic i, 3)) (hp : pc + 3 = pc') (hf : rm.frames + 1 ≤ R.frames) (hlo : (rest.map fun v => v.category).sum + (maxL + 11) + rm.locals ≤ R.locals) (hc : cells + rm.cells ≤ R.cells) (hs : slots + rm.slots ≤ R.slots)
    (k : ∀ (T' : State) (v : Option Value) (L : List Loc), Stand p l e R s m args below meth c T' (locs ++ L) (cells + rm.cells) (slots + rm.slots) → QC v T'.heap L → Go p e below s Q mc ms m T' pc' Ls (v.toList ++ rest)) : Go p e below s Q mc ms m T pc Ls st := by
  subst hp has hst
  obtain ⟨v, vm₁, ⟨U, L', c', s'⟩, -, X', ⟨L, hQ, l1, l2, l3⟩, st⟩ := Jvm.LawKit.callS X hx (y := y) hown (mvT hZ w1) (mvT hZ w2) (mvT hZ w3) (mvT hZ w4) hy (backOf (W := (rest.map fun v => v.category).sum) M hZ w4 w3 hf hlo) (g := mkF m pc Ls (argsL.reverse ++ rest)) rfl (by rw [hml]; exact hls) (argsL := argsL) (rest := rest) (lenOf pd hl) rfl (by show 2 * 0 + _ ≤ _; omega) (hb hby hd) (fun _ _ => ⟨rfl, eT, hc, hs⟩)
  dsimp only at X' l1 l2 l3 st hQ
  subst l1 l2 l3
  exact Go.of st (k _ _ _ X' hQ)
theorem g_special (X : Stand p l e R s m args below meth c T locs cells slots) (hx : p.tables.exec = Jvm.exec) (hby : c.code = bc) (hZ : Z.Warmed39 s.vm) {own : String} (hown : s.vm.findClass own = some m.cls) {i ML : Nat} {y : MethodName} {bytes : ByteArray} {maxL : Nat} {ret : Option FieldType} {rm : Room} {as' : Array Value} {QC : Option Value → Heap → List Loc → Prop} (hy1 : y.name = "<init>") (hml : c.maxLocals = ML) (hls : Ls.size = ML) (w1 : (Jvm.Cond.methodLink own i y).before a0 Z = true) (w2 : (Jvm.Cond.instanceMethod y).before a0 Z = true) (w3 : (Jvm.Cond.initialized y.cls).before a0 Z = true) (hrt : ret = none) (w4 : (Jvm.Cond.code y bytes maxL ret).before a0 Z = true) (hy : y.cls ≠ "java/lang/invoke/MethodHandle" ∧ y.cls ≠ "java/lang/invoke/VarHandle") (eT : T.heap = h) (M : Ct l Z y bytes maxL ret rm as' h QC) {ps : List FieldType} {r : Option FieldType} (pd : parseMethodDescriptor y.desc = some ⟨ps, r⟩) {a : Addr} {argsL : List Value} (hl : argsL.length = ps.length) (has : (.ref a :: argsL).toArray = as') (hst : st = argsL.reverse ++ .ref a :: rest) (hd : decode bc pc = .ok (.invokespecial i, 3)) (hp : pc + 3 = pc') (hf : rm.frames + 1 ≤ R.frames) (hlo : (rest.map fun v => v.category).sum + (maxL + 11) + rm.locals ≤ R.locals) (hc : cells + rm.cells ≤ R.cells) (hs : slots + rm.slots ≤ R.slots)
    (k : ∀ (T' : State) (v : Option Value) (L : List Loc), Stand p l e R s m args below meth c T' (locs ++ L) (cells + rm.cells) (slots + rm.slots) → QC v T'.heap L → Go p e below s Q mc ms m T' pc' Ls (v.toList ++ rest)) : Go p e below s Q mc ms m T pc Ls st := by
  subst hp has hst hrt
  obtain ⟨v, vm₁, ⟨U, L', c', s'⟩, -, X', ⟨L, hQ, l1, l2, l3⟩, st⟩ := X.specialBack hx (y := y) hy1 hown (mvT hZ w1) (mvT hZ w2) (mvT hZ w4) hy (backOf (W := (rest.map fun v => v.category).sum) M hZ w4 w3 hf hlo) (g := mkF m pc Ls (argsL.reverse ++ .ref a :: rest)) rfl (by rw [hml]; exact hls) (Steps.refl _) (a := a) (argsL := argsL) (rest := rest) (lenOf pd hl) rfl (by show 2 * 0 + _ ≤ _; omega) (hb hby hd) (fun _ _ => ⟨rfl, eT, hc, hs⟩)
  dsimp only at X' l1 l2 l3 st hQ
  subst l1 l2 l3
  exact Go.of (fun _ q => st.trans q) (k _ _ _ X' hQ)
theorem g_virtual (X : Stand p l e R s m args below meth c T locs cells slots) (hx : p.tables.exec = Jvm.exec) (hby : c.code = bc) (hZ : Z.Warmed39 s.vm) {own : String} (hown : s.vm.findClass own = some m.cls) {i ML : Nat} {y : MethodName} {bytes : ByteArray} {maxL : Nat} {ret : Option FieldType} {rm : Room} {as' : Array Value} {QC : Option Value → Heap → List Loc → Prop} (hml : c.maxLocals = ML) (hls : Ls.size = ML) {C : String} (w1 : (Jvm.Cond.methodLink own i y).before a0 Z = true) (w2 : (Jvm.Cond.declares y).before a0 Z = true) (w5 : (Jvm.Cond.selects C y y).before a0 Z = true) (w6 : (Jvm.Cond.instanceMethod y).before a0 Z = true) (w3 : (Jvm.Cond.initialized y.cls).before a0 Z = true) (w4 : (Jvm.Cond.code y bytes maxL ret).before a0 Z = true) (hy : y.cls ≠ "java/lang/invoke/MethodHandle" ∧ y.cls ≠ "java/lang/invoke/VarHandle") (eT : T.heap = h) (M : Ct l Z y bytes maxL ret rm as' h QC) {ps : List FieldType} {r : Option FieldType} (pd : parseMethodDescriptor y.desc = some ⟨ps, r⟩) {a : Addr} (E : Exa Z h a C) {argsL : List Value} (hl : argsL.length = ps.length) (has : (.ref a :: argsL).toArray = as') (hst : st = argsL.reverse ++ .ref a :: rest) (hd : decode bc pc = .ok (.invokevirtual i, 3)) (hp : pc + 3 = pc') (hf : rm.frames + 1 ≤ R.frames) (hlo : (rest.map fun v => v.category).sum + (maxL + 11) + rm.locals ≤ R.locals) (hc : cells + rm.cells ≤ R.cells) (hs : slots + rm.slots ≤ R.slots)
    (k : ∀ (T' : State) (v : Option Value) (L : List Loc), Stand p l e R s m args below meth c T' (locs ++ L) (cells + rm.cells) (slots + rm.slots) → QC v T'.heap L → Go p e below s Q mc ms m T' pc' Ls (v.toList ++ rest)) : Go p e below s Q mc ms m T pc Ls st := by
  subst hp has hst
  obtain ⟨cB, kB, qa, qb, qc⟩ := isOf hZ eT E
  obtain ⟨v, vm₁, ⟨U, L', c', s'⟩, -, X', ⟨L, hQ, l1, l2, l3⟩, st⟩ := X.virtualBack hx (y := y) (z := y) hown (mvT hZ w1) (mvT hZ w2) (notFace_of_selects (args := #[]) (mvT hZ w5)) (mvT hZ w5) (mvT hZ w6) hy (backOf (W := (rest.map fun v => v.category).sum) M hZ w4 w3 hf hlo) qa qc (g := mkF m pc Ls (argsL.reverse ++ .ref a :: rest)) rfl (by rw [hml]; exact hls) (Steps.refl _) (argsL := argsL) (rest := rest) (lenOf pd hl) rfl (by show 2 * 0 + _ ≤ _; omega) (hb hby hd) (fun _ _ => ⟨rfl, eT, hc, hs⟩)
  dsimp only at X' l1 l2 l3 st hQ
  subst l1 l2 l3
  exact Go.of (fun _ q => st.trans q) (k _ _ _ X' hQ)
end OwnKit
section OwnLib
/-- b is 1 where P holds, 0 where it doesn't -/
def own_bool (b : Int32) (P : Prop) : Prop := (b = 1 ∧ P) ∨ (b = 0 ∧ ¬ P)
theorem own_bool_01 {b : Int32} {P : Prop} (h : own_bool b P) : b = 0 ∨ b = 1 := h.elim (fun q => Or.inr q.1) (fun q => Or.inl q.1)
theorem own_bool_iff {b : Int32} {P : Prop} (h : own_bool b P) : b = 1 ↔ P := h.elim (fun q => ⟨fun _ => q.2, fun _ => q.1⟩) (fun q => ⟨fun z => absurd (q.1.symm.trans z) (by decide), fun z => absurd z q.2⟩)
theorem own_bool_zero {b : Int32} {P : Prop} (h : own_bool b P) : b = 0 ↔ ¬ P := h.elim (fun q => ⟨fun z => absurd (q.1.symm.trans z) (by decide), fun z => absurd q.2 z⟩) (fun q => ⟨fun _ => q.2, fun _ => q.1⟩)
theorem own_bool_eq {a b : Int32} {P P' : Prop} (h : own_bool a P) (h' : own_bool b P') (i : P ↔ P') : a = b := by
  rcases h with ⟨rfl, q⟩ | ⟨rfl, q⟩ <;> rcases h' with ⟨rfl, q'⟩ | ⟨rfl, q'⟩ <;> first | rfl | exact absurd (i.mp q) q' | exact absurd (i.mpr q') q
theorem own_inc (i : Int32) (h : i.toInt < 2147483647) : (i + 1).toInt = i.toInt + 1 := by
  have a := c_iadd i 1
  have e : (1 : Int32).toInt = 1 := rfl
  rw [e] at a
  have b := rng32 i
  have b' := rng32 (i + 1)
  omega
theorem own_dec (i : Int32) (h : -2147483648 < i.toInt) : (i - 1).toInt = i.toInt - 1 := by
  have a := c_isub i 1
  have e : (1 : Int32).toInt = 1 := rfl
  rw [e] at a
  have b := rng32 i
  have b' := rng32 (i - 1)
  omega
theorem own_add (x y : Int32) (h1 : -2147483648 ≤ x.toInt + y.toInt) (h2 : x.toInt + y.toInt < 2147483648) : (x + y).toInt = x.toInt + y.toInt := by
  have a := c_iadd x y
  have b := rng32 (x + y)
  omega
theorem own_sub (x y : Int32) (h1 : -2147483648 ≤ x.toInt - y.toInt) (h2 : x.toInt - y.toInt < 2147483648) : (x - y).toInt = x.toInt - y.toInt := by
  have a := c_isub x y
  have b := rng32 (x - y)
  omega
/-- (u & 0x7fffffff) % n lies from 0 up to n - 1 -/
theorem own_modr (u n : Int32) (hn : 0 < n.toInt) : 0 ≤ ((u &&& 2147483647) % n).toInt ∧ ((u &&& 2147483647) % n).toInt < n.toInt := by
  have a1 := c_mask u 2147483647 31 (by decide) (by decide)
  have a2 := (c_iremV (u &&& 2147483647) n).1 (by omega) hn
  omega
def QI (h0 : Heap) (P : Int32 → Prop) : Option Value → Heap → List Loc → Prop := fun v h L => (∃ r, v = some (.int r) ∧ P r) ∧ h = h0 ∧ L = []
def QL (h0 : Heap) (P : Int64 → Prop) : Option Value → Heap → List Loc → Prop := fun v h L => (∃ r, v = some (.long r) ∧ P r) ∧ h = h0 ∧ L = []
def QV (h0 : Heap) : Option Value → Heap → List Loc → Prop := fun v h L => v = none ∧ h = h0 ∧ L = []
/-- what the law leaves -/
def Q0 (n0 : Nat) : Option Value → Heap → List Loc → Prop := fun v h L => v = some (.int 1) ∧ Fr n0 L
end OwnLib
def own_b (w : Int64) (i : Nat) : Bool := w.toBitVec.getLsbD i
theorem own_b_or (w v : Int64) (i : Nat) : own_b (w ||| v) i = (own_b w i || own_b v i) := by unfold own_b; rw [Int64.toBitVec_or, BitVec.getLsbD_or]
theorem own_b_and (w v : Int64) (i : Nat) : own_b (w &&& v) i = (own_b w i && own_b v i) := by unfold own_b; rw [Int64.toBitVec_and, BitVec.getLsbD_and]
theorem own_b_xor (w v : Int64) (i : Nat) : own_b (w ^^^ v) i = (own_b w i ^^ own_b v i) := by unfold own_b; rw [Int64.toBitVec_xor, BitVec.getLsbD_xor]
theorem own_b_big (w : Int64) (i : Nat) (h : 64 ≤ i) : own_b w i = false := BitVec.getLsbD_of_ge _ _ h
theorem own_b_ext {w v : Int64} (h : ∀ i, i < 64 → own_b w i = own_b v i) : w = v := Int64.toBitVec_inj.mp (BitVec.eq_of_getLsbD_eq fun i hi => h i hi)
theorem own_b_zero (i : Nat) : own_b 0 i = false := by unfold own_b; exact BitVec.getLsbD_zero
theorem own_b_none {w : Int64} (h : ∀ i, i < 64 → own_b w i = false) : w = 0 := own_b_ext fun i hi => by rw [h i hi, own_b_zero]
theorem own_b_some {w : Int64} (h : ¬ w = 0) : ∃ i, i < 64 ∧ own_b w i = true := by
  refine Classical.byContradiction fun q => h (own_b_none fun i hi => ?_)
  cases hb : own_b w i with
  | false => rfl
  | true => exact absurd ⟨i, hi, hb⟩ q
/-- a shift's distance -/
theorem own_dist (y : Int32) : (y.toInt64 &&& 63).toBitVec = BitVec.ofNat 64 (y.toInt % 64).toNat := by
  have a := c_maskL y.toInt64 63 6 (by decide) (by decide)
  rw [c_i2l] at a
  have e : (y.toInt64 &&& 63) = Int64.ofNat (y.toInt % 64).toNat := Int64.toInt_inj.mp (by
    rw [a, Int64.toInt_ofNat_of_lt (by omega)]
    have : ((2 ^ 6 : Nat) : Int) = 64 := rfl
    omega)
  rw [e]; rfl
theorem own_shl (w : Int64) (y : Int32) : (w <<< (y.toInt64 &&& 63)).toBitVec = w.toBitVec <<< (y.toInt % 64).toNat := by
  rw [Int64.toBitVec_shiftLeft, own_dist, BitVec.shiftLeft_eq', smod64 _ (by omega)]
theorem own_shr (w : Int64) (y : Int32) : (XT.ushrL w y).toBitVec = w.toBitVec >>> (y.toInt % 64).toNat := by
  have d := own_dist y
  have e : (y.toInt64.toUInt64 &&& Int64.toUInt64 63).toBitVec = BitVec.ofNat 64 (y.toInt % 64).toNat := d
  show (w.toUInt64 >>> (y.toInt64.toUInt64 &&& Int64.toUInt64 63)).toBitVec = _
  rw [UInt64.toBitVec_shiftRight, e, BitVec.ushiftRight_eq']
  have k : (BitVec.ofNat 64 (y.toInt % 64).toNat % (64 : BitVec 64)).toNat = (y.toInt % 64).toNat := by
    rw [BitVec.toNat_umod, BitVec.toNat_ofNat]
    show (y.toInt % 64).toNat % 18446744073709551616 % 64 = _
    omega
  rw [k]; rfl
theorem own_b_shl (w : Int64) (y : Int32) (i : Nat) (hi : i < 64) : own_b (w <<< (y.toInt64 &&& 63)) i = (decide ((y.toInt % 64).toNat ≤ i) && own_b w (i - (y.toInt % 64).toNat)) := by
  unfold own_b; rw [own_shl, BitVec.getLsbD_shiftLeft]
  by_cases q : i < (y.toInt % 64).toNat
  · simp [hi, q, Nat.not_le.mpr q]
  · simp [hi, q, Nat.le_of_not_lt q]
theorem own_b_shr (w : Int64) (y : Int32) (i : Nat) : own_b (XT.ushrL w y) i = own_b w ((y.toInt % 64).toNat + i) := by
  unfold own_b; rw [own_shr, BitVec.getLsbD_ushiftRight]
theorem own_b_one (i : Nat) : own_b 1 i = decide (i = 0) := by
  unfold own_b
  show (1#64).getLsbD i = _
  rw [BitVec.getLsbD_one]; simp
theorem own_b_m1 (i : Nat) (hi : i < 64) : own_b (-1) i = true := by
  unfold own_b
  show (BitVec.allOnes 64).getLsbD i = true
  rw [BitVec.getLsbD_allOnes]; simp [hi]
def own_mem (w : Nat → Int64) (q : Nat) : Bool := own_b (w (q / 64)) (q % 64)
def own_inv (w sm : Nat → Int64) : Prop := ∀ k, k < 128 → (own_b (sm (k / 64)) (k % 64) = true ↔ ¬ w k = 0)
theorem own_b_at (y : Int32) (h : 0 ≤ y.toInt) (i : Nat) (hi : i < 64) : own_b ((1 : Int64) <<< (y.toInt64 &&& 63)) i = decide (i = y.toInt.toNat % 64) := by
  rw [own_b_shl _ _ _ hi, own_b_one]
  have e : (y.toInt % 64).toNat = y.toInt.toNat % 64 := by omega
  rw [e]
  by_cases q : i = y.toInt.toNat % 64
  · simp [-Int32.toNat_toInt, q]
  · by_cases q2 : y.toInt.toNat % 64 ≤ i
    · simp [-Int32.toNat_toInt, q, q2]; omega
    · simp [-Int32.toNat_toInt, q, q2]
theorem own_mem_add (w : Nat → Int64) (y wd : Int32) (h : 0 ≤ y.toInt) (hw : wd.toInt = y.toInt / 64) (q : Nat) : own_mem (own_ul w wd.toInt.toNat ((w wd.toInt.toNat) ||| ((1 : Int64) <<< (y.toInt64 &&& 63)))) q = (own_mem w q || decide (q = y.toInt.toNat)) := by
  unfold own_mem own_ul
  by_cases c : q / 64 = wd.toInt.toNat
  · rw [if_pos c, own_b_or, own_b_at y h _ (Nat.mod_lt _ (by decide)), ← c]
    congr 1
    by_cases c2 : q = y.toInt.toNat
    · simp [-Int32.toNat_toInt, c2]
    · have : ¬ q % 64 = y.toInt.toNat % 64 := by omega
      simp [-Int32.toNat_toInt, c2, this]
  · rw [if_neg c]
    have : ¬ q = y.toInt.toNat := by omega
    simp [-Int32.toNat_toInt, this]
theorem own_mem_del (w : Nat → Int64) (y wd : Int32) (h : 0 ≤ y.toInt) (hw : wd.toInt = y.toInt / 64) (q : Nat) : own_mem (own_ul w wd.toInt.toNat ((w wd.toInt.toNat) &&& (((1 : Int64) <<< (y.toInt64 &&& 63)) ^^^ (-1 : Int64)))) q = (own_mem w q && !decide (q = y.toInt.toNat)) := by
  unfold own_mem own_ul
  by_cases c : q / 64 = wd.toInt.toNat
  · rw [if_pos c, own_b_and, own_b_xor, own_b_at y h _ (Nat.mod_lt _ (by decide)), own_b_m1 _ (Nat.mod_lt _ (by decide)), ← c]
    congr 1
    by_cases c2 : q = y.toInt.toNat
    · simp [-Int32.toNat_toInt, c2]
    · have : ¬ q % 64 = y.toInt.toNat % 64 := by omega
      simp [-Int32.toNat_toInt, c2, this]
  · rw [if_neg c]
    have : ¬ q = y.toInt.toNat := by omega
    simp [-Int32.toNat_toInt, this]
theorem own_mem_word (w : Nat → Int64) (k : Nat) : (¬ w k = 0) ↔ ∃ i, i < 64 ∧ own_mem w (64 * k + i) = true := by
  have e : ∀ i, i < 64 → own_mem w (64 * k + i) = own_b (w k) i := fun i hi => by
    unfold own_mem
    rw [show (64 * k + i) / 64 = k by omega, show (64 * k + i) % 64 = i by omega]
  constructor
  · intro h
    obtain ⟨i, hi, hb⟩ := own_b_some h
    exact ⟨i, hi, by rw [e i hi]; exact hb⟩
  · rintro ⟨i, hi, hb⟩ z
    rw [e i hi, z, own_b_zero] at hb
    cases hb
theorem own_inv_add (w sm : Nat → Int64) (I : own_inv w sm) (y wd sd : Int32) (h : 0 ≤ y.toInt) (hw : wd.toInt = y.toInt / 64) (hs : sd.toInt = wd.toInt / 64) :
    own_inv (own_ul w wd.toInt.toNat ((w wd.toInt.toNat) ||| ((1 : Int64) <<< (y.toInt64 &&& 63)))) (own_ul sm sd.toInt.toNat ((sm sd.toInt.toNat) ||| ((1 : Int64) <<< (wd.toInt64 &&& 63)))) := by
  intro k hk
  have a := own_mem_add sm wd sd (by omega) hs k
  unfold own_mem at a
  rw [a, own_mem_word]
  have b : ∀ i, own_mem (own_ul w wd.toInt.toNat ((w wd.toInt.toNat) ||| ((1 : Int64) <<< (y.toInt64 &&& 63)))) (64 * k + i) = (own_mem w (64 * k + i) || decide (64 * k + i = y.toInt.toNat)) := fun i => own_mem_add w y wd h hw _
  simp only [b]
  have I' := I k hk
  rw [own_mem_word] at I'
  constructor
  · intro z
    rw [Bool.or_eq_true, decide_eq_true_eq] at z
    rcases z with z | z
    · obtain ⟨i, hi, hb⟩ := I'.mp z
      exact ⟨i, hi, by rw [hb]; rfl⟩
    · exact ⟨y.toInt.toNat % 64, Nat.mod_lt _ (by decide), by rw [Bool.or_eq_true, decide_eq_true_eq]; right; omega⟩
  · rintro ⟨i, hi, hb⟩
    rw [Bool.or_eq_true, decide_eq_true_eq] at hb ⊢
    rcases hb with hb | hb
    · exact Or.inl (I'.mpr ⟨i, hi, hb⟩)
    · right; omega
theorem own_inv_del (w sm : Nat → Int64) (I : own_inv w sm) (y wd sd : Int32) (h : 0 ≤ y.toInt) (hw : wd.toInt = y.toInt / 64) (hs : sd.toInt = wd.toInt / 64) (w' : Nat → Int64) (hw' : w' = own_ul w wd.toInt.toNat ((w wd.toInt.toNat) &&& (((1 : Int64) <<< (y.toInt64 &&& 63)) ^^^ (-1 : Int64)))) (hz : w' wd.toInt.toNat = 0) :
    own_inv w' (own_ul sm sd.toInt.toNat ((sm sd.toInt.toNat) &&& (((1 : Int64) <<< (wd.toInt64 &&& 63)) ^^^ (-1 : Int64)))) := by
  intro k hk
  have a := own_mem_del sm wd sd (by omega) hs k
  unfold own_mem at a
  rw [a]
  by_cases c : k = wd.toInt.toNat
  · subst c; simp [-Int32.toNat_toInt, hz]
  · have e : w' k = w k := by rw [hw']; exact if_neg c
    rw [e, ← I k hk]
    simp [-Int32.toNat_toInt, c]
theorem own_inv_del2 (w sm : Nat → Int64) (I : own_inv w sm) (y wd : Int32) (h : 0 ≤ y.toInt) (hw : wd.toInt = y.toInt / 64) (w' : Nat → Int64) (hw' : w' = own_ul w wd.toInt.toNat ((w wd.toInt.toNat) &&& (((1 : Int64) <<< (y.toInt64 &&& 63)) ^^^ (-1 : Int64)))) (hz : ¬ w' wd.toInt.toNat = 0) : own_inv w' sm := by
  intro k hk
  rw [I k hk]
  by_cases c : k = wd.toInt.toNat
  · subst c
    refine ⟨fun _ => hz, fun _ z => hz ?_⟩
    rw [hw']; unfold own_ul; rw [if_pos rfl, z]
    exact own_b_none fun i hi => by rw [own_b_and, own_b_zero]; rfl
  · have e : w' k = w k := by rw [hw']; exact if_neg c
    rw [e]
/-- the first place of the set from f on, or -1 -/
def own_first (w : Nat → Int64) (f r : Int) : Prop := (r = -1 ∧ ∀ q : Nat, f ≤ q → q < 8192 → own_mem w q = false) ∨ (f ≤ r ∧ 0 ≤ r ∧ r < 8192 ∧ own_mem w r.toNat = true ∧ ∀ q : Nat, f ≤ q → (q : Int) < r → own_mem w q = false)
def own_last (w : Nat → Int64) (t r : Int) : Prop := (r = -1 ∧ ∀ q : Nat, (q : Int) ≤ t → own_mem w q = false) ∨ (r ≤ t ∧ 0 ≤ r ∧ r < 8192 ∧ own_mem w r.toNat = true ∧ ∀ q : Nat, (q : Int) ≤ t → r < q → own_mem w q = false)
def own_bi (u : Int32) (i : Nat) : Bool := u.toBitVec.getLsbD i
theorem own_least (P : Nat → Prop) : ∀ n, P n → ∃ k, P k ∧ ∀ j, j < k → ¬ P j := by
  intro n
  induction n using Nat.strongRecOn with
  | _ n ih =>
    intro h
    by_cases q : ∃ j, j < n ∧ P j
    · obtain ⟨j, hj, pj⟩ := q
      exact ih j hj pj
    · exact ⟨n, h, fun j hj pj => q ⟨j, hj, pj⟩⟩
theorem own_bi_some {u : Int32} (h : ¬ u = 0) : ∃ i, own_bi u i = true := by
  refine Classical.byContradiction fun q => h (Int32.toBitVec_inj.mp (BitVec.eq_of_getLsbD_eq fun i hi => ?_))
  have e : own_bi u i = false := by
    cases hb : own_bi u i with
    | false => rfl
    | true => exact absurd ⟨i, hb⟩ q
  show own_bi u i = (0#32).getLsbD i
  rw [e]; simp
def own_pw (t : Fin 32) : Int32 := Int32.ofNat (2 ^ t.val - 1)
theorem own_low (u y : Int32) (hu : ¬ u = 0) (hy : y = ((u ^^^ (-1 : Int32)) &&& (u - (1 : Int32)))) : ∃ t : Fin 32, y = own_pw t ∧ own_bi u t.val = true ∧ ∀ j, j < t.val → own_bi u j = false := by
  obtain ⟨i, hi⟩ := own_bi_some hu
  obtain ⟨t, ht, hl⟩ := own_least (fun i => own_bi u i = true) i hi
  have t32 : t < 32 := by
    rcases Nat.lt_or_ge t 32 with q | q
    · exact q
    · have : own_bi u t = false := BitVec.getLsbD_of_ge _ _ q
      rw [this] at ht; cases ht
  have hl' : ∀ j, j < t → own_bi u j = false := fun j hj => by
    cases hb : own_bi u j with
    | false => rfl
    | true => exact absurd hb (hl j hj)
  refine ⟨⟨t, t32⟩, ?_, ht, hl'⟩
  have hx : ∀ j, u.toBitVec.toNat.testBit j = own_bi u j := fun j => rfl
  have e1 : u.toBitVec.toNat % 2 ^ (t + 1) = 2 ^ t := by
    apply Nat.eq_of_testBit_eq
    intro j
    rw [Nat.testBit_mod_two_pow, Nat.testBit_two_pow, hx]
    by_cases q : j < t
    · rw [hl' j q]; simp; omega
    · by_cases q2 : j = t
      · subst q2; rw [ht]; simp
      · have : ¬ j < t + 1 := by omega
        simp [this]; omega
  have pt : 0 < 2 ^ t := Nat.two_pow_pos t
  have pt1 : 2 ^ (t + 1) = 2 * 2 ^ t := by rw [Nat.pow_succ]; omega
  have e2 : u.toBitVec.toNat = 2 ^ (t + 1) * (u.toBitVec.toNat / 2 ^ (t + 1)) + 2 ^ t := by
    have := Nat.div_add_mod u.toBitVec.toNat (2 ^ (t + 1))
    rw [e1] at this; exact this.symm
  have lt := u.toBitVec.isLt
  have e3 : (u - 1).toBitVec.toNat = 2 ^ (t + 1) * (u.toBitVec.toNat / 2 ^ (t + 1)) + (2 ^ t - 1) := by
    rw [Int32.toBitVec_sub, BitVec.toNat_sub]
    show (2 ^ 32 - 1 + u.toBitVec.toNat) % 2 ^ 32 = _
    generalize hk : 2 ^ (t + 1) * (u.toBitVec.toNat / 2 ^ (t + 1)) = K at *
    omega
  rw [hy]
  apply Int32.toBitVec_inj.mp
  apply BitVec.eq_of_getLsbD_eq
  intro j hj
  rw [Int32.toBitVec_and, Int32.toBitVec_xor, BitVec.getLsbD_and, BitVec.getLsbD_xor]
  have m1 : (-1 : Int32).toBitVec.getLsbD j = true := by
    show (BitVec.allOnes 32).getLsbD j = true
    rw [BitVec.getLsbD_allOnes]; simp [hj]
  have b1 : (u - 1).toBitVec.getLsbD j = (2 ^ (t + 1) * (u.toBitVec.toNat / 2 ^ (t + 1)) + (2 ^ t - 1)).testBit j := by rw [← e3]; rfl
  have b0 : u.toBitVec.getLsbD j = (2 ^ (t + 1) * (u.toBitVec.toNat / 2 ^ (t + 1)) + 2 ^ t).testBit j := by rw [← e2]; rfl
  have bp : (own_pw ⟨t, t32⟩).toBitVec.getLsbD j = decide (j < t) := by
    show (BitVec.ofNat 32 (2 ^ t - 1)).getLsbD j = _
    rw [BitVec.getLsbD_ofNat, Nat.testBit_two_pow_sub_one]; simp [hj]
  rw [m1, b1, b0, bp, Nat.testBit_two_pow_mul_add _ (by omega), Nat.testBit_two_pow_mul_add _ (by omega), Nat.testBit_two_pow, Nat.testBit_two_pow_sub_one]
  by_cases q : j < t + 1
  · simp only [q, if_true]
    by_cases q2 : j < t
    · have : ¬ t = j := by omega
      simp [q2, this]
    · simp [q2]
  · simp only [q, if_false]
    have : ¬ j < t := by omega
    cases (u.toBitVec.toNat / 2 ^ (t + 1)).testBit (j - (t + 1)) <;> simp [this]
theorem own_us (w r q : Int32) (k : Nat) (hq : q.toBitVec.toNat % 32 = k) (h0 : 0 < k) (hw : 0 ≤ w.toInt) (h : r = ((w.toUInt32 >>> (q &&& 31).toUInt32).toInt32)) : r.toInt = w.toInt / (2 ^ k : Nat) := by
  have a := c_iushr w q k hq h0
  have b := rng32 w
  rw [h, a]
  congr 1
  omega
theorem own_nl (u : Int32) (t : Nat) (ht : t < 31) (h1 : 2 ^ t ≤ u.toInt.toNat) (h2 : u.toInt.toNat < 2 ^ (t + 1)) (h3 : 0 < u.toInt) : own_bi u t = true ∧ ∀ j, t < j → own_bi u j = false := by
  have e : u.toBitVec.toNat = u.toInt.toNat := by
    have := BitVec.toInt_eq_toNat_cond u.toBitVec
    have lt := u.toBitVec.isLt
    have q : u.toInt = u.toBitVec.toInt := rfl
    rw [q] at h3 ⊢
    split at this <;> omega
  constructor
  · show u.toBitVec.toNat.testBit t = true
    rw [e, Nat.testBit_eq_decide_div_mod_eq, decide_eq_true_eq]
    have : u.toInt.toNat / 2 ^ t = 1 := Nat.div_eq_of_lt_le (by omega) (by rw [Nat.pow_succ] at h2; omega)
    rw [this]
  · intro j hj
    show u.toBitVec.toNat.testBit j = false
    rw [e]
    exact Nat.testBit_lt_two_pow (Nat.lt_of_lt_of_le h2 (Nat.pow_le_pow_right (by decide) hj))
theorem own_nlneg (u : Int32) (h : u.toInt < 0) : own_bi u 31 = true := by
  have q : u.toInt = u.toBitVec.toInt := rfl
  have := BitVec.toInt_eq_toNat_cond u.toBitVec
  have lt := u.toBitVec.isLt
  show u.toBitVec.toNat.testBit 31 = true
  rw [Nat.testBit_eq_decide_div_mod_eq, decide_eq_true_eq]
  rw [q] at h
  split at this <;> omega
theorem own_bi_big (u : Int32) (j : Nat) (h : 32 ≤ j) : own_bi u j = false := BitVec.getLsbD_of_ge _ _ h
theorem own_lo (w : Int64) (j : Nat) (h : j < 32) : own_bi w.toInt32 j = own_b w j := by
  unfold own_bi own_b
  rw [Int64.toBitVec_toInt32, BitVec.getLsbD_signExtend]
  simp [h]; omega
theorem own_hi (w : Int64) (j : Nat) (h : j < 32) : own_bi (XT.ushrL w 32).toInt32 j = own_b w (32 + j) := by
  rw [own_lo _ j h, own_b_shr]; rfl
theorem own_halves {w : Int64} (h1 : w.toInt32 = 0) (h2 : (XT.ushrL w 32).toInt32 = 0) : w = 0 := by
  apply own_b_none
  intro i hi
  by_cases q : i < 32
  · rw [← own_lo w i q, h1]; unfold own_bi; simp
  · have e := own_hi w (i - 32) (by omega)
    rw [h2, show 32 + (i - 32) = i by omega] at e
    rw [← e]; unfold own_bi; simp
def own_tz (w : Int64) (r : Int) : Prop := 0 ≤ r ∧ r < 64 ∧ own_b w r.toNat = true ∧ ∀ j : Nat, (j : Int) < r → own_b w j = false
def own_lz (w : Int64) (r : Int) : Prop := 0 ≤ r ∧ r < 64 ∧ own_b w (63 - r).toNat = true ∧ ∀ j : Nat, 63 - r < j → own_b w j = false
theorem ef_11 (m : MethodId) (u : Int32) : entryFrame m #[(.int u)] 2 = mkF m 0 #[.val (.int u), .unset] [] := by first | (simp [entryFrame, mkF, argsToLocals, Value.category]; done) | rfl
theorem pn_11 : plainName "java/lang/Integer" = true := by first | (simp [plainName, overriddenIn]; done) | decide +kernel
theorem d11_0 : decode jdk_33_method_48_code 0 = .ok (.iload_n 0, 1) := by decide +kernel
theorem d11_1 : decode jdk_33_method_48_code 1 = .ok (.iconst (-1), 1) := by decide +kernel
theorem d11_2 : decode jdk_33_method_48_code 2 = .ok (.ixor, 1) := by decide +kernel
theorem d11_3 : decode jdk_33_method_48_code 3 = .ok (.iload_n 0, 1) := by decide +kernel
theorem d11_4 : decode jdk_33_method_48_code 4 = .ok (.iconst 1, 1) := by decide +kernel
theorem d11_5 : decode jdk_33_method_48_code 5 = .ok (.isub, 1) := by decide +kernel
theorem d11_6 : decode jdk_33_method_48_code 6 = .ok (.iand, 1) := by decide +kernel
theorem d11_7 : decode jdk_33_method_48_code 7 = .ok (.istore_n 0, 1) := by decide +kernel
theorem d11_8 : decode jdk_33_method_48_code 8 = .ok (.iload_n 0, 1) := by decide +kernel
theorem d11_9 : decode jdk_33_method_48_code 9 = .ok (.ifCond .gt 8, 3) := by decide +kernel
theorem d11_17 : decode jdk_33_method_48_code 17 = .ok (.iconst 1, 1) := by decide +kernel
theorem d11_18 : decode jdk_33_method_48_code 18 = .ok (.istore_n 1, 1) := by decide +kernel
theorem d11_19 : decode jdk_33_method_48_code 19 = .ok (.iload_n 0, 1) := by decide +kernel
theorem d11_20 : decode jdk_33_method_48_code 20 = .ok (.ldc_w 264, 3) := by decide +kernel
theorem d11_23 : decode jdk_33_method_48_code 23 = .ok (.if_icmp .le 11, 3) := by decide +kernel
theorem d11_34 : decode jdk_33_method_48_code 34 = .ok (.iload_n 0, 1) := by decide +kernel
theorem d11_35 : decode jdk_33_method_48_code 35 = .ok (.sipush 256, 3) := by decide +kernel
theorem d11_38 : decode jdk_33_method_48_code 38 = .ok (.if_icmp .le 11, 3) := by decide +kernel
theorem d11_49 : decode jdk_33_method_48_code 49 = .ok (.iload_n 0, 1) := by decide +kernel
theorem d11_50 : decode jdk_33_method_48_code 50 = .ok (.bipush 16, 2) := by decide +kernel
theorem d11_52 : decode jdk_33_method_48_code 52 = .ok (.if_icmp .le 10, 3) := by decide +kernel
theorem d11_62 : decode jdk_33_method_48_code 62 = .ok (.iload_n 0, 1) := by decide +kernel
theorem d11_63 : decode jdk_33_method_48_code 63 = .ok (.iconst 4, 1) := by decide +kernel
theorem d11_64 : decode jdk_33_method_48_code 64 = .ok (.if_icmp .le 10, 3) := by decide +kernel
theorem d11_74 : decode jdk_33_method_48_code 74 = .ok (.iload_n 1, 1) := by decide +kernel
theorem d11_75 : decode jdk_33_method_48_code 75 = .ok (.iload_n 0, 1) := by decide +kernel
theorem d11_76 : decode jdk_33_method_48_code 76 = .ok (.iconst 1, 1) := by decide +kernel
theorem d11_77 : decode jdk_33_method_48_code 77 = .ok (.iushr, 1) := by decide +kernel
theorem d11_78 : decode jdk_33_method_48_code 78 = .ok (.iadd, 1) := by decide +kernel
theorem d11_79 : decode jdk_33_method_48_code 79 = .ok (.ireturn, 1) := by decide +kernel
theorem d11_67 : decode jdk_33_method_48_code 67 = .ok (.iinc 1 2, 3) := by decide +kernel
theorem d11_70 : decode jdk_33_method_48_code 70 = .ok (.iload_n 0, 1) := by decide +kernel
theorem d11_71 : decode jdk_33_method_48_code 71 = .ok (.iconst 2, 1) := by decide +kernel
theorem d11_72 : decode jdk_33_method_48_code 72 = .ok (.iushr, 1) := by decide +kernel
theorem d11_73 : decode jdk_33_method_48_code 73 = .ok (.istore_n 0, 1) := by decide +kernel
theorem d11_55 : decode jdk_33_method_48_code 55 = .ok (.iinc 1 4, 3) := by decide +kernel
theorem d11_58 : decode jdk_33_method_48_code 58 = .ok (.iload_n 0, 1) := by decide +kernel
theorem d11_59 : decode jdk_33_method_48_code 59 = .ok (.iconst 4, 1) := by decide +kernel
theorem d11_60 : decode jdk_33_method_48_code 60 = .ok (.iushr, 1) := by decide +kernel
theorem d11_61 : decode jdk_33_method_48_code 61 = .ok (.istore_n 0, 1) := by decide +kernel
theorem d11_41 : decode jdk_33_method_48_code 41 = .ok (.iinc 1 8, 3) := by decide +kernel
theorem d11_44 : decode jdk_33_method_48_code 44 = .ok (.iload_n 0, 1) := by decide +kernel
theorem d11_45 : decode jdk_33_method_48_code 45 = .ok (.bipush 8, 2) := by decide +kernel
theorem d11_47 : decode jdk_33_method_48_code 47 = .ok (.iushr, 1) := by decide +kernel
theorem d11_48 : decode jdk_33_method_48_code 48 = .ok (.istore_n 0, 1) := by decide +kernel
theorem d11_26 : decode jdk_33_method_48_code 26 = .ok (.iinc 1 16, 3) := by decide +kernel
theorem d11_29 : decode jdk_33_method_48_code 29 = .ok (.iload_n 0, 1) := by decide +kernel
theorem d11_30 : decode jdk_33_method_48_code 30 = .ok (.bipush 16, 2) := by decide +kernel
theorem d11_32 : decode jdk_33_method_48_code 32 = .ok (.iushr, 1) := by decide +kernel
theorem d11_33 : decode jdk_33_method_48_code 33 = .ok (.istore_n 0, 1) := by decide +kernel
theorem d11_12 : decode jdk_33_method_48_code 12 = .ok (.iload_n 0, 1) := by decide +kernel
theorem d11_13 : decode jdk_33_method_48_code 13 = .ok (.bipush 32, 2) := by decide +kernel
theorem d11_15 : decode jdk_33_method_48_code 15 = .ok (.iand, 1) := by decide +kernel
theorem d11_16 : decode jdk_33_method_48_code 16 = .ok (.ireturn, 1) := by decide +kernel
set_option maxRecDepth 65536 in
set_option maxHeartbeats 40000000 in
theorem rm11 (l : Launch) (Z : State) (a0 : Array Value) (hw : ∀ d ∈ tables_1, d.before a0 Z = true) (u : Int32) (h0 : Heap) (hu : ¬ u = 0) :
    Ct l Z (⟨"java/lang/Integer", "numberOfTrailingZeros", "(I)I"⟩ : MethodName) jdk_33_method_48_code 2 (some .int) ({ frames := 0, cells := 0, slots := 0, locals := 0 } : Room) #[(.int u)] h0 (QI h0 (fun r => ∃ t : Fin 32, r.toInt = (t.val : Int) ∧ own_bi u t.val = true ∧ ∀ j, j < t.val → own_bi u j = false)) := by
  refine own_met (plainFor_of_name pn_11) (fun m => ef_11 m u) ?_
  intro p e s m below meth c T0 X0 hx hby hml hown hnm hret hlk hZ e0
  refine g_iloadN X0 hx hby d11_0 (pc' := 1) rfl rfl ?_
  refine g_iconst X0 hx hby d11_1 (pc' := 2) rfl (n := (-1 : Int32)) (by first | rfl | decide) ?_
  refine g_ixor X0 hx hby d11_2 (pc' := 3) rfl ?_
  refine g_iloadN X0 hx hby d11_3 (pc' := 4) rfl rfl ?_
  refine g_iconst X0 hx hby d11_4 (pc' := 5) rfl (n := (1 : Int32)) (by first | rfl | decide) ?_
  refine g_isub X0 hx hby d11_5 (pc' := 6) rfl ?_
  refine g_iand X0 hx hby d11_6 (pc' := 7) rfl ?_
  refine g_nameI (fun y h_y => ?_)
  obtain ⟨t, hy, hb, hl⟩ := own_low u y hu h_y
  refine g_istoreN X0 hx hby d11_7 (pc' := 8) rfl (Ls' := #[.val (.int y), .unset]) rfl ?_
  refine g_iloadN X0 hx hby d11_8 (pc' := 9) rfl rfl ?_
  refine g_ifgt X0 hx hby d11_9 (pt := 17) (pf := 12) (by decide) (by decide) rfl (fun (h9 : 0 < y.toInt) => ?_) (fun (h9 : y.toInt ≤ 0) => ?_)
  · refine g_iconst X0 hx hby d11_17 (pc' := 18) rfl (n := (1 : Int32)) (by first | rfl | decide) ?_
    refine g_istoreN X0 hx hby d11_18 (pc' := 19) rfl (Ls' := #[.val (.int y), .val (.int (1 : Int32))]) rfl ?_
    refine g_iloadN X0 hx hby d11_19 (pc' := 20) rfl rfl ?_
    refine g_ldcwI X0 hx hby hZ hown (hw _ (List.mem_of_getElem? (i := 55) rfl)) d11_20 (pc' := 23) rfl ?_
    refine g_icmple X0 hx hby d11_23 (pt := 34) (pf := 26) (by decide) (by decide) rfl (fun (h23 : y.toInt ≤ 65536) => ?_) (fun (h23 : 65536 < y.toInt) => ?_)
    · refine g_iloadN X0 hx hby d11_34 (pc' := 35) rfl rfl ?_
      refine g_sipush X0 hx hby d11_35 (pc' := 38) rfl (n := (256 : Int32)) (by first | rfl | decide) ?_
      refine g_icmple X0 hx hby d11_38 (pt := 49) (pf := 41) (by decide) (by decide) rfl (fun (h38 : y.toInt ≤ 256) => ?_) (fun (h38 : 256 < y.toInt) => ?_)
      · refine g_iloadN X0 hx hby d11_49 (pc' := 50) rfl rfl ?_
        refine g_bipush X0 hx hby d11_50 (pc' := 52) rfl (n := (16 : Int32)) (by first | rfl | decide) ?_
        refine g_icmple X0 hx hby d11_52 (pt := 62) (pf := 55) (by decide) (by decide) rfl (fun (h52 : y.toInt ≤ 16) => ?_) (fun (h52 : 16 < y.toInt) => ?_)
        · refine g_iloadN X0 hx hby d11_62 (pc' := 63) rfl rfl ?_
          refine g_iconst X0 hx hby d11_63 (pc' := 64) rfl (n := (4 : Int32)) (by first | rfl | decide) ?_
          refine g_icmple X0 hx hby d11_64 (pt := 74) (pf := 67) (by decide) (by decide) rfl (fun (h64 : y.toInt ≤ 4) => ?_) (fun (h64 : 4 < y.toInt) => ?_)
          · refine g_iloadN X0 hx hby d11_74 (pc' := 75) rfl rfl ?_
            refine g_iloadN X0 hx hby d11_75 (pc' := 76) rfl rfl ?_
            refine g_iconst X0 hx hby d11_76 (pc' := 77) rfl (n := (1 : Int32)) (by first | rfl | decide) ?_
            refine g_iushr X0 hx hby d11_77 (pc' := 78) rfl ?_
            refine g_iadd X0 hx hby d11_78 (pc' := 79) rfl ?_
            exact g_retI X0 hx hby hlk hret d11_79 (by decide) (by decide) (⟨⟨_, rfl, t, (by
                  have key : ∀ t : Fin 32, (0 < (own_pw t).toInt) → ((own_pw t).toInt ≤ 65536) → ((own_pw t).toInt ≤ 256) → ((own_pw t).toInt ≤ 16) → ((own_pw t).toInt ≤ 4) → (((1 : Int32) + (((own_pw t).toUInt32 >>> ((1 : Int32) &&& 31).toUInt32).toInt32))).toInt = (t.val : Int) := by decide +kernel
                  rw [hy]; exact key t (by rw [← hy]; exact h9) (by rw [← hy]; exact h23) (by rw [← hy]; exact h38) (by rw [← hy]; exact h52) (by rw [← hy]; exact h64)), hb, hl⟩, e0, rfl⟩)
          · refine g_iinc X0 hx hby d11_67 (pc' := 70) rfl rfl (Ls' := #[.val (.int y), .val (.int (3 : Int32))]) rfl ?_
            refine g_iloadN X0 hx hby d11_70 (pc' := 71) rfl rfl ?_
            refine g_iconst X0 hx hby d11_71 (pc' := 72) rfl (n := (2 : Int32)) (by first | rfl | decide) ?_
            refine g_iushr X0 hx hby d11_72 (pc' := 73) rfl ?_
            refine g_istoreN X0 hx hby d11_73 (pc' := 74) rfl (Ls' := #[.val (.int ((y.toUInt32 >>> ((2 : Int32) &&& 31).toUInt32).toInt32)), .val (.int (3 : Int32))]) rfl ?_
            refine g_iloadN X0 hx hby d11_74 (pc' := 75) rfl rfl ?_
            refine g_iloadN X0 hx hby d11_75 (pc' := 76) rfl rfl ?_
            refine g_iconst X0 hx hby d11_76 (pc' := 77) rfl (n := (1 : Int32)) (by first | rfl | decide) ?_
            refine g_iushr X0 hx hby d11_77 (pc' := 78) rfl ?_
            refine g_iadd X0 hx hby d11_78 (pc' := 79) rfl ?_
            exact g_retI X0 hx hby hlk hret d11_79 (by decide) (by decide) (⟨⟨_, rfl, t, (by
                  have key : ∀ t : Fin 32, (0 < (own_pw t).toInt) → ((own_pw t).toInt ≤ 65536) → ((own_pw t).toInt ≤ 256) → ((own_pw t).toInt ≤ 16) → (4 < (own_pw t).toInt) → (((3 : Int32) + (((((own_pw t).toUInt32 >>> ((2 : Int32) &&& 31).toUInt32).toInt32).toUInt32 >>> ((1 : Int32) &&& 31).toUInt32).toInt32))).toInt = (t.val : Int) := by decide +kernel
                  rw [hy]; exact key t (by rw [← hy]; exact h9) (by rw [← hy]; exact h23) (by rw [← hy]; exact h38) (by rw [← hy]; exact h52) (by rw [← hy]; exact h64)), hb, hl⟩, e0, rfl⟩)
        · refine g_iinc X0 hx hby d11_55 (pc' := 58) rfl rfl (Ls' := #[.val (.int y), .val (.int (5 : Int32))]) rfl ?_
          refine g_iloadN X0 hx hby d11_58 (pc' := 59) rfl rfl ?_
          refine g_iconst X0 hx hby d11_59 (pc' := 60) rfl (n := (4 : Int32)) (by first | rfl | decide) ?_
          refine g_iushr X0 hx hby d11_60 (pc' := 61) rfl ?_
          refine g_istoreN X0 hx hby d11_61 (pc' := 62) rfl (Ls' := #[.val (.int ((y.toUInt32 >>> ((4 : Int32) &&& 31).toUInt32).toInt32)), .val (.int (5 : Int32))]) rfl ?_
          refine g_iloadN X0 hx hby d11_62 (pc' := 63) rfl rfl ?_
          refine g_iconst X0 hx hby d11_63 (pc' := 64) rfl (n := (4 : Int32)) (by first | rfl | decide) ?_
          refine g_icmple X0 hx hby d11_64 (pt := 74) (pf := 67) (by decide) (by decide) rfl (fun (h64 : ((y.toUInt32 >>> ((4 : Int32) &&& 31).toUInt32).toInt32).toInt ≤ 4) => ?_) (fun (h64 : 4 < ((y.toUInt32 >>> ((4 : Int32) &&& 31).toUInt32).toInt32).toInt) => ?_)
          · refine g_iloadN X0 hx hby d11_74 (pc' := 75) rfl rfl ?_
            refine g_iloadN X0 hx hby d11_75 (pc' := 76) rfl rfl ?_
            refine g_iconst X0 hx hby d11_76 (pc' := 77) rfl (n := (1 : Int32)) (by first | rfl | decide) ?_
            refine g_iushr X0 hx hby d11_77 (pc' := 78) rfl ?_
            refine g_iadd X0 hx hby d11_78 (pc' := 79) rfl ?_
            exact g_retI X0 hx hby hlk hret d11_79 (by decide) (by decide) (⟨⟨_, rfl, t, (by
                  have key : ∀ t : Fin 32, (0 < (own_pw t).toInt) → ((own_pw t).toInt ≤ 65536) → ((own_pw t).toInt ≤ 256) → (16 < (own_pw t).toInt) → ((((own_pw t).toUInt32 >>> ((4 : Int32) &&& 31).toUInt32).toInt32).toInt ≤ 4) → (((5 : Int32) + (((((own_pw t).toUInt32 >>> ((4 : Int32) &&& 31).toUInt32).toInt32).toUInt32 >>> ((1 : Int32) &&& 31).toUInt32).toInt32))).toInt = (t.val : Int) := by decide +kernel
                  rw [hy]; exact key t (by rw [← hy]; exact h9) (by rw [← hy]; exact h23) (by rw [← hy]; exact h38) (by rw [← hy]; exact h52) (by rw [← hy]; exact h64)), hb, hl⟩, e0, rfl⟩)
          · refine g_iinc X0 hx hby d11_67 (pc' := 70) rfl rfl (Ls' := #[.val (.int ((y.toUInt32 >>> ((4 : Int32) &&& 31).toUInt32).toInt32)), .val (.int (7 : Int32))]) rfl ?_
            refine g_iloadN X0 hx hby d11_70 (pc' := 71) rfl rfl ?_
            refine g_iconst X0 hx hby d11_71 (pc' := 72) rfl (n := (2 : Int32)) (by first | rfl | decide) ?_
            refine g_iushr X0 hx hby d11_72 (pc' := 73) rfl ?_
            refine g_istoreN X0 hx hby d11_73 (pc' := 74) rfl (Ls' := #[.val (.int ((((y.toUInt32 >>> ((4 : Int32) &&& 31).toUInt32).toInt32).toUInt32 >>> ((2 : Int32) &&& 31).toUInt32).toInt32)), .val (.int (7 : Int32))]) rfl ?_
            refine g_iloadN X0 hx hby d11_74 (pc' := 75) rfl rfl ?_
            refine g_iloadN X0 hx hby d11_75 (pc' := 76) rfl rfl ?_
            refine g_iconst X0 hx hby d11_76 (pc' := 77) rfl (n := (1 : Int32)) (by first | rfl | decide) ?_
            refine g_iushr X0 hx hby d11_77 (pc' := 78) rfl ?_
            refine g_iadd X0 hx hby d11_78 (pc' := 79) rfl ?_
            exact g_retI X0 hx hby hlk hret d11_79 (by decide) (by decide) (⟨⟨_, rfl, t, (by
                  have key : ∀ t : Fin 32, (0 < (own_pw t).toInt) → ((own_pw t).toInt ≤ 65536) → ((own_pw t).toInt ≤ 256) → (16 < (own_pw t).toInt) → (4 < (((own_pw t).toUInt32 >>> ((4 : Int32) &&& 31).toUInt32).toInt32).toInt) → (((7 : Int32) + (((((((own_pw t).toUInt32 >>> ((4 : Int32) &&& 31).toUInt32).toInt32).toUInt32 >>> ((2 : Int32) &&& 31).toUInt32).toInt32).toUInt32 >>> ((1 : Int32) &&& 31).toUInt32).toInt32))).toInt = (t.val : Int) := by decide +kernel
                  rw [hy]; exact key t (by rw [← hy]; exact h9) (by rw [← hy]; exact h23) (by rw [← hy]; exact h38) (by rw [← hy]; exact h52) (by rw [← hy]; exact h64)), hb, hl⟩, e0, rfl⟩)
      · refine g_iinc X0 hx hby d11_41 (pc' := 44) rfl rfl (Ls' := #[.val (.int y), .val (.int (9 : Int32))]) rfl ?_
        refine g_iloadN X0 hx hby d11_44 (pc' := 45) rfl rfl ?_
        refine g_bipush X0 hx hby d11_45 (pc' := 47) rfl (n := (8 : Int32)) (by first | rfl | decide) ?_
        refine g_iushr X0 hx hby d11_47 (pc' := 48) rfl ?_
        refine g_istoreN X0 hx hby d11_48 (pc' := 49) rfl (Ls' := #[.val (.int ((y.toUInt32 >>> ((8 : Int32) &&& 31).toUInt32).toInt32)), .val (.int (9 : Int32))]) rfl ?_
        refine g_iloadN X0 hx hby d11_49 (pc' := 50) rfl rfl ?_
        refine g_bipush X0 hx hby d11_50 (pc' := 52) rfl (n := (16 : Int32)) (by first | rfl | decide) ?_
        refine g_icmple X0 hx hby d11_52 (pt := 62) (pf := 55) (by decide) (by decide) rfl (fun (h52 : ((y.toUInt32 >>> ((8 : Int32) &&& 31).toUInt32).toInt32).toInt ≤ 16) => ?_) (fun (h52 : 16 < ((y.toUInt32 >>> ((8 : Int32) &&& 31).toUInt32).toInt32).toInt) => ?_)
        · refine g_iloadN X0 hx hby d11_62 (pc' := 63) rfl rfl ?_
          refine g_iconst X0 hx hby d11_63 (pc' := 64) rfl (n := (4 : Int32)) (by first | rfl | decide) ?_
          refine g_icmple X0 hx hby d11_64 (pt := 74) (pf := 67) (by decide) (by decide) rfl (fun (h64 : ((y.toUInt32 >>> ((8 : Int32) &&& 31).toUInt32).toInt32).toInt ≤ 4) => ?_) (fun (h64 : 4 < ((y.toUInt32 >>> ((8 : Int32) &&& 31).toUInt32).toInt32).toInt) => ?_)
          · refine g_iloadN X0 hx hby d11_74 (pc' := 75) rfl rfl ?_
            refine g_iloadN X0 hx hby d11_75 (pc' := 76) rfl rfl ?_
            refine g_iconst X0 hx hby d11_76 (pc' := 77) rfl (n := (1 : Int32)) (by first | rfl | decide) ?_
            refine g_iushr X0 hx hby d11_77 (pc' := 78) rfl ?_
            refine g_iadd X0 hx hby d11_78 (pc' := 79) rfl ?_
            exact g_retI X0 hx hby hlk hret d11_79 (by decide) (by decide) (⟨⟨_, rfl, t, (by
                  have key : ∀ t : Fin 32, (0 < (own_pw t).toInt) → ((own_pw t).toInt ≤ 65536) → (256 < (own_pw t).toInt) → ((((own_pw t).toUInt32 >>> ((8 : Int32) &&& 31).toUInt32).toInt32).toInt ≤ 16) → ((((own_pw t).toUInt32 >>> ((8 : Int32) &&& 31).toUInt32).toInt32).toInt ≤ 4) → (((9 : Int32) + (((((own_pw t).toUInt32 >>> ((8 : Int32) &&& 31).toUInt32).toInt32).toUInt32 >>> ((1 : Int32) &&& 31).toUInt32).toInt32))).toInt = (t.val : Int) := by decide +kernel
                  rw [hy]; exact key t (by rw [← hy]; exact h9) (by rw [← hy]; exact h23) (by rw [← hy]; exact h38) (by rw [← hy]; exact h52) (by rw [← hy]; exact h64)), hb, hl⟩, e0, rfl⟩)
          · refine g_iinc X0 hx hby d11_67 (pc' := 70) rfl rfl (Ls' := #[.val (.int ((y.toUInt32 >>> ((8 : Int32) &&& 31).toUInt32).toInt32)), .val (.int (11 : Int32))]) rfl ?_
            refine g_iloadN X0 hx hby d11_70 (pc' := 71) rfl rfl ?_
            refine g_iconst X0 hx hby d11_71 (pc' := 72) rfl (n := (2 : Int32)) (by first | rfl | decide) ?_
            refine g_iushr X0 hx hby d11_72 (pc' := 73) rfl ?_
            refine g_istoreN X0 hx hby d11_73 (pc' := 74) rfl (Ls' := #[.val (.int ((((y.toUInt32 >>> ((8 : Int32) &&& 31).toUInt32).toInt32).toUInt32 >>> ((2 : Int32) &&& 31).toUInt32).toInt32)), .val (.int (11 : Int32))]) rfl ?_
            refine g_iloadN X0 hx hby d11_74 (pc' := 75) rfl rfl ?_
            refine g_iloadN X0 hx hby d11_75 (pc' := 76) rfl rfl ?_
            refine g_iconst X0 hx hby d11_76 (pc' := 77) rfl (n := (1 : Int32)) (by first | rfl | decide) ?_
            refine g_iushr X0 hx hby d11_77 (pc' := 78) rfl ?_
            refine g_iadd X0 hx hby d11_78 (pc' := 79) rfl ?_
            exact g_retI X0 hx hby hlk hret d11_79 (by decide) (by decide) (⟨⟨_, rfl, t, (by
                  have key : ∀ t : Fin 32, (0 < (own_pw t).toInt) → ((own_pw t).toInt ≤ 65536) → (256 < (own_pw t).toInt) → ((((own_pw t).toUInt32 >>> ((8 : Int32) &&& 31).toUInt32).toInt32).toInt ≤ 16) → (4 < (((own_pw t).toUInt32 >>> ((8 : Int32) &&& 31).toUInt32).toInt32).toInt) → (((11 : Int32) + (((((((own_pw t).toUInt32 >>> ((8 : Int32) &&& 31).toUInt32).toInt32).toUInt32 >>> ((2 : Int32) &&& 31).toUInt32).toInt32).toUInt32 >>> ((1 : Int32) &&& 31).toUInt32).toInt32))).toInt = (t.val : Int) := by decide +kernel
                  rw [hy]; exact key t (by rw [← hy]; exact h9) (by rw [← hy]; exact h23) (by rw [← hy]; exact h38) (by rw [← hy]; exact h52) (by rw [← hy]; exact h64)), hb, hl⟩, e0, rfl⟩)
        · refine g_iinc X0 hx hby d11_55 (pc' := 58) rfl rfl (Ls' := #[.val (.int ((y.toUInt32 >>> ((8 : Int32) &&& 31).toUInt32).toInt32)), .val (.int (13 : Int32))]) rfl ?_
          refine g_iloadN X0 hx hby d11_58 (pc' := 59) rfl rfl ?_
          refine g_iconst X0 hx hby d11_59 (pc' := 60) rfl (n := (4 : Int32)) (by first | rfl | decide) ?_
          refine g_iushr X0 hx hby d11_60 (pc' := 61) rfl ?_
          refine g_istoreN X0 hx hby d11_61 (pc' := 62) rfl (Ls' := #[.val (.int ((((y.toUInt32 >>> ((8 : Int32) &&& 31).toUInt32).toInt32).toUInt32 >>> ((4 : Int32) &&& 31).toUInt32).toInt32)), .val (.int (13 : Int32))]) rfl ?_
          refine g_iloadN X0 hx hby d11_62 (pc' := 63) rfl rfl ?_
          refine g_iconst X0 hx hby d11_63 (pc' := 64) rfl (n := (4 : Int32)) (by first | rfl | decide) ?_
          refine g_icmple X0 hx hby d11_64 (pt := 74) (pf := 67) (by decide) (by decide) rfl (fun (h64 : ((((y.toUInt32 >>> ((8 : Int32) &&& 31).toUInt32).toInt32).toUInt32 >>> ((4 : Int32) &&& 31).toUInt32).toInt32).toInt ≤ 4) => ?_) (fun (h64 : 4 < ((((y.toUInt32 >>> ((8 : Int32) &&& 31).toUInt32).toInt32).toUInt32 >>> ((4 : Int32) &&& 31).toUInt32).toInt32).toInt) => ?_)
          · refine g_iloadN X0 hx hby d11_74 (pc' := 75) rfl rfl ?_
            refine g_iloadN X0 hx hby d11_75 (pc' := 76) rfl rfl ?_
            refine g_iconst X0 hx hby d11_76 (pc' := 77) rfl (n := (1 : Int32)) (by first | rfl | decide) ?_
            refine g_iushr X0 hx hby d11_77 (pc' := 78) rfl ?_
            refine g_iadd X0 hx hby d11_78 (pc' := 79) rfl ?_
            exact g_retI X0 hx hby hlk hret d11_79 (by decide) (by decide) (⟨⟨_, rfl, t, (by
                  have key : ∀ t : Fin 32, (0 < (own_pw t).toInt) → ((own_pw t).toInt ≤ 65536) → (256 < (own_pw t).toInt) → (16 < (((own_pw t).toUInt32 >>> ((8 : Int32) &&& 31).toUInt32).toInt32).toInt) → ((((((own_pw t).toUInt32 >>> ((8 : Int32) &&& 31).toUInt32).toInt32).toUInt32 >>> ((4 : Int32) &&& 31).toUInt32).toInt32).toInt ≤ 4) → (((13 : Int32) + (((((((own_pw t).toUInt32 >>> ((8 : Int32) &&& 31).toUInt32).toInt32).toUInt32 >>> ((4 : Int32) &&& 31).toUInt32).toInt32).toUInt32 >>> ((1 : Int32) &&& 31).toUInt32).toInt32))).toInt = (t.val : Int) := by decide +kernel
                  rw [hy]; exact key t (by rw [← hy]; exact h9) (by rw [← hy]; exact h23) (by rw [← hy]; exact h38) (by rw [← hy]; exact h52) (by rw [← hy]; exact h64)), hb, hl⟩, e0, rfl⟩)
          · refine g_iinc X0 hx hby d11_67 (pc' := 70) rfl rfl (Ls' := #[.val (.int ((((y.toUInt32 >>> ((8 : Int32) &&& 31).toUInt32).toInt32).toUInt32 >>> ((4 : Int32) &&& 31).toUInt32).toInt32)), .val (.int (15 : Int32))]) rfl ?_
            refine g_iloadN X0 hx hby d11_70 (pc' := 71) rfl rfl ?_
            refine g_iconst X0 hx hby d11_71 (pc' := 72) rfl (n := (2 : Int32)) (by first | rfl | decide) ?_
            refine g_iushr X0 hx hby d11_72 (pc' := 73) rfl ?_
            refine g_istoreN X0 hx hby d11_73 (pc' := 74) rfl (Ls' := #[.val (.int ((((((y.toUInt32 >>> ((8 : Int32) &&& 31).toUInt32).toInt32).toUInt32 >>> ((4 : Int32) &&& 31).toUInt32).toInt32).toUInt32 >>> ((2 : Int32) &&& 31).toUInt32).toInt32)), .val (.int (15 : Int32))]) rfl ?_
            refine g_iloadN X0 hx hby d11_74 (pc' := 75) rfl rfl ?_
            refine g_iloadN X0 hx hby d11_75 (pc' := 76) rfl rfl ?_
            refine g_iconst X0 hx hby d11_76 (pc' := 77) rfl (n := (1 : Int32)) (by first | rfl | decide) ?_
            refine g_iushr X0 hx hby d11_77 (pc' := 78) rfl ?_
            refine g_iadd X0 hx hby d11_78 (pc' := 79) rfl ?_
            exact g_retI X0 hx hby hlk hret d11_79 (by decide) (by decide) (⟨⟨_, rfl, t, (by
                  have key : ∀ t : Fin 32, (0 < (own_pw t).toInt) → ((own_pw t).toInt ≤ 65536) → (256 < (own_pw t).toInt) → (16 < (((own_pw t).toUInt32 >>> ((8 : Int32) &&& 31).toUInt32).toInt32).toInt) → (4 < (((((own_pw t).toUInt32 >>> ((8 : Int32) &&& 31).toUInt32).toInt32).toUInt32 >>> ((4 : Int32) &&& 31).toUInt32).toInt32).toInt) → (((15 : Int32) + (((((((((own_pw t).toUInt32 >>> ((8 : Int32) &&& 31).toUInt32).toInt32).toUInt32 >>> ((4 : Int32) &&& 31).toUInt32).toInt32).toUInt32 >>> ((2 : Int32) &&& 31).toUInt32).toInt32).toUInt32 >>> ((1 : Int32) &&& 31).toUInt32).toInt32))).toInt = (t.val : Int) := by decide +kernel
                  rw [hy]; exact key t (by rw [← hy]; exact h9) (by rw [← hy]; exact h23) (by rw [← hy]; exact h38) (by rw [← hy]; exact h52) (by rw [← hy]; exact h64)), hb, hl⟩, e0, rfl⟩)
    · refine g_iinc X0 hx hby d11_26 (pc' := 29) rfl rfl (Ls' := #[.val (.int y), .val (.int (17 : Int32))]) rfl ?_
      refine g_iloadN X0 hx hby d11_29 (pc' := 30) rfl rfl ?_
      refine g_bipush X0 hx hby d11_30 (pc' := 32) rfl (n := (16 : Int32)) (by first | rfl | decide) ?_
      refine g_iushr X0 hx hby d11_32 (pc' := 33) rfl ?_
      refine g_istoreN X0 hx hby d11_33 (pc' := 34) rfl (Ls' := #[.val (.int ((y.toUInt32 >>> ((16 : Int32) &&& 31).toUInt32).toInt32)), .val (.int (17 : Int32))]) rfl ?_
      refine g_iloadN X0 hx hby d11_34 (pc' := 35) rfl rfl ?_
      refine g_sipush X0 hx hby d11_35 (pc' := 38) rfl (n := (256 : Int32)) (by first | rfl | decide) ?_
      refine g_icmple X0 hx hby d11_38 (pt := 49) (pf := 41) (by decide) (by decide) rfl (fun (h38 : ((y.toUInt32 >>> ((16 : Int32) &&& 31).toUInt32).toInt32).toInt ≤ 256) => ?_) (fun (h38 : 256 < ((y.toUInt32 >>> ((16 : Int32) &&& 31).toUInt32).toInt32).toInt) => ?_)
      · refine g_iloadN X0 hx hby d11_49 (pc' := 50) rfl rfl ?_
        refine g_bipush X0 hx hby d11_50 (pc' := 52) rfl (n := (16 : Int32)) (by first | rfl | decide) ?_
        refine g_icmple X0 hx hby d11_52 (pt := 62) (pf := 55) (by decide) (by decide) rfl (fun (h52 : ((y.toUInt32 >>> ((16 : Int32) &&& 31).toUInt32).toInt32).toInt ≤ 16) => ?_) (fun (h52 : 16 < ((y.toUInt32 >>> ((16 : Int32) &&& 31).toUInt32).toInt32).toInt) => ?_)
        · refine g_iloadN X0 hx hby d11_62 (pc' := 63) rfl rfl ?_
          refine g_iconst X0 hx hby d11_63 (pc' := 64) rfl (n := (4 : Int32)) (by first | rfl | decide) ?_
          refine g_icmple X0 hx hby d11_64 (pt := 74) (pf := 67) (by decide) (by decide) rfl (fun (h64 : ((y.toUInt32 >>> ((16 : Int32) &&& 31).toUInt32).toInt32).toInt ≤ 4) => ?_) (fun (h64 : 4 < ((y.toUInt32 >>> ((16 : Int32) &&& 31).toUInt32).toInt32).toInt) => ?_)
          · refine g_iloadN X0 hx hby d11_74 (pc' := 75) rfl rfl ?_
            refine g_iloadN X0 hx hby d11_75 (pc' := 76) rfl rfl ?_
            refine g_iconst X0 hx hby d11_76 (pc' := 77) rfl (n := (1 : Int32)) (by first | rfl | decide) ?_
            refine g_iushr X0 hx hby d11_77 (pc' := 78) rfl ?_
            refine g_iadd X0 hx hby d11_78 (pc' := 79) rfl ?_
            exact g_retI X0 hx hby hlk hret d11_79 (by decide) (by decide) (⟨⟨_, rfl, t, (by
                  have key : ∀ t : Fin 32, (0 < (own_pw t).toInt) → (65536 < (own_pw t).toInt) → ((((own_pw t).toUInt32 >>> ((16 : Int32) &&& 31).toUInt32).toInt32).toInt ≤ 256) → ((((own_pw t).toUInt32 >>> ((16 : Int32) &&& 31).toUInt32).toInt32).toInt ≤ 16) → ((((own_pw t).toUInt32 >>> ((16 : Int32) &&& 31).toUInt32).toInt32).toInt ≤ 4) → (((17 : Int32) + (((((own_pw t).toUInt32 >>> ((16 : Int32) &&& 31).toUInt32).toInt32).toUInt32 >>> ((1 : Int32) &&& 31).toUInt32).toInt32))).toInt = (t.val : Int) := by decide +kernel
                  rw [hy]; exact key t (by rw [← hy]; exact h9) (by rw [← hy]; exact h23) (by rw [← hy]; exact h38) (by rw [← hy]; exact h52) (by rw [← hy]; exact h64)), hb, hl⟩, e0, rfl⟩)
          · refine g_iinc X0 hx hby d11_67 (pc' := 70) rfl rfl (Ls' := #[.val (.int ((y.toUInt32 >>> ((16 : Int32) &&& 31).toUInt32).toInt32)), .val (.int (19 : Int32))]) rfl ?_
            refine g_iloadN X0 hx hby d11_70 (pc' := 71) rfl rfl ?_
            refine g_iconst X0 hx hby d11_71 (pc' := 72) rfl (n := (2 : Int32)) (by first | rfl | decide) ?_
            refine g_iushr X0 hx hby d11_72 (pc' := 73) rfl ?_
            refine g_istoreN X0 hx hby d11_73 (pc' := 74) rfl (Ls' := #[.val (.int ((((y.toUInt32 >>> ((16 : Int32) &&& 31).toUInt32).toInt32).toUInt32 >>> ((2 : Int32) &&& 31).toUInt32).toInt32)), .val (.int (19 : Int32))]) rfl ?_
            refine g_iloadN X0 hx hby d11_74 (pc' := 75) rfl rfl ?_
            refine g_iloadN X0 hx hby d11_75 (pc' := 76) rfl rfl ?_
            refine g_iconst X0 hx hby d11_76 (pc' := 77) rfl (n := (1 : Int32)) (by first | rfl | decide) ?_
            refine g_iushr X0 hx hby d11_77 (pc' := 78) rfl ?_
            refine g_iadd X0 hx hby d11_78 (pc' := 79) rfl ?_
            exact g_retI X0 hx hby hlk hret d11_79 (by decide) (by decide) (⟨⟨_, rfl, t, (by
                  have key : ∀ t : Fin 32, (0 < (own_pw t).toInt) → (65536 < (own_pw t).toInt) → ((((own_pw t).toUInt32 >>> ((16 : Int32) &&& 31).toUInt32).toInt32).toInt ≤ 256) → ((((own_pw t).toUInt32 >>> ((16 : Int32) &&& 31).toUInt32).toInt32).toInt ≤ 16) → (4 < (((own_pw t).toUInt32 >>> ((16 : Int32) &&& 31).toUInt32).toInt32).toInt) → (((19 : Int32) + (((((((own_pw t).toUInt32 >>> ((16 : Int32) &&& 31).toUInt32).toInt32).toUInt32 >>> ((2 : Int32) &&& 31).toUInt32).toInt32).toUInt32 >>> ((1 : Int32) &&& 31).toUInt32).toInt32))).toInt = (t.val : Int) := by decide +kernel
                  rw [hy]; exact key t (by rw [← hy]; exact h9) (by rw [← hy]; exact h23) (by rw [← hy]; exact h38) (by rw [← hy]; exact h52) (by rw [← hy]; exact h64)), hb, hl⟩, e0, rfl⟩)
        · refine g_iinc X0 hx hby d11_55 (pc' := 58) rfl rfl (Ls' := #[.val (.int ((y.toUInt32 >>> ((16 : Int32) &&& 31).toUInt32).toInt32)), .val (.int (21 : Int32))]) rfl ?_
          refine g_iloadN X0 hx hby d11_58 (pc' := 59) rfl rfl ?_
          refine g_iconst X0 hx hby d11_59 (pc' := 60) rfl (n := (4 : Int32)) (by first | rfl | decide) ?_
          refine g_iushr X0 hx hby d11_60 (pc' := 61) rfl ?_
          refine g_istoreN X0 hx hby d11_61 (pc' := 62) rfl (Ls' := #[.val (.int ((((y.toUInt32 >>> ((16 : Int32) &&& 31).toUInt32).toInt32).toUInt32 >>> ((4 : Int32) &&& 31).toUInt32).toInt32)), .val (.int (21 : Int32))]) rfl ?_
          refine g_iloadN X0 hx hby d11_62 (pc' := 63) rfl rfl ?_
          refine g_iconst X0 hx hby d11_63 (pc' := 64) rfl (n := (4 : Int32)) (by first | rfl | decide) ?_
          refine g_icmple X0 hx hby d11_64 (pt := 74) (pf := 67) (by decide) (by decide) rfl (fun (h64 : ((((y.toUInt32 >>> ((16 : Int32) &&& 31).toUInt32).toInt32).toUInt32 >>> ((4 : Int32) &&& 31).toUInt32).toInt32).toInt ≤ 4) => ?_) (fun (h64 : 4 < ((((y.toUInt32 >>> ((16 : Int32) &&& 31).toUInt32).toInt32).toUInt32 >>> ((4 : Int32) &&& 31).toUInt32).toInt32).toInt) => ?_)
          · refine g_iloadN X0 hx hby d11_74 (pc' := 75) rfl rfl ?_
            refine g_iloadN X0 hx hby d11_75 (pc' := 76) rfl rfl ?_
            refine g_iconst X0 hx hby d11_76 (pc' := 77) rfl (n := (1 : Int32)) (by first | rfl | decide) ?_
            refine g_iushr X0 hx hby d11_77 (pc' := 78) rfl ?_
            refine g_iadd X0 hx hby d11_78 (pc' := 79) rfl ?_
            exact g_retI X0 hx hby hlk hret d11_79 (by decide) (by decide) (⟨⟨_, rfl, t, (by
                  have key : ∀ t : Fin 32, (0 < (own_pw t).toInt) → (65536 < (own_pw t).toInt) → ((((own_pw t).toUInt32 >>> ((16 : Int32) &&& 31).toUInt32).toInt32).toInt ≤ 256) → (16 < (((own_pw t).toUInt32 >>> ((16 : Int32) &&& 31).toUInt32).toInt32).toInt) → ((((((own_pw t).toUInt32 >>> ((16 : Int32) &&& 31).toUInt32).toInt32).toUInt32 >>> ((4 : Int32) &&& 31).toUInt32).toInt32).toInt ≤ 4) → (((21 : Int32) + (((((((own_pw t).toUInt32 >>> ((16 : Int32) &&& 31).toUInt32).toInt32).toUInt32 >>> ((4 : Int32) &&& 31).toUInt32).toInt32).toUInt32 >>> ((1 : Int32) &&& 31).toUInt32).toInt32))).toInt = (t.val : Int) := by decide +kernel
                  rw [hy]; exact key t (by rw [← hy]; exact h9) (by rw [← hy]; exact h23) (by rw [← hy]; exact h38) (by rw [← hy]; exact h52) (by rw [← hy]; exact h64)), hb, hl⟩, e0, rfl⟩)
          · refine g_iinc X0 hx hby d11_67 (pc' := 70) rfl rfl (Ls' := #[.val (.int ((((y.toUInt32 >>> ((16 : Int32) &&& 31).toUInt32).toInt32).toUInt32 >>> ((4 : Int32) &&& 31).toUInt32).toInt32)), .val (.int (23 : Int32))]) rfl ?_
            refine g_iloadN X0 hx hby d11_70 (pc' := 71) rfl rfl ?_
            refine g_iconst X0 hx hby d11_71 (pc' := 72) rfl (n := (2 : Int32)) (by first | rfl | decide) ?_
            refine g_iushr X0 hx hby d11_72 (pc' := 73) rfl ?_
            refine g_istoreN X0 hx hby d11_73 (pc' := 74) rfl (Ls' := #[.val (.int ((((((y.toUInt32 >>> ((16 : Int32) &&& 31).toUInt32).toInt32).toUInt32 >>> ((4 : Int32) &&& 31).toUInt32).toInt32).toUInt32 >>> ((2 : Int32) &&& 31).toUInt32).toInt32)), .val (.int (23 : Int32))]) rfl ?_
            refine g_iloadN X0 hx hby d11_74 (pc' := 75) rfl rfl ?_
            refine g_iloadN X0 hx hby d11_75 (pc' := 76) rfl rfl ?_
            refine g_iconst X0 hx hby d11_76 (pc' := 77) rfl (n := (1 : Int32)) (by first | rfl | decide) ?_
            refine g_iushr X0 hx hby d11_77 (pc' := 78) rfl ?_
            refine g_iadd X0 hx hby d11_78 (pc' := 79) rfl ?_
            exact g_retI X0 hx hby hlk hret d11_79 (by decide) (by decide) (⟨⟨_, rfl, t, (by
                  have key : ∀ t : Fin 32, (0 < (own_pw t).toInt) → (65536 < (own_pw t).toInt) → ((((own_pw t).toUInt32 >>> ((16 : Int32) &&& 31).toUInt32).toInt32).toInt ≤ 256) → (16 < (((own_pw t).toUInt32 >>> ((16 : Int32) &&& 31).toUInt32).toInt32).toInt) → (4 < (((((own_pw t).toUInt32 >>> ((16 : Int32) &&& 31).toUInt32).toInt32).toUInt32 >>> ((4 : Int32) &&& 31).toUInt32).toInt32).toInt) → (((23 : Int32) + (((((((((own_pw t).toUInt32 >>> ((16 : Int32) &&& 31).toUInt32).toInt32).toUInt32 >>> ((4 : Int32) &&& 31).toUInt32).toInt32).toUInt32 >>> ((2 : Int32) &&& 31).toUInt32).toInt32).toUInt32 >>> ((1 : Int32) &&& 31).toUInt32).toInt32))).toInt = (t.val : Int) := by decide +kernel
                  rw [hy]; exact key t (by rw [← hy]; exact h9) (by rw [← hy]; exact h23) (by rw [← hy]; exact h38) (by rw [← hy]; exact h52) (by rw [← hy]; exact h64)), hb, hl⟩, e0, rfl⟩)
      · refine g_iinc X0 hx hby d11_41 (pc' := 44) rfl rfl (Ls' := #[.val (.int ((y.toUInt32 >>> ((16 : Int32) &&& 31).toUInt32).toInt32)), .val (.int (25 : Int32))]) rfl ?_
        refine g_iloadN X0 hx hby d11_44 (pc' := 45) rfl rfl ?_
        refine g_bipush X0 hx hby d11_45 (pc' := 47) rfl (n := (8 : Int32)) (by first | rfl | decide) ?_
        refine g_iushr X0 hx hby d11_47 (pc' := 48) rfl ?_
        refine g_istoreN X0 hx hby d11_48 (pc' := 49) rfl (Ls' := #[.val (.int ((((y.toUInt32 >>> ((16 : Int32) &&& 31).toUInt32).toInt32).toUInt32 >>> ((8 : Int32) &&& 31).toUInt32).toInt32)), .val (.int (25 : Int32))]) rfl ?_
        refine g_iloadN X0 hx hby d11_49 (pc' := 50) rfl rfl ?_
        refine g_bipush X0 hx hby d11_50 (pc' := 52) rfl (n := (16 : Int32)) (by first | rfl | decide) ?_
        refine g_icmple X0 hx hby d11_52 (pt := 62) (pf := 55) (by decide) (by decide) rfl (fun (h52 : ((((y.toUInt32 >>> ((16 : Int32) &&& 31).toUInt32).toInt32).toUInt32 >>> ((8 : Int32) &&& 31).toUInt32).toInt32).toInt ≤ 16) => ?_) (fun (h52 : 16 < ((((y.toUInt32 >>> ((16 : Int32) &&& 31).toUInt32).toInt32).toUInt32 >>> ((8 : Int32) &&& 31).toUInt32).toInt32).toInt) => ?_)
        · refine g_iloadN X0 hx hby d11_62 (pc' := 63) rfl rfl ?_
          refine g_iconst X0 hx hby d11_63 (pc' := 64) rfl (n := (4 : Int32)) (by first | rfl | decide) ?_
          refine g_icmple X0 hx hby d11_64 (pt := 74) (pf := 67) (by decide) (by decide) rfl (fun (h64 : ((((y.toUInt32 >>> ((16 : Int32) &&& 31).toUInt32).toInt32).toUInt32 >>> ((8 : Int32) &&& 31).toUInt32).toInt32).toInt ≤ 4) => ?_) (fun (h64 : 4 < ((((y.toUInt32 >>> ((16 : Int32) &&& 31).toUInt32).toInt32).toUInt32 >>> ((8 : Int32) &&& 31).toUInt32).toInt32).toInt) => ?_)
          · refine g_iloadN X0 hx hby d11_74 (pc' := 75) rfl rfl ?_
            refine g_iloadN X0 hx hby d11_75 (pc' := 76) rfl rfl ?_
            refine g_iconst X0 hx hby d11_76 (pc' := 77) rfl (n := (1 : Int32)) (by first | rfl | decide) ?_
            refine g_iushr X0 hx hby d11_77 (pc' := 78) rfl ?_
            refine g_iadd X0 hx hby d11_78 (pc' := 79) rfl ?_
            exact g_retI X0 hx hby hlk hret d11_79 (by decide) (by decide) (⟨⟨_, rfl, t, (by
                  have key : ∀ t : Fin 32, (0 < (own_pw t).toInt) → (65536 < (own_pw t).toInt) → (256 < (((own_pw t).toUInt32 >>> ((16 : Int32) &&& 31).toUInt32).toInt32).toInt) → ((((((own_pw t).toUInt32 >>> ((16 : Int32) &&& 31).toUInt32).toInt32).toUInt32 >>> ((8 : Int32) &&& 31).toUInt32).toInt32).toInt ≤ 16) → ((((((own_pw t).toUInt32 >>> ((16 : Int32) &&& 31).toUInt32).toInt32).toUInt32 >>> ((8 : Int32) &&& 31).toUInt32).toInt32).toInt ≤ 4) → (((25 : Int32) + (((((((own_pw t).toUInt32 >>> ((16 : Int32) &&& 31).toUInt32).toInt32).toUInt32 >>> ((8 : Int32) &&& 31).toUInt32).toInt32).toUInt32 >>> ((1 : Int32) &&& 31).toUInt32).toInt32))).toInt = (t.val : Int) := by decide +kernel
                  rw [hy]; exact key t (by rw [← hy]; exact h9) (by rw [← hy]; exact h23) (by rw [← hy]; exact h38) (by rw [← hy]; exact h52) (by rw [← hy]; exact h64)), hb, hl⟩, e0, rfl⟩)
          · refine g_iinc X0 hx hby d11_67 (pc' := 70) rfl rfl (Ls' := #[.val (.int ((((y.toUInt32 >>> ((16 : Int32) &&& 31).toUInt32).toInt32).toUInt32 >>> ((8 : Int32) &&& 31).toUInt32).toInt32)), .val (.int (27 : Int32))]) rfl ?_
            refine g_iloadN X0 hx hby d11_70 (pc' := 71) rfl rfl ?_
            refine g_iconst X0 hx hby d11_71 (pc' := 72) rfl (n := (2 : Int32)) (by first | rfl | decide) ?_
            refine g_iushr X0 hx hby d11_72 (pc' := 73) rfl ?_
            refine g_istoreN X0 hx hby d11_73 (pc' := 74) rfl (Ls' := #[.val (.int ((((((y.toUInt32 >>> ((16 : Int32) &&& 31).toUInt32).toInt32).toUInt32 >>> ((8 : Int32) &&& 31).toUInt32).toInt32).toUInt32 >>> ((2 : Int32) &&& 31).toUInt32).toInt32)), .val (.int (27 : Int32))]) rfl ?_
            refine g_iloadN X0 hx hby d11_74 (pc' := 75) rfl rfl ?_
            refine g_iloadN X0 hx hby d11_75 (pc' := 76) rfl rfl ?_
            refine g_iconst X0 hx hby d11_76 (pc' := 77) rfl (n := (1 : Int32)) (by first | rfl | decide) ?_
            refine g_iushr X0 hx hby d11_77 (pc' := 78) rfl ?_
            refine g_iadd X0 hx hby d11_78 (pc' := 79) rfl ?_
            exact g_retI X0 hx hby hlk hret d11_79 (by decide) (by decide) (⟨⟨_, rfl, t, (by
                  have key : ∀ t : Fin 32, (0 < (own_pw t).toInt) → (65536 < (own_pw t).toInt) → (256 < (((own_pw t).toUInt32 >>> ((16 : Int32) &&& 31).toUInt32).toInt32).toInt) → ((((((own_pw t).toUInt32 >>> ((16 : Int32) &&& 31).toUInt32).toInt32).toUInt32 >>> ((8 : Int32) &&& 31).toUInt32).toInt32).toInt ≤ 16) → (4 < (((((own_pw t).toUInt32 >>> ((16 : Int32) &&& 31).toUInt32).toInt32).toUInt32 >>> ((8 : Int32) &&& 31).toUInt32).toInt32).toInt) → (((27 : Int32) + (((((((((own_pw t).toUInt32 >>> ((16 : Int32) &&& 31).toUInt32).toInt32).toUInt32 >>> ((8 : Int32) &&& 31).toUInt32).toInt32).toUInt32 >>> ((2 : Int32) &&& 31).toUInt32).toInt32).toUInt32 >>> ((1 : Int32) &&& 31).toUInt32).toInt32))).toInt = (t.val : Int) := by decide +kernel
                  rw [hy]; exact key t (by rw [← hy]; exact h9) (by rw [← hy]; exact h23) (by rw [← hy]; exact h38) (by rw [← hy]; exact h52) (by rw [← hy]; exact h64)), hb, hl⟩, e0, rfl⟩)
        · refine g_iinc X0 hx hby d11_55 (pc' := 58) rfl rfl (Ls' := #[.val (.int ((((y.toUInt32 >>> ((16 : Int32) &&& 31).toUInt32).toInt32).toUInt32 >>> ((8 : Int32) &&& 31).toUInt32).toInt32)), .val (.int (29 : Int32))]) rfl ?_
          refine g_iloadN X0 hx hby d11_58 (pc' := 59) rfl rfl ?_
          refine g_iconst X0 hx hby d11_59 (pc' := 60) rfl (n := (4 : Int32)) (by first | rfl | decide) ?_
          refine g_iushr X0 hx hby d11_60 (pc' := 61) rfl ?_
          refine g_istoreN X0 hx hby d11_61 (pc' := 62) rfl (Ls' := #[.val (.int ((((((y.toUInt32 >>> ((16 : Int32) &&& 31).toUInt32).toInt32).toUInt32 >>> ((8 : Int32) &&& 31).toUInt32).toInt32).toUInt32 >>> ((4 : Int32) &&& 31).toUInt32).toInt32)), .val (.int (29 : Int32))]) rfl ?_
          refine g_iloadN X0 hx hby d11_62 (pc' := 63) rfl rfl ?_
          refine g_iconst X0 hx hby d11_63 (pc' := 64) rfl (n := (4 : Int32)) (by first | rfl | decide) ?_
          refine g_icmple X0 hx hby d11_64 (pt := 74) (pf := 67) (by decide) (by decide) rfl (fun (h64 : ((((((y.toUInt32 >>> ((16 : Int32) &&& 31).toUInt32).toInt32).toUInt32 >>> ((8 : Int32) &&& 31).toUInt32).toInt32).toUInt32 >>> ((4 : Int32) &&& 31).toUInt32).toInt32).toInt ≤ 4) => ?_) (fun (h64 : 4 < ((((((y.toUInt32 >>> ((16 : Int32) &&& 31).toUInt32).toInt32).toUInt32 >>> ((8 : Int32) &&& 31).toUInt32).toInt32).toUInt32 >>> ((4 : Int32) &&& 31).toUInt32).toInt32).toInt) => ?_)
          · refine g_iloadN X0 hx hby d11_74 (pc' := 75) rfl rfl ?_
            refine g_iloadN X0 hx hby d11_75 (pc' := 76) rfl rfl ?_
            refine g_iconst X0 hx hby d11_76 (pc' := 77) rfl (n := (1 : Int32)) (by first | rfl | decide) ?_
            refine g_iushr X0 hx hby d11_77 (pc' := 78) rfl ?_
            refine g_iadd X0 hx hby d11_78 (pc' := 79) rfl ?_
            exact g_retI X0 hx hby hlk hret d11_79 (by decide) (by decide) (⟨⟨_, rfl, t, (by
                  have key : ∀ t : Fin 32, (0 < (own_pw t).toInt) → (65536 < (own_pw t).toInt) → (256 < (((own_pw t).toUInt32 >>> ((16 : Int32) &&& 31).toUInt32).toInt32).toInt) → (16 < (((((own_pw t).toUInt32 >>> ((16 : Int32) &&& 31).toUInt32).toInt32).toUInt32 >>> ((8 : Int32) &&& 31).toUInt32).toInt32).toInt) → ((((((((own_pw t).toUInt32 >>> ((16 : Int32) &&& 31).toUInt32).toInt32).toUInt32 >>> ((8 : Int32) &&& 31).toUInt32).toInt32).toUInt32 >>> ((4 : Int32) &&& 31).toUInt32).toInt32).toInt ≤ 4) → (((29 : Int32) + (((((((((own_pw t).toUInt32 >>> ((16 : Int32) &&& 31).toUInt32).toInt32).toUInt32 >>> ((8 : Int32) &&& 31).toUInt32).toInt32).toUInt32 >>> ((4 : Int32) &&& 31).toUInt32).toInt32).toUInt32 >>> ((1 : Int32) &&& 31).toUInt32).toInt32))).toInt = (t.val : Int) := by decide +kernel
                  rw [hy]; exact key t (by rw [← hy]; exact h9) (by rw [← hy]; exact h23) (by rw [← hy]; exact h38) (by rw [← hy]; exact h52) (by rw [← hy]; exact h64)), hb, hl⟩, e0, rfl⟩)
          · refine g_iinc X0 hx hby d11_67 (pc' := 70) rfl rfl (Ls' := #[.val (.int ((((((y.toUInt32 >>> ((16 : Int32) &&& 31).toUInt32).toInt32).toUInt32 >>> ((8 : Int32) &&& 31).toUInt32).toInt32).toUInt32 >>> ((4 : Int32) &&& 31).toUInt32).toInt32)), .val (.int (31 : Int32))]) rfl ?_
            refine g_iloadN X0 hx hby d11_70 (pc' := 71) rfl rfl ?_
            refine g_iconst X0 hx hby d11_71 (pc' := 72) rfl (n := (2 : Int32)) (by first | rfl | decide) ?_
            refine g_iushr X0 hx hby d11_72 (pc' := 73) rfl ?_
            refine g_istoreN X0 hx hby d11_73 (pc' := 74) rfl (Ls' := #[.val (.int ((((((((y.toUInt32 >>> ((16 : Int32) &&& 31).toUInt32).toInt32).toUInt32 >>> ((8 : Int32) &&& 31).toUInt32).toInt32).toUInt32 >>> ((4 : Int32) &&& 31).toUInt32).toInt32).toUInt32 >>> ((2 : Int32) &&& 31).toUInt32).toInt32)), .val (.int (31 : Int32))]) rfl ?_
            refine g_iloadN X0 hx hby d11_74 (pc' := 75) rfl rfl ?_
            refine g_iloadN X0 hx hby d11_75 (pc' := 76) rfl rfl ?_
            refine g_iconst X0 hx hby d11_76 (pc' := 77) rfl (n := (1 : Int32)) (by first | rfl | decide) ?_
            refine g_iushr X0 hx hby d11_77 (pc' := 78) rfl ?_
            refine g_iadd X0 hx hby d11_78 (pc' := 79) rfl ?_
            exact g_retI X0 hx hby hlk hret d11_79 (by decide) (by decide) (⟨⟨_, rfl, t, (by
                  have key : ∀ t : Fin 32, (0 < (own_pw t).toInt) → (65536 < (own_pw t).toInt) → (256 < (((own_pw t).toUInt32 >>> ((16 : Int32) &&& 31).toUInt32).toInt32).toInt) → (16 < (((((own_pw t).toUInt32 >>> ((16 : Int32) &&& 31).toUInt32).toInt32).toUInt32 >>> ((8 : Int32) &&& 31).toUInt32).toInt32).toInt) → (4 < (((((((own_pw t).toUInt32 >>> ((16 : Int32) &&& 31).toUInt32).toInt32).toUInt32 >>> ((8 : Int32) &&& 31).toUInt32).toInt32).toUInt32 >>> ((4 : Int32) &&& 31).toUInt32).toInt32).toInt) → (((31 : Int32) + (((((((((((own_pw t).toUInt32 >>> ((16 : Int32) &&& 31).toUInt32).toInt32).toUInt32 >>> ((8 : Int32) &&& 31).toUInt32).toInt32).toUInt32 >>> ((4 : Int32) &&& 31).toUInt32).toInt32).toUInt32 >>> ((2 : Int32) &&& 31).toUInt32).toInt32).toUInt32 >>> ((1 : Int32) &&& 31).toUInt32).toInt32))).toInt = (t.val : Int) := by decide +kernel
                  rw [hy]; exact key t (by rw [← hy]; exact h9) (by rw [← hy]; exact h23) (by rw [← hy]; exact h38) (by rw [← hy]; exact h52) (by rw [← hy]; exact h64)), hb, hl⟩, e0, rfl⟩)
  · refine g_iloadN X0 hx hby d11_12 (pc' := 13) rfl rfl ?_
    refine g_bipush X0 hx hby d11_13 (pc' := 15) rfl (n := (32 : Int32)) (by first | rfl | decide) ?_
    refine g_iand X0 hx hby d11_15 (pc' := 16) rfl ?_
    exact g_retI X0 hx hby hlk hret d11_16 (by decide) (by decide) (⟨⟨_, rfl, t, (by
          have key : ∀ t : Fin 32, ((own_pw t).toInt ≤ 0) → (((own_pw t) &&& (32 : Int32))).toInt = (t.val : Int) := by decide +kernel
          rw [hy]; exact key t (by rw [← hy]; exact h9)), hb, hl⟩, e0, rfl⟩)
theorem ef_10 (m : MethodId) (u : Int64) : entryFrame m #[(.long u)] 3 = mkF m 0 #[.val (.long u), .second, .unset] [] := by first | (simp [entryFrame, mkF, argsToLocals, Value.category]; done) | rfl
theorem pn_10 : plainName "java/lang/Long" = true := by first | (simp [plainName, overriddenIn]; done) | decide +kernel
theorem d10_0 : decode jdk_35_method_49_code 0 = .ok (.lload_n 0, 1) := by decide +kernel
theorem d10_1 : decode jdk_35_method_49_code 1 = .ok (.l2i, 1) := by decide +kernel
theorem d10_2 : decode jdk_35_method_49_code 2 = .ok (.istore_n 2, 1) := by decide +kernel
theorem d10_3 : decode jdk_35_method_49_code 3 = .ok (.iload_n 2, 1) := by decide +kernel
theorem d10_4 : decode jdk_35_method_49_code 4 = .ok (.ifCond .ne 17, 3) := by decide +kernel
theorem d10_21 : decode jdk_35_method_49_code 21 = .ok (.iload_n 2, 1) := by decide +kernel
theorem d10_22 : decode jdk_35_method_49_code 22 = .ok (.invokestatic 311, 3) := by decide +kernel
theorem pd__I_I_227 : parseMethodDescriptor "(I)I" = some ⟨[.int], some .int⟩ := by decide +kernel
theorem d10_25 : decode jdk_35_method_49_code 25 = .ok (.ireturn, 1) := by decide +kernel
theorem d10_7 : decode jdk_35_method_49_code 7 = .ok (.bipush 32, 2) := by decide +kernel
theorem d10_9 : decode jdk_35_method_49_code 9 = .ok (.lload_n 0, 1) := by decide +kernel
theorem d10_10 : decode jdk_35_method_49_code 10 = .ok (.bipush 32, 2) := by decide +kernel
theorem d10_12 : decode jdk_35_method_49_code 12 = .ok (.lushr, 1) := by decide +kernel
theorem d10_13 : decode jdk_35_method_49_code 13 = .ok (.l2i, 1) := by decide +kernel
theorem d10_14 : decode jdk_35_method_49_code 14 = .ok (.invokestatic 311, 3) := by decide +kernel
theorem d10_17 : decode jdk_35_method_49_code 17 = .ok (.iadd, 1) := by decide +kernel
theorem d10_18 : decode jdk_35_method_49_code 18 = .ok (.goto 7, 3) := by decide +kernel
set_option maxRecDepth 65536 in
set_option maxHeartbeats 40000000 in
theorem rm10 (l : Launch) (Z : State) (a0 : Array Value) (hw : ∀ d ∈ tables_1, d.before a0 Z = true) (u : Int64) (h0 : Heap) (hu : ¬ u = 0) :
    Ct l Z (⟨"java/lang/Long", "numberOfTrailingZeros", "(J)I"⟩ : MethodName) jdk_35_method_49_code 3 (some .int) ({ frames := 1, cells := 0, slots := 0, locals := 14 } : Room) #[(.long u)] h0 (QI h0 (fun r => own_tz u r.toInt)) := by
  refine own_met (plainFor_of_name pn_10) (fun m => ef_10 m u) ?_
  intro p e s m below meth c T0 X0 hx hby hml hown hnm hret hlk hZ e0
  refine g_lloadN X0 hx hby d10_0 (pc' := 1) rfl rfl ?_
  refine g_l2i X0 hx hby d10_1 (pc' := 2) rfl ?_
  refine g_nameI (fun lo h_lo => ?_)
  refine g_istoreN X0 hx hby d10_2 (pc' := 3) rfl (Ls' := #[.val (.long u), .second, .val (.int lo)]) rfl ?_
  refine g_iloadN X0 hx hby d10_3 (pc' := 4) rfl rfl ?_
  refine g_ifne X0 hx hby d10_4 (pt := 21) (pf := 7) (by decide) (by decide) rfl (fun (h4 : ¬ lo = (0 : Int32)) => ?_) (fun (h4 : lo = (0 : Int32)) => ?_)
  · have h4i : ¬ lo.toInt = 0 := fun q => h4 (Int32.toInt_inj.mp q)
    refine g_iloadN X0 hx hby d10_21 (pc' := 22) rfl rfl ?_
    refine g_static X0 hx hby hZ hown hml rfl (hw _ (List.mem_of_getElem? (i := 51) rfl)) (hw _ (List.mem_of_getElem? (i := 52) rfl)) (hw _ (List.mem_of_getElem? (i := 53) rfl)) (hw _ (List.mem_of_getElem? (i := 54) rfl)) (by decide) e0 (rm11 l Z a0 hw lo h0 h4) pd__I_I_227 (argsL := [(.int lo)]) (rest := []) rfl rfl rfl d10_22 (pc' := 25) rfl (by decide) (Nat.le_of_ble_eq_true rfl) (by decide) (by decide) ?_
    intro Tp22 vp22 Lp22 Xp22 qp22
    obtain ⟨⟨rp22, rfl, h_rp22⟩, ep22, rfl⟩ := qp22
    rw [List.append_nil] at Xp22
    replace Xp22 : Stand p l e ({ frames := 1, cells := 0, slots := 0, locals := 14 } : Room) s m _ below meth c Tp22 _ 0 0 := Xp22
    show Go p e below s (QI h0 (fun r => own_tz u r.toInt)) ({ frames := 1, cells := 0, slots := 0, locals := 14 } : Room).cells ({ frames := 1, cells := 0, slots := 0, locals := 14 } : Room).slots m Tp22 25 #[.val (.long u), .second, .val (.int lo)] [(.int rp22)]
    exact g_retI Xp22 hx hby hlk hret d10_25 (by decide) (by decide) (⟨⟨_, rfl, by
          obtain ⟨t, e1, b1, l1⟩ := h_rp22
          have := t.isLt
          rw [h_lo] at b1 l1
          refine ⟨by omega, by omega, ?_, fun j hj => ?_⟩
          · rw [e1, show ((t.val : Int)).toNat = t.val by omega, ← own_lo u t.val this]; exact b1
          · rw [← own_lo u j (by omega)]; exact l1 j (by omega)⟩, ep22, rfl⟩)
  · have h4i : lo.toInt = 0 := congrArg Int32.toInt h4
    have hlo : u.toInt32 = 0 := h_lo.symm.trans h4
    refine g_bipush X0 hx hby d10_7 (pc' := 9) rfl (n := (32 : Int32)) (by first | rfl | decide) ?_
    refine g_lloadN X0 hx hby d10_9 (pc' := 10) rfl rfl ?_
    refine g_bipush X0 hx hby d10_10 (pc' := 12) rfl (n := (32 : Int32)) (by first | rfl | decide) ?_
    refine g_lushr X0 hx hby d10_12 (pc' := 13) rfl ?_
    refine g_l2i X0 hx hby d10_13 (pc' := 14) rfl ?_
    refine g_static X0 hx hby hZ hown hml rfl (hw _ (List.mem_of_getElem? (i := 51) rfl)) (hw _ (List.mem_of_getElem? (i := 52) rfl)) (hw _ (List.mem_of_getElem? (i := 53) rfl)) (hw _ (List.mem_of_getElem? (i := 54) rfl)) (by decide) e0 (rm11 l Z a0 hw ((XT.ushrL u (32 : Int32)).toInt32) h0 (fun q => hu (own_halves hlo q))) pd__I_I_227 (argsL := [(.int ((XT.ushrL u (32 : Int32)).toInt32))]) (rest := [(.int (32 : Int32))]) rfl rfl rfl d10_14 (pc' := 17) rfl (by decide) (Nat.le_of_ble_eq_true rfl) (by decide) (by decide) ?_
    intro Tp14 vp14 Lp14 Xp14 qp14
    obtain ⟨⟨rp14, rfl, h_rp14⟩, ep14, rfl⟩ := qp14
    rw [List.append_nil] at Xp14
    replace Xp14 : Stand p l e ({ frames := 1, cells := 0, slots := 0, locals := 14 } : Room) s m _ below meth c Tp14 _ 0 0 := Xp14
    show Go p e below s (QI h0 (fun r => own_tz u r.toInt)) ({ frames := 1, cells := 0, slots := 0, locals := 14 } : Room).cells ({ frames := 1, cells := 0, slots := 0, locals := 14 } : Room).slots m Tp14 17 #[.val (.long u), .second, .val (.int lo)] [(.int rp14), (.int (32 : Int32))]
    refine g_iadd Xp14 hx hby d10_17 (pc' := 18) rfl ?_
    refine g_goto Xp14 hx hby d10_18 (pc' := 25) (by decide) (by decide) ?_
    exact g_retI Xp14 hx hby hlk hret d10_25 (by decide) (by decide) (⟨⟨_, rfl, by
          obtain ⟨t, e1, b1, l1⟩ := h_rp14
          have e2 := own_add 32 rp14 (by rw [e1]; show (-2147483648 : Int) ≤ 32 + _; omega) (by rw [e1]; show (32 : Int) + _ < 2147483648; have := t.isLt; omega)
          have e3 : (32 : Int32).toInt = 32 := rfl
          have := t.isLt
          refine ⟨by omega, by omega, ?_, fun j hj => ?_⟩
          · rw [e2, e3, e1, show ((32 : Int) + t.val).toNat = 32 + t.val by omega, ← own_hi u t.val this]; exact b1
          · by_cases q : j < 32
            · rw [← own_lo u j q, hlo]; unfold own_bi; simp
            · have := own_hi u (j - 32) (by omega)
              rw [show 32 + (j - 32) = j by omega] at this
              rw [← this]; exact l1 _ (by omega)⟩, ep14, rfl⟩)
theorem ef_13 (m : MethodId) (u : Int32) : entryFrame m #[(.int u)] 2 = mkF m 0 #[.val (.int u), .unset] [] := by first | (simp [entryFrame, mkF, argsToLocals, Value.category]; done) | rfl
theorem pn_13 : plainName "java/lang/Integer" = true := by first | (simp [plainName, overriddenIn]; done) | decide +kernel
theorem d13_0 : decode jdk_33_method_47_code 0 = .ok (.iload_n 0, 1) := by decide +kernel
theorem d13_1 : decode jdk_33_method_47_code 1 = .ok (.ifCond .gt 14, 3) := by decide +kernel
theorem d13_15 : decode jdk_33_method_47_code 15 = .ok (.bipush 31, 2) := by decide +kernel
theorem d13_17 : decode jdk_33_method_47_code 17 = .ok (.istore_n 1, 1) := by decide +kernel
theorem d13_18 : decode jdk_33_method_47_code 18 = .ok (.iload_n 0, 1) := by decide +kernel
theorem d13_19 : decode jdk_33_method_47_code 19 = .ok (.ldc_w 264, 3) := by decide +kernel
theorem d13_22 : decode jdk_33_method_47_code 22 = .ok (.if_icmp .lt 11, 3) := by decide +kernel
theorem d13_33 : decode jdk_33_method_47_code 33 = .ok (.iload_n 0, 1) := by decide +kernel
theorem d13_34 : decode jdk_33_method_47_code 34 = .ok (.sipush 256, 3) := by decide +kernel
theorem d13_37 : decode jdk_33_method_47_code 37 = .ok (.if_icmp .lt 11, 3) := by decide +kernel
theorem d13_48 : decode jdk_33_method_47_code 48 = .ok (.iload_n 0, 1) := by decide +kernel
theorem d13_49 : decode jdk_33_method_47_code 49 = .ok (.bipush 16, 2) := by decide +kernel
theorem d13_51 : decode jdk_33_method_47_code 51 = .ok (.if_icmp .lt 10, 3) := by decide +kernel
theorem d13_61 : decode jdk_33_method_47_code 61 = .ok (.iload_n 0, 1) := by decide +kernel
theorem d13_62 : decode jdk_33_method_47_code 62 = .ok (.iconst 4, 1) := by decide +kernel
theorem d13_63 : decode jdk_33_method_47_code 63 = .ok (.if_icmp .lt 10, 3) := by decide +kernel
theorem d13_73 : decode jdk_33_method_47_code 73 = .ok (.iload_n 1, 1) := by decide +kernel
theorem d13_74 : decode jdk_33_method_47_code 74 = .ok (.iload_n 0, 1) := by decide +kernel
theorem d13_75 : decode jdk_33_method_47_code 75 = .ok (.iconst 1, 1) := by decide +kernel
theorem d13_76 : decode jdk_33_method_47_code 76 = .ok (.iushr, 1) := by decide +kernel
theorem d13_77 : decode jdk_33_method_47_code 77 = .ok (.isub, 1) := by decide +kernel
theorem d13_78 : decode jdk_33_method_47_code 78 = .ok (.ireturn, 1) := by decide +kernel
theorem d13_66 : decode jdk_33_method_47_code 66 = .ok (.iinc 1 (-2), 3) := by decide +kernel
theorem d13_69 : decode jdk_33_method_47_code 69 = .ok (.iload_n 0, 1) := by decide +kernel
theorem d13_70 : decode jdk_33_method_47_code 70 = .ok (.iconst 2, 1) := by decide +kernel
theorem d13_71 : decode jdk_33_method_47_code 71 = .ok (.iushr, 1) := by decide +kernel
theorem d13_72 : decode jdk_33_method_47_code 72 = .ok (.istore_n 0, 1) := by decide +kernel
theorem d13_54 : decode jdk_33_method_47_code 54 = .ok (.iinc 1 (-4), 3) := by decide +kernel
theorem d13_57 : decode jdk_33_method_47_code 57 = .ok (.iload_n 0, 1) := by decide +kernel
theorem d13_58 : decode jdk_33_method_47_code 58 = .ok (.iconst 4, 1) := by decide +kernel
theorem d13_59 : decode jdk_33_method_47_code 59 = .ok (.iushr, 1) := by decide +kernel
theorem d13_60 : decode jdk_33_method_47_code 60 = .ok (.istore_n 0, 1) := by decide +kernel
theorem d13_40 : decode jdk_33_method_47_code 40 = .ok (.iinc 1 (-8), 3) := by decide +kernel
theorem d13_43 : decode jdk_33_method_47_code 43 = .ok (.iload_n 0, 1) := by decide +kernel
theorem d13_44 : decode jdk_33_method_47_code 44 = .ok (.bipush 8, 2) := by decide +kernel
theorem d13_46 : decode jdk_33_method_47_code 46 = .ok (.iushr, 1) := by decide +kernel
theorem d13_47 : decode jdk_33_method_47_code 47 = .ok (.istore_n 0, 1) := by decide +kernel
theorem d13_25 : decode jdk_33_method_47_code 25 = .ok (.iinc 1 (-16), 3) := by decide +kernel
theorem d13_28 : decode jdk_33_method_47_code 28 = .ok (.iload_n 0, 1) := by decide +kernel
theorem d13_29 : decode jdk_33_method_47_code 29 = .ok (.bipush 16, 2) := by decide +kernel
theorem d13_31 : decode jdk_33_method_47_code 31 = .ok (.iushr, 1) := by decide +kernel
theorem d13_32 : decode jdk_33_method_47_code 32 = .ok (.istore_n 0, 1) := by decide +kernel
theorem d13_4 : decode jdk_33_method_47_code 4 = .ok (.iload_n 0, 1) := by decide +kernel
theorem d13_5 : decode jdk_33_method_47_code 5 = .ok (.ifCond .ne 8, 3) := by decide +kernel
theorem d13_13 : decode jdk_33_method_47_code 13 = .ok (.iconst 0, 1) := by decide +kernel
theorem d13_14 : decode jdk_33_method_47_code 14 = .ok (.ireturn, 1) := by decide +kernel
set_option maxRecDepth 65536 in
set_option maxHeartbeats 40000000 in
theorem rm13 (l : Launch) (Z : State) (a0 : Array Value) (hw : ∀ d ∈ tables_1, d.before a0 Z = true) (u : Int32) (h0 : Heap) (hu : ¬ u = 0) :
    Ct l Z (⟨"java/lang/Integer", "numberOfLeadingZeros", "(I)I"⟩ : MethodName) jdk_33_method_47_code 2 (some .int) ({ frames := 0, cells := 0, slots := 0, locals := 0 } : Room) #[(.int u)] h0 (QI h0 (fun r => ∃ t : Nat, t < 32 ∧ r.toInt = 31 - (t : Int) ∧ own_bi u t = true ∧ ∀ j, t < j → own_bi u j = false)) := by
  refine own_met (plainFor_of_name pn_13) (fun m => ef_13 m u) ?_
  intro p e s m below meth c T0 X0 hx hby hml hown hnm hret hlk hZ e0
  have hru := rng32 u
  refine g_iloadN X0 hx hby d13_0 (pc' := 1) rfl rfl ?_
  refine g_ifgt X0 hx hby d13_1 (pt := 15) (pf := 4) (by decide) (by decide) rfl (fun (h1 : 0 < u.toInt) => ?_) (fun (h1 : u.toInt ≤ 0) => ?_)
  · refine g_bipush X0 hx hby d13_15 (pc' := 17) rfl (n := (31 : Int32)) (by first | rfl | decide) ?_
    refine g_istoreN X0 hx hby d13_17 (pc' := 18) rfl (Ls' := #[.val (.int u), .val (.int (31 : Int32))]) rfl ?_
    refine g_iloadN X0 hx hby d13_18 (pc' := 19) rfl rfl ?_
    refine g_ldcwI X0 hx hby hZ hown (hw _ (List.mem_of_getElem? (i := 55) rfl)) d13_19 (pc' := 22) rfl ?_
    refine g_icmplt X0 hx hby d13_22 (pt := 33) (pf := 25) (by decide) (by decide) rfl (fun (h22 : u.toInt < 65536) => ?_) (fun (h22 : 65536 ≤ u.toInt) => ?_)
    · refine g_iloadN X0 hx hby d13_33 (pc' := 34) rfl rfl ?_
      refine g_sipush X0 hx hby d13_34 (pc' := 37) rfl (n := (256 : Int32)) (by first | rfl | decide) ?_
      refine g_icmplt X0 hx hby d13_37 (pt := 48) (pf := 40) (by decide) (by decide) rfl (fun (h37 : u.toInt < 256) => ?_) (fun (h37 : 256 ≤ u.toInt) => ?_)
      · refine g_iloadN X0 hx hby d13_48 (pc' := 49) rfl rfl ?_
        refine g_bipush X0 hx hby d13_49 (pc' := 51) rfl (n := (16 : Int32)) (by first | rfl | decide) ?_
        refine g_icmplt X0 hx hby d13_51 (pt := 61) (pf := 54) (by decide) (by decide) rfl (fun (h51 : u.toInt < 16) => ?_) (fun (h51 : 16 ≤ u.toInt) => ?_)
        · refine g_iloadN X0 hx hby d13_61 (pc' := 62) rfl rfl ?_
          refine g_iconst X0 hx hby d13_62 (pc' := 63) rfl (n := (4 : Int32)) (by first | rfl | decide) ?_
          refine g_icmplt X0 hx hby d13_63 (pt := 73) (pf := 66) (by decide) (by decide) rfl (fun (h63 : u.toInt < 4) => ?_) (fun (h63 : 4 ≤ u.toInt) => ?_)
          · refine g_iloadN X0 hx hby d13_73 (pc' := 74) rfl rfl ?_
            refine g_iloadN X0 hx hby d13_74 (pc' := 75) rfl rfl ?_
            refine g_iconst X0 hx hby d13_75 (pc' := 76) rfl (n := (1 : Int32)) (by first | rfl | decide) ?_
            refine g_iushr X0 hx hby d13_76 (pc' := 77) rfl ?_
            refine g_nameI (fun i1 h_i1 => ?_)
            have f_i1 := own_us _ i1 (1 : Int32) 1 (by decide) (by decide) (by omega) h_i1
            refine g_isub X0 hx hby d13_77 (pc' := 78) rfl ?_
            exact g_retI X0 hx hby hlk hret d13_78 (by decide) (by decide) (⟨⟨_, rfl, by
                  have e1 := own_sub (31 : Int32) i1 (by show (-2147483648 : Int) ≤ 31 - i1.toInt; omega) (by show (31 : Int) - i1.toInt < 2147483648; omega)
                  have e2 : (31 : Int32).toInt = 31 := rfl
                  have hc : i1.toInt = 0 ∨ i1.toInt = 1 := by omega
                  rcases hc with hc | hc
                  · exact ⟨0, by decide, by rw [e1, e2, hc]; rfl, own_nl u 0 (by decide) (by omega) (by omega) (by omega)⟩
                  · exact ⟨1, by decide, by rw [e1, e2, hc]; rfl, own_nl u 1 (by decide) (by omega) (by omega) (by omega)⟩⟩, e0, rfl⟩)
          · refine g_iinc X0 hx hby d13_66 (pc' := 69) rfl rfl (Ls' := #[.val (.int u), .val (.int (29 : Int32))]) rfl ?_
            refine g_iloadN X0 hx hby d13_69 (pc' := 70) rfl rfl ?_
            refine g_iconst X0 hx hby d13_70 (pc' := 71) rfl (n := (2 : Int32)) (by first | rfl | decide) ?_
            refine g_iushr X0 hx hby d13_71 (pc' := 72) rfl ?_
            refine g_nameI (fun id h_id => ?_)
            have f_id := own_us _ id (2 : Int32) 2 (by decide) (by decide) (by omega) h_id
            refine g_istoreN X0 hx hby d13_72 (pc' := 73) rfl (Ls' := #[.val (.int id), .val (.int (29 : Int32))]) rfl ?_
            refine g_iloadN X0 hx hby d13_73 (pc' := 74) rfl rfl ?_
            refine g_iloadN X0 hx hby d13_74 (pc' := 75) rfl rfl ?_
            refine g_iconst X0 hx hby d13_75 (pc' := 76) rfl (n := (1 : Int32)) (by first | rfl | decide) ?_
            refine g_iushr X0 hx hby d13_76 (pc' := 77) rfl ?_
            refine g_nameI (fun i1 h_i1 => ?_)
            have f_i1 := own_us _ i1 (1 : Int32) 1 (by decide) (by decide) (by omega) h_i1
            refine g_isub X0 hx hby d13_77 (pc' := 78) rfl ?_
            exact g_retI X0 hx hby hlk hret d13_78 (by decide) (by decide) (⟨⟨_, rfl, by
                  have e1 := own_sub (29 : Int32) i1 (by show (-2147483648 : Int) ≤ 29 - i1.toInt; omega) (by show (29 : Int) - i1.toInt < 2147483648; omega)
                  have e2 : (29 : Int32).toInt = 29 := rfl
                  have hc : i1.toInt = 0 ∨ i1.toInt = 1 := by omega
                  rcases hc with hc | hc
                  · exact ⟨2, by decide, by rw [e1, e2, hc]; rfl, own_nl u 2 (by decide) (by omega) (by omega) (by omega)⟩
                  · exact ⟨3, by decide, by rw [e1, e2, hc]; rfl, own_nl u 3 (by decide) (by omega) (by omega) (by omega)⟩⟩, e0, rfl⟩)
        · refine g_iinc X0 hx hby d13_54 (pc' := 57) rfl rfl (Ls' := #[.val (.int u), .val (.int (27 : Int32))]) rfl ?_
          refine g_iloadN X0 hx hby d13_57 (pc' := 58) rfl rfl ?_
          refine g_iconst X0 hx hby d13_58 (pc' := 59) rfl (n := (4 : Int32)) (by first | rfl | decide) ?_
          refine g_iushr X0 hx hby d13_59 (pc' := 60) rfl ?_
          refine g_nameI (fun ic h_ic => ?_)
          have f_ic := own_us _ ic (4 : Int32) 4 (by decide) (by decide) (by omega) h_ic
          refine g_istoreN X0 hx hby d13_60 (pc' := 61) rfl (Ls' := #[.val (.int ic), .val (.int (27 : Int32))]) rfl ?_
          refine g_iloadN X0 hx hby d13_61 (pc' := 62) rfl rfl ?_
          refine g_iconst X0 hx hby d13_62 (pc' := 63) rfl (n := (4 : Int32)) (by first | rfl | decide) ?_
          refine g_icmplt X0 hx hby d13_63 (pt := 73) (pf := 66) (by decide) (by decide) rfl (fun (h63 : ic.toInt < 4) => ?_) (fun (h63 : 4 ≤ ic.toInt) => ?_)
          · refine g_iloadN X0 hx hby d13_73 (pc' := 74) rfl rfl ?_
            refine g_iloadN X0 hx hby d13_74 (pc' := 75) rfl rfl ?_
            refine g_iconst X0 hx hby d13_75 (pc' := 76) rfl (n := (1 : Int32)) (by first | rfl | decide) ?_
            refine g_iushr X0 hx hby d13_76 (pc' := 77) rfl ?_
            refine g_nameI (fun i1 h_i1 => ?_)
            have f_i1 := own_us _ i1 (1 : Int32) 1 (by decide) (by decide) (by omega) h_i1
            refine g_isub X0 hx hby d13_77 (pc' := 78) rfl ?_
            exact g_retI X0 hx hby hlk hret d13_78 (by decide) (by decide) (⟨⟨_, rfl, by
                  have e1 := own_sub (27 : Int32) i1 (by show (-2147483648 : Int) ≤ 27 - i1.toInt; omega) (by show (27 : Int) - i1.toInt < 2147483648; omega)
                  have e2 : (27 : Int32).toInt = 27 := rfl
                  have hc : i1.toInt = 0 ∨ i1.toInt = 1 := by omega
                  rcases hc with hc | hc
                  · exact ⟨4, by decide, by rw [e1, e2, hc]; rfl, own_nl u 4 (by decide) (by omega) (by omega) (by omega)⟩
                  · exact ⟨5, by decide, by rw [e1, e2, hc]; rfl, own_nl u 5 (by decide) (by omega) (by omega) (by omega)⟩⟩, e0, rfl⟩)
          · refine g_iinc X0 hx hby d13_66 (pc' := 69) rfl rfl (Ls' := #[.val (.int ic), .val (.int (25 : Int32))]) rfl ?_
            refine g_iloadN X0 hx hby d13_69 (pc' := 70) rfl rfl ?_
            refine g_iconst X0 hx hby d13_70 (pc' := 71) rfl (n := (2 : Int32)) (by first | rfl | decide) ?_
            refine g_iushr X0 hx hby d13_71 (pc' := 72) rfl ?_
            refine g_nameI (fun id h_id => ?_)
            have f_id := own_us _ id (2 : Int32) 2 (by decide) (by decide) (by omega) h_id
            refine g_istoreN X0 hx hby d13_72 (pc' := 73) rfl (Ls' := #[.val (.int id), .val (.int (25 : Int32))]) rfl ?_
            refine g_iloadN X0 hx hby d13_73 (pc' := 74) rfl rfl ?_
            refine g_iloadN X0 hx hby d13_74 (pc' := 75) rfl rfl ?_
            refine g_iconst X0 hx hby d13_75 (pc' := 76) rfl (n := (1 : Int32)) (by first | rfl | decide) ?_
            refine g_iushr X0 hx hby d13_76 (pc' := 77) rfl ?_
            refine g_nameI (fun i1 h_i1 => ?_)
            have f_i1 := own_us _ i1 (1 : Int32) 1 (by decide) (by decide) (by omega) h_i1
            refine g_isub X0 hx hby d13_77 (pc' := 78) rfl ?_
            exact g_retI X0 hx hby hlk hret d13_78 (by decide) (by decide) (⟨⟨_, rfl, by
                  have e1 := own_sub (25 : Int32) i1 (by show (-2147483648 : Int) ≤ 25 - i1.toInt; omega) (by show (25 : Int) - i1.toInt < 2147483648; omega)
                  have e2 : (25 : Int32).toInt = 25 := rfl
                  have hc : i1.toInt = 0 ∨ i1.toInt = 1 := by omega
                  rcases hc with hc | hc
                  · exact ⟨6, by decide, by rw [e1, e2, hc]; rfl, own_nl u 6 (by decide) (by omega) (by omega) (by omega)⟩
                  · exact ⟨7, by decide, by rw [e1, e2, hc]; rfl, own_nl u 7 (by decide) (by omega) (by omega) (by omega)⟩⟩, e0, rfl⟩)
      · refine g_iinc X0 hx hby d13_40 (pc' := 43) rfl rfl (Ls' := #[.val (.int u), .val (.int (23 : Int32))]) rfl ?_
        refine g_iloadN X0 hx hby d13_43 (pc' := 44) rfl rfl ?_
        refine g_bipush X0 hx hby d13_44 (pc' := 46) rfl (n := (8 : Int32)) (by first | rfl | decide) ?_
        refine g_iushr X0 hx hby d13_46 (pc' := 47) rfl ?_
        refine g_nameI (fun ib h_ib => ?_)
        have f_ib := own_us _ ib (8 : Int32) 8 (by decide) (by decide) (by omega) h_ib
        refine g_istoreN X0 hx hby d13_47 (pc' := 48) rfl (Ls' := #[.val (.int ib), .val (.int (23 : Int32))]) rfl ?_
        refine g_iloadN X0 hx hby d13_48 (pc' := 49) rfl rfl ?_
        refine g_bipush X0 hx hby d13_49 (pc' := 51) rfl (n := (16 : Int32)) (by first | rfl | decide) ?_
        refine g_icmplt X0 hx hby d13_51 (pt := 61) (pf := 54) (by decide) (by decide) rfl (fun (h51 : ib.toInt < 16) => ?_) (fun (h51 : 16 ≤ ib.toInt) => ?_)
        · refine g_iloadN X0 hx hby d13_61 (pc' := 62) rfl rfl ?_
          refine g_iconst X0 hx hby d13_62 (pc' := 63) rfl (n := (4 : Int32)) (by first | rfl | decide) ?_
          refine g_icmplt X0 hx hby d13_63 (pt := 73) (pf := 66) (by decide) (by decide) rfl (fun (h63 : ib.toInt < 4) => ?_) (fun (h63 : 4 ≤ ib.toInt) => ?_)
          · refine g_iloadN X0 hx hby d13_73 (pc' := 74) rfl rfl ?_
            refine g_iloadN X0 hx hby d13_74 (pc' := 75) rfl rfl ?_
            refine g_iconst X0 hx hby d13_75 (pc' := 76) rfl (n := (1 : Int32)) (by first | rfl | decide) ?_
            refine g_iushr X0 hx hby d13_76 (pc' := 77) rfl ?_
            refine g_nameI (fun i1 h_i1 => ?_)
            have f_i1 := own_us _ i1 (1 : Int32) 1 (by decide) (by decide) (by omega) h_i1
            refine g_isub X0 hx hby d13_77 (pc' := 78) rfl ?_
            exact g_retI X0 hx hby hlk hret d13_78 (by decide) (by decide) (⟨⟨_, rfl, by
                  have e1 := own_sub (23 : Int32) i1 (by show (-2147483648 : Int) ≤ 23 - i1.toInt; omega) (by show (23 : Int) - i1.toInt < 2147483648; omega)
                  have e2 : (23 : Int32).toInt = 23 := rfl
                  have hc : i1.toInt = 0 ∨ i1.toInt = 1 := by omega
                  rcases hc with hc | hc
                  · exact ⟨8, by decide, by rw [e1, e2, hc]; rfl, own_nl u 8 (by decide) (by omega) (by omega) (by omega)⟩
                  · exact ⟨9, by decide, by rw [e1, e2, hc]; rfl, own_nl u 9 (by decide) (by omega) (by omega) (by omega)⟩⟩, e0, rfl⟩)
          · refine g_iinc X0 hx hby d13_66 (pc' := 69) rfl rfl (Ls' := #[.val (.int ib), .val (.int (21 : Int32))]) rfl ?_
            refine g_iloadN X0 hx hby d13_69 (pc' := 70) rfl rfl ?_
            refine g_iconst X0 hx hby d13_70 (pc' := 71) rfl (n := (2 : Int32)) (by first | rfl | decide) ?_
            refine g_iushr X0 hx hby d13_71 (pc' := 72) rfl ?_
            refine g_nameI (fun id h_id => ?_)
            have f_id := own_us _ id (2 : Int32) 2 (by decide) (by decide) (by omega) h_id
            refine g_istoreN X0 hx hby d13_72 (pc' := 73) rfl (Ls' := #[.val (.int id), .val (.int (21 : Int32))]) rfl ?_
            refine g_iloadN X0 hx hby d13_73 (pc' := 74) rfl rfl ?_
            refine g_iloadN X0 hx hby d13_74 (pc' := 75) rfl rfl ?_
            refine g_iconst X0 hx hby d13_75 (pc' := 76) rfl (n := (1 : Int32)) (by first | rfl | decide) ?_
            refine g_iushr X0 hx hby d13_76 (pc' := 77) rfl ?_
            refine g_nameI (fun i1 h_i1 => ?_)
            have f_i1 := own_us _ i1 (1 : Int32) 1 (by decide) (by decide) (by omega) h_i1
            refine g_isub X0 hx hby d13_77 (pc' := 78) rfl ?_
            exact g_retI X0 hx hby hlk hret d13_78 (by decide) (by decide) (⟨⟨_, rfl, by
                  have e1 := own_sub (21 : Int32) i1 (by show (-2147483648 : Int) ≤ 21 - i1.toInt; omega) (by show (21 : Int) - i1.toInt < 2147483648; omega)
                  have e2 : (21 : Int32).toInt = 21 := rfl
                  have hc : i1.toInt = 0 ∨ i1.toInt = 1 := by omega
                  rcases hc with hc | hc
                  · exact ⟨10, by decide, by rw [e1, e2, hc]; rfl, own_nl u 10 (by decide) (by omega) (by omega) (by omega)⟩
                  · exact ⟨11, by decide, by rw [e1, e2, hc]; rfl, own_nl u 11 (by decide) (by omega) (by omega) (by omega)⟩⟩, e0, rfl⟩)
        · refine g_iinc X0 hx hby d13_54 (pc' := 57) rfl rfl (Ls' := #[.val (.int ib), .val (.int (19 : Int32))]) rfl ?_
          refine g_iloadN X0 hx hby d13_57 (pc' := 58) rfl rfl ?_
          refine g_iconst X0 hx hby d13_58 (pc' := 59) rfl (n := (4 : Int32)) (by first | rfl | decide) ?_
          refine g_iushr X0 hx hby d13_59 (pc' := 60) rfl ?_
          refine g_nameI (fun ic h_ic => ?_)
          have f_ic := own_us _ ic (4 : Int32) 4 (by decide) (by decide) (by omega) h_ic
          refine g_istoreN X0 hx hby d13_60 (pc' := 61) rfl (Ls' := #[.val (.int ic), .val (.int (19 : Int32))]) rfl ?_
          refine g_iloadN X0 hx hby d13_61 (pc' := 62) rfl rfl ?_
          refine g_iconst X0 hx hby d13_62 (pc' := 63) rfl (n := (4 : Int32)) (by first | rfl | decide) ?_
          refine g_icmplt X0 hx hby d13_63 (pt := 73) (pf := 66) (by decide) (by decide) rfl (fun (h63 : ic.toInt < 4) => ?_) (fun (h63 : 4 ≤ ic.toInt) => ?_)
          · refine g_iloadN X0 hx hby d13_73 (pc' := 74) rfl rfl ?_
            refine g_iloadN X0 hx hby d13_74 (pc' := 75) rfl rfl ?_
            refine g_iconst X0 hx hby d13_75 (pc' := 76) rfl (n := (1 : Int32)) (by first | rfl | decide) ?_
            refine g_iushr X0 hx hby d13_76 (pc' := 77) rfl ?_
            refine g_nameI (fun i1 h_i1 => ?_)
            have f_i1 := own_us _ i1 (1 : Int32) 1 (by decide) (by decide) (by omega) h_i1
            refine g_isub X0 hx hby d13_77 (pc' := 78) rfl ?_
            exact g_retI X0 hx hby hlk hret d13_78 (by decide) (by decide) (⟨⟨_, rfl, by
                  have e1 := own_sub (19 : Int32) i1 (by show (-2147483648 : Int) ≤ 19 - i1.toInt; omega) (by show (19 : Int) - i1.toInt < 2147483648; omega)
                  have e2 : (19 : Int32).toInt = 19 := rfl
                  have hc : i1.toInt = 0 ∨ i1.toInt = 1 := by omega
                  rcases hc with hc | hc
                  · exact ⟨12, by decide, by rw [e1, e2, hc]; rfl, own_nl u 12 (by decide) (by omega) (by omega) (by omega)⟩
                  · exact ⟨13, by decide, by rw [e1, e2, hc]; rfl, own_nl u 13 (by decide) (by omega) (by omega) (by omega)⟩⟩, e0, rfl⟩)
          · refine g_iinc X0 hx hby d13_66 (pc' := 69) rfl rfl (Ls' := #[.val (.int ic), .val (.int (17 : Int32))]) rfl ?_
            refine g_iloadN X0 hx hby d13_69 (pc' := 70) rfl rfl ?_
            refine g_iconst X0 hx hby d13_70 (pc' := 71) rfl (n := (2 : Int32)) (by first | rfl | decide) ?_
            refine g_iushr X0 hx hby d13_71 (pc' := 72) rfl ?_
            refine g_nameI (fun id h_id => ?_)
            have f_id := own_us _ id (2 : Int32) 2 (by decide) (by decide) (by omega) h_id
            refine g_istoreN X0 hx hby d13_72 (pc' := 73) rfl (Ls' := #[.val (.int id), .val (.int (17 : Int32))]) rfl ?_
            refine g_iloadN X0 hx hby d13_73 (pc' := 74) rfl rfl ?_
            refine g_iloadN X0 hx hby d13_74 (pc' := 75) rfl rfl ?_
            refine g_iconst X0 hx hby d13_75 (pc' := 76) rfl (n := (1 : Int32)) (by first | rfl | decide) ?_
            refine g_iushr X0 hx hby d13_76 (pc' := 77) rfl ?_
            refine g_nameI (fun i1 h_i1 => ?_)
            have f_i1 := own_us _ i1 (1 : Int32) 1 (by decide) (by decide) (by omega) h_i1
            refine g_isub X0 hx hby d13_77 (pc' := 78) rfl ?_
            exact g_retI X0 hx hby hlk hret d13_78 (by decide) (by decide) (⟨⟨_, rfl, by
                  have e1 := own_sub (17 : Int32) i1 (by show (-2147483648 : Int) ≤ 17 - i1.toInt; omega) (by show (17 : Int) - i1.toInt < 2147483648; omega)
                  have e2 : (17 : Int32).toInt = 17 := rfl
                  have hc : i1.toInt = 0 ∨ i1.toInt = 1 := by omega
                  rcases hc with hc | hc
                  · exact ⟨14, by decide, by rw [e1, e2, hc]; rfl, own_nl u 14 (by decide) (by omega) (by omega) (by omega)⟩
                  · exact ⟨15, by decide, by rw [e1, e2, hc]; rfl, own_nl u 15 (by decide) (by omega) (by omega) (by omega)⟩⟩, e0, rfl⟩)
    · refine g_iinc X0 hx hby d13_25 (pc' := 28) rfl rfl (Ls' := #[.val (.int u), .val (.int (15 : Int32))]) rfl ?_
      refine g_iloadN X0 hx hby d13_28 (pc' := 29) rfl rfl ?_
      refine g_bipush X0 hx hby d13_29 (pc' := 31) rfl (n := (16 : Int32)) (by first | rfl | decide) ?_
      refine g_iushr X0 hx hby d13_31 (pc' := 32) rfl ?_
      refine g_nameI (fun ia h_ia => ?_)
      have f_ia := own_us _ ia (16 : Int32) 16 (by decide) (by decide) (by omega) h_ia
      refine g_istoreN X0 hx hby d13_32 (pc' := 33) rfl (Ls' := #[.val (.int ia), .val (.int (15 : Int32))]) rfl ?_
      refine g_iloadN X0 hx hby d13_33 (pc' := 34) rfl rfl ?_
      refine g_sipush X0 hx hby d13_34 (pc' := 37) rfl (n := (256 : Int32)) (by first | rfl | decide) ?_
      refine g_icmplt X0 hx hby d13_37 (pt := 48) (pf := 40) (by decide) (by decide) rfl (fun (h37 : ia.toInt < 256) => ?_) (fun (h37 : 256 ≤ ia.toInt) => ?_)
      · refine g_iloadN X0 hx hby d13_48 (pc' := 49) rfl rfl ?_
        refine g_bipush X0 hx hby d13_49 (pc' := 51) rfl (n := (16 : Int32)) (by first | rfl | decide) ?_
        refine g_icmplt X0 hx hby d13_51 (pt := 61) (pf := 54) (by decide) (by decide) rfl (fun (h51 : ia.toInt < 16) => ?_) (fun (h51 : 16 ≤ ia.toInt) => ?_)
        · refine g_iloadN X0 hx hby d13_61 (pc' := 62) rfl rfl ?_
          refine g_iconst X0 hx hby d13_62 (pc' := 63) rfl (n := (4 : Int32)) (by first | rfl | decide) ?_
          refine g_icmplt X0 hx hby d13_63 (pt := 73) (pf := 66) (by decide) (by decide) rfl (fun (h63 : ia.toInt < 4) => ?_) (fun (h63 : 4 ≤ ia.toInt) => ?_)
          · refine g_iloadN X0 hx hby d13_73 (pc' := 74) rfl rfl ?_
            refine g_iloadN X0 hx hby d13_74 (pc' := 75) rfl rfl ?_
            refine g_iconst X0 hx hby d13_75 (pc' := 76) rfl (n := (1 : Int32)) (by first | rfl | decide) ?_
            refine g_iushr X0 hx hby d13_76 (pc' := 77) rfl ?_
            refine g_nameI (fun i1 h_i1 => ?_)
            have f_i1 := own_us _ i1 (1 : Int32) 1 (by decide) (by decide) (by omega) h_i1
            refine g_isub X0 hx hby d13_77 (pc' := 78) rfl ?_
            exact g_retI X0 hx hby hlk hret d13_78 (by decide) (by decide) (⟨⟨_, rfl, by
                  have e1 := own_sub (15 : Int32) i1 (by show (-2147483648 : Int) ≤ 15 - i1.toInt; omega) (by show (15 : Int) - i1.toInt < 2147483648; omega)
                  have e2 : (15 : Int32).toInt = 15 := rfl
                  have hc : i1.toInt = 0 ∨ i1.toInt = 1 := by omega
                  rcases hc with hc | hc
                  · exact ⟨16, by decide, by rw [e1, e2, hc]; rfl, own_nl u 16 (by decide) (by omega) (by omega) (by omega)⟩
                  · exact ⟨17, by decide, by rw [e1, e2, hc]; rfl, own_nl u 17 (by decide) (by omega) (by omega) (by omega)⟩⟩, e0, rfl⟩)
          · refine g_iinc X0 hx hby d13_66 (pc' := 69) rfl rfl (Ls' := #[.val (.int ia), .val (.int (13 : Int32))]) rfl ?_
            refine g_iloadN X0 hx hby d13_69 (pc' := 70) rfl rfl ?_
            refine g_iconst X0 hx hby d13_70 (pc' := 71) rfl (n := (2 : Int32)) (by first | rfl | decide) ?_
            refine g_iushr X0 hx hby d13_71 (pc' := 72) rfl ?_
            refine g_nameI (fun id h_id => ?_)
            have f_id := own_us _ id (2 : Int32) 2 (by decide) (by decide) (by omega) h_id
            refine g_istoreN X0 hx hby d13_72 (pc' := 73) rfl (Ls' := #[.val (.int id), .val (.int (13 : Int32))]) rfl ?_
            refine g_iloadN X0 hx hby d13_73 (pc' := 74) rfl rfl ?_
            refine g_iloadN X0 hx hby d13_74 (pc' := 75) rfl rfl ?_
            refine g_iconst X0 hx hby d13_75 (pc' := 76) rfl (n := (1 : Int32)) (by first | rfl | decide) ?_
            refine g_iushr X0 hx hby d13_76 (pc' := 77) rfl ?_
            refine g_nameI (fun i1 h_i1 => ?_)
            have f_i1 := own_us _ i1 (1 : Int32) 1 (by decide) (by decide) (by omega) h_i1
            refine g_isub X0 hx hby d13_77 (pc' := 78) rfl ?_
            exact g_retI X0 hx hby hlk hret d13_78 (by decide) (by decide) (⟨⟨_, rfl, by
                  have e1 := own_sub (13 : Int32) i1 (by show (-2147483648 : Int) ≤ 13 - i1.toInt; omega) (by show (13 : Int) - i1.toInt < 2147483648; omega)
                  have e2 : (13 : Int32).toInt = 13 := rfl
                  have hc : i1.toInt = 0 ∨ i1.toInt = 1 := by omega
                  rcases hc with hc | hc
                  · exact ⟨18, by decide, by rw [e1, e2, hc]; rfl, own_nl u 18 (by decide) (by omega) (by omega) (by omega)⟩
                  · exact ⟨19, by decide, by rw [e1, e2, hc]; rfl, own_nl u 19 (by decide) (by omega) (by omega) (by omega)⟩⟩, e0, rfl⟩)
        · refine g_iinc X0 hx hby d13_54 (pc' := 57) rfl rfl (Ls' := #[.val (.int ia), .val (.int (11 : Int32))]) rfl ?_
          refine g_iloadN X0 hx hby d13_57 (pc' := 58) rfl rfl ?_
          refine g_iconst X0 hx hby d13_58 (pc' := 59) rfl (n := (4 : Int32)) (by first | rfl | decide) ?_
          refine g_iushr X0 hx hby d13_59 (pc' := 60) rfl ?_
          refine g_nameI (fun ic h_ic => ?_)
          have f_ic := own_us _ ic (4 : Int32) 4 (by decide) (by decide) (by omega) h_ic
          refine g_istoreN X0 hx hby d13_60 (pc' := 61) rfl (Ls' := #[.val (.int ic), .val (.int (11 : Int32))]) rfl ?_
          refine g_iloadN X0 hx hby d13_61 (pc' := 62) rfl rfl ?_
          refine g_iconst X0 hx hby d13_62 (pc' := 63) rfl (n := (4 : Int32)) (by first | rfl | decide) ?_
          refine g_icmplt X0 hx hby d13_63 (pt := 73) (pf := 66) (by decide) (by decide) rfl (fun (h63 : ic.toInt < 4) => ?_) (fun (h63 : 4 ≤ ic.toInt) => ?_)
          · refine g_iloadN X0 hx hby d13_73 (pc' := 74) rfl rfl ?_
            refine g_iloadN X0 hx hby d13_74 (pc' := 75) rfl rfl ?_
            refine g_iconst X0 hx hby d13_75 (pc' := 76) rfl (n := (1 : Int32)) (by first | rfl | decide) ?_
            refine g_iushr X0 hx hby d13_76 (pc' := 77) rfl ?_
            refine g_nameI (fun i1 h_i1 => ?_)
            have f_i1 := own_us _ i1 (1 : Int32) 1 (by decide) (by decide) (by omega) h_i1
            refine g_isub X0 hx hby d13_77 (pc' := 78) rfl ?_
            exact g_retI X0 hx hby hlk hret d13_78 (by decide) (by decide) (⟨⟨_, rfl, by
                  have e1 := own_sub (11 : Int32) i1 (by show (-2147483648 : Int) ≤ 11 - i1.toInt; omega) (by show (11 : Int) - i1.toInt < 2147483648; omega)
                  have e2 : (11 : Int32).toInt = 11 := rfl
                  have hc : i1.toInt = 0 ∨ i1.toInt = 1 := by omega
                  rcases hc with hc | hc
                  · exact ⟨20, by decide, by rw [e1, e2, hc]; rfl, own_nl u 20 (by decide) (by omega) (by omega) (by omega)⟩
                  · exact ⟨21, by decide, by rw [e1, e2, hc]; rfl, own_nl u 21 (by decide) (by omega) (by omega) (by omega)⟩⟩, e0, rfl⟩)
          · refine g_iinc X0 hx hby d13_66 (pc' := 69) rfl rfl (Ls' := #[.val (.int ic), .val (.int (9 : Int32))]) rfl ?_
            refine g_iloadN X0 hx hby d13_69 (pc' := 70) rfl rfl ?_
            refine g_iconst X0 hx hby d13_70 (pc' := 71) rfl (n := (2 : Int32)) (by first | rfl | decide) ?_
            refine g_iushr X0 hx hby d13_71 (pc' := 72) rfl ?_
            refine g_nameI (fun id h_id => ?_)
            have f_id := own_us _ id (2 : Int32) 2 (by decide) (by decide) (by omega) h_id
            refine g_istoreN X0 hx hby d13_72 (pc' := 73) rfl (Ls' := #[.val (.int id), .val (.int (9 : Int32))]) rfl ?_
            refine g_iloadN X0 hx hby d13_73 (pc' := 74) rfl rfl ?_
            refine g_iloadN X0 hx hby d13_74 (pc' := 75) rfl rfl ?_
            refine g_iconst X0 hx hby d13_75 (pc' := 76) rfl (n := (1 : Int32)) (by first | rfl | decide) ?_
            refine g_iushr X0 hx hby d13_76 (pc' := 77) rfl ?_
            refine g_nameI (fun i1 h_i1 => ?_)
            have f_i1 := own_us _ i1 (1 : Int32) 1 (by decide) (by decide) (by omega) h_i1
            refine g_isub X0 hx hby d13_77 (pc' := 78) rfl ?_
            exact g_retI X0 hx hby hlk hret d13_78 (by decide) (by decide) (⟨⟨_, rfl, by
                  have e1 := own_sub (9 : Int32) i1 (by show (-2147483648 : Int) ≤ 9 - i1.toInt; omega) (by show (9 : Int) - i1.toInt < 2147483648; omega)
                  have e2 : (9 : Int32).toInt = 9 := rfl
                  have hc : i1.toInt = 0 ∨ i1.toInt = 1 := by omega
                  rcases hc with hc | hc
                  · exact ⟨22, by decide, by rw [e1, e2, hc]; rfl, own_nl u 22 (by decide) (by omega) (by omega) (by omega)⟩
                  · exact ⟨23, by decide, by rw [e1, e2, hc]; rfl, own_nl u 23 (by decide) (by omega) (by omega) (by omega)⟩⟩, e0, rfl⟩)
      · refine g_iinc X0 hx hby d13_40 (pc' := 43) rfl rfl (Ls' := #[.val (.int ia), .val (.int (7 : Int32))]) rfl ?_
        refine g_iloadN X0 hx hby d13_43 (pc' := 44) rfl rfl ?_
        refine g_bipush X0 hx hby d13_44 (pc' := 46) rfl (n := (8 : Int32)) (by first | rfl | decide) ?_
        refine g_iushr X0 hx hby d13_46 (pc' := 47) rfl ?_
        refine g_nameI (fun ib h_ib => ?_)
        have f_ib := own_us _ ib (8 : Int32) 8 (by decide) (by decide) (by omega) h_ib
        refine g_istoreN X0 hx hby d13_47 (pc' := 48) rfl (Ls' := #[.val (.int ib), .val (.int (7 : Int32))]) rfl ?_
        refine g_iloadN X0 hx hby d13_48 (pc' := 49) rfl rfl ?_
        refine g_bipush X0 hx hby d13_49 (pc' := 51) rfl (n := (16 : Int32)) (by first | rfl | decide) ?_
        refine g_icmplt X0 hx hby d13_51 (pt := 61) (pf := 54) (by decide) (by decide) rfl (fun (h51 : ib.toInt < 16) => ?_) (fun (h51 : 16 ≤ ib.toInt) => ?_)
        · refine g_iloadN X0 hx hby d13_61 (pc' := 62) rfl rfl ?_
          refine g_iconst X0 hx hby d13_62 (pc' := 63) rfl (n := (4 : Int32)) (by first | rfl | decide) ?_
          refine g_icmplt X0 hx hby d13_63 (pt := 73) (pf := 66) (by decide) (by decide) rfl (fun (h63 : ib.toInt < 4) => ?_) (fun (h63 : 4 ≤ ib.toInt) => ?_)
          · refine g_iloadN X0 hx hby d13_73 (pc' := 74) rfl rfl ?_
            refine g_iloadN X0 hx hby d13_74 (pc' := 75) rfl rfl ?_
            refine g_iconst X0 hx hby d13_75 (pc' := 76) rfl (n := (1 : Int32)) (by first | rfl | decide) ?_
            refine g_iushr X0 hx hby d13_76 (pc' := 77) rfl ?_
            refine g_nameI (fun i1 h_i1 => ?_)
            have f_i1 := own_us _ i1 (1 : Int32) 1 (by decide) (by decide) (by omega) h_i1
            refine g_isub X0 hx hby d13_77 (pc' := 78) rfl ?_
            exact g_retI X0 hx hby hlk hret d13_78 (by decide) (by decide) (⟨⟨_, rfl, by
                  have e1 := own_sub (7 : Int32) i1 (by show (-2147483648 : Int) ≤ 7 - i1.toInt; omega) (by show (7 : Int) - i1.toInt < 2147483648; omega)
                  have e2 : (7 : Int32).toInt = 7 := rfl
                  have hc : i1.toInt = 0 ∨ i1.toInt = 1 := by omega
                  rcases hc with hc | hc
                  · exact ⟨24, by decide, by rw [e1, e2, hc]; rfl, own_nl u 24 (by decide) (by omega) (by omega) (by omega)⟩
                  · exact ⟨25, by decide, by rw [e1, e2, hc]; rfl, own_nl u 25 (by decide) (by omega) (by omega) (by omega)⟩⟩, e0, rfl⟩)
          · refine g_iinc X0 hx hby d13_66 (pc' := 69) rfl rfl (Ls' := #[.val (.int ib), .val (.int (5 : Int32))]) rfl ?_
            refine g_iloadN X0 hx hby d13_69 (pc' := 70) rfl rfl ?_
            refine g_iconst X0 hx hby d13_70 (pc' := 71) rfl (n := (2 : Int32)) (by first | rfl | decide) ?_
            refine g_iushr X0 hx hby d13_71 (pc' := 72) rfl ?_
            refine g_nameI (fun id h_id => ?_)
            have f_id := own_us _ id (2 : Int32) 2 (by decide) (by decide) (by omega) h_id
            refine g_istoreN X0 hx hby d13_72 (pc' := 73) rfl (Ls' := #[.val (.int id), .val (.int (5 : Int32))]) rfl ?_
            refine g_iloadN X0 hx hby d13_73 (pc' := 74) rfl rfl ?_
            refine g_iloadN X0 hx hby d13_74 (pc' := 75) rfl rfl ?_
            refine g_iconst X0 hx hby d13_75 (pc' := 76) rfl (n := (1 : Int32)) (by first | rfl | decide) ?_
            refine g_iushr X0 hx hby d13_76 (pc' := 77) rfl ?_
            refine g_nameI (fun i1 h_i1 => ?_)
            have f_i1 := own_us _ i1 (1 : Int32) 1 (by decide) (by decide) (by omega) h_i1
            refine g_isub X0 hx hby d13_77 (pc' := 78) rfl ?_
            exact g_retI X0 hx hby hlk hret d13_78 (by decide) (by decide) (⟨⟨_, rfl, by
                  have e1 := own_sub (5 : Int32) i1 (by show (-2147483648 : Int) ≤ 5 - i1.toInt; omega) (by show (5 : Int) - i1.toInt < 2147483648; omega)
                  have e2 : (5 : Int32).toInt = 5 := rfl
                  have hc : i1.toInt = 0 ∨ i1.toInt = 1 := by omega
                  rcases hc with hc | hc
                  · exact ⟨26, by decide, by rw [e1, e2, hc]; rfl, own_nl u 26 (by decide) (by omega) (by omega) (by omega)⟩
                  · exact ⟨27, by decide, by rw [e1, e2, hc]; rfl, own_nl u 27 (by decide) (by omega) (by omega) (by omega)⟩⟩, e0, rfl⟩)
        · refine g_iinc X0 hx hby d13_54 (pc' := 57) rfl rfl (Ls' := #[.val (.int ib), .val (.int (3 : Int32))]) rfl ?_
          refine g_iloadN X0 hx hby d13_57 (pc' := 58) rfl rfl ?_
          refine g_iconst X0 hx hby d13_58 (pc' := 59) rfl (n := (4 : Int32)) (by first | rfl | decide) ?_
          refine g_iushr X0 hx hby d13_59 (pc' := 60) rfl ?_
          refine g_nameI (fun ic h_ic => ?_)
          have f_ic := own_us _ ic (4 : Int32) 4 (by decide) (by decide) (by omega) h_ic
          refine g_istoreN X0 hx hby d13_60 (pc' := 61) rfl (Ls' := #[.val (.int ic), .val (.int (3 : Int32))]) rfl ?_
          refine g_iloadN X0 hx hby d13_61 (pc' := 62) rfl rfl ?_
          refine g_iconst X0 hx hby d13_62 (pc' := 63) rfl (n := (4 : Int32)) (by first | rfl | decide) ?_
          refine g_icmplt X0 hx hby d13_63 (pt := 73) (pf := 66) (by decide) (by decide) rfl (fun (h63 : ic.toInt < 4) => ?_) (fun (h63 : 4 ≤ ic.toInt) => ?_)
          · refine g_iloadN X0 hx hby d13_73 (pc' := 74) rfl rfl ?_
            refine g_iloadN X0 hx hby d13_74 (pc' := 75) rfl rfl ?_
            refine g_iconst X0 hx hby d13_75 (pc' := 76) rfl (n := (1 : Int32)) (by first | rfl | decide) ?_
            refine g_iushr X0 hx hby d13_76 (pc' := 77) rfl ?_
            refine g_nameI (fun i1 h_i1 => ?_)
            have f_i1 := own_us _ i1 (1 : Int32) 1 (by decide) (by decide) (by omega) h_i1
            refine g_isub X0 hx hby d13_77 (pc' := 78) rfl ?_
            exact g_retI X0 hx hby hlk hret d13_78 (by decide) (by decide) (⟨⟨_, rfl, by
                  have e1 := own_sub (3 : Int32) i1 (by show (-2147483648 : Int) ≤ 3 - i1.toInt; omega) (by show (3 : Int) - i1.toInt < 2147483648; omega)
                  have e2 : (3 : Int32).toInt = 3 := rfl
                  have hc : i1.toInt = 0 ∨ i1.toInt = 1 := by omega
                  rcases hc with hc | hc
                  · exact ⟨28, by decide, by rw [e1, e2, hc]; rfl, own_nl u 28 (by decide) (by omega) (by omega) (by omega)⟩
                  · exact ⟨29, by decide, by rw [e1, e2, hc]; rfl, own_nl u 29 (by decide) (by omega) (by omega) (by omega)⟩⟩, e0, rfl⟩)
          · refine g_iinc X0 hx hby d13_66 (pc' := 69) rfl rfl (Ls' := #[.val (.int ic), .val (.int (1 : Int32))]) rfl ?_
            refine g_iloadN X0 hx hby d13_69 (pc' := 70) rfl rfl ?_
            refine g_iconst X0 hx hby d13_70 (pc' := 71) rfl (n := (2 : Int32)) (by first | rfl | decide) ?_
            refine g_iushr X0 hx hby d13_71 (pc' := 72) rfl ?_
            refine g_nameI (fun id h_id => ?_)
            have f_id := own_us _ id (2 : Int32) 2 (by decide) (by decide) (by omega) h_id
            refine g_istoreN X0 hx hby d13_72 (pc' := 73) rfl (Ls' := #[.val (.int id), .val (.int (1 : Int32))]) rfl ?_
            refine g_iloadN X0 hx hby d13_73 (pc' := 74) rfl rfl ?_
            refine g_iloadN X0 hx hby d13_74 (pc' := 75) rfl rfl ?_
            refine g_iconst X0 hx hby d13_75 (pc' := 76) rfl (n := (1 : Int32)) (by first | rfl | decide) ?_
            refine g_iushr X0 hx hby d13_76 (pc' := 77) rfl ?_
            refine g_nameI (fun i1 h_i1 => ?_)
            have f_i1 := own_us _ i1 (1 : Int32) 1 (by decide) (by decide) (by omega) h_i1
            refine g_isub X0 hx hby d13_77 (pc' := 78) rfl ?_
            exact g_retI X0 hx hby hlk hret d13_78 (by decide) (by decide) (⟨⟨_, rfl, by
                  have e1 := own_sub (1 : Int32) i1 (by show (-2147483648 : Int) ≤ 1 - i1.toInt; omega) (by show (1 : Int) - i1.toInt < 2147483648; omega)
                  have e2 : (1 : Int32).toInt = 1 := rfl
                  have hc : i1.toInt = 0 ∨ i1.toInt = 1 := by omega
                  rcases hc with hc | hc
                  · exact ⟨30, by decide, by rw [e1, e2, hc]; rfl, own_nl u 30 (by decide) (by omega) (by omega) (by omega)⟩
                  · exfalso; omega⟩, e0, rfl⟩)
  · have hneg : u.toInt < 0 := by have : ¬ u.toInt = 0 := fun q => hu (Int32.toInt_inj.mp q); omega
    refine g_iloadN X0 hx hby d13_4 (pc' := 5) rfl rfl ?_
    refine g_ifne X0 hx hby d13_5 (pt := 13) (pf := 8) (by decide) (by decide) rfl (fun (h5 : ¬ u = (0 : Int32)) => ?_) (fun (h5 : u = (0 : Int32)) => (by exfalso; exact hu h5))
    have h5i : ¬ u.toInt = 0 := fun q => h5 (Int32.toInt_inj.mp q)
    refine g_iconst X0 hx hby d13_13 (pc' := 14) rfl (n := (0 : Int32)) (by first | rfl | decide) ?_
    exact g_retI X0 hx hby hlk hret d13_14 (by decide) (by decide) (⟨⟨_, rfl, 31, by decide, rfl, own_nlneg u (by omega), fun j hj => own_bi_big u j (by omega)⟩, e0, rfl⟩)
theorem ef_12 (m : MethodId) (u : Int64) : entryFrame m #[(.long u)] 3 = mkF m 0 #[.val (.long u), .second, .unset] [] := by first | (simp [entryFrame, mkF, argsToLocals, Value.category]; done) | rfl
theorem pn_12 : plainName "java/lang/Long" = true := by first | (simp [plainName, overriddenIn]; done) | decide +kernel
theorem d12_0 : decode jdk_35_method_48_code 0 = .ok (.lload_n 0, 1) := by decide +kernel
theorem d12_1 : decode jdk_35_method_48_code 1 = .ok (.bipush 32, 2) := by decide +kernel
theorem d12_3 : decode jdk_35_method_48_code 3 = .ok (.lushr, 1) := by decide +kernel
theorem d12_4 : decode jdk_35_method_48_code 4 = .ok (.l2i, 1) := by decide +kernel
theorem d12_5 : decode jdk_35_method_48_code 5 = .ok (.istore_n 2, 1) := by decide +kernel
theorem d12_6 : decode jdk_35_method_48_code 6 = .ok (.iload_n 2, 1) := by decide +kernel
theorem d12_7 : decode jdk_35_method_48_code 7 = .ok (.ifCond .ne 14, 3) := by decide +kernel
theorem d12_21 : decode jdk_35_method_48_code 21 = .ok (.iload_n 2, 1) := by decide +kernel
theorem d12_22 : decode jdk_35_method_48_code 22 = .ok (.invokestatic 308, 3) := by decide +kernel
theorem d12_25 : decode jdk_35_method_48_code 25 = .ok (.ireturn, 1) := by decide +kernel
theorem d12_10 : decode jdk_35_method_48_code 10 = .ok (.bipush 32, 2) := by decide +kernel
theorem d12_12 : decode jdk_35_method_48_code 12 = .ok (.lload_n 0, 1) := by decide +kernel
theorem d12_13 : decode jdk_35_method_48_code 13 = .ok (.l2i, 1) := by decide +kernel
theorem d12_14 : decode jdk_35_method_48_code 14 = .ok (.invokestatic 308, 3) := by decide +kernel
theorem d12_17 : decode jdk_35_method_48_code 17 = .ok (.iadd, 1) := by decide +kernel
theorem d12_18 : decode jdk_35_method_48_code 18 = .ok (.goto 7, 3) := by decide +kernel
set_option maxRecDepth 65536 in
set_option maxHeartbeats 40000000 in
theorem rm12 (l : Launch) (Z : State) (a0 : Array Value) (hw : ∀ d ∈ tables_1, d.before a0 Z = true) (u : Int64) (h0 : Heap) (hu : ¬ u = 0) :
    Ct l Z (⟨"java/lang/Long", "numberOfLeadingZeros", "(J)I"⟩ : MethodName) jdk_35_method_48_code 3 (some .int) ({ frames := 1, cells := 0, slots := 0, locals := 14 } : Room) #[(.long u)] h0 (QI h0 (fun r => own_lz u r.toInt)) := by
  refine own_met (plainFor_of_name pn_12) (fun m => ef_12 m u) ?_
  intro p e s m below meth c T0 X0 hx hby hml hown hnm hret hlk hZ e0
  refine g_lloadN X0 hx hby d12_0 (pc' := 1) rfl rfl ?_
  refine g_bipush X0 hx hby d12_1 (pc' := 3) rfl (n := (32 : Int32)) (by first | rfl | decide) ?_
  refine g_lushr X0 hx hby d12_3 (pc' := 4) rfl ?_
  refine g_l2i X0 hx hby d12_4 (pc' := 5) rfl ?_
  refine g_nameI (fun hi h_hi => ?_)
  refine g_istoreN X0 hx hby d12_5 (pc' := 6) rfl (Ls' := #[.val (.long u), .second, .val (.int hi)]) rfl ?_
  refine g_iloadN X0 hx hby d12_6 (pc' := 7) rfl rfl ?_
  refine g_ifne X0 hx hby d12_7 (pt := 21) (pf := 10) (by decide) (by decide) rfl (fun (h7 : ¬ hi = (0 : Int32)) => ?_) (fun (h7 : hi = (0 : Int32)) => ?_)
  · have h7i : ¬ hi.toInt = 0 := fun q => h7 (Int32.toInt_inj.mp q)
    refine g_iloadN X0 hx hby d12_21 (pc' := 22) rfl rfl ?_
    refine g_static X0 hx hby hZ hown hml rfl (hw _ (List.mem_of_getElem? (i := 59) rfl)) (hw _ (List.mem_of_getElem? (i := 60) rfl)) (hw _ (List.mem_of_getElem? (i := 53) rfl)) (hw _ (List.mem_of_getElem? (i := 61) rfl)) (by decide) e0 (rm13 l Z a0 hw hi h0 h7) pd__I_I_227 (argsL := [(.int hi)]) (rest := []) rfl rfl rfl d12_22 (pc' := 25) rfl (by decide) (Nat.le_of_ble_eq_true rfl) (by decide) (by decide) ?_
    intro Tp22 vp22 Lp22 Xp22 qp22
    obtain ⟨⟨rp22, rfl, h_rp22⟩, ep22, rfl⟩ := qp22
    rw [List.append_nil] at Xp22
    replace Xp22 : Stand p l e ({ frames := 1, cells := 0, slots := 0, locals := 14 } : Room) s m _ below meth c Tp22 _ 0 0 := Xp22
    show Go p e below s (QI h0 (fun r => own_lz u r.toInt)) ({ frames := 1, cells := 0, slots := 0, locals := 14 } : Room).cells ({ frames := 1, cells := 0, slots := 0, locals := 14 } : Room).slots m Tp22 25 #[.val (.long u), .second, .val (.int hi)] [(.int rp22)]
    exact g_retI Xp22 hx hby hlk hret d12_25 (by decide) (by decide) (⟨⟨_, rfl, by
          obtain ⟨t, t32, e1, b1, l1⟩ := h_rp22
          rw [h_hi] at b1 l1
          refine ⟨by omega, by omega, ?_, fun j hj => ?_⟩
          · rw [e1, show ((63 : Int) - (31 - t)).toNat = 32 + t by omega, ← own_hi u t t32]; exact b1
          · by_cases q2 : j < 64
            · have := own_hi u (j - 32) (by omega)
              rw [show 32 + (j - 32) = j by omega] at this
              rw [← this]; exact l1 _ (by omega)
            · exact own_b_big u j (by omega)⟩, ep22, rfl⟩)
  · have h7i : hi.toInt = 0 := congrArg Int32.toInt h7
    have hhi : (XT.ushrL u 32).toInt32 = 0 := h_hi.symm.trans h7
    refine g_bipush X0 hx hby d12_10 (pc' := 12) rfl (n := (32 : Int32)) (by first | rfl | decide) ?_
    refine g_lloadN X0 hx hby d12_12 (pc' := 13) rfl rfl ?_
    refine g_l2i X0 hx hby d12_13 (pc' := 14) rfl ?_
    refine g_static X0 hx hby hZ hown hml rfl (hw _ (List.mem_of_getElem? (i := 59) rfl)) (hw _ (List.mem_of_getElem? (i := 60) rfl)) (hw _ (List.mem_of_getElem? (i := 53) rfl)) (hw _ (List.mem_of_getElem? (i := 61) rfl)) (by decide) e0 (rm13 l Z a0 hw (u.toInt32) h0 (fun q => hu (own_halves q hhi))) pd__I_I_227 (argsL := [(.int (u.toInt32))]) (rest := [(.int (32 : Int32))]) rfl rfl rfl d12_14 (pc' := 17) rfl (by decide) (Nat.le_of_ble_eq_true rfl) (by decide) (by decide) ?_
    intro Tp14 vp14 Lp14 Xp14 qp14
    obtain ⟨⟨rp14, rfl, h_rp14⟩, ep14, rfl⟩ := qp14
    rw [List.append_nil] at Xp14
    replace Xp14 : Stand p l e ({ frames := 1, cells := 0, slots := 0, locals := 14 } : Room) s m _ below meth c Tp14 _ 0 0 := Xp14
    show Go p e below s (QI h0 (fun r => own_lz u r.toInt)) ({ frames := 1, cells := 0, slots := 0, locals := 14 } : Room).cells ({ frames := 1, cells := 0, slots := 0, locals := 14 } : Room).slots m Tp14 17 #[.val (.long u), .second, .val (.int hi)] [(.int rp14), (.int (32 : Int32))]
    refine g_iadd Xp14 hx hby d12_17 (pc' := 18) rfl ?_
    refine g_goto Xp14 hx hby d12_18 (pc' := 25) (by decide) (by decide) ?_
    exact g_retI Xp14 hx hby hlk hret d12_25 (by decide) (by decide) (⟨⟨_, rfl, by
          obtain ⟨t, t32, e1, b1, l1⟩ := h_rp14
          have e2 := own_add 32 rp14 (by rw [e1]; show (-2147483648 : Int) ≤ 32 + _; omega) (by rw [e1]; show (32 : Int) + _ < 2147483648; omega)
          have e3 : (32 : Int32).toInt = 32 := rfl
          refine ⟨by omega, by omega, ?_, fun j hj => ?_⟩
          · rw [e2, e3, e1, show ((63 : Int) - (32 + (31 - t))).toNat = t by omega, ← own_lo u t t32]; exact b1
          · by_cases q : j < 32
            · rw [← own_lo u j q]; exact l1 j (by omega)
            · by_cases q2 : j < 64
              · have := own_hi u (j - 32) (by omega)
                rw [hhi, show 32 + (j - 32) = j by omega] at this
                rw [← this]; unfold own_bi; simp
              · exact own_b_big u j (by omega)⟩, ep14, rfl⟩)
def QPs (Z : State) (n0 : Nat) (o : Addr) (P : (Nat → Int64) → (Nat → Int64) → Prop) : Option Value → Heap → List Loc → Prop := fun v h L => ∃ (tw ts : Addr) (w sm : Nat → Int64), v = none ∧ Fr n0 L ∧ n0 ≤ tw ∧ n0 ≤ ts ∧ o ≠ tw ∧ o ≠ ts ∧ tw ≠ ts ∧ Exa Z h o "com/example/isolens/isolens/checker/PlaceSet" ∧ Fld Z h o "com/example/isolens/isolens/checker/PlaceSet" "words" "[J" (.ref tw) ∧ Fld Z h o "com/example/isolens/isolens/checker/PlaceSet" "summary" "[J" (.ref ts) ∧ Ara Z h tw .long 128 (fun j => .long (w j)) ∧ Ara Z h ts .long 2 (fun j => .long (sm j)) ∧ P w sm
theorem ef_1 (m : MethodId) (o : Addr) : entryFrame m #[(.ref o), (.int (8192 : Int32))] 2 = mkF m 0 #[.val (.ref o), .val (.int (8192 : Int32))] [] := by first | (simp [entryFrame, mkF, argsToLocals, Value.category]; done) | rfl
theorem pn_1 : plainName "com/example/isolens/isolens/checker/PlaceSet" = true := by first | (simp [plainName, overriddenIn]; done) | decide +kernel
theorem d1_0 : decode prog_39_method_1_code 0 = .ok (.aload_n 0, 1) := by decide +kernel
theorem d1_1 : decode prog_39_method_1_code 1 = .ok (.invokespecial 1, 3) := by decide +kernel
theorem d1_4 : decode prog_39_method_1_code 4 = .ok (.aload_n 0, 1) := by decide +kernel
theorem d1_5 : decode prog_39_method_1_code 5 = .ok (.iload_n 1, 1) := by decide +kernel
theorem d1_6 : decode prog_39_method_1_code 6 = .ok (.bipush 63, 2) := by decide +kernel
theorem d1_8 : decode prog_39_method_1_code 8 = .ok (.iadd, 1) := by decide +kernel
theorem d1_9 : decode prog_39_method_1_code 9 = .ok (.bipush 6, 2) := by decide +kernel
theorem d1_11 : decode prog_39_method_1_code 11 = .ok (.iushr, 1) := by decide +kernel
theorem d1_12 : decode prog_39_method_1_code 12 = .ok (.newarray .long, 2) := by decide +kernel
theorem d1_14 : decode prog_39_method_1_code 14 = .ok (.putfield 7, 3) := by decide +kernel
theorem d1_17 : decode prog_39_method_1_code 17 = .ok (.aload_n 0, 1) := by decide +kernel
theorem d1_18 : decode prog_39_method_1_code 18 = .ok (.aload_n 0, 1) := by decide +kernel
theorem d1_19 : decode prog_39_method_1_code 19 = .ok (.getfield 7, 3) := by decide +kernel
theorem d1_22 : decode prog_39_method_1_code 22 = .ok (.arraylength, 1) := by decide +kernel
theorem d1_23 : decode prog_39_method_1_code 23 = .ok (.bipush 63, 2) := by decide +kernel
theorem d1_25 : decode prog_39_method_1_code 25 = .ok (.iadd, 1) := by decide +kernel
theorem d1_26 : decode prog_39_method_1_code 26 = .ok (.bipush 6, 2) := by decide +kernel
theorem d1_28 : decode prog_39_method_1_code 28 = .ok (.iushr, 1) := by decide +kernel
theorem d1_29 : decode prog_39_method_1_code 29 = .ok (.newarray .long, 2) := by decide +kernel
theorem d1_31 : decode prog_39_method_1_code 31 = .ok (.putfield 13, 3) := by decide +kernel
theorem d1_34 : decode prog_39_method_1_code 34 = .ok (.return_, 1) := by decide +kernel
set_option maxRecDepth 65536 in
set_option maxHeartbeats 40000000 in
theorem rm1 (l : Launch) (Z : State) (a0 : Array Value) (hw : ∀ d ∈ tables_1, d.before a0 Z = true) (o : Addr) (n0 : Nat) (h0 : Heap) (Z0 : n0 ≤ h0.size) (g_o : n0 ≤ o) (E_o : Exa Z h0 o "com/example/isolens/isolens/checker/PlaceSet") (F1 : Fld Z h0 o "com/example/isolens/isolens/checker/PlaceSet" "words" "[J" .null) (F2 : Fld Z h0 o "com/example/isolens/isolens/checker/PlaceSet" "summary" "[J" .null) :
    Ct l Z (⟨"com/example/isolens/isolens/checker/PlaceSet", "<init>", "(I)V"⟩ : MethodName) prog_39_method_1_code 2 none ({ frames := 1, cells := 2, slots := 130, locals := 12 } : Room) #[(.ref o), (.int (8192 : Int32))] h0 (QPs Z n0 o (fun w sm => (∀ q, own_mem w q = false) ∧ own_inv w sm)) := by
  refine own_met (plainFor_of_name pn_1) (fun m => ef_1 m o) ?_
  intro p e s m below meth c T0 X0 hx hby hml hown hnm hret hlk hZ e0
  have N0 := Fr.nil n0
  refine g_aloadN X0 hx hby d1_0 (pc' := 1) rfl rfl rfl ?_
  refine g_initO X0 hx hby hZ hown e0 (hw _ (List.mem_of_getElem? (i := 6) rfl)) (hw _ (List.mem_of_getElem? (i := 7) rfl)) (hw _ (List.mem_of_getElem? (i := 8) rfl)) hml rfl d1_1 (pc' := 4) rfl (by decide) (Nat.le_of_ble_eq_true rfl) (fun Tp1 Xp1 ep1 => ?_)
  refine g_aloadN Xp1 hx hby d1_4 (pc' := 5) rfl rfl rfl ?_
  refine g_iloadN Xp1 hx hby d1_5 (pc' := 6) rfl rfl ?_
  refine g_bipush Xp1 hx hby d1_6 (pc' := 8) rfl (n := (63 : Int32)) (by first | rfl | decide) ?_
  refine g_iadd Xp1 hx hby d1_8 (pc' := 9) rfl ?_
  show Go p e below s (QPs Z n0 o (fun w sm => (∀ q, own_mem w q = false) ∧ own_inv w sm)) ({ frames := 1, cells := 2, slots := 130, locals := 12 } : Room).cells ({ frames := 1, cells := 2, slots := 130, locals := 12 } : Room).slots m Tp1 9 #[.val (.ref o), .val (.int (8192 : Int32))] [(.int (8255 : Int32)), (.ref o)]
  refine g_bipush Xp1 hx hby d1_9 (pc' := 11) rfl (n := (6 : Int32)) (by first | rfl | decide) ?_
  refine g_iushr Xp1 hx hby d1_11 (pc' := 12) rfl ?_
  show Go p e below s (QPs Z n0 o (fun w sm => (∀ q, own_mem w q = false) ∧ own_inv w sm)) ({ frames := 1, cells := 2, slots := 130, locals := 12 } : Room).cells ({ frames := 1, cells := 2, slots := 130, locals := 12 } : Room).slots m Tp1 12 #[.val (.ref o), .val (.int (8192 : Int32))] [(.int (128 : Int32)), (.ref o)]
  refine g_newA Xp1 hx hby hZ ep1 (N := 128) (hw _ (List.mem_of_getElem? (i := 9) rfl)) d1_12 (pc' := 14) rfl rfl (cap := 128) (Nat.le_refl _) (by decide) (by decide) (by decide) (fun T1 h1 tw g1 X1 e1 E1 A_tw => ?_)
  have ne2 : o ≠ tw := by rw [g1]; exact Nat.ne_of_lt E_o.lt
  have g3 : n0 ≤ tw := by rw [g1]; exact Z0
  replace E_o := E_o.ext E1
  replace F1 := F1.ext E1
  replace F2 := F2.ext E1
  have Z4 : n0 ≤ h1.size := Nat.le_trans Z0 E1.1
  replace X1 : Stand p l e ({ frames := 1, cells := 2, slots := 130, locals := 12 } : Room) s m _ below meth c T1 _ 1 128 := X1
  replace A_tw : Ara Z h1 tw .long 128 (fun jz => .long ((fun _ => (0 : Int64)) jz)) := A_tw
  refine g_putF X1 hx hby hZ hown e1 (hw _ (List.mem_of_getElem? (i := 10) rfl)) F1 E_o (Or.inr ⟨(hw _ (List.mem_of_getElem? (i := 11) rfl)), rfl, hnm⟩) (hw _ (List.mem_of_getElem? (i := 1) rfl)) (ty := (.array .long)) (by decide) rfl rfl d1_14 (pc' := 17) rfl (fun T5 h5 X5 e5 W5 => ?_)
  replace E_o := E_o.wr W5
  replace F1 := F1.same W5
  replace F2 := F2.other W5 (Or.inr (slot_ne (Or.inr (hw _ (List.mem_of_getElem? (i := 13) rfl))) (Or.inr (hw _ (List.mem_of_getElem? (i := 11) rfl))) (by decide) (t := (.array .long)) (t' := (.array .long)) (by decide) (by decide)))
  replace A_tw := A_tw.other W5 (Ne.symm ne2)
  have Z6 : n0 ≤ h5.size := by rw [W5.size]; exact Z4
  have N7 := Fr.snoc X5 N0 g_o
  refine g_aloadN X5 hx hby d1_17 (pc' := 18) rfl rfl rfl ?_
  refine g_aloadN X5 hx hby d1_18 (pc' := 19) rfl rfl rfl ?_
  refine g_getF X5 hx hby hZ hown e5 (hw _ (List.mem_of_getElem? (i := 10) rfl)) F1 d1_19 (pc' := 22) rfl (fun T8 X8 e8 => ?_)
  refine a_arraylength X8 hx hby hZ e8 A_tw (N := (128 : Int32)) rfl d1_22 (pc' := 23) rfl ?_
  refine g_bipush X8 hx hby d1_23 (pc' := 25) rfl (n := (63 : Int32)) (by first | rfl | decide) ?_
  refine g_iadd X8 hx hby d1_25 (pc' := 26) rfl ?_
  show Go p e below s (QPs Z n0 o (fun w sm => (∀ q, own_mem w q = false) ∧ own_inv w sm)) ({ frames := 1, cells := 2, slots := 130, locals := 12 } : Room).cells ({ frames := 1, cells := 2, slots := 130, locals := 12 } : Room).slots m T8 26 #[.val (.ref o), .val (.int (8192 : Int32))] [(.int (191 : Int32)), (.ref o)]
  refine g_bipush X8 hx hby d1_26 (pc' := 28) rfl (n := (6 : Int32)) (by first | rfl | decide) ?_
  refine g_iushr X8 hx hby d1_28 (pc' := 29) rfl ?_
  show Go p e below s (QPs Z n0 o (fun w sm => (∀ q, own_mem w q = false) ∧ own_inv w sm)) ({ frames := 1, cells := 2, slots := 130, locals := 12 } : Room).cells ({ frames := 1, cells := 2, slots := 130, locals := 12 } : Room).slots m T8 29 #[.val (.ref o), .val (.int (8192 : Int32))] [(.int (2 : Int32)), (.ref o)]
  refine g_newA X8 hx hby hZ e8 (N := 2) (hw _ (List.mem_of_getElem? (i := 9) rfl)) d1_29 (pc' := 31) rfl rfl (cap := 2) (Nat.le_refl _) (by decide) (by decide) (by decide) (fun T9 h9 ts g9 X9 e9 E9 A_ts => ?_)
  have ne10 : o ≠ ts := by rw [g9]; exact Nat.ne_of_lt E_o.lt
  have ne11 : tw ≠ ts := by rw [g9]; exact Nat.ne_of_lt A_tw.lt
  have g12 : n0 ≤ ts := by rw [g9]; exact Z6
  replace E_o := E_o.ext E9
  replace F1 := F1.ext E9
  replace F2 := F2.ext E9
  replace A_tw := A_tw.ext E9
  have Z13 : n0 ≤ h9.size := Nat.le_trans Z6 E9.1
  replace X9 : Stand p l e ({ frames := 1, cells := 2, slots := 130, locals := 12 } : Room) s m _ below meth c T9 _ 2 130 := X9
  replace A_ts : Ara Z h9 ts .long 2 (fun jz => .long ((fun _ => (0 : Int64)) jz)) := A_ts
  refine g_putF X9 hx hby hZ hown e9 (hw _ (List.mem_of_getElem? (i := 12) rfl)) F2 E_o (Or.inr ⟨(hw _ (List.mem_of_getElem? (i := 13) rfl)), rfl, hnm⟩) (hw _ (List.mem_of_getElem? (i := 1) rfl)) (ty := (.array .long)) (by decide) rfl rfl d1_31 (pc' := 34) rfl (fun T14 h14 X14 e14 W14 => ?_)
  replace E_o := E_o.wr W14
  replace F1 := F1.other W14 (Or.inr (slot_ne (Or.inr (hw _ (List.mem_of_getElem? (i := 11) rfl))) (Or.inr (hw _ (List.mem_of_getElem? (i := 13) rfl))) (by decide) (t := (.array .long)) (t' := (.array .long)) (by decide) (by decide)))
  replace F2 := F2.same W14
  replace A_tw := A_tw.other W14 (Ne.symm ne2)
  replace A_ts := A_ts.other W14 (Ne.symm ne10)
  have Z15 : n0 ≤ h14.size := by rw [W14.size]; exact Z13
  have N16 := Fr.snoc X14 N7 g_o
  exact g_retV X14 hx hby hlk hret d1_34 (by decide) (by decide) (by rw [e14]; exact ⟨tw, ts, _, _, rfl, N16, g3, g12, ne2, ne10, ne11, E_o, F1, F2, A_tw, A_ts, fun q => own_b_zero _, fun k hk => ⟨fun z => (by rw [own_b_zero] at z; cases z), fun z => absurd rfl z⟩⟩)
theorem ef_3 (m : MethodId) (o : Addr) (y : Int32) : entryFrame m #[(.ref o), (.int y)] 3 = mkF m 0 #[.val (.ref o), .val (.int y), .unset] [] := by first | (simp [entryFrame, mkF, argsToLocals, Value.category]; done) | rfl
theorem pn_3 : plainName "com/example/isolens/isolens/checker/PlaceSet" = true := by first | (simp [plainName, overriddenIn]; done) | decide +kernel
theorem d3_0 : decode prog_39_method_3_code 0 = .ok (.iload_n 1, 1) := by decide +kernel
theorem d3_1 : decode prog_39_method_3_code 1 = .ok (.bipush 6, 2) := by decide +kernel
theorem d3_3 : decode prog_39_method_3_code 3 = .ok (.iushr, 1) := by decide +kernel
theorem d3_4 : decode prog_39_method_3_code 4 = .ok (.istore_n 2, 1) := by decide +kernel
theorem d3_5 : decode prog_39_method_3_code 5 = .ok (.aload_n 0, 1) := by decide +kernel
theorem d3_6 : decode prog_39_method_3_code 6 = .ok (.getfield 7, 3) := by decide +kernel
theorem d3_9 : decode prog_39_method_3_code 9 = .ok (.iload_n 2, 1) := by decide +kernel
theorem d3_10 : decode prog_39_method_3_code 10 = .ok (.dup2, 1) := by decide +kernel
theorem d3_11 : decode prog_39_method_3_code 11 = .ok (.laload, 1) := by decide +kernel
theorem d3_12 : decode prog_39_method_3_code 12 = .ok (.lconst 1, 1) := by decide +kernel
theorem d3_13 : decode prog_39_method_3_code 13 = .ok (.iload_n 1, 1) := by decide +kernel
theorem d3_14 : decode prog_39_method_3_code 14 = .ok (.lshl, 1) := by decide +kernel
theorem d3_15 : decode prog_39_method_3_code 15 = .ok (.lor, 1) := by decide +kernel
theorem d3_16 : decode prog_39_method_3_code 16 = .ok (.lastore, 1) := by decide +kernel
theorem d3_17 : decode prog_39_method_3_code 17 = .ok (.aload_n 0, 1) := by decide +kernel
theorem d3_18 : decode prog_39_method_3_code 18 = .ok (.getfield 13, 3) := by decide +kernel
theorem d3_21 : decode prog_39_method_3_code 21 = .ok (.iload_n 2, 1) := by decide +kernel
theorem d3_22 : decode prog_39_method_3_code 22 = .ok (.bipush 6, 2) := by decide +kernel
theorem d3_24 : decode prog_39_method_3_code 24 = .ok (.iushr, 1) := by decide +kernel
theorem d3_25 : decode prog_39_method_3_code 25 = .ok (.dup2, 1) := by decide +kernel
theorem d3_26 : decode prog_39_method_3_code 26 = .ok (.laload, 1) := by decide +kernel
theorem d3_27 : decode prog_39_method_3_code 27 = .ok (.lconst 1, 1) := by decide +kernel
theorem d3_28 : decode prog_39_method_3_code 28 = .ok (.iload_n 2, 1) := by decide +kernel
theorem d3_29 : decode prog_39_method_3_code 29 = .ok (.lshl, 1) := by decide +kernel
theorem d3_30 : decode prog_39_method_3_code 30 = .ok (.lor, 1) := by decide +kernel
theorem d3_31 : decode prog_39_method_3_code 31 = .ok (.lastore, 1) := by decide +kernel
theorem d3_32 : decode prog_39_method_3_code 32 = .ok (.return_, 1) := by decide +kernel
set_option maxRecDepth 65536 in
set_option maxHeartbeats 40000000 in
theorem rm3 (l : Launch) (Z : State) (a0 : Array Value) (hw : ∀ d ∈ tables_1, d.before a0 Z = true) (o : Addr) (y : Int32) (n0 : Nat) (tw ts : Addr) (w sm : Nat → Int64) (h0 : Heap) (Z0 : n0 ≤ h0.size) (g_o : n0 ≤ o) (g_tw : n0 ≤ tw) (g_ts : n0 ≤ ts) (ne1 : o ≠ tw) (ne2 : o ≠ ts) (ne3 : tw ≠ ts) (E_o : Exa Z h0 o "com/example/isolens/isolens/checker/PlaceSet") (F1 : Fld Z h0 o "com/example/isolens/isolens/checker/PlaceSet" "words" "[J" (.ref tw)) (F2 : Fld Z h0 o "com/example/isolens/isolens/checker/PlaceSet" "summary" "[J" (.ref ts)) (A1 : Ara Z h0 tw .long 128 (fun j => .long (w j))) (A2 : Ara Z h0 ts .long 2 (fun j => .long (sm j))) (hp : 0 ≤ y.toInt ∧ y.toInt < 8192) (hin : own_inv w sm) :
    Ct l Z (⟨"com/example/isolens/isolens/checker/PlaceSet", "add", "(I)V"⟩ : MethodName) prog_39_method_3_code 3 none ({ frames := 0, cells := 0, slots := 0, locals := 0 } : Room) #[(.ref o), (.int y)] h0 (QPs Z n0 o (fun w' sm' => (∀ q, own_mem w' q = (own_mem w q || decide (q = y.toInt.toNat))) ∧ own_inv w' sm')) := by
  refine own_met (plainFor_of_name pn_3) (fun m => ef_3 m o y) ?_
  intro p e s m below meth c T0 X0 hx hby hml hown hnm hret hlk hZ e0
  have N0 := Fr.nil n0
  refine g_iloadN X0 hx hby d3_0 (pc' := 1) rfl rfl ?_
  refine g_bipush X0 hx hby d3_1 (pc' := 3) rfl (n := (6 : Int32)) (by first | rfl | decide) ?_
  refine g_iushr X0 hx hby d3_3 (pc' := 4) rfl ?_
  refine g_nameI (fun wd h_wd => ?_)
  have f_wd := own_us _ wd 6 6 (by decide) (by decide) (by omega) h_wd
  replace f_wd : wd.toInt = y.toInt / 64 := f_wd
  refine g_istoreN X0 hx hby d3_4 (pc' := 5) rfl (Ls' := #[.val (.ref o), .val (.int y), .val (.int wd)]) rfl ?_
  refine g_aloadN X0 hx hby d3_5 (pc' := 6) rfl rfl rfl ?_
  refine g_getF X0 hx hby hZ hown e0 (hw _ (List.mem_of_getElem? (i := 10) rfl)) F1 d3_6 (pc' := 9) rfl (fun T1 X1 e1 => ?_)
  refine g_iloadN X1 hx hby d3_9 (pc' := 10) rfl rfl ?_
  refine g_dup2 X1 hx hby d3_10 (pc' := 11) rfl rfl rfl ?_
  refine a_laload X1 hx hby hZ e1 A1 (by omega) (by omega) (v := (.long (w wd.toInt.toNat))) (rfl) d3_11 (pc' := 12) rfl ?_
  refine g_lconst X1 hx hby d3_12 (pc' := 13) rfl (n := (1 : Int64)) (by first | rfl | decide) ?_
  refine g_iloadN X1 hx hby d3_13 (pc' := 14) rfl rfl ?_
  refine g_lshl X1 hx hby d3_14 (pc' := 15) rfl ?_
  refine g_lor X1 hx hby d3_15 (pc' := 16) rfl ?_
  refine a_lastore X1 hx hby hZ e1 A1 (by omega) (by omega) d3_16 (pc' := 17) rfl (fun T2 h2 X2 e2 W2 => ?_)
  replace E_o := E_o.wr W2
  replace F1 := F1.other W2 (Or.inl ne1)
  replace F2 := F2.other W2 (Or.inl ne1)
  replace A2 := A2.other W2 (Ne.symm ne3)
  have Z3 : n0 ≤ h2.size := by rw [W2.size]; exact Z0
  have N4 := Fr.snoc X2 N0 g_tw
  replace A1 : Ara Z h2 tw .long 128 (fun jz => .long ((own_ul w wd.toInt.toNat ((w wd.toInt.toNat) ||| ((1 : Int64) <<< (y.toInt64 &&& 63)))) jz)) := A1.setL W2
  refine g_aloadN X2 hx hby d3_17 (pc' := 18) rfl rfl rfl ?_
  refine g_getF X2 hx hby hZ hown e2 (hw _ (List.mem_of_getElem? (i := 12) rfl)) F2 d3_18 (pc' := 21) rfl (fun T5 X5 e5 => ?_)
  refine g_iloadN X5 hx hby d3_21 (pc' := 22) rfl rfl ?_
  refine g_bipush X5 hx hby d3_22 (pc' := 24) rfl (n := (6 : Int32)) (by first | rfl | decide) ?_
  refine g_iushr X5 hx hby d3_24 (pc' := 25) rfl ?_
  refine g_nameI (fun sd h_sd => ?_)
  have f_sd := own_us _ sd 6 6 (by decide) (by decide) (by omega) h_sd
  replace f_sd : sd.toInt = wd.toInt / 64 := f_sd
  refine g_dup2 X5 hx hby d3_25 (pc' := 26) rfl rfl rfl ?_
  refine a_laload X5 hx hby hZ e5 A2 (by omega) (by omega) (v := (.long (sm sd.toInt.toNat))) (rfl) d3_26 (pc' := 27) rfl ?_
  refine g_lconst X5 hx hby d3_27 (pc' := 28) rfl (n := (1 : Int64)) (by first | rfl | decide) ?_
  refine g_iloadN X5 hx hby d3_28 (pc' := 29) rfl rfl ?_
  refine g_lshl X5 hx hby d3_29 (pc' := 30) rfl ?_
  refine g_lor X5 hx hby d3_30 (pc' := 31) rfl ?_
  refine a_lastore X5 hx hby hZ e5 A2 (by omega) (by omega) d3_31 (pc' := 32) rfl (fun T6 h6 X6 e6 W6 => ?_)
  replace E_o := E_o.wr W6
  replace F1 := F1.other W6 (Or.inl ne2)
  replace F2 := F2.other W6 (Or.inl ne2)
  replace A1 := A1.other W6 ne3
  have Z7 : n0 ≤ h6.size := by rw [W6.size]; exact Z3
  have N8 := Fr.snoc X6 N4 g_ts
  replace A2 : Ara Z h6 ts .long 2 (fun jz => .long ((own_ul sm sd.toInt.toNat ((sm sd.toInt.toNat) ||| ((1 : Int64) <<< (wd.toInt64 &&& 63)))) jz)) := A2.setL W6
  exact g_retV X6 hx hby hlk hret d3_32 (by decide) (by decide) (by rw [e6]; exact ⟨tw, ts, _, _, rfl, N8, g_tw, g_ts, ne1, ne2, ne3, E_o, F1, F2, A1, A2, own_mem_add w y wd hp.1 f_wd, own_inv_add w sm hin y wd sd hp.1 f_wd f_sd⟩)
theorem ef_4 (m : MethodId) (o : Addr) (y : Int32) : entryFrame m #[(.ref o), (.int y)] 3 = mkF m 0 #[.val (.ref o), .val (.int y), .unset] [] := by first | (simp [entryFrame, mkF, argsToLocals, Value.category]; done) | rfl
theorem pn_4 : plainName "com/example/isolens/isolens/checker/PlaceSet" = true := by first | (simp [plainName, overriddenIn]; done) | decide +kernel
theorem d4_0 : decode prog_39_method_4_code 0 = .ok (.iload_n 1, 1) := by decide +kernel
theorem d4_1 : decode prog_39_method_4_code 1 = .ok (.bipush 6, 2) := by decide +kernel
theorem d4_3 : decode prog_39_method_4_code 3 = .ok (.iushr, 1) := by decide +kernel
theorem d4_4 : decode prog_39_method_4_code 4 = .ok (.istore_n 2, 1) := by decide +kernel
theorem d4_5 : decode prog_39_method_4_code 5 = .ok (.aload_n 0, 1) := by decide +kernel
theorem d4_6 : decode prog_39_method_4_code 6 = .ok (.getfield 7, 3) := by decide +kernel
theorem d4_9 : decode prog_39_method_4_code 9 = .ok (.iload_n 2, 1) := by decide +kernel
theorem d4_10 : decode prog_39_method_4_code 10 = .ok (.dup2, 1) := by decide +kernel
theorem d4_11 : decode prog_39_method_4_code 11 = .ok (.laload, 1) := by decide +kernel
theorem d4_12 : decode prog_39_method_4_code 12 = .ok (.lconst 1, 1) := by decide +kernel
theorem d4_13 : decode prog_39_method_4_code 13 = .ok (.iload_n 1, 1) := by decide +kernel
theorem d4_14 : decode prog_39_method_4_code 14 = .ok (.lshl, 1) := by decide +kernel
theorem d4_15 : decode prog_39_method_4_code 15 = .ok (.ldc2_w 16, 3) := by decide +kernel
theorem d4_18 : decode prog_39_method_4_code 18 = .ok (.lxor, 1) := by decide +kernel
theorem d4_19 : decode prog_39_method_4_code 19 = .ok (.land, 1) := by decide +kernel
theorem d4_20 : decode prog_39_method_4_code 20 = .ok (.lastore, 1) := by decide +kernel
theorem d4_21 : decode prog_39_method_4_code 21 = .ok (.aload_n 0, 1) := by decide +kernel
theorem d4_22 : decode prog_39_method_4_code 22 = .ok (.getfield 7, 3) := by decide +kernel
theorem d4_25 : decode prog_39_method_4_code 25 = .ok (.iload_n 2, 1) := by decide +kernel
theorem d4_26 : decode prog_39_method_4_code 26 = .ok (.laload, 1) := by decide +kernel
theorem d4_27 : decode prog_39_method_4_code 27 = .ok (.lconst 0, 1) := by decide +kernel
theorem d4_28 : decode prog_39_method_4_code 28 = .ok (.lcmp, 1) := by decide +kernel
theorem d4_29 : decode prog_39_method_4_code 29 = .ok (.ifCond .ne 22, 3) := by decide +kernel
theorem d4_51 : decode prog_39_method_4_code 51 = .ok (.return_, 1) := by decide +kernel
theorem d4_32 : decode prog_39_method_4_code 32 = .ok (.aload_n 0, 1) := by decide +kernel
theorem d4_33 : decode prog_39_method_4_code 33 = .ok (.getfield 13, 3) := by decide +kernel
theorem d4_36 : decode prog_39_method_4_code 36 = .ok (.iload_n 2, 1) := by decide +kernel
theorem d4_37 : decode prog_39_method_4_code 37 = .ok (.bipush 6, 2) := by decide +kernel
theorem d4_39 : decode prog_39_method_4_code 39 = .ok (.iushr, 1) := by decide +kernel
theorem d4_40 : decode prog_39_method_4_code 40 = .ok (.dup2, 1) := by decide +kernel
theorem d4_41 : decode prog_39_method_4_code 41 = .ok (.laload, 1) := by decide +kernel
theorem d4_42 : decode prog_39_method_4_code 42 = .ok (.lconst 1, 1) := by decide +kernel
theorem d4_43 : decode prog_39_method_4_code 43 = .ok (.iload_n 2, 1) := by decide +kernel
theorem d4_44 : decode prog_39_method_4_code 44 = .ok (.lshl, 1) := by decide +kernel
theorem d4_45 : decode prog_39_method_4_code 45 = .ok (.ldc2_w 16, 3) := by decide +kernel
theorem d4_48 : decode prog_39_method_4_code 48 = .ok (.lxor, 1) := by decide +kernel
theorem d4_49 : decode prog_39_method_4_code 49 = .ok (.land, 1) := by decide +kernel
theorem d4_50 : decode prog_39_method_4_code 50 = .ok (.lastore, 1) := by decide +kernel
set_option maxRecDepth 65536 in
set_option maxHeartbeats 40000000 in
theorem rm4 (l : Launch) (Z : State) (a0 : Array Value) (hw : ∀ d ∈ tables_1, d.before a0 Z = true) (o : Addr) (y : Int32) (n0 : Nat) (tw ts : Addr) (w sm : Nat → Int64) (h0 : Heap) (Z0 : n0 ≤ h0.size) (g_o : n0 ≤ o) (g_tw : n0 ≤ tw) (g_ts : n0 ≤ ts) (ne1 : o ≠ tw) (ne2 : o ≠ ts) (ne3 : tw ≠ ts) (E_o : Exa Z h0 o "com/example/isolens/isolens/checker/PlaceSet") (F1 : Fld Z h0 o "com/example/isolens/isolens/checker/PlaceSet" "words" "[J" (.ref tw)) (F2 : Fld Z h0 o "com/example/isolens/isolens/checker/PlaceSet" "summary" "[J" (.ref ts)) (A1 : Ara Z h0 tw .long 128 (fun j => .long (w j))) (A2 : Ara Z h0 ts .long 2 (fun j => .long (sm j))) (hp : 0 ≤ y.toInt ∧ y.toInt < 8192) (hin : own_inv w sm) :
    Ct l Z (⟨"com/example/isolens/isolens/checker/PlaceSet", "remove", "(I)V"⟩ : MethodName) prog_39_method_4_code 3 none ({ frames := 0, cells := 0, slots := 0, locals := 0 } : Room) #[(.ref o), (.int y)] h0 (QPs Z n0 o (fun w' sm' => (∀ q, own_mem w' q = (own_mem w q && !decide (q = y.toInt.toNat))) ∧ own_inv w' sm')) := by
  refine own_met (plainFor_of_name pn_4) (fun m => ef_4 m o y) ?_
  intro p e s m below meth c T0 X0 hx hby hml hown hnm hret hlk hZ e0
  have N0 := Fr.nil n0
  refine g_iloadN X0 hx hby d4_0 (pc' := 1) rfl rfl ?_
  refine g_bipush X0 hx hby d4_1 (pc' := 3) rfl (n := (6 : Int32)) (by first | rfl | decide) ?_
  refine g_iushr X0 hx hby d4_3 (pc' := 4) rfl ?_
  refine g_nameI (fun wd h_wd => ?_)
  have f_wd := own_us _ wd 6 6 (by decide) (by decide) (by omega) h_wd
  replace f_wd : wd.toInt = y.toInt / 64 := f_wd
  refine g_istoreN X0 hx hby d4_4 (pc' := 5) rfl (Ls' := #[.val (.ref o), .val (.int y), .val (.int wd)]) rfl ?_
  refine g_aloadN X0 hx hby d4_5 (pc' := 6) rfl rfl rfl ?_
  refine g_getF X0 hx hby hZ hown e0 (hw _ (List.mem_of_getElem? (i := 10) rfl)) F1 d4_6 (pc' := 9) rfl (fun T1 X1 e1 => ?_)
  refine g_iloadN X1 hx hby d4_9 (pc' := 10) rfl rfl ?_
  refine g_dup2 X1 hx hby d4_10 (pc' := 11) rfl rfl rfl ?_
  refine a_laload X1 hx hby hZ e1 A1 (by omega) (by omega) (v := (.long (w wd.toInt.toNat))) (rfl) d4_11 (pc' := 12) rfl ?_
  refine g_lconst X1 hx hby d4_12 (pc' := 13) rfl (n := (1 : Int64)) (by first | rfl | decide) ?_
  refine g_iloadN X1 hx hby d4_13 (pc' := 14) rfl rfl ?_
  refine g_lshl X1 hx hby d4_14 (pc' := 15) rfl ?_
  refine g_ldcL X1 hx hby hZ hown (hw _ (List.mem_of_getElem? (i := 24) rfl)) d4_15 (pc' := 18) rfl ?_
  refine g_lxor X1 hx hby d4_18 (pc' := 19) rfl ?_
  refine g_land X1 hx hby d4_19 (pc' := 20) rfl ?_
  refine a_lastore X1 hx hby hZ e1 A1 (by omega) (by omega) d4_20 (pc' := 21) rfl (fun T2 h2 X2 e2 W2 => ?_)
  replace E_o := E_o.wr W2
  replace F1 := F1.other W2 (Or.inl ne1)
  replace F2 := F2.other W2 (Or.inl ne1)
  replace A2 := A2.other W2 (Ne.symm ne3)
  have Z3 : n0 ≤ h2.size := by rw [W2.size]; exact Z0
  have N4 := Fr.snoc X2 N0 g_tw
  replace A1 : Ara Z h2 tw .long 128 (fun jz => .long ((own_ul w wd.toInt.toNat ((w wd.toInt.toNat) &&& (((1 : Int64) <<< (y.toInt64 &&& 63)) ^^^ (-1 : Int64)))) jz)) := A1.setL W2
  refine g_aloadN X2 hx hby d4_21 (pc' := 22) rfl rfl rfl ?_
  refine g_getF X2 hx hby hZ hown e2 (hw _ (List.mem_of_getElem? (i := 10) rfl)) F1 d4_22 (pc' := 25) rfl (fun T5 X5 e5 => ?_)
  refine g_iloadN X5 hx hby d4_25 (pc' := 26) rfl rfl ?_
  refine a_laload X5 hx hby hZ e5 A1 (by omega) (by omega) (v := (.long ((own_ul w wd.toInt.toNat ((w wd.toInt.toNat) &&& (((1 : Int64) <<< (y.toInt64 &&& 63)) ^^^ (-1 : Int64)))) wd.toInt.toNat))) (rfl) d4_26 (pc' := 27) rfl ?_
  refine g_lconst X5 hx hby d4_27 (pc' := 28) rfl (n := (0 : Int64)) (by first | rfl | decide) ?_
  refine g_lcmpne X5 hx hby d4_28 (pc' := 29) rfl d4_29 (pt := 51) (pf := 32) (by decide) (by decide) rfl (fun (h29 : ¬ ((own_ul w wd.toInt.toNat ((w wd.toInt.toNat) &&& (((1 : Int64) <<< (y.toInt64 &&& 63)) ^^^ (-1 : Int64)))) wd.toInt.toNat) = (0 : Int64)) => ?_) (fun (h29 : ((own_ul w wd.toInt.toNat ((w wd.toInt.toNat) &&& (((1 : Int64) <<< (y.toInt64 &&& 63)) ^^^ (-1 : Int64)))) wd.toInt.toNat) = (0 : Int64)) => ?_)
  · have h29i : ¬ ((own_ul w wd.toInt.toNat ((w wd.toInt.toNat) &&& (((1 : Int64) <<< (y.toInt64 &&& 63)) ^^^ (-1 : Int64)))) wd.toInt.toNat).toInt = 0 := fun q => h29 (Int64.toInt_inj.mp q)
    exact g_retV X5 hx hby hlk hret d4_51 (by decide) (by decide) (by rw [e5]; exact ⟨tw, ts, _, _, rfl, N4, g_tw, g_ts, ne1, ne2, ne3, E_o, F1, F2, A1, A2, own_mem_del w y wd hp.1 f_wd, own_inv_del2 w sm hin y wd hp.1 f_wd _ rfl h29⟩)
  · have h29i : ((own_ul w wd.toInt.toNat ((w wd.toInt.toNat) &&& (((1 : Int64) <<< (y.toInt64 &&& 63)) ^^^ (-1 : Int64)))) wd.toInt.toNat).toInt = 0 := congrArg Int64.toInt h29
    refine g_aloadN X5 hx hby d4_32 (pc' := 33) rfl rfl rfl ?_
    refine g_getF X5 hx hby hZ hown e5 (hw _ (List.mem_of_getElem? (i := 12) rfl)) F2 d4_33 (pc' := 36) rfl (fun T6 X6 e6 => ?_)
    refine g_iloadN X6 hx hby d4_36 (pc' := 37) rfl rfl ?_
    refine g_bipush X6 hx hby d4_37 (pc' := 39) rfl (n := (6 : Int32)) (by first | rfl | decide) ?_
    refine g_iushr X6 hx hby d4_39 (pc' := 40) rfl ?_
    refine g_nameI (fun sd h_sd => ?_)
    have f_sd := own_us _ sd 6 6 (by decide) (by decide) (by omega) h_sd
    replace f_sd : sd.toInt = wd.toInt / 64 := f_sd
    refine g_dup2 X6 hx hby d4_40 (pc' := 41) rfl rfl rfl ?_
    refine a_laload X6 hx hby hZ e6 A2 (by omega) (by omega) (v := (.long (sm sd.toInt.toNat))) (rfl) d4_41 (pc' := 42) rfl ?_
    refine g_lconst X6 hx hby d4_42 (pc' := 43) rfl (n := (1 : Int64)) (by first | rfl | decide) ?_
    refine g_iloadN X6 hx hby d4_43 (pc' := 44) rfl rfl ?_
    refine g_lshl X6 hx hby d4_44 (pc' := 45) rfl ?_
    refine g_ldcL X6 hx hby hZ hown (hw _ (List.mem_of_getElem? (i := 24) rfl)) d4_45 (pc' := 48) rfl ?_
    refine g_lxor X6 hx hby d4_48 (pc' := 49) rfl ?_
    refine g_land X6 hx hby d4_49 (pc' := 50) rfl ?_
    refine a_lastore X6 hx hby hZ e6 A2 (by omega) (by omega) d4_50 (pc' := 51) rfl (fun T7 h7 X7 e7 W7 => ?_)
    replace E_o := E_o.wr W7
    replace F1 := F1.other W7 (Or.inl ne2)
    replace F2 := F2.other W7 (Or.inl ne2)
    replace A1 := A1.other W7 ne3
    have Z8 : n0 ≤ h7.size := by rw [W7.size]; exact Z3
    have N9 := Fr.snoc X7 N4 g_ts
    replace A2 : Ara Z h7 ts .long 2 (fun jz => .long ((own_ul sm sd.toInt.toNat ((sm sd.toInt.toNat) &&& (((1 : Int64) <<< (wd.toInt64 &&& 63)) ^^^ (-1 : Int64)))) jz)) := A2.setL W7
    exact g_retV X7 hx hby hlk hret d4_51 (by decide) (by decide) (by rw [e7]; exact ⟨tw, ts, _, _, rfl, N9, g_tw, g_ts, ne1, ne2, ne3, E_o, F1, F2, A1, A2, own_mem_del w y wd hp.1 f_wd, own_inv_del w sm hin y wd sd hp.1 f_wd f_sd _ rfl h29⟩)
theorem own_cont (w : Nat → Int64) (y wd : Int32) (h : 0 ≤ y.toInt) (hw : wd.toInt = y.toInt / 64) : ((w wd.toInt.toNat) &&& ((1 : Int64) <<< (y.toInt64 &&& 63))) = 0 ↔ ¬ own_mem w y.toInt.toNat = true := by
  have e : y.toInt.toNat / 64 = wd.toInt.toNat := by omega
  constructor
  · intro z m
    have := congrArg (fun v => own_b v (y.toInt.toNat % 64)) z
    simp only [own_b_and, own_b_at y h _ (Nat.mod_lt _ (by decide)), own_b_zero] at this
    unfold own_mem at m
    rw [e] at m
    rw [m] at this
    simp at this
  · intro m
    apply own_b_none
    intro i hi
    rw [own_b_and, own_b_at y h i hi]
    by_cases q : i = y.toInt.toNat % 64
    · unfold own_mem at m
      rw [e, ← q] at m
      cases hb : own_b (w wd.toInt.toNat) i with
      | false => rfl
      | true => exact absurd hb m
    · simp [-Int32.toNat_toInt, q]
theorem ef_5 (m : MethodId) (o : Addr) (y : Int32) : entryFrame m #[(.ref o), (.int y)] 2 = mkF m 0 #[.val (.ref o), .val (.int y)] [] := by first | (simp [entryFrame, mkF, argsToLocals, Value.category]; done) | rfl
theorem pn_5 : plainName "com/example/isolens/isolens/checker/PlaceSet" = true := by first | (simp [plainName, overriddenIn]; done) | decide +kernel
theorem d5_0 : decode prog_39_method_2_code 0 = .ok (.aload_n 0, 1) := by decide +kernel
theorem d5_1 : decode prog_39_method_2_code 1 = .ok (.getfield 7, 3) := by decide +kernel
theorem d5_4 : decode prog_39_method_2_code 4 = .ok (.iload_n 1, 1) := by decide +kernel
theorem d5_5 : decode prog_39_method_2_code 5 = .ok (.bipush 6, 2) := by decide +kernel
theorem d5_7 : decode prog_39_method_2_code 7 = .ok (.iushr, 1) := by decide +kernel
theorem d5_8 : decode prog_39_method_2_code 8 = .ok (.laload, 1) := by decide +kernel
theorem d5_9 : decode prog_39_method_2_code 9 = .ok (.lconst 1, 1) := by decide +kernel
theorem d5_10 : decode prog_39_method_2_code 10 = .ok (.iload_n 1, 1) := by decide +kernel
theorem d5_11 : decode prog_39_method_2_code 11 = .ok (.lshl, 1) := by decide +kernel
theorem d5_12 : decode prog_39_method_2_code 12 = .ok (.land, 1) := by decide +kernel
theorem d5_13 : decode prog_39_method_2_code 13 = .ok (.lconst 0, 1) := by decide +kernel
theorem d5_14 : decode prog_39_method_2_code 14 = .ok (.lcmp, 1) := by decide +kernel
theorem d5_15 : decode prog_39_method_2_code 15 = .ok (.ifCond .eq 7, 3) := by decide +kernel
theorem d5_22 : decode prog_39_method_2_code 22 = .ok (.iconst 0, 1) := by decide +kernel
theorem d5_23 : decode prog_39_method_2_code 23 = .ok (.ireturn, 1) := by decide +kernel
theorem d5_18 : decode prog_39_method_2_code 18 = .ok (.iconst 1, 1) := by decide +kernel
theorem d5_19 : decode prog_39_method_2_code 19 = .ok (.goto 4, 3) := by decide +kernel
set_option maxRecDepth 65536 in
set_option maxHeartbeats 40000000 in
theorem rm5 (l : Launch) (Z : State) (a0 : Array Value) (hw : ∀ d ∈ tables_1, d.before a0 Z = true) (o : Addr) (y : Int32) (tw ts : Addr) (w sm : Nat → Int64) (h0 : Heap) (F1 : Fld Z h0 o "com/example/isolens/isolens/checker/PlaceSet" "words" "[J" (.ref tw)) (F2 : Fld Z h0 o "com/example/isolens/isolens/checker/PlaceSet" "summary" "[J" (.ref ts)) (A1 : Ara Z h0 tw .long 128 (fun j => .long (w j))) (A2 : Ara Z h0 ts .long 2 (fun j => .long (sm j))) (hp : 0 ≤ y.toInt ∧ y.toInt < 8192) :
    Ct l Z (⟨"com/example/isolens/isolens/checker/PlaceSet", "contains", "(I)Z"⟩ : MethodName) prog_39_method_2_code 2 (some .boolean) ({ frames := 0, cells := 0, slots := 0, locals := 0 } : Room) #[(.ref o), (.int y)] h0 (QI h0 (fun r => own_bool r (own_mem w y.toInt.toNat = true))) := by
  refine own_met (plainFor_of_name pn_5) (fun m => ef_5 m o y) ?_
  intro p e s m below meth c T0 X0 hx hby hml hown hnm hret hlk hZ e0
  refine g_aloadN X0 hx hby d5_0 (pc' := 1) rfl rfl rfl ?_
  refine g_getF X0 hx hby hZ hown e0 (hw _ (List.mem_of_getElem? (i := 10) rfl)) F1 d5_1 (pc' := 4) rfl (fun T1 X1 e1 => ?_)
  refine g_iloadN X1 hx hby d5_4 (pc' := 5) rfl rfl ?_
  refine g_bipush X1 hx hby d5_5 (pc' := 7) rfl (n := (6 : Int32)) (by first | rfl | decide) ?_
  refine g_iushr X1 hx hby d5_7 (pc' := 8) rfl ?_
  refine g_nameI (fun wd h_wd => ?_)
  have f_wd := own_us _ wd 6 6 (by decide) (by decide) (by omega) h_wd
  replace f_wd : wd.toInt = y.toInt / 64 := f_wd
  refine a_laload X1 hx hby hZ e1 A1 (by omega) (by omega) (v := (.long (w wd.toInt.toNat))) (rfl) d5_8 (pc' := 9) rfl ?_
  refine g_lconst X1 hx hby d5_9 (pc' := 10) rfl (n := (1 : Int64)) (by first | rfl | decide) ?_
  refine g_iloadN X1 hx hby d5_10 (pc' := 11) rfl rfl ?_
  refine g_lshl X1 hx hby d5_11 (pc' := 12) rfl ?_
  refine g_land X1 hx hby d5_12 (pc' := 13) rfl ?_
  refine g_lconst X1 hx hby d5_13 (pc' := 14) rfl (n := (0 : Int64)) (by first | rfl | decide) ?_
  refine g_lcmpeq X1 hx hby d5_14 (pc' := 15) rfl d5_15 (pt := 22) (pf := 18) (by decide) (by decide) rfl (fun (h15 : ((w wd.toInt.toNat) &&& ((1 : Int64) <<< (y.toInt64 &&& 63))) = (0 : Int64)) => ?_) (fun (h15 : ¬ ((w wd.toInt.toNat) &&& ((1 : Int64) <<< (y.toInt64 &&& 63))) = (0 : Int64)) => ?_)
  · have h15i : ((w wd.toInt.toNat) &&& ((1 : Int64) <<< (y.toInt64 &&& 63))).toInt = 0 := congrArg Int64.toInt h15
    refine g_iconst X1 hx hby d5_22 (pc' := 23) rfl (n := (0 : Int32)) (by first | rfl | decide) ?_
    exact g_retZ X1 hx hby hlk (Or.inl rfl) hret d5_23 (by decide) (by decide) (⟨⟨_, rfl, Or.inr ⟨rfl, (own_cont w y wd hp.1 f_wd).mp h15⟩⟩, e1, rfl⟩)
  · have h15i : ¬ ((w wd.toInt.toNat) &&& ((1 : Int64) <<< (y.toInt64 &&& 63))).toInt = 0 := fun q => h15 (Int64.toInt_inj.mp q)
    refine g_iconst X1 hx hby d5_18 (pc' := 19) rfl (n := (1 : Int32)) (by first | rfl | decide) ?_
    refine g_goto X1 hx hby d5_19 (pc' := 23) (by decide) (by decide) ?_
    exact g_retZ X1 hx hby hlk (Or.inr rfl) hret d5_23 (by decide) (by decide) (⟨⟨_, rfl, Or.inl ⟨rfl, Decidable.byContradiction fun q => h15 ((own_cont w y wd hp.1 f_wd).mpr q)⟩⟩, e1, rfl⟩)
theorem own_sh6 (a b : Int32) (ha : 0 ≤ a.toInt ∧ a.toInt < 128) (hb : 0 ≤ b.toInt ∧ b.toInt < 64) : ((a <<< ((6 : Int32) &&& 31)) ||| b).toInt = a.toInt * 64 + b.toInt := by
  have h1 := c_ishl a 6 6 (by decide)
  have r1 := rng32 (a <<< ((6 : Int32) &&& 31))
  have e1 : (a <<< ((6 : Int32) &&& 31)).toInt = a.toInt * 64 := by
    have : ((2 ^ 6 : Nat) : Int) = 64 := rfl
    rw [this] at h1; omega
  have h2 := c_or (a <<< ((6 : Int32) &&& 31)) b 6 (by decide) 64 rfl (by omega) hb.1 hb.2
  have r2 := rng32 ((a <<< ((6 : Int32) &&& 31)) ||| b)
  omega
theorem own_b_from (v : Int64) (y : Int32) (h : 0 ≤ y.toInt) (i : Nat) (hi : i < 64) : own_b (v &&& ((-1 : Int64) <<< (y.toInt64 &&& 63))) i = (own_b v i && decide (y.toInt.toNat % 64 ≤ i)) := by
  rw [own_b_and, own_b_shl _ _ _ hi, own_b_m1 _ (by omega)]
  have e : (y.toInt % 64).toNat = y.toInt.toNat % 64 := by omega
  rw [e]; simp [-Int32.toNat_toInt]
theorem own_memw (w : Nat → Int64) (q : Nat) : own_mem w q = own_b (w (q / 64)) (q % 64) := rfl
theorem own_ff1 (w : Nat → Int64) (y wd : Int32) (bs : Int64) (t r : Int) (hp : 0 ≤ y.toInt ∧ y.toInt < 8192) (hw : wd.toInt = y.toInt / 64) (hb : bs = (w wd.toInt.toNat) &&& ((-1 : Int64) <<< (y.toInt64 &&& 63))) (ht : own_tz bs t) (hr : r = wd.toInt * 64 + t) : own_first w y.toInt r := by
  obtain ⟨t0, t1, t2, t3⟩ := ht
  rw [hb, own_b_from _ y hp.1 _ (by omega), Bool.and_eq_true, decide_eq_true_eq] at t2
  refine Or.inr ⟨by omega, by omega, by omega, ?_, fun q q1 q2 => ?_⟩
  · rw [own_memw, show r.toNat / 64 = wd.toInt.toNat by omega, show r.toNat % 64 = t.toNat by omega]; exact t2.1
  · have e := t3 (q % 64) (by omega)
    rw [hb, own_b_from _ y hp.1 _ (by omega)] at e
    rw [own_memw, show q / 64 = wd.toInt.toNat by omega]
    have d : decide (y.toInt.toNat % 64 ≤ q % 64) = true := by rw [decide_eq_true_eq]; omega
    rw [d, Bool.and_true] at e
    exact e
theorem own_ff0 (w : Nat → Int64) (y wd : Int32) (hp : 0 ≤ y.toInt ∧ y.toInt < 8192) (hw : wd.toInt = y.toInt / 64) (hz : (w wd.toInt.toNat) &&& ((-1 : Int64) <<< (y.toInt64 &&& 63)) = 0) (q : Nat) (q1 : y.toInt ≤ q) (q2 : (q : Int) < 64 * (wd.toInt + 1)) : own_mem w q = false := by
  have e := congrArg (fun v => own_b v (q % 64)) hz
  simp only [own_b_from _ y hp.1 _ (show q % 64 < 64 by omega), own_b_zero] at e
  rw [own_memw, show q / 64 = wd.toInt.toNat by omega]
  have d : decide (y.toInt.toNat % 64 ≤ q % 64) = true := by rw [decide_eq_true_eq]; omega
  rw [d, Bool.and_true] at e
  exact e
theorem own_ff2 (w : Nat → Int64) (y wn : Int) (wk : Nat) (t r : Int) (h0 : ∀ q : Nat, y ≤ q → (q : Int) < 64 * wn → own_mem w q = false) (hy : 0 ≤ y) (hyn : y ≤ 64 * wn) (hz : ∀ k : Nat, wn ≤ k → k < wk → w k = 0) (hk : wn ≤ wk ∧ wk < 128) (ht : own_tz (w wk) t) (hr : r = 64 * wk + t) : own_first w y r := by
  obtain ⟨t0, t1, t2, t3⟩ := ht
  refine Or.inr ⟨by omega, by omega, by omega, ?_, fun q q1 q2 => ?_⟩
  · rw [own_memw, show r.toNat / 64 = wk by omega, show r.toNat % 64 = t.toNat by omega]; exact t2
  · by_cases c : (q : Int) < 64 * wn
    · exact h0 q q1 c
    · rw [own_memw]
      by_cases c2 : q / 64 = wk
      · rw [c2]; exact t3 _ (by omega)
      · rw [hz (q / 64) (by omega) (by omega)]; exact own_b_zero _
theorem own_ff3 (w : Nat → Int64) (y wn : Int) (h0 : ∀ q : Nat, y ≤ q → (q : Int) < 64 * wn → own_mem w q = false) (hz : ∀ k : Nat, wn ≤ k → k < 128 → w k = 0) : own_first w y (-1) := by
  refine Or.inl ⟨rfl, fun q q1 q2 => ?_⟩
  by_cases c : (q : Int) < 64 * wn
  · exact h0 q q1 c
  · rw [own_memw, hz (q / 64) (by omega) (by omega)]; exact own_b_zero _
theorem own_w0 {w sm : Nat → Int64} (I : own_inv w sm) (k : Nat) (hk : k < 128) (h : own_b (sm (k / 64)) (k % 64) = false) : w k = 0 := by
  refine Decidable.byContradiction fun z => ?_
  rw [(I k hk).mpr z] at h; cases h
/-- the words from wn on, in wn's own stretch of the summary -/
theorem own_sa {w sm : Nat → Int64} (I : own_inv w sm) (wn : Int32) (a : Nat) (sb : Int64) (h0 : 0 ≤ wn.toInt ∧ wn.toInt < 128) (ha : (a : Int) = wn.toInt / 64) (hb : sb = (sm a) &&& ((-1 : Int64) <<< (wn.toInt64 &&& 63))) (k : Nat) (k1 : wn.toInt ≤ k) (k2 : k / 64 = a) (k3 : own_b sb (k % 64) = false) : w k = 0 := by
  apply own_w0 I k (by omega)
  rw [hb, own_b_from _ wn h0.1 _ (by omega)] at k3
  have d : decide (wn.toInt.toNat % 64 ≤ k % 64) = true := by rw [decide_eq_true_eq]; omega
  rw [d, Bool.and_true] at k3
  rw [k2]; exact k3
theorem own_sk {w sm : Nat → Int64} (I : own_inv w sm) (wn : Int32) (a : Nat) (sb : Int64) (s : Int) (h0 : 0 ≤ wn.toInt ∧ wn.toInt < 128) (ha : (a : Int) = wn.toInt / 64) (hb : sb = (sm a) &&& ((-1 : Int64) <<< (wn.toInt64 &&& 63))) (ht : own_tz sb s) : (wn.toInt ≤ (64 * a + s.toNat : Nat) ∧ 64 * a + s.toNat < 128) ∧ (¬ w (64 * a + s.toNat) = 0) ∧ ∀ k : Nat, wn.toInt ≤ k → k < 64 * a + s.toNat → w k = 0 := by
  obtain ⟨t0, t1, t2, t3⟩ := ht
  have t2' := t2
  rw [hb, own_b_from _ wn h0.1 _ (by omega), Bool.and_eq_true, decide_eq_true_eq] at t2'
  refine ⟨by omega, (I _ (by omega)).mp ?_, fun k k1 k2 => own_sa I wn a sb h0 ha hb k k1 (by omega) (t3 _ (by omega))⟩
  rw [show (64 * a + s.toNat) / 64 = a by omega, show (64 * a + s.toNat) % 64 = s.toNat by omega]; exact t2'.1
/-- nothing in the first stretch: the second -/
theorem own_sk1 {w sm : Nat → Int64} (I : own_inv w sm) (wn : Int32) (sb : Int64) (s : Int) (h0 : 0 ≤ wn.toInt ∧ wn.toInt < 64) (hb : sb = (sm 0) &&& ((-1 : Int64) <<< (wn.toInt64 &&& 63))) (hz : sb = 0) (ht : own_tz (sm 1) s) : (wn.toInt ≤ (64 + s.toNat : Nat) ∧ 64 + s.toNat < 128) ∧ (¬ w (64 + s.toNat) = 0) ∧ ∀ k : Nat, wn.toInt ≤ k → k < 64 + s.toNat → w k = 0 := by
  obtain ⟨t0, t1, t2, t3⟩ := ht
  refine ⟨by omega, (I _ (by omega)).mp ?_, fun k k1 k2 => ?_⟩
  · rw [show (64 + s.toNat) / 64 = 1 by omega, show (64 + s.toNat) % 64 = s.toNat by omega]; exact t2
  · by_cases c : k < 64
    · exact own_sa I wn 0 sb (by omega) (by omega) hb k k1 (by omega) (by rw [hz]; exact own_b_zero _)
    · apply own_w0 I k (by omega)
      rw [show k / 64 = 1 by omega]; exact t3 _ (by omega)
theorem own_sn0 {w sm : Nat → Int64} (I : own_inv w sm) (wn : Int32) (sb : Int64) (h0 : 0 ≤ wn.toInt ∧ wn.toInt < 64) (hb : sb = (sm 0) &&& ((-1 : Int64) <<< (wn.toInt64 &&& 63))) (hz : sb = 0) (hz1 : sm 1 = 0) (k : Nat) (k1 : wn.toInt ≤ k) (k2 : k < 128) : w k = 0 := by
  by_cases c : k < 64
  · exact own_sa I wn 0 sb (by omega) (by omega) hb k k1 (by omega) (by rw [hz]; exact own_b_zero _)
  · apply own_w0 I k k2
    rw [show k / 64 = 1 by omega, hz1]; exact own_b_zero _
theorem own_sn1 {w sm : Nat → Int64} (I : own_inv w sm) (wn : Int32) (sb : Int64) (h0 : 64 ≤ wn.toInt ∧ wn.toInt < 128) (hb : sb = (sm 1) &&& ((-1 : Int64) <<< (wn.toInt64 &&& 63))) (hz : sb = 0) (k : Nat) (k1 : wn.toInt ≤ k) (k2 : k < 128) : w k = 0 := own_sa I wn 1 sb (by omega) (by omega) hb k k1 (by omega) (by rw [hz]; exact own_b_zero _)
theorem own_b_upto (v : Int64) (y k : Int32) (h : 0 ≤ y.toInt) (hk : k.toInt = 63 - y.toInt % 64) (i : Nat) (hi : i < 64) : own_b (v &&& XT.ushrL (-1 : Int64) k) i = (own_b v i && decide (i ≤ y.toInt.toNat % 64)) := by
  rw [own_b_and, own_b_shr]
  congr 1
  by_cases q : i ≤ y.toInt.toNat % 64
  · rw [own_b_m1 _ (by omega)]; simp [-Int32.toNat_toInt, q]
  · rw [own_b_big _ _ (by omega)]; simp [-Int32.toNat_toInt, q]
theorem own_lf1 (w : Nat → Int64) (y wd k : Int32) (bs : Int64) (z r : Int) (hp : 0 ≤ y.toInt ∧ y.toInt < 8192) (hw : wd.toInt = y.toInt / 64) (hk : k.toInt = 63 - y.toInt % 64) (hb : bs = (w wd.toInt.toNat) &&& XT.ushrL (-1 : Int64) k) (ht : own_lz bs z) (hr : r = wd.toInt * 64 + (63 - z)) : own_last w y.toInt r := by
  obtain ⟨t0, t1, t2, t3⟩ := ht
  rw [hb, own_b_upto _ y k hp.1 hk _ (by omega), Bool.and_eq_true, decide_eq_true_eq] at t2
  refine Or.inr ⟨by omega, by omega, by omega, ?_, fun q q1 q2 => ?_⟩
  · rw [own_memw, show r.toNat / 64 = wd.toInt.toNat by omega, show r.toNat % 64 = (63 - z).toNat by omega]; exact t2.1
  · have e := t3 (q % 64) (by omega)
    rw [hb, own_b_upto _ y k hp.1 hk _ (by omega)] at e
    rw [own_memw, show q / 64 = wd.toInt.toNat by omega]
    have d : decide (q % 64 ≤ y.toInt.toNat % 64) = true := by rw [decide_eq_true_eq]; omega
    rw [d, Bool.and_true] at e
    exact e
theorem own_lf0 (w : Nat → Int64) (y wd k : Int32) (hp : 0 ≤ y.toInt ∧ y.toInt < 8192) (hw : wd.toInt = y.toInt / 64) (hk : k.toInt = 63 - y.toInt % 64) (hz : (w wd.toInt.toNat) &&& XT.ushrL (-1 : Int64) k = 0) (q : Nat) (q1 : (q : Int) ≤ y.toInt) (q2 : 64 * wd.toInt ≤ q) : own_mem w q = false := by
  have e := congrArg (fun v => own_b v (q % 64)) hz
  simp only [own_b_upto _ y k hp.1 hk _ (show q % 64 < 64 by omega), own_b_zero] at e
  rw [own_memw, show q / 64 = wd.toInt.toNat by omega]
  have d : decide (q % 64 ≤ y.toInt.toNat % 64) = true := by rw [decide_eq_true_eq]; omega
  rw [d, Bool.and_true] at e
  exact e
theorem own_lf2 (w : Nat → Int64) (y wn : Int) (wk : Nat) (z r : Int) (h0 : ∀ q : Nat, (q : Int) ≤ y → 64 * (wn + 1) ≤ q → own_mem w q = false) (hy : 64 * (wn + 1) ≤ y) (hw : wn < 128) (hz : ∀ k : Nat, wk < k → (k : Int) ≤ wn → w k = 0) (hk : (wk : Int) ≤ wn) (ht : own_lz (w wk) z) (hr : r = 64 * wk + (63 - z)) : own_last w y r := by
  obtain ⟨t0, t1, t2, t3⟩ := ht
  refine Or.inr ⟨by omega, by omega, by omega, ?_, fun q q1 q2 => ?_⟩
  · rw [own_memw, show r.toNat / 64 = wk by omega, show r.toNat % 64 = (63 - z).toNat by omega]; exact t2
  · by_cases c : 64 * (wn + 1) ≤ (q : Int)
    · exact h0 q q1 c
    · rw [own_memw]
      by_cases c2 : q / 64 = wk
      · rw [c2]; exact t3 _ (by omega)
      · rw [hz (q / 64) (by omega) (by omega)]; exact own_b_zero _
theorem own_lf3 (w : Nat → Int64) (y wn : Int) (h0 : ∀ q : Nat, (q : Int) ≤ y → 64 * (wn + 1) ≤ q → own_mem w q = false) (hz : ∀ k : Nat, (k : Int) ≤ wn → w k = 0) : own_last w y (-1) := by
  refine Or.inl ⟨rfl, fun q q1 => ?_⟩
  by_cases c : 64 * (wn + 1) ≤ (q : Int)
  · exact h0 q q1 c
  · rw [own_memw, hz (q / 64) (by omega)]; exact own_b_zero _
theorem own_la {w sm : Nat → Int64} (I : own_inv w sm) (wn k2 : Int32) (a : Nat) (sb : Int64) (h0 : 0 ≤ wn.toInt ∧ wn.toInt < 128) (ha : (a : Int) = wn.toInt / 64) (hk : k2.toInt = 63 - wn.toInt % 64) (hb : sb = (sm a) &&& XT.ushrL (-1 : Int64) k2) (k : Nat) (q1 : (k : Int) ≤ wn.toInt) (q2 : k / 64 = a) (q3 : own_b sb (k % 64) = false) : w k = 0 := by
  apply own_w0 I k (by omega)
  rw [hb, own_b_upto _ wn k2 h0.1 hk _ (by omega)] at q3
  have d : decide (k % 64 ≤ wn.toInt.toNat % 64) = true := by rw [decide_eq_true_eq]; omega
  rw [d, Bool.and_true] at q3
  rw [q2]; exact q3
theorem own_lk {w sm : Nat → Int64} (I : own_inv w sm) (wn k2 : Int32) (a : Nat) (sb : Int64) (s : Int) (h0 : 0 ≤ wn.toInt ∧ wn.toInt < 128) (ha : (a : Int) = wn.toInt / 64) (hk : k2.toInt = 63 - wn.toInt % 64) (hb : sb = (sm a) &&& XT.ushrL (-1 : Int64) k2) (ht : own_lz sb s) : (((64 * a + (63 - s).toNat : Nat) : Int) ≤ wn.toInt) ∧ (¬ w (64 * a + (63 - s).toNat) = 0) ∧ ∀ k : Nat, 64 * a + (63 - s).toNat < k → (k : Int) ≤ wn.toInt → w k = 0 := by
  obtain ⟨t0, t1, t2, t3⟩ := ht
  have t2' := t2
  rw [hb, own_b_upto _ wn k2 h0.1 hk _ (by omega), Bool.and_eq_true, decide_eq_true_eq] at t2'
  refine ⟨by omega, (I _ (by omega)).mp ?_, fun k q1 q2 => own_la I wn k2 a sb h0 ha hk hb k q2 (by omega) (t3 _ (by omega))⟩
  rw [show (64 * a + (63 - s).toNat) / 64 = a by omega, show (64 * a + (63 - s).toNat) % 64 = (63 - s).toNat by omega]; exact t2'.1
theorem own_lk1 {w sm : Nat → Int64} (I : own_inv w sm) (wn k2 : Int32) (sb : Int64) (s : Int) (h0 : 64 ≤ wn.toInt ∧ wn.toInt < 128) (hk : k2.toInt = 63 - wn.toInt % 64) (hb : sb = (sm 1) &&& XT.ushrL (-1 : Int64) k2) (hz : sb = 0) (ht : own_lz (sm 0) s) : ((((63 - s).toNat : Nat) : Int) ≤ wn.toInt) ∧ (¬ w (63 - s).toNat = 0) ∧ ∀ k : Nat, (63 - s).toNat < k → (k : Int) ≤ wn.toInt → w k = 0 := by
  obtain ⟨t0, t1, t2, t3⟩ := ht
  refine ⟨by omega, (I _ (by omega)).mp ?_, fun k q1 q2 => ?_⟩
  · rw [show (63 - s).toNat / 64 = 0 by omega, show (63 - s).toNat % 64 = (63 - s).toNat by omega]; exact t2
  · by_cases c : k < 64
    · apply own_w0 I k (by omega)
      rw [show k / 64 = 0 by omega]; exact t3 _ (by omega)
    · exact own_la I wn k2 1 sb (by omega) (by omega) hk hb k q2 (by omega) (by rw [hz]; exact own_b_zero _)
theorem own_ln1 {w sm : Nat → Int64} (I : own_inv w sm) (wn k2 : Int32) (sb : Int64) (h0 : 64 ≤ wn.toInt ∧ wn.toInt < 128) (hk : k2.toInt = 63 - wn.toInt % 64) (hb : sb = (sm 1) &&& XT.ushrL (-1 : Int64) k2) (hz : sb = 0) (hz1 : sm 0 = 0) (k : Nat) (q2 : (k : Int) ≤ wn.toInt) : w k = 0 := by
  by_cases c : k < 64
  · apply own_w0 I k (by omega)
    rw [show k / 64 = 0 by omega, hz1]; exact own_b_zero _
  · exact own_la I wn k2 1 sb (by omega) (by omega) hk hb k q2 (by omega) (by rw [hz]; exact own_b_zero _)
theorem own_ln0 {w sm : Nat → Int64} (I : own_inv w sm) (wn k2 : Int32) (sb : Int64) (h0 : 0 ≤ wn.toInt ∧ wn.toInt < 64) (hk : k2.toInt = 63 - wn.toInt % 64) (hb : sb = (sm 0) &&& XT.ushrL (-1 : Int64) k2) (hz : sb = 0) (k : Nat) (q2 : (k : Int) ≤ wn.toInt) : w k = 0 := own_la I wn k2 0 sb (by omega) (by omega) hk hb k q2 (by omega) (by rw [hz]; exact own_b_zero _)
theorem own_01 (a : Int32) (h0 : 0 ≤ a.toInt) (h1 : a.toInt ≤ 1) : a = 0 ∨ a = 1 := by
  have q : a.toInt = 0 ∨ a.toInt = 1 := by omega
  rcases q with q | q
  · exact Or.inl (Int32.toInt_inj.mp q)
  · exact Or.inr (Int32.toInt_inj.mp q)
theorem own_m63 (y k : Int32) (h : 0 ≤ y.toInt) (hk : k = (63 : Int32) - (y &&& (63 : Int32))) : k.toInt = 63 - y.toInt % 64 := by
  have a := c_mask y 63 6 (by decide) (by decide)
  have e : (63 : Int32).toInt = 63 := rfl
  have b := own_sub 63 (y &&& 63) (by omega) (by omega)
  rw [← hk] at b; omega
theorem own_63 (z d : Int32) (h : 0 ≤ z.toInt ∧ z.toInt < 64) (hd : d = (63 : Int32) - z) : d.toInt = 63 - z.toInt := by
  have e : (63 : Int32).toInt = 63 := rfl
  have b := own_sub 63 z (by omega) (by omega)
  rw [← hd] at b; omega
theorem own_or64 (b : Int32) (hb : 0 ≤ b.toInt ∧ b.toInt < 64) : ((64 : Int32) ||| b).toInt = 64 + b.toInt := by
  have h2 := c_or 64 b 6 (by decide) 64 rfl (by decide) hb.1 hb.2
  have e : (64 : Int32).toInt = 64 := rfl
  have r2 := rng32 ((64 : Int32) ||| b)
  omega
theorem own_or00 (b : Int32) : ((0 : Int32) ||| b).toInt = b.toInt := by rw [Int32.zero_or]
theorem ef_6 (m : MethodId) (o : Addr) (y : Int32) : entryFrame m #[(.ref o), (.int y)] 8 = mkF m 0 #[.val (.ref o), .val (.int y), .unset, .unset, .unset, .unset, .unset, .unset] [] := by first | (simp [entryFrame, mkF, argsToLocals, Value.category]; done) | rfl
theorem pn_6 : plainName "com/example/isolens/isolens/checker/PlaceSet" = true := by first | (simp [plainName, overriddenIn]; done) | decide +kernel
theorem d6_0 : decode prog_39_method_5_code 0 = .ok (.iload_n 1, 1) := by decide +kernel
theorem d6_1 : decode prog_39_method_5_code 1 = .ok (.bipush 6, 2) := by decide +kernel
theorem d6_3 : decode prog_39_method_5_code 3 = .ok (.iushr, 1) := by decide +kernel
theorem d6_4 : decode prog_39_method_5_code 4 = .ok (.istore_n 2, 1) := by decide +kernel
theorem d6_5 : decode prog_39_method_5_code 5 = .ok (.iload_n 2, 1) := by decide +kernel
theorem d6_6 : decode prog_39_method_5_code 6 = .ok (.aload_n 0, 1) := by decide +kernel
theorem d6_7 : decode prog_39_method_5_code 7 = .ok (.getfield 7, 3) := by decide +kernel
theorem d6_10 : decode prog_39_method_5_code 10 = .ok (.arraylength, 1) := by decide +kernel
theorem d6_11 : decode prog_39_method_5_code 11 = .ok (.if_icmp .lt 5, 3) := by decide +kernel
theorem d6_16 : decode prog_39_method_5_code 16 = .ok (.aload_n 0, 1) := by decide +kernel
theorem d6_17 : decode prog_39_method_5_code 17 = .ok (.getfield 7, 3) := by decide +kernel
theorem d6_20 : decode prog_39_method_5_code 20 = .ok (.iload_n 2, 1) := by decide +kernel
theorem d6_21 : decode prog_39_method_5_code 21 = .ok (.laload, 1) := by decide +kernel
theorem d6_22 : decode prog_39_method_5_code 22 = .ok (.ldc2_w 16, 3) := by decide +kernel
theorem d6_25 : decode prog_39_method_5_code 25 = .ok (.iload_n 1, 1) := by decide +kernel
theorem d6_26 : decode prog_39_method_5_code 26 = .ok (.lshl, 1) := by decide +kernel
theorem d6_27 : decode prog_39_method_5_code 27 = .ok (.land, 1) := by decide +kernel
theorem d6_28 : decode prog_39_method_5_code 28 = .ok (.lstore_n 3, 1) := by decide +kernel
theorem d6_29 : decode prog_39_method_5_code 29 = .ok (.lload_n 3, 1) := by decide +kernel
theorem d6_30 : decode prog_39_method_5_code 30 = .ok (.lconst 0, 1) := by decide +kernel
theorem d6_31 : decode prog_39_method_5_code 31 = .ok (.lcmp, 1) := by decide +kernel
theorem d6_32 : decode prog_39_method_5_code 32 = .ok (.ifCond .eq 13, 3) := by decide +kernel
theorem d6_45 : decode prog_39_method_5_code 45 = .ok (.iinc 2 1, 3) := by decide +kernel
theorem d6_48 : decode prog_39_method_5_code 48 = .ok (.iload_n 2, 1) := by decide +kernel
theorem d6_49 : decode prog_39_method_5_code 49 = .ok (.aload_n 0, 1) := by decide +kernel
theorem d6_50 : decode prog_39_method_5_code 50 = .ok (.getfield 7, 3) := by decide +kernel
theorem d6_53 : decode prog_39_method_5_code 53 = .ok (.arraylength, 1) := by decide +kernel
theorem d6_54 : decode prog_39_method_5_code 54 = .ok (.if_icmp .ne 5, 3) := by decide +kernel
theorem d6_59 : decode prog_39_method_5_code 59 = .ok (.iload_n 2, 1) := by decide +kernel
theorem d6_60 : decode prog_39_method_5_code 60 = .ok (.bipush 6, 2) := by decide +kernel
theorem d6_62 : decode prog_39_method_5_code 62 = .ok (.iushr, 1) := by decide +kernel
theorem d6_63 : decode prog_39_method_5_code 63 = .ok (.istore 5, 2) := by decide +kernel
theorem d6_65 : decode prog_39_method_5_code 65 = .ok (.aload_n 0, 1) := by decide +kernel
theorem d6_66 : decode prog_39_method_5_code 66 = .ok (.getfield 13, 3) := by decide +kernel
theorem d6_69 : decode prog_39_method_5_code 69 = .ok (.iload 5, 2) := by decide +kernel
theorem d6_71 : decode prog_39_method_5_code 71 = .ok (.laload, 1) := by decide +kernel
theorem d6_72 : decode prog_39_method_5_code 72 = .ok (.ldc2_w 16, 3) := by decide +kernel
theorem d6_75 : decode prog_39_method_5_code 75 = .ok (.iload_n 2, 1) := by decide +kernel
theorem d6_76 : decode prog_39_method_5_code 76 = .ok (.lshl, 1) := by decide +kernel
theorem d6_77 : decode prog_39_method_5_code 77 = .ok (.land, 1) := by decide +kernel
theorem d6_78 : decode prog_39_method_5_code 78 = .ok (.lstore 6, 2) := by decide +kernel
theorem d6_80 : decode prog_39_method_5_code 80 = .ok (.lload 6, 2) := by decide +kernel
theorem d6_82 : decode prog_39_method_5_code 82 = .ok (.lconst 0, 1) := by decide +kernel
theorem d6_83 : decode prog_39_method_5_code 83 = .ok (.lcmp, 1) := by decide +kernel
theorem d6_84 : decode prog_39_method_5_code 84 = .ok (.ifCond .ne 30, 3) := by decide +kernel
theorem d6_114 : decode prog_39_method_5_code 114 = .ok (.iload 5, 2) := by decide +kernel
theorem d6_116 : decode prog_39_method_5_code 116 = .ok (.bipush 6, 2) := by decide +kernel
theorem d6_118 : decode prog_39_method_5_code 118 = .ok (.ishl, 1) := by decide +kernel
theorem d6_119 : decode prog_39_method_5_code 119 = .ok (.lload 6, 2) := by decide +kernel
theorem d6_121 : decode prog_39_method_5_code 121 = .ok (.invokestatic 18, 3) := by decide +kernel
theorem pd__J_I_228 : parseMethodDescriptor "(J)I" = some ⟨[.long], some .int⟩ := by decide +kernel
theorem d6_124 : decode prog_39_method_5_code 124 = .ok (.ior, 1) := by decide +kernel
theorem d6_125 : decode prog_39_method_5_code 125 = .ok (.istore_n 2, 1) := by decide +kernel
theorem d6_126 : decode prog_39_method_5_code 126 = .ok (.iload_n 2, 1) := by decide +kernel
theorem d6_127 : decode prog_39_method_5_code 127 = .ok (.bipush 6, 2) := by decide +kernel
theorem d6_129 : decode prog_39_method_5_code 129 = .ok (.ishl, 1) := by decide +kernel
theorem d6_130 : decode prog_39_method_5_code 130 = .ok (.aload_n 0, 1) := by decide +kernel
theorem d6_131 : decode prog_39_method_5_code 131 = .ok (.getfield 7, 3) := by decide +kernel
theorem d6_134 : decode prog_39_method_5_code 134 = .ok (.iload_n 2, 1) := by decide +kernel
theorem d6_135 : decode prog_39_method_5_code 135 = .ok (.laload, 1) := by decide +kernel
theorem d6_136 : decode prog_39_method_5_code 136 = .ok (.invokestatic 18, 3) := by decide +kernel
theorem d6_139 : decode prog_39_method_5_code 139 = .ok (.ior, 1) := by decide +kernel
theorem d6_140 : decode prog_39_method_5_code 140 = .ok (.ireturn, 1) := by decide +kernel
theorem d6_87 : decode prog_39_method_5_code 87 = .ok (.iinc 5 1, 3) := by decide +kernel
theorem d6_90 : decode prog_39_method_5_code 90 = .ok (.iload 5, 2) := by decide +kernel
theorem d6_92 : decode prog_39_method_5_code 92 = .ok (.aload_n 0, 1) := by decide +kernel
theorem d6_93 : decode prog_39_method_5_code 93 = .ok (.getfield 13, 3) := by decide +kernel
theorem d6_96 : decode prog_39_method_5_code 96 = .ok (.arraylength, 1) := by decide +kernel
theorem d6_97 : decode prog_39_method_5_code 97 = .ok (.if_icmp .ne 5, 3) := by decide +kernel
theorem d6_102 : decode prog_39_method_5_code 102 = .ok (.aload_n 0, 1) := by decide +kernel
theorem d6_103 : decode prog_39_method_5_code 103 = .ok (.getfield 13, 3) := by decide +kernel
theorem d6_106 : decode prog_39_method_5_code 106 = .ok (.iload 5, 2) := by decide +kernel
theorem d6_108 : decode prog_39_method_5_code 108 = .ok (.laload, 1) := by decide +kernel
theorem d6_109 : decode prog_39_method_5_code 109 = .ok (.lstore 6, 2) := by decide +kernel
theorem d6_111 : decode prog_39_method_5_code 111 = .ok (.goto (-31), 3) := by decide +kernel
theorem d6_100 : decode prog_39_method_5_code 100 = .ok (.iconst (-1), 1) := by decide +kernel
theorem d6_101 : decode prog_39_method_5_code 101 = .ok (.ireturn, 1) := by decide +kernel
theorem d6_57 : decode prog_39_method_5_code 57 = .ok (.iconst (-1), 1) := by decide +kernel
theorem d6_58 : decode prog_39_method_5_code 58 = .ok (.ireturn, 1) := by decide +kernel
theorem d6_35 : decode prog_39_method_5_code 35 = .ok (.iload_n 2, 1) := by decide +kernel
theorem d6_36 : decode prog_39_method_5_code 36 = .ok (.bipush 6, 2) := by decide +kernel
theorem d6_38 : decode prog_39_method_5_code 38 = .ok (.ishl, 1) := by decide +kernel
theorem d6_39 : decode prog_39_method_5_code 39 = .ok (.lload_n 3, 1) := by decide +kernel
theorem d6_40 : decode prog_39_method_5_code 40 = .ok (.invokestatic 18, 3) := by decide +kernel
theorem d6_43 : decode prog_39_method_5_code 43 = .ok (.ior, 1) := by decide +kernel
theorem d6_44 : decode prog_39_method_5_code 44 = .ok (.ireturn, 1) := by decide +kernel
set_option maxRecDepth 65536 in
set_option maxHeartbeats 40000000 in
theorem rm6 (l : Launch) (Z : State) (a0 : Array Value) (hw : ∀ d ∈ tables_1, d.before a0 Z = true) (o : Addr) (y : Int32) (tw ts : Addr) (w sm : Nat → Int64) (h0 : Heap) (F1 : Fld Z h0 o "com/example/isolens/isolens/checker/PlaceSet" "words" "[J" (.ref tw)) (F2 : Fld Z h0 o "com/example/isolens/isolens/checker/PlaceSet" "summary" "[J" (.ref ts)) (A1 : Ara Z h0 tw .long 128 (fun j => .long (w j))) (A2 : Ara Z h0 ts .long 2 (fun j => .long (sm j))) (hp : 0 ≤ y.toInt ∧ y.toInt < 8192) (hin : own_inv w sm) :
    Ct l Z (⟨"com/example/isolens/isolens/checker/PlaceSet", "firstFrom", "(I)I"⟩ : MethodName) prog_39_method_5_code 8 (some .int) ({ frames := 2, cells := 0, slots := 0, locals := 64 } : Room) #[(.ref o), (.int y)] h0 (QI h0 (fun r => own_first w y.toInt r.toInt)) := by
  refine own_met (plainFor_of_name pn_6) (fun m => ef_6 m o y) ?_
  intro p e s m below meth c T0 X0 hx hby hml hown hnm hret hlk hZ e0
  refine g_iloadN X0 hx hby d6_0 (pc' := 1) rfl rfl ?_
  refine g_bipush X0 hx hby d6_1 (pc' := 3) rfl (n := (6 : Int32)) (by first | rfl | decide) ?_
  refine g_iushr X0 hx hby d6_3 (pc' := 4) rfl ?_
  refine g_nameI (fun wd h_wd => ?_)
  have f_wd := own_us _ wd 6 6 (by decide) (by decide) (by omega) h_wd
  replace f_wd : wd.toInt = y.toInt / 64 := f_wd
  refine g_istoreN X0 hx hby d6_4 (pc' := 5) rfl (Ls' := #[.val (.ref o), .val (.int y), .val (.int wd), .unset, .unset, .unset, .unset, .unset]) rfl ?_
  refine g_iloadN X0 hx hby d6_5 (pc' := 6) rfl rfl ?_
  refine g_aloadN X0 hx hby d6_6 (pc' := 7) rfl rfl rfl ?_
  refine g_getF X0 hx hby hZ hown e0 (hw _ (List.mem_of_getElem? (i := 10) rfl)) F1 d6_7 (pc' := 10) rfl (fun T1 X1 e1 => ?_)
  refine a_arraylength X1 hx hby hZ e1 A1 (N := (128 : Int32)) rfl d6_10 (pc' := 11) rfl ?_
  refine g_icmplt X1 hx hby d6_11 (pt := 16) (pf := 14) (by decide) (by decide) rfl (fun (h11 : wd.toInt < 128) => ?_) (fun (h11 : 128 ≤ wd.toInt) => (by exfalso; omega))
  refine g_aloadN X1 hx hby d6_16 (pc' := 17) rfl rfl rfl ?_
  refine g_getF X1 hx hby hZ hown e1 (hw _ (List.mem_of_getElem? (i := 10) rfl)) F1 d6_17 (pc' := 20) rfl (fun T2 X2 e2 => ?_)
  refine g_iloadN X2 hx hby d6_20 (pc' := 21) rfl rfl ?_
  refine a_laload X2 hx hby hZ e2 A1 (by omega) (by omega) (v := (.long (w wd.toInt.toNat))) (rfl) d6_21 (pc' := 22) rfl ?_
  refine g_ldcL X2 hx hby hZ hown (hw _ (List.mem_of_getElem? (i := 24) rfl)) d6_22 (pc' := 25) rfl ?_
  refine g_iloadN X2 hx hby d6_25 (pc' := 26) rfl rfl ?_
  refine g_lshl X2 hx hby d6_26 (pc' := 27) rfl ?_
  refine g_land X2 hx hby d6_27 (pc' := 28) rfl ?_
  refine g_nameL (fun bs h_bs => ?_)
  refine g_lstoreN X2 hx hby d6_28 (pc' := 29) rfl (Ls' := #[.val (.ref o), .val (.int y), .val (.int wd), .val (.long bs), .second, .unset, .unset, .unset]) rfl ?_
  refine g_lloadN X2 hx hby d6_29 (pc' := 30) rfl rfl ?_
  refine g_lconst X2 hx hby d6_30 (pc' := 31) rfl (n := (0 : Int64)) (by first | rfl | decide) ?_
  refine g_lcmpeq X2 hx hby d6_31 (pc' := 32) rfl d6_32 (pt := 45) (pf := 35) (by decide) (by decide) rfl (fun (h32 : bs = (0 : Int64)) => ?_) (fun (h32 : ¬ bs = (0 : Int64)) => ?_)
  · have h32i : bs.toInt = 0 := congrArg Int64.toInt h32
    refine g_iinc X2 hx hby d6_45 (pc' := 48) rfl rfl (Ls' := #[.val (.ref o), .val (.int y), .val (.int (wd + (1 : Int32))), .val (.long bs), .second, .unset, .unset, .unset]) rfl ?_
    obtain ⟨wn, h_wn⟩ : ∃ z : Int32, z = wd + (1 : Int32) := ⟨_, rfl⟩
    rw [← h_wn]
    have f_wn : wn.toInt = wd.toInt + (1) := by rw [h_wn]; exact own_add wd (1) (by show _ ≤ wd.toInt + (1 : Int); omega) (by show wd.toInt + (1 : Int) < _; omega)
    have hlow := own_ff0 w y wd hp f_wd (h_bs.symm.trans h32)
    refine g_iloadN X2 hx hby d6_48 (pc' := 49) rfl rfl ?_
    refine g_aloadN X2 hx hby d6_49 (pc' := 50) rfl rfl rfl ?_
    refine g_getF X2 hx hby hZ hown e2 (hw _ (List.mem_of_getElem? (i := 10) rfl)) F1 d6_50 (pc' := 53) rfl (fun T3 X3 e3 => ?_)
    refine a_arraylength X3 hx hby hZ e3 A1 (N := (128 : Int32)) rfl d6_53 (pc' := 54) rfl ?_
    refine g_icmpne X3 hx hby d6_54 (pt := 59) (pf := 57) (by decide) (by decide) rfl (fun (h54 : ¬ wn = (128 : Int32)) => ?_) (fun (h54 : wn = (128 : Int32)) => ?_)
    · have h54i : ¬ wn.toInt = 128 := fun q => h54 (Int32.toInt_inj.mp q)
      have hw128 : wn.toInt < 128 := by have : ¬ wn.toInt = 128 := fun q => h54 (Int32.toInt_inj.mp q); omega
      refine g_iloadN X3 hx hby d6_59 (pc' := 60) rfl rfl ?_
      refine g_bipush X3 hx hby d6_60 (pc' := 62) rfl (n := (6 : Int32)) (by first | rfl | decide) ?_
      refine g_iushr X3 hx hby d6_62 (pc' := 63) rfl ?_
      refine g_nameI (fun sa h_sa => ?_)
      have f_sa := own_us _ sa 6 6 (by decide) (by decide) (by omega) h_sa
      replace f_sa : sa.toInt = wn.toInt / 64 := f_sa
      refine g_istore X3 hx hby d6_63 (pc' := 65) rfl (Ls' := #[.val (.ref o), .val (.int y), .val (.int wn), .val (.long bs), .second, .val (.int sa), .unset, .unset]) rfl ?_
      have hsa := own_01 sa (by omega) (by omega)
      clear h_sa
      rcases hsa with rfl | rfl
      · have ev_sa : (0 : Int32).toInt = 0 := rfl
        refine g_aloadN X3 hx hby d6_65 (pc' := 66) rfl rfl rfl ?_
        refine g_getF X3 hx hby hZ hown e3 (hw _ (List.mem_of_getElem? (i := 12) rfl)) F2 d6_66 (pc' := 69) rfl (fun T4 X4 e4 => ?_)
        refine g_iload X4 hx hby d6_69 (pc' := 71) rfl rfl ?_
        refine a_laload X4 hx hby hZ e4 A2 (by decide) (by decide) (v := (.long (sm 0))) (rfl) d6_71 (pc' := 72) rfl ?_
        refine g_ldcL X4 hx hby hZ hown (hw _ (List.mem_of_getElem? (i := 24) rfl)) d6_72 (pc' := 75) rfl ?_
        refine g_iloadN X4 hx hby d6_75 (pc' := 76) rfl rfl ?_
        refine g_lshl X4 hx hby d6_76 (pc' := 77) rfl ?_
        refine g_land X4 hx hby d6_77 (pc' := 78) rfl ?_
        refine g_nameL (fun sb h_sb => ?_)
        refine g_lstore X4 hx hby d6_78 (pc' := 80) rfl (Ls' := #[.val (.ref o), .val (.int y), .val (.int wn), .val (.long bs), .second, .val (.int (0 : Int32)), .val (.long sb), .second]) rfl ?_
        refine g_lload X4 hx hby d6_80 (pc' := 82) rfl rfl ?_
        refine g_lconst X4 hx hby d6_82 (pc' := 83) rfl (n := (0 : Int64)) (by first | rfl | decide) ?_
        refine g_lcmpne X4 hx hby d6_83 (pc' := 84) rfl d6_84 (pt := 114) (pf := 87) (by decide) (by decide) rfl (fun (h84 : ¬ sb = (0 : Int64)) => ?_) (fun (h84 : sb = (0 : Int64)) => ?_)
        · have h84i : ¬ sb.toInt = 0 := fun q => h84 (Int64.toInt_inj.mp q)
          refine g_iload X4 hx hby d6_114 (pc' := 116) rfl rfl ?_
          refine g_bipush X4 hx hby d6_116 (pc' := 118) rfl (n := (6 : Int32)) (by first | rfl | decide) ?_
          refine g_ishl X4 hx hby d6_118 (pc' := 119) rfl ?_
          show Go p e below s (QI h0 (fun r => own_first w y.toInt r.toInt)) ({ frames := 2, cells := 0, slots := 0, locals := 64 } : Room).cells ({ frames := 2, cells := 0, slots := 0, locals := 64 } : Room).slots m T4 119 #[.val (.ref o), .val (.int y), .val (.int wn), .val (.long bs), .second, .val (.int (0 : Int32)), .val (.long sb), .second] [(.int (0 : Int32))]
          refine g_lload X4 hx hby d6_119 (pc' := 121) rfl rfl ?_
          refine g_static X4 hx hby hZ hown hml rfl (hw _ (List.mem_of_getElem? (i := 47) rfl)) (hw _ (List.mem_of_getElem? (i := 48) rfl)) (hw _ (List.mem_of_getElem? (i := 49) rfl)) (hw _ (List.mem_of_getElem? (i := 50) rfl)) (by decide) e4 (rm10 l Z a0 hw sb h0 h84) pd__J_I_228 (argsL := [(.long sb)]) (rest := [(.int (0 : Int32))]) rfl rfl rfl d6_121 (pc' := 124) rfl (by decide) (Nat.le_of_ble_eq_true rfl) (by decide) (by decide) ?_
          intro Tp121 vp121 Lp121 Xp121 qp121
          obtain ⟨⟨rp121, rfl, h_rp121⟩, ep121, rfl⟩ := qp121
          rw [List.append_nil] at Xp121
          replace Xp121 : Stand p l e ({ frames := 2, cells := 0, slots := 0, locals := 64 } : Room) s m _ below meth c Tp121 _ 0 0 := Xp121
          show Go p e below s (QI h0 (fun r => own_first w y.toInt r.toInt)) ({ frames := 2, cells := 0, slots := 0, locals := 64 } : Room).cells ({ frames := 2, cells := 0, slots := 0, locals := 64 } : Room).slots m Tp121 124 #[.val (.ref o), .val (.int y), .val (.int wn), .val (.long bs), .second, .val (.int (0 : Int32)), .val (.long sb), .second] [(.int rp121), (.int (0 : Int32))]
          refine g_ior Xp121 hx hby d6_124 (pc' := 125) rfl ?_
          refine g_nameI (fun wk h_wk => ?_)
          have f_wk : wk.toInt = rp121.toInt := by rw [h_wk]; exact own_or00 _
          have hwk := own_sk hin wn 0 sb rp121.toInt ⟨by omega, by omega⟩ (by omega) h_sb h_rp121
          have e_wk : wk.toInt.toNat = 64 * 0 + rp121.toInt.toNat := by omega
          rw [← e_wk] at hwk
          have hwb : 0 ≤ wk.toInt ∧ wk.toInt < 128 := by have := h_rp121.1; have := h_rp121.2.1; omega
          refine g_istoreN Xp121 hx hby d6_125 (pc' := 126) rfl (Ls' := #[.val (.ref o), .val (.int y), .val (.int wk), .val (.long bs), .second, .val (.int (0 : Int32)), .val (.long sb), .second]) rfl ?_
          refine g_iloadN Xp121 hx hby d6_126 (pc' := 127) rfl rfl ?_
          refine g_bipush Xp121 hx hby d6_127 (pc' := 129) rfl (n := (6 : Int32)) (by first | rfl | decide) ?_
          refine g_ishl Xp121 hx hby d6_129 (pc' := 130) rfl ?_
          refine g_aloadN Xp121 hx hby d6_130 (pc' := 131) rfl rfl rfl ?_
          refine g_getF Xp121 hx hby hZ hown ep121 (hw _ (List.mem_of_getElem? (i := 10) rfl)) F1 d6_131 (pc' := 134) rfl (fun T5 X5 e5 => ?_)
          refine g_iloadN X5 hx hby d6_134 (pc' := 135) rfl rfl ?_
          refine a_laload X5 hx hby hZ e5 A1 (by omega) (by omega) (v := (.long (w wk.toInt.toNat))) (rfl) d6_135 (pc' := 136) rfl ?_
          refine g_static X5 hx hby hZ hown hml rfl (hw _ (List.mem_of_getElem? (i := 47) rfl)) (hw _ (List.mem_of_getElem? (i := 48) rfl)) (hw _ (List.mem_of_getElem? (i := 49) rfl)) (hw _ (List.mem_of_getElem? (i := 50) rfl)) (by decide) e5 (rm10 l Z a0 hw (w wk.toInt.toNat) h0 hwk.2.1) pd__J_I_228 (argsL := [(.long (w wk.toInt.toNat))]) (rest := [(.int (wk <<< ((6 : Int32) &&& 31)))]) rfl rfl rfl d6_136 (pc' := 139) rfl (by decide) (Nat.le_of_ble_eq_true rfl) (by decide) (by decide) ?_
          intro Tp136 vp136 Lp136 Xp136 qp136
          obtain ⟨⟨rp136, rfl, h_rp136⟩, ep136, rfl⟩ := qp136
          rw [List.append_nil] at Xp136
          replace Xp136 : Stand p l e ({ frames := 2, cells := 0, slots := 0, locals := 64 } : Room) s m _ below meth c Tp136 _ 0 0 := Xp136
          show Go p e below s (QI h0 (fun r => own_first w y.toInt r.toInt)) ({ frames := 2, cells := 0, slots := 0, locals := 64 } : Room).cells ({ frames := 2, cells := 0, slots := 0, locals := 64 } : Room).slots m Tp136 139 #[.val (.ref o), .val (.int y), .val (.int wk), .val (.long bs), .second, .val (.int (0 : Int32)), .val (.long sb), .second] [(.int rp136), (.int (wk <<< ((6 : Int32) &&& 31)))]
          refine g_ior Xp136 hx hby d6_139 (pc' := 140) rfl ?_
          exact g_retI Xp136 hx hby hlk hret d6_140 (by decide) (by decide) (⟨⟨_, rfl, own_ff2 w y.toInt wn.toInt wk.toInt.toNat rp136.toInt _ (fun q q1 q2 => hlow q q1 (by omega)) hp.1 (by omega) hwk.2.2 hwk.1 h_rp136 (by rw [own_sh6 wk rp136 hwb ⟨h_rp136.1, h_rp136.2.1⟩]; omega)⟩, ep136, rfl⟩)
        · have h84i : sb.toInt = 0 := congrArg Int64.toInt h84
          have hsb0 := h84
          refine g_iinc X4 hx hby d6_87 (pc' := 90) rfl rfl (Ls' := #[.val (.ref o), .val (.int y), .val (.int wn), .val (.long bs), .second, .val (.int (1 : Int32)), .val (.long sb), .second]) rfl ?_
          refine g_iload X4 hx hby d6_90 (pc' := 92) rfl rfl ?_
          refine g_aloadN X4 hx hby d6_92 (pc' := 93) rfl rfl rfl ?_
          refine g_getF X4 hx hby hZ hown e4 (hw _ (List.mem_of_getElem? (i := 12) rfl)) F2 d6_93 (pc' := 96) rfl (fun T6 X6 e6 => ?_)
          refine a_arraylength X6 hx hby hZ e6 A2 (N := (2 : Int32)) rfl d6_96 (pc' := 97) rfl ?_
          refine g_icmpne X6 hx hby d6_97 (pt := 102) (pf := 100) (by decide) (by decide) rfl (fun (h97 : ¬ (1 : Int32) = (2 : Int32)) => ?_) (fun (h97 : (1 : Int32) = (2 : Int32)) => (by exfalso; revert h97; decide))
          refine g_aloadN X6 hx hby d6_102 (pc' := 103) rfl rfl rfl ?_
          refine g_getF X6 hx hby hZ hown e6 (hw _ (List.mem_of_getElem? (i := 12) rfl)) F2 d6_103 (pc' := 106) rfl (fun T7 X7 e7 => ?_)
          refine g_iload X7 hx hby d6_106 (pc' := 108) rfl rfl ?_
          refine a_laload X7 hx hby hZ e7 A2 (by decide) (by decide) (v := (.long (sm 1))) (rfl) d6_108 (pc' := 109) rfl ?_
          refine g_lstore X7 hx hby d6_109 (pc' := 111) rfl (Ls' := #[.val (.ref o), .val (.int y), .val (.int wn), .val (.long bs), .second, .val (.int (1 : Int32)), .val (.long (sm 1)), .second]) rfl ?_
          refine g_goto X7 hx hby d6_111 (pc' := 80) (by decide) (by decide) ?_
          refine g_lload X7 hx hby d6_80 (pc' := 82) rfl rfl ?_
          refine g_lconst X7 hx hby d6_82 (pc' := 83) rfl (n := (0 : Int64)) (by first | rfl | decide) ?_
          refine g_lcmpne X7 hx hby d6_83 (pc' := 84) rfl d6_84 (pt := 114) (pf := 87) (by decide) (by decide) rfl (fun (h84 : ¬ (sm 1) = (0 : Int64)) => ?_) (fun (h84 : (sm 1) = (0 : Int64)) => ?_)
          · have h84i : ¬ (sm 1).toInt = 0 := fun q => h84 (Int64.toInt_inj.mp q)
            refine g_iload X7 hx hby d6_114 (pc' := 116) rfl rfl ?_
            refine g_bipush X7 hx hby d6_116 (pc' := 118) rfl (n := (6 : Int32)) (by first | rfl | decide) ?_
            refine g_ishl X7 hx hby d6_118 (pc' := 119) rfl ?_
            show Go p e below s (QI h0 (fun r => own_first w y.toInt r.toInt)) ({ frames := 2, cells := 0, slots := 0, locals := 64 } : Room).cells ({ frames := 2, cells := 0, slots := 0, locals := 64 } : Room).slots m T7 119 #[.val (.ref o), .val (.int y), .val (.int wn), .val (.long bs), .second, .val (.int (1 : Int32)), .val (.long (sm 1)), .second] [(.int (64 : Int32))]
            refine g_lload X7 hx hby d6_119 (pc' := 121) rfl rfl ?_
            refine g_static X7 hx hby hZ hown hml rfl (hw _ (List.mem_of_getElem? (i := 47) rfl)) (hw _ (List.mem_of_getElem? (i := 48) rfl)) (hw _ (List.mem_of_getElem? (i := 49) rfl)) (hw _ (List.mem_of_getElem? (i := 50) rfl)) (by decide) e7 (rm10 l Z a0 hw (sm 1) h0 h84) pd__J_I_228 (argsL := [(.long (sm 1))]) (rest := [(.int (64 : Int32))]) rfl rfl rfl d6_121 (pc' := 124) rfl (by decide) (Nat.le_of_ble_eq_true rfl) (by decide) (by decide) ?_
            intro Tp121 vp121 Lp121 Xp121 qp121
            obtain ⟨⟨rp121, rfl, h_rp121⟩, ep121, rfl⟩ := qp121
            rw [List.append_nil] at Xp121
            replace Xp121 : Stand p l e ({ frames := 2, cells := 0, slots := 0, locals := 64 } : Room) s m _ below meth c Tp121 _ 0 0 := Xp121
            show Go p e below s (QI h0 (fun r => own_first w y.toInt r.toInt)) ({ frames := 2, cells := 0, slots := 0, locals := 64 } : Room).cells ({ frames := 2, cells := 0, slots := 0, locals := 64 } : Room).slots m Tp121 124 #[.val (.ref o), .val (.int y), .val (.int wn), .val (.long bs), .second, .val (.int (1 : Int32)), .val (.long (sm 1)), .second] [(.int rp121), (.int (64 : Int32))]
            refine g_ior Xp121 hx hby d6_124 (pc' := 125) rfl ?_
            refine g_nameI (fun wk h_wk => ?_)
            have f_wk : wk.toInt = 64 + rp121.toInt := by rw [h_wk]; exact own_or64 _ ⟨h_rp121.1, h_rp121.2.1⟩
            have hwk := own_sk1 hin wn sb rp121.toInt ⟨by omega, by omega⟩ h_sb hsb0 h_rp121
            have e_wk : wk.toInt.toNat = 64 + rp121.toInt.toNat := by have := h_rp121.1; omega
            rw [← e_wk] at hwk
            have hwb : 0 ≤ wk.toInt ∧ wk.toInt < 128 := by have := h_rp121.1; have := h_rp121.2.1; omega
            refine g_istoreN Xp121 hx hby d6_125 (pc' := 126) rfl (Ls' := #[.val (.ref o), .val (.int y), .val (.int wk), .val (.long bs), .second, .val (.int (1 : Int32)), .val (.long (sm 1)), .second]) rfl ?_
            refine g_iloadN Xp121 hx hby d6_126 (pc' := 127) rfl rfl ?_
            refine g_bipush Xp121 hx hby d6_127 (pc' := 129) rfl (n := (6 : Int32)) (by first | rfl | decide) ?_
            refine g_ishl Xp121 hx hby d6_129 (pc' := 130) rfl ?_
            refine g_aloadN Xp121 hx hby d6_130 (pc' := 131) rfl rfl rfl ?_
            refine g_getF Xp121 hx hby hZ hown ep121 (hw _ (List.mem_of_getElem? (i := 10) rfl)) F1 d6_131 (pc' := 134) rfl (fun T8 X8 e8 => ?_)
            refine g_iloadN X8 hx hby d6_134 (pc' := 135) rfl rfl ?_
            refine a_laload X8 hx hby hZ e8 A1 (by omega) (by omega) (v := (.long (w wk.toInt.toNat))) (rfl) d6_135 (pc' := 136) rfl ?_
            refine g_static X8 hx hby hZ hown hml rfl (hw _ (List.mem_of_getElem? (i := 47) rfl)) (hw _ (List.mem_of_getElem? (i := 48) rfl)) (hw _ (List.mem_of_getElem? (i := 49) rfl)) (hw _ (List.mem_of_getElem? (i := 50) rfl)) (by decide) e8 (rm10 l Z a0 hw (w wk.toInt.toNat) h0 hwk.2.1) pd__J_I_228 (argsL := [(.long (w wk.toInt.toNat))]) (rest := [(.int (wk <<< ((6 : Int32) &&& 31)))]) rfl rfl rfl d6_136 (pc' := 139) rfl (by decide) (Nat.le_of_ble_eq_true rfl) (by decide) (by decide) ?_
            intro Tp136 vp136 Lp136 Xp136 qp136
            obtain ⟨⟨rp136, rfl, h_rp136⟩, ep136, rfl⟩ := qp136
            rw [List.append_nil] at Xp136
            replace Xp136 : Stand p l e ({ frames := 2, cells := 0, slots := 0, locals := 64 } : Room) s m _ below meth c Tp136 _ 0 0 := Xp136
            show Go p e below s (QI h0 (fun r => own_first w y.toInt r.toInt)) ({ frames := 2, cells := 0, slots := 0, locals := 64 } : Room).cells ({ frames := 2, cells := 0, slots := 0, locals := 64 } : Room).slots m Tp136 139 #[.val (.ref o), .val (.int y), .val (.int wk), .val (.long bs), .second, .val (.int (1 : Int32)), .val (.long (sm 1)), .second] [(.int rp136), (.int (wk <<< ((6 : Int32) &&& 31)))]
            refine g_ior Xp136 hx hby d6_139 (pc' := 140) rfl ?_
            exact g_retI Xp136 hx hby hlk hret d6_140 (by decide) (by decide) (⟨⟨_, rfl, own_ff2 w y.toInt wn.toInt wk.toInt.toNat rp136.toInt _ (fun q q1 q2 => hlow q q1 (by omega)) hp.1 (by omega) hwk.2.2 hwk.1 h_rp136 (by rw [own_sh6 wk rp136 hwb ⟨h_rp136.1, h_rp136.2.1⟩]; omega)⟩, ep136, rfl⟩)
          · have h84i : (sm 1).toInt = 0 := congrArg Int64.toInt h84
            skip
            refine g_iinc X7 hx hby d6_87 (pc' := 90) rfl rfl (Ls' := #[.val (.ref o), .val (.int y), .val (.int wn), .val (.long bs), .second, .val (.int (2 : Int32)), .val (.long (sm 1)), .second]) rfl ?_
            refine g_iload X7 hx hby d6_90 (pc' := 92) rfl rfl ?_
            refine g_aloadN X7 hx hby d6_92 (pc' := 93) rfl rfl rfl ?_
            refine g_getF X7 hx hby hZ hown e7 (hw _ (List.mem_of_getElem? (i := 12) rfl)) F2 d6_93 (pc' := 96) rfl (fun T9 X9 e9 => ?_)
            refine a_arraylength X9 hx hby hZ e9 A2 (N := (2 : Int32)) rfl d6_96 (pc' := 97) rfl ?_
            refine g_icmpne X9 hx hby d6_97 (pt := 102) (pf := 100) (by decide) (by decide) rfl (fun (h97 : ¬ (2 : Int32) = (2 : Int32)) => (by exfalso; revert h97; decide)) (fun (h97 : (2 : Int32) = (2 : Int32)) => ?_)
            refine g_iconst X9 hx hby d6_100 (pc' := 101) rfl (n := (-1 : Int32)) (by first | rfl | decide) ?_
            exact g_retI X9 hx hby hlk hret d6_101 (by decide) (by decide) (⟨⟨_, rfl, own_ff3 w y.toInt wn.toInt (fun q q1 q2 => hlow q q1 (by omega)) (fun k q1 q2 => own_sn0 hin wn sb ⟨by omega, by omega⟩ h_sb hsb0 h84 k q1 q2)⟩, e9, rfl⟩)
      · have ev_sa : (1 : Int32).toInt = 1 := rfl
        refine g_aloadN X3 hx hby d6_65 (pc' := 66) rfl rfl rfl ?_
        refine g_getF X3 hx hby hZ hown e3 (hw _ (List.mem_of_getElem? (i := 12) rfl)) F2 d6_66 (pc' := 69) rfl (fun T10 X10 e10 => ?_)
        refine g_iload X10 hx hby d6_69 (pc' := 71) rfl rfl ?_
        refine a_laload X10 hx hby hZ e10 A2 (by decide) (by decide) (v := (.long (sm 1))) (rfl) d6_71 (pc' := 72) rfl ?_
        refine g_ldcL X10 hx hby hZ hown (hw _ (List.mem_of_getElem? (i := 24) rfl)) d6_72 (pc' := 75) rfl ?_
        refine g_iloadN X10 hx hby d6_75 (pc' := 76) rfl rfl ?_
        refine g_lshl X10 hx hby d6_76 (pc' := 77) rfl ?_
        refine g_land X10 hx hby d6_77 (pc' := 78) rfl ?_
        refine g_nameL (fun sb h_sb => ?_)
        refine g_lstore X10 hx hby d6_78 (pc' := 80) rfl (Ls' := #[.val (.ref o), .val (.int y), .val (.int wn), .val (.long bs), .second, .val (.int (1 : Int32)), .val (.long sb), .second]) rfl ?_
        refine g_lload X10 hx hby d6_80 (pc' := 82) rfl rfl ?_
        refine g_lconst X10 hx hby d6_82 (pc' := 83) rfl (n := (0 : Int64)) (by first | rfl | decide) ?_
        refine g_lcmpne X10 hx hby d6_83 (pc' := 84) rfl d6_84 (pt := 114) (pf := 87) (by decide) (by decide) rfl (fun (h84 : ¬ sb = (0 : Int64)) => ?_) (fun (h84 : sb = (0 : Int64)) => ?_)
        · have h84i : ¬ sb.toInt = 0 := fun q => h84 (Int64.toInt_inj.mp q)
          refine g_iload X10 hx hby d6_114 (pc' := 116) rfl rfl ?_
          refine g_bipush X10 hx hby d6_116 (pc' := 118) rfl (n := (6 : Int32)) (by first | rfl | decide) ?_
          refine g_ishl X10 hx hby d6_118 (pc' := 119) rfl ?_
          show Go p e below s (QI h0 (fun r => own_first w y.toInt r.toInt)) ({ frames := 2, cells := 0, slots := 0, locals := 64 } : Room).cells ({ frames := 2, cells := 0, slots := 0, locals := 64 } : Room).slots m T10 119 #[.val (.ref o), .val (.int y), .val (.int wn), .val (.long bs), .second, .val (.int (1 : Int32)), .val (.long sb), .second] [(.int (64 : Int32))]
          refine g_lload X10 hx hby d6_119 (pc' := 121) rfl rfl ?_
          refine g_static X10 hx hby hZ hown hml rfl (hw _ (List.mem_of_getElem? (i := 47) rfl)) (hw _ (List.mem_of_getElem? (i := 48) rfl)) (hw _ (List.mem_of_getElem? (i := 49) rfl)) (hw _ (List.mem_of_getElem? (i := 50) rfl)) (by decide) e10 (rm10 l Z a0 hw sb h0 h84) pd__J_I_228 (argsL := [(.long sb)]) (rest := [(.int (64 : Int32))]) rfl rfl rfl d6_121 (pc' := 124) rfl (by decide) (Nat.le_of_ble_eq_true rfl) (by decide) (by decide) ?_
          intro Tp121 vp121 Lp121 Xp121 qp121
          obtain ⟨⟨rp121, rfl, h_rp121⟩, ep121, rfl⟩ := qp121
          rw [List.append_nil] at Xp121
          replace Xp121 : Stand p l e ({ frames := 2, cells := 0, slots := 0, locals := 64 } : Room) s m _ below meth c Tp121 _ 0 0 := Xp121
          show Go p e below s (QI h0 (fun r => own_first w y.toInt r.toInt)) ({ frames := 2, cells := 0, slots := 0, locals := 64 } : Room).cells ({ frames := 2, cells := 0, slots := 0, locals := 64 } : Room).slots m Tp121 124 #[.val (.ref o), .val (.int y), .val (.int wn), .val (.long bs), .second, .val (.int (1 : Int32)), .val (.long sb), .second] [(.int rp121), (.int (64 : Int32))]
          refine g_ior Xp121 hx hby d6_124 (pc' := 125) rfl ?_
          refine g_nameI (fun wk h_wk => ?_)
          have f_wk : wk.toInt = 64 + rp121.toInt := by rw [h_wk]; exact own_or64 _ ⟨h_rp121.1, h_rp121.2.1⟩
          have hwk := own_sk hin wn 1 sb rp121.toInt ⟨by omega, by omega⟩ (by omega) h_sb h_rp121
          have e_wk : wk.toInt.toNat = 64 * 1 + rp121.toInt.toNat := by have := h_rp121.1; omega
          rw [← e_wk] at hwk
          have hwb : 0 ≤ wk.toInt ∧ wk.toInt < 128 := by have := h_rp121.1; have := h_rp121.2.1; omega
          refine g_istoreN Xp121 hx hby d6_125 (pc' := 126) rfl (Ls' := #[.val (.ref o), .val (.int y), .val (.int wk), .val (.long bs), .second, .val (.int (1 : Int32)), .val (.long sb), .second]) rfl ?_
          refine g_iloadN Xp121 hx hby d6_126 (pc' := 127) rfl rfl ?_
          refine g_bipush Xp121 hx hby d6_127 (pc' := 129) rfl (n := (6 : Int32)) (by first | rfl | decide) ?_
          refine g_ishl Xp121 hx hby d6_129 (pc' := 130) rfl ?_
          refine g_aloadN Xp121 hx hby d6_130 (pc' := 131) rfl rfl rfl ?_
          refine g_getF Xp121 hx hby hZ hown ep121 (hw _ (List.mem_of_getElem? (i := 10) rfl)) F1 d6_131 (pc' := 134) rfl (fun T11 X11 e11 => ?_)
          refine g_iloadN X11 hx hby d6_134 (pc' := 135) rfl rfl ?_
          refine a_laload X11 hx hby hZ e11 A1 (by omega) (by omega) (v := (.long (w wk.toInt.toNat))) (rfl) d6_135 (pc' := 136) rfl ?_
          refine g_static X11 hx hby hZ hown hml rfl (hw _ (List.mem_of_getElem? (i := 47) rfl)) (hw _ (List.mem_of_getElem? (i := 48) rfl)) (hw _ (List.mem_of_getElem? (i := 49) rfl)) (hw _ (List.mem_of_getElem? (i := 50) rfl)) (by decide) e11 (rm10 l Z a0 hw (w wk.toInt.toNat) h0 hwk.2.1) pd__J_I_228 (argsL := [(.long (w wk.toInt.toNat))]) (rest := [(.int (wk <<< ((6 : Int32) &&& 31)))]) rfl rfl rfl d6_136 (pc' := 139) rfl (by decide) (Nat.le_of_ble_eq_true rfl) (by decide) (by decide) ?_
          intro Tp136 vp136 Lp136 Xp136 qp136
          obtain ⟨⟨rp136, rfl, h_rp136⟩, ep136, rfl⟩ := qp136
          rw [List.append_nil] at Xp136
          replace Xp136 : Stand p l e ({ frames := 2, cells := 0, slots := 0, locals := 64 } : Room) s m _ below meth c Tp136 _ 0 0 := Xp136
          show Go p e below s (QI h0 (fun r => own_first w y.toInt r.toInt)) ({ frames := 2, cells := 0, slots := 0, locals := 64 } : Room).cells ({ frames := 2, cells := 0, slots := 0, locals := 64 } : Room).slots m Tp136 139 #[.val (.ref o), .val (.int y), .val (.int wk), .val (.long bs), .second, .val (.int (1 : Int32)), .val (.long sb), .second] [(.int rp136), (.int (wk <<< ((6 : Int32) &&& 31)))]
          refine g_ior Xp136 hx hby d6_139 (pc' := 140) rfl ?_
          exact g_retI Xp136 hx hby hlk hret d6_140 (by decide) (by decide) (⟨⟨_, rfl, own_ff2 w y.toInt wn.toInt wk.toInt.toNat rp136.toInt _ (fun q q1 q2 => hlow q q1 (by omega)) hp.1 (by omega) hwk.2.2 hwk.1 h_rp136 (by rw [own_sh6 wk rp136 hwb ⟨h_rp136.1, h_rp136.2.1⟩]; omega)⟩, ep136, rfl⟩)
        · have h84i : sb.toInt = 0 := congrArg Int64.toInt h84
          have hsb0 := h84
          refine g_iinc X10 hx hby d6_87 (pc' := 90) rfl rfl (Ls' := #[.val (.ref o), .val (.int y), .val (.int wn), .val (.long bs), .second, .val (.int (2 : Int32)), .val (.long sb), .second]) rfl ?_
          refine g_iload X10 hx hby d6_90 (pc' := 92) rfl rfl ?_
          refine g_aloadN X10 hx hby d6_92 (pc' := 93) rfl rfl rfl ?_
          refine g_getF X10 hx hby hZ hown e10 (hw _ (List.mem_of_getElem? (i := 12) rfl)) F2 d6_93 (pc' := 96) rfl (fun T12 X12 e12 => ?_)
          refine a_arraylength X12 hx hby hZ e12 A2 (N := (2 : Int32)) rfl d6_96 (pc' := 97) rfl ?_
          refine g_icmpne X12 hx hby d6_97 (pt := 102) (pf := 100) (by decide) (by decide) rfl (fun (h97 : ¬ (2 : Int32) = (2 : Int32)) => (by exfalso; revert h97; decide)) (fun (h97 : (2 : Int32) = (2 : Int32)) => ?_)
          refine g_iconst X12 hx hby d6_100 (pc' := 101) rfl (n := (-1 : Int32)) (by first | rfl | decide) ?_
          exact g_retI X12 hx hby hlk hret d6_101 (by decide) (by decide) (⟨⟨_, rfl, own_ff3 w y.toInt wn.toInt (fun q q1 q2 => hlow q q1 (by omega)) (fun k q1 q2 => own_sn1 hin wn sb ⟨by omega, by omega⟩ h_sb h84 k q1 q2)⟩, e12, rfl⟩)
    · have h54i : wn.toInt = 128 := congrArg Int32.toInt h54
      refine g_iconst X3 hx hby d6_57 (pc' := 58) rfl (n := (-1 : Int32)) (by first | rfl | decide) ?_
      exact g_retI X3 hx hby hlk hret d6_58 (by decide) (by decide) (⟨⟨_, rfl, own_ff3 w y.toInt 128 (fun q q1 q2 => hlow q q1 (by omega)) (fun k q1 q2 => by omega)⟩, e3, rfl⟩)
  · have h32i : ¬ bs.toInt = 0 := fun q => h32 (Int64.toInt_inj.mp q)
    refine g_iloadN X2 hx hby d6_35 (pc' := 36) rfl rfl ?_
    refine g_bipush X2 hx hby d6_36 (pc' := 38) rfl (n := (6 : Int32)) (by first | rfl | decide) ?_
    refine g_ishl X2 hx hby d6_38 (pc' := 39) rfl ?_
    refine g_lloadN X2 hx hby d6_39 (pc' := 40) rfl rfl ?_
    refine g_static X2 hx hby hZ hown hml rfl (hw _ (List.mem_of_getElem? (i := 47) rfl)) (hw _ (List.mem_of_getElem? (i := 48) rfl)) (hw _ (List.mem_of_getElem? (i := 49) rfl)) (hw _ (List.mem_of_getElem? (i := 50) rfl)) (by decide) e2 (rm10 l Z a0 hw bs h0 h32) pd__J_I_228 (argsL := [(.long bs)]) (rest := [(.int (wd <<< ((6 : Int32) &&& 31)))]) rfl rfl rfl d6_40 (pc' := 43) rfl (by decide) (Nat.le_of_ble_eq_true rfl) (by decide) (by decide) ?_
    intro Tp40 vp40 Lp40 Xp40 qp40
    obtain ⟨⟨rp40, rfl, h_rp40⟩, ep40, rfl⟩ := qp40
    rw [List.append_nil] at Xp40
    replace Xp40 : Stand p l e ({ frames := 2, cells := 0, slots := 0, locals := 64 } : Room) s m _ below meth c Tp40 _ 0 0 := Xp40
    show Go p e below s (QI h0 (fun r => own_first w y.toInt r.toInt)) ({ frames := 2, cells := 0, slots := 0, locals := 64 } : Room).cells ({ frames := 2, cells := 0, slots := 0, locals := 64 } : Room).slots m Tp40 43 #[.val (.ref o), .val (.int y), .val (.int wd), .val (.long bs), .second, .unset, .unset, .unset] [(.int rp40), (.int (wd <<< ((6 : Int32) &&& 31)))]
    refine g_ior Xp40 hx hby d6_43 (pc' := 44) rfl ?_
    exact g_retI Xp40 hx hby hlk hret d6_44 (by decide) (by decide) (⟨⟨_, rfl, own_ff1 w y wd bs rp40.toInt _ hp f_wd h_bs h_rp40 (own_sh6 wd rp40 ⟨by omega, by omega⟩ ⟨h_rp40.1, h_rp40.2.1⟩)⟩, ep40, rfl⟩)
theorem ef_8 (m : MethodId) (o : Addr) (y : Int32) : entryFrame m #[(.ref o), (.int y)] 8 = mkF m 0 #[.val (.ref o), .val (.int y), .unset, .unset, .unset, .unset, .unset, .unset] [] := by first | (simp [entryFrame, mkF, argsToLocals, Value.category]; done) | rfl
theorem pn_8 : plainName "com/example/isolens/isolens/checker/PlaceSet" = true := by first | (simp [plainName, overriddenIn]; done) | decide +kernel
theorem d8_0 : decode prog_39_method_6_code 0 = .ok (.iload_n 1, 1) := by decide +kernel
theorem d8_1 : decode prog_39_method_6_code 1 = .ok (.ifCond .ge 5, 3) := by decide +kernel
theorem d8_6 : decode prog_39_method_6_code 6 = .ok (.iload_n 1, 1) := by decide +kernel
theorem d8_7 : decode prog_39_method_6_code 7 = .ok (.bipush 6, 2) := by decide +kernel
theorem d8_9 : decode prog_39_method_6_code 9 = .ok (.iushr, 1) := by decide +kernel
theorem d8_10 : decode prog_39_method_6_code 10 = .ok (.istore_n 2, 1) := by decide +kernel
theorem d8_11 : decode prog_39_method_6_code 11 = .ok (.aload_n 0, 1) := by decide +kernel
theorem d8_12 : decode prog_39_method_6_code 12 = .ok (.getfield 7, 3) := by decide +kernel
theorem d8_15 : decode prog_39_method_6_code 15 = .ok (.iload_n 2, 1) := by decide +kernel
theorem d8_16 : decode prog_39_method_6_code 16 = .ok (.laload, 1) := by decide +kernel
theorem d8_17 : decode prog_39_method_6_code 17 = .ok (.ldc2_w 16, 3) := by decide +kernel
theorem d8_20 : decode prog_39_method_6_code 20 = .ok (.bipush 63, 2) := by decide +kernel
theorem d8_22 : decode prog_39_method_6_code 22 = .ok (.iload_n 1, 1) := by decide +kernel
theorem d8_23 : decode prog_39_method_6_code 23 = .ok (.bipush 63, 2) := by decide +kernel
theorem d8_25 : decode prog_39_method_6_code 25 = .ok (.iand, 1) := by decide +kernel
theorem d8_26 : decode prog_39_method_6_code 26 = .ok (.isub, 1) := by decide +kernel
theorem d8_27 : decode prog_39_method_6_code 27 = .ok (.lushr, 1) := by decide +kernel
theorem d8_28 : decode prog_39_method_6_code 28 = .ok (.land, 1) := by decide +kernel
theorem d8_29 : decode prog_39_method_6_code 29 = .ok (.lstore_n 3, 1) := by decide +kernel
theorem d8_30 : decode prog_39_method_6_code 30 = .ok (.lload_n 3, 1) := by decide +kernel
theorem d8_31 : decode prog_39_method_6_code 31 = .ok (.lconst 0, 1) := by decide +kernel
theorem d8_32 : decode prog_39_method_6_code 32 = .ok (.lcmp, 1) := by decide +kernel
theorem d8_33 : decode prog_39_method_6_code 33 = .ok (.ifCond .eq 16, 3) := by decide +kernel
theorem d8_49 : decode prog_39_method_6_code 49 = .ok (.iinc 2 (-1), 3) := by decide +kernel
theorem d8_52 : decode prog_39_method_6_code 52 = .ok (.iload_n 2, 1) := by decide +kernel
theorem d8_53 : decode prog_39_method_6_code 53 = .ok (.ifCond .ge 5, 3) := by decide +kernel
theorem d8_58 : decode prog_39_method_6_code 58 = .ok (.iload_n 2, 1) := by decide +kernel
theorem d8_59 : decode prog_39_method_6_code 59 = .ok (.bipush 6, 2) := by decide +kernel
theorem d8_61 : decode prog_39_method_6_code 61 = .ok (.iushr, 1) := by decide +kernel
theorem d8_62 : decode prog_39_method_6_code 62 = .ok (.istore 5, 2) := by decide +kernel
theorem d8_64 : decode prog_39_method_6_code 64 = .ok (.aload_n 0, 1) := by decide +kernel
theorem d8_65 : decode prog_39_method_6_code 65 = .ok (.getfield 13, 3) := by decide +kernel
theorem d8_68 : decode prog_39_method_6_code 68 = .ok (.iload 5, 2) := by decide +kernel
theorem d8_70 : decode prog_39_method_6_code 70 = .ok (.laload, 1) := by decide +kernel
theorem d8_71 : decode prog_39_method_6_code 71 = .ok (.ldc2_w 16, 3) := by decide +kernel
theorem d8_74 : decode prog_39_method_6_code 74 = .ok (.bipush 63, 2) := by decide +kernel
theorem d8_76 : decode prog_39_method_6_code 76 = .ok (.iload_n 2, 1) := by decide +kernel
theorem d8_77 : decode prog_39_method_6_code 77 = .ok (.bipush 63, 2) := by decide +kernel
theorem d8_79 : decode prog_39_method_6_code 79 = .ok (.iand, 1) := by decide +kernel
theorem d8_80 : decode prog_39_method_6_code 80 = .ok (.isub, 1) := by decide +kernel
theorem d8_81 : decode prog_39_method_6_code 81 = .ok (.lushr, 1) := by decide +kernel
theorem d8_82 : decode prog_39_method_6_code 82 = .ok (.land, 1) := by decide +kernel
theorem d8_83 : decode prog_39_method_6_code 83 = .ok (.lstore 6, 2) := by decide +kernel
theorem d8_85 : decode prog_39_method_6_code 85 = .ok (.lload 6, 2) := by decide +kernel
theorem d8_87 : decode prog_39_method_6_code 87 = .ok (.lconst 0, 1) := by decide +kernel
theorem d8_88 : decode prog_39_method_6_code 88 = .ok (.lcmp, 1) := by decide +kernel
theorem d8_89 : decode prog_39_method_6_code 89 = .ok (.ifCond .ne 25, 3) := by decide +kernel
theorem d8_114 : decode prog_39_method_6_code 114 = .ok (.iload 5, 2) := by decide +kernel
theorem d8_116 : decode prog_39_method_6_code 116 = .ok (.bipush 6, 2) := by decide +kernel
theorem d8_118 : decode prog_39_method_6_code 118 = .ok (.ishl, 1) := by decide +kernel
theorem d8_119 : decode prog_39_method_6_code 119 = .ok (.bipush 63, 2) := by decide +kernel
theorem d8_121 : decode prog_39_method_6_code 121 = .ok (.lload 6, 2) := by decide +kernel
theorem d8_123 : decode prog_39_method_6_code 123 = .ok (.invokestatic 24, 3) := by decide +kernel
theorem d8_126 : decode prog_39_method_6_code 126 = .ok (.isub, 1) := by decide +kernel
theorem d8_127 : decode prog_39_method_6_code 127 = .ok (.ior, 1) := by decide +kernel
theorem d8_128 : decode prog_39_method_6_code 128 = .ok (.istore_n 2, 1) := by decide +kernel
theorem d8_129 : decode prog_39_method_6_code 129 = .ok (.iload_n 2, 1) := by decide +kernel
theorem d8_130 : decode prog_39_method_6_code 130 = .ok (.bipush 6, 2) := by decide +kernel
theorem d8_132 : decode prog_39_method_6_code 132 = .ok (.ishl, 1) := by decide +kernel
theorem d8_133 : decode prog_39_method_6_code 133 = .ok (.bipush 63, 2) := by decide +kernel
theorem d8_135 : decode prog_39_method_6_code 135 = .ok (.aload_n 0, 1) := by decide +kernel
theorem d8_136 : decode prog_39_method_6_code 136 = .ok (.getfield 7, 3) := by decide +kernel
theorem d8_139 : decode prog_39_method_6_code 139 = .ok (.iload_n 2, 1) := by decide +kernel
theorem d8_140 : decode prog_39_method_6_code 140 = .ok (.laload, 1) := by decide +kernel
theorem d8_141 : decode prog_39_method_6_code 141 = .ok (.invokestatic 24, 3) := by decide +kernel
theorem d8_144 : decode prog_39_method_6_code 144 = .ok (.isub, 1) := by decide +kernel
theorem d8_145 : decode prog_39_method_6_code 145 = .ok (.ior, 1) := by decide +kernel
theorem d8_146 : decode prog_39_method_6_code 146 = .ok (.ireturn, 1) := by decide +kernel
theorem d8_92 : decode prog_39_method_6_code 92 = .ok (.iinc 5 (-1), 3) := by decide +kernel
theorem d8_95 : decode prog_39_method_6_code 95 = .ok (.iload 5, 2) := by decide +kernel
theorem d8_97 : decode prog_39_method_6_code 97 = .ok (.ifCond .ge 5, 3) := by decide +kernel
theorem d8_100 : decode prog_39_method_6_code 100 = .ok (.iconst (-1), 1) := by decide +kernel
theorem d8_101 : decode prog_39_method_6_code 101 = .ok (.ireturn, 1) := by decide +kernel
theorem d8_102 : decode prog_39_method_6_code 102 = .ok (.aload_n 0, 1) := by decide +kernel
theorem d8_103 : decode prog_39_method_6_code 103 = .ok (.getfield 13, 3) := by decide +kernel
theorem d8_106 : decode prog_39_method_6_code 106 = .ok (.iload 5, 2) := by decide +kernel
theorem d8_108 : decode prog_39_method_6_code 108 = .ok (.laload, 1) := by decide +kernel
theorem d8_109 : decode prog_39_method_6_code 109 = .ok (.lstore 6, 2) := by decide +kernel
theorem d8_111 : decode prog_39_method_6_code 111 = .ok (.goto (-26), 3) := by decide +kernel
theorem d8_56 : decode prog_39_method_6_code 56 = .ok (.iconst (-1), 1) := by decide +kernel
theorem d8_57 : decode prog_39_method_6_code 57 = .ok (.ireturn, 1) := by decide +kernel
theorem d8_36 : decode prog_39_method_6_code 36 = .ok (.iload_n 2, 1) := by decide +kernel
theorem d8_37 : decode prog_39_method_6_code 37 = .ok (.bipush 6, 2) := by decide +kernel
theorem d8_39 : decode prog_39_method_6_code 39 = .ok (.ishl, 1) := by decide +kernel
theorem d8_40 : decode prog_39_method_6_code 40 = .ok (.bipush 63, 2) := by decide +kernel
theorem d8_42 : decode prog_39_method_6_code 42 = .ok (.lload_n 3, 1) := by decide +kernel
theorem d8_43 : decode prog_39_method_6_code 43 = .ok (.invokestatic 24, 3) := by decide +kernel
theorem d8_46 : decode prog_39_method_6_code 46 = .ok (.isub, 1) := by decide +kernel
theorem d8_47 : decode prog_39_method_6_code 47 = .ok (.ior, 1) := by decide +kernel
theorem d8_48 : decode prog_39_method_6_code 48 = .ok (.ireturn, 1) := by decide +kernel
set_option maxRecDepth 65536 in
set_option maxHeartbeats 40000000 in
theorem rm8 (l : Launch) (Z : State) (a0 : Array Value) (hw : ∀ d ∈ tables_1, d.before a0 Z = true) (o : Addr) (y : Int32) (tw ts : Addr) (w sm : Nat → Int64) (h0 : Heap) (F1 : Fld Z h0 o "com/example/isolens/isolens/checker/PlaceSet" "words" "[J" (.ref tw)) (F2 : Fld Z h0 o "com/example/isolens/isolens/checker/PlaceSet" "summary" "[J" (.ref ts)) (A1 : Ara Z h0 tw .long 128 (fun j => .long (w j))) (A2 : Ara Z h0 ts .long 2 (fun j => .long (sm j))) (hp : 0 ≤ y.toInt ∧ y.toInt < 8192) (hin : own_inv w sm) :
    Ct l Z (⟨"com/example/isolens/isolens/checker/PlaceSet", "lastUpTo", "(I)I"⟩ : MethodName) prog_39_method_6_code 8 (some .int) ({ frames := 2, cells := 0, slots := 0, locals := 64 } : Room) #[(.ref o), (.int y)] h0 (QI h0 (fun r => own_last w y.toInt r.toInt)) := by
  refine own_met (plainFor_of_name pn_8) (fun m => ef_8 m o y) ?_
  intro p e s m below meth c T0 X0 hx hby hml hown hnm hret hlk hZ e0
  refine g_iloadN X0 hx hby d8_0 (pc' := 1) rfl rfl ?_
  refine g_ifge X0 hx hby d8_1 (pt := 6) (pf := 4) (by decide) (by decide) rfl (fun (h1 : 0 ≤ y.toInt) => ?_) (fun (h1 : y.toInt < 0) => (by exfalso; omega))
  refine g_iloadN X0 hx hby d8_6 (pc' := 7) rfl rfl ?_
  refine g_bipush X0 hx hby d8_7 (pc' := 9) rfl (n := (6 : Int32)) (by first | rfl | decide) ?_
  refine g_iushr X0 hx hby d8_9 (pc' := 10) rfl ?_
  refine g_nameI (fun wd h_wd => ?_)
  have f_wd := own_us _ wd 6 6 (by decide) (by decide) (by omega) h_wd
  replace f_wd : wd.toInt = y.toInt / 64 := f_wd
  refine g_istoreN X0 hx hby d8_10 (pc' := 11) rfl (Ls' := #[.val (.ref o), .val (.int y), .val (.int wd), .unset, .unset, .unset, .unset, .unset]) rfl ?_
  refine g_aloadN X0 hx hby d8_11 (pc' := 12) rfl rfl rfl ?_
  refine g_getF X0 hx hby hZ hown e0 (hw _ (List.mem_of_getElem? (i := 10) rfl)) F1 d8_12 (pc' := 15) rfl (fun T1 X1 e1 => ?_)
  refine g_iloadN X1 hx hby d8_15 (pc' := 16) rfl rfl ?_
  refine a_laload X1 hx hby hZ e1 A1 (by omega) (by omega) (v := (.long (w wd.toInt.toNat))) (rfl) d8_16 (pc' := 17) rfl ?_
  refine g_ldcL X1 hx hby hZ hown (hw _ (List.mem_of_getElem? (i := 24) rfl)) d8_17 (pc' := 20) rfl ?_
  refine g_bipush X1 hx hby d8_20 (pc' := 22) rfl (n := (63 : Int32)) (by first | rfl | decide) ?_
  refine g_iloadN X1 hx hby d8_22 (pc' := 23) rfl rfl ?_
  refine g_bipush X1 hx hby d8_23 (pc' := 25) rfl (n := (63 : Int32)) (by first | rfl | decide) ?_
  refine g_iand X1 hx hby d8_25 (pc' := 26) rfl ?_
  refine g_isub X1 hx hby d8_26 (pc' := 27) rfl ?_
  refine g_nameI (fun k1 h_k1 => ?_)
  have f_k1 := own_m63 y k1 hp.1 h_k1
  refine g_lushr X1 hx hby d8_27 (pc' := 28) rfl ?_
  refine g_land X1 hx hby d8_28 (pc' := 29) rfl ?_
  refine g_nameL (fun bs h_bs => ?_)
  refine g_lstoreN X1 hx hby d8_29 (pc' := 30) rfl (Ls' := #[.val (.ref o), .val (.int y), .val (.int wd), .val (.long bs), .second, .unset, .unset, .unset]) rfl ?_
  refine g_lloadN X1 hx hby d8_30 (pc' := 31) rfl rfl ?_
  refine g_lconst X1 hx hby d8_31 (pc' := 32) rfl (n := (0 : Int64)) (by first | rfl | decide) ?_
  refine g_lcmpeq X1 hx hby d8_32 (pc' := 33) rfl d8_33 (pt := 49) (pf := 36) (by decide) (by decide) rfl (fun (h33 : bs = (0 : Int64)) => ?_) (fun (h33 : ¬ bs = (0 : Int64)) => ?_)
  · have h33i : bs.toInt = 0 := congrArg Int64.toInt h33
    refine g_iinc X1 hx hby d8_49 (pc' := 52) rfl rfl (Ls' := #[.val (.ref o), .val (.int y), .val (.int (wd + (-1 : Int32))), .val (.long bs), .second, .unset, .unset, .unset]) rfl ?_
    obtain ⟨wn, h_wn⟩ : ∃ z : Int32, z = wd + (-1 : Int32) := ⟨_, rfl⟩
    rw [← h_wn]
    have f_wn : wn.toInt = wd.toInt + (-1) := by rw [h_wn]; exact own_add wd (-1) (by show _ ≤ wd.toInt + (-1 : Int); omega) (by show wd.toInt + (-1 : Int) < _; omega)
    have hlow := own_lf0 w y wd k1 hp f_wd f_k1 (h_bs.symm.trans h33)
    refine g_iloadN X1 hx hby d8_52 (pc' := 53) rfl rfl ?_
    refine g_ifge X1 hx hby d8_53 (pt := 58) (pf := 56) (by decide) (by decide) rfl (fun (h53 : 0 ≤ wn.toInt) => ?_) (fun (h53 : wn.toInt < 0) => ?_)
    · refine g_iloadN X1 hx hby d8_58 (pc' := 59) rfl rfl ?_
      refine g_bipush X1 hx hby d8_59 (pc' := 61) rfl (n := (6 : Int32)) (by first | rfl | decide) ?_
      refine g_iushr X1 hx hby d8_61 (pc' := 62) rfl ?_
      refine g_nameI (fun sa h_sa => ?_)
      have f_sa := own_us _ sa 6 6 (by decide) (by decide) (by omega) h_sa
      replace f_sa : sa.toInt = wn.toInt / 64 := f_sa
      refine g_istore X1 hx hby d8_62 (pc' := 64) rfl (Ls' := #[.val (.ref o), .val (.int y), .val (.int wn), .val (.long bs), .second, .val (.int sa), .unset, .unset]) rfl ?_
      have hsa := own_01 sa (by omega) (by omega)
      clear h_sa
      rcases hsa with rfl | rfl
      · have ev_sa : (0 : Int32).toInt = 0 := rfl
        refine g_aloadN X1 hx hby d8_64 (pc' := 65) rfl rfl rfl ?_
        refine g_getF X1 hx hby hZ hown e1 (hw _ (List.mem_of_getElem? (i := 12) rfl)) F2 d8_65 (pc' := 68) rfl (fun T2 X2 e2 => ?_)
        refine g_iload X2 hx hby d8_68 (pc' := 70) rfl rfl ?_
        refine a_laload X2 hx hby hZ e2 A2 (by decide) (by decide) (v := (.long (sm 0))) (rfl) d8_70 (pc' := 71) rfl ?_
        refine g_ldcL X2 hx hby hZ hown (hw _ (List.mem_of_getElem? (i := 24) rfl)) d8_71 (pc' := 74) rfl ?_
        refine g_bipush X2 hx hby d8_74 (pc' := 76) rfl (n := (63 : Int32)) (by first | rfl | decide) ?_
        refine g_iloadN X2 hx hby d8_76 (pc' := 77) rfl rfl ?_
        refine g_bipush X2 hx hby d8_77 (pc' := 79) rfl (n := (63 : Int32)) (by first | rfl | decide) ?_
        refine g_iand X2 hx hby d8_79 (pc' := 80) rfl ?_
        refine g_isub X2 hx hby d8_80 (pc' := 81) rfl ?_
        refine g_nameI (fun k2 h_k2 => ?_)
        have f_k2 := own_m63 wn k2 (by omega) h_k2
        refine g_lushr X2 hx hby d8_81 (pc' := 82) rfl ?_
        refine g_land X2 hx hby d8_82 (pc' := 83) rfl ?_
        refine g_nameL (fun sb h_sb => ?_)
        refine g_lstore X2 hx hby d8_83 (pc' := 85) rfl (Ls' := #[.val (.ref o), .val (.int y), .val (.int wn), .val (.long bs), .second, .val (.int (0 : Int32)), .val (.long sb), .second]) rfl ?_
        refine g_lload X2 hx hby d8_85 (pc' := 87) rfl rfl ?_
        refine g_lconst X2 hx hby d8_87 (pc' := 88) rfl (n := (0 : Int64)) (by first | rfl | decide) ?_
        refine g_lcmpne X2 hx hby d8_88 (pc' := 89) rfl d8_89 (pt := 114) (pf := 92) (by decide) (by decide) rfl (fun (h89 : ¬ sb = (0 : Int64)) => ?_) (fun (h89 : sb = (0 : Int64)) => ?_)
        · have h89i : ¬ sb.toInt = 0 := fun q => h89 (Int64.toInt_inj.mp q)
          refine g_iload X2 hx hby d8_114 (pc' := 116) rfl rfl ?_
          refine g_bipush X2 hx hby d8_116 (pc' := 118) rfl (n := (6 : Int32)) (by first | rfl | decide) ?_
          refine g_ishl X2 hx hby d8_118 (pc' := 119) rfl ?_
          show Go p e below s (QI h0 (fun r => own_last w y.toInt r.toInt)) ({ frames := 2, cells := 0, slots := 0, locals := 64 } : Room).cells ({ frames := 2, cells := 0, slots := 0, locals := 64 } : Room).slots m T2 119 #[.val (.ref o), .val (.int y), .val (.int wn), .val (.long bs), .second, .val (.int (0 : Int32)), .val (.long sb), .second] [(.int (0 : Int32))]
          refine g_bipush X2 hx hby d8_119 (pc' := 121) rfl (n := (63 : Int32)) (by first | rfl | decide) ?_
          refine g_lload X2 hx hby d8_121 (pc' := 123) rfl rfl ?_
          refine g_static X2 hx hby hZ hown hml rfl (hw _ (List.mem_of_getElem? (i := 56) rfl)) (hw _ (List.mem_of_getElem? (i := 57) rfl)) (hw _ (List.mem_of_getElem? (i := 49) rfl)) (hw _ (List.mem_of_getElem? (i := 58) rfl)) (by decide) e2 (rm12 l Z a0 hw sb h0 h89) pd__J_I_228 (argsL := [(.long sb)]) (rest := [(.int (63 : Int32)), (.int (0 : Int32))]) rfl rfl rfl d8_123 (pc' := 126) rfl (by decide) (Nat.le_of_ble_eq_true rfl) (by decide) (by decide) ?_
          intro Tp123 vp123 Lp123 Xp123 qp123
          obtain ⟨⟨rp123, rfl, h_rp123⟩, ep123, rfl⟩ := qp123
          rw [List.append_nil] at Xp123
          replace Xp123 : Stand p l e ({ frames := 2, cells := 0, slots := 0, locals := 64 } : Room) s m _ below meth c Tp123 _ 0 0 := Xp123
          show Go p e below s (QI h0 (fun r => own_last w y.toInt r.toInt)) ({ frames := 2, cells := 0, slots := 0, locals := 64 } : Room).cells ({ frames := 2, cells := 0, slots := 0, locals := 64 } : Room).slots m Tp123 126 #[.val (.ref o), .val (.int y), .val (.int wn), .val (.long bs), .second, .val (.int (0 : Int32)), .val (.long sb), .second] [(.int rp123), (.int (63 : Int32)), (.int (0 : Int32))]
          refine g_isub Xp123 hx hby d8_126 (pc' := 127) rfl ?_
          refine g_nameI (fun d2 h_d2 => ?_)
          have f_d2 := own_63 rp123 d2 ⟨h_rp123.1, h_rp123.2.1⟩ h_d2
          have z1_rp123 := h_rp123.1
          have z2_rp123 := h_rp123.2.1
          refine g_ior Xp123 hx hby d8_127 (pc' := 128) rfl ?_
          refine g_nameI (fun wk h_wk => ?_)
          have f_wk : wk.toInt = d2.toInt := by rw [h_wk]; exact own_or00 _
          have hwk := own_lk hin wn k2 0 sb rp123.toInt ⟨by omega, by omega⟩ (by omega) f_k2 h_sb h_rp123
          have e_wk : wk.toInt.toNat = 64 * 0 + (63 - rp123.toInt).toNat := by omega
          rw [← e_wk] at hwk
          have hwb : 0 ≤ wk.toInt ∧ wk.toInt < 128 := by omega
          refine g_istoreN Xp123 hx hby d8_128 (pc' := 129) rfl (Ls' := #[.val (.ref o), .val (.int y), .val (.int wk), .val (.long bs), .second, .val (.int (0 : Int32)), .val (.long sb), .second]) rfl ?_
          refine g_iloadN Xp123 hx hby d8_129 (pc' := 130) rfl rfl ?_
          refine g_bipush Xp123 hx hby d8_130 (pc' := 132) rfl (n := (6 : Int32)) (by first | rfl | decide) ?_
          refine g_ishl Xp123 hx hby d8_132 (pc' := 133) rfl ?_
          refine g_bipush Xp123 hx hby d8_133 (pc' := 135) rfl (n := (63 : Int32)) (by first | rfl | decide) ?_
          refine g_aloadN Xp123 hx hby d8_135 (pc' := 136) rfl rfl rfl ?_
          refine g_getF Xp123 hx hby hZ hown ep123 (hw _ (List.mem_of_getElem? (i := 10) rfl)) F1 d8_136 (pc' := 139) rfl (fun T3 X3 e3 => ?_)
          refine g_iloadN X3 hx hby d8_139 (pc' := 140) rfl rfl ?_
          refine a_laload X3 hx hby hZ e3 A1 (by omega) (by omega) (v := (.long (w wk.toInt.toNat))) (rfl) d8_140 (pc' := 141) rfl ?_
          refine g_static X3 hx hby hZ hown hml rfl (hw _ (List.mem_of_getElem? (i := 56) rfl)) (hw _ (List.mem_of_getElem? (i := 57) rfl)) (hw _ (List.mem_of_getElem? (i := 49) rfl)) (hw _ (List.mem_of_getElem? (i := 58) rfl)) (by decide) e3 (rm12 l Z a0 hw (w wk.toInt.toNat) h0 hwk.2.1) pd__J_I_228 (argsL := [(.long (w wk.toInt.toNat))]) (rest := [(.int (63 : Int32)), (.int (wk <<< ((6 : Int32) &&& 31)))]) rfl rfl rfl d8_141 (pc' := 144) rfl (by decide) (Nat.le_of_ble_eq_true rfl) (by decide) (by decide) ?_
          intro Tp141 vp141 Lp141 Xp141 qp141
          obtain ⟨⟨rp141, rfl, h_rp141⟩, ep141, rfl⟩ := qp141
          rw [List.append_nil] at Xp141
          replace Xp141 : Stand p l e ({ frames := 2, cells := 0, slots := 0, locals := 64 } : Room) s m _ below meth c Tp141 _ 0 0 := Xp141
          show Go p e below s (QI h0 (fun r => own_last w y.toInt r.toInt)) ({ frames := 2, cells := 0, slots := 0, locals := 64 } : Room).cells ({ frames := 2, cells := 0, slots := 0, locals := 64 } : Room).slots m Tp141 144 #[.val (.ref o), .val (.int y), .val (.int wk), .val (.long bs), .second, .val (.int (0 : Int32)), .val (.long sb), .second] [(.int rp141), (.int (63 : Int32)), (.int (wk <<< ((6 : Int32) &&& 31)))]
          refine g_isub Xp141 hx hby d8_144 (pc' := 145) rfl ?_
          refine g_nameI (fun d3 h_d3 => ?_)
          have f_d3 := own_63 rp141 d3 ⟨h_rp141.1, h_rp141.2.1⟩ h_d3
          have z1_rp141 := h_rp141.1
          have z2_rp141 := h_rp141.2.1
          refine g_ior Xp141 hx hby d8_145 (pc' := 146) rfl ?_
          exact g_retI Xp141 hx hby hlk hret d8_146 (by decide) (by decide) (⟨⟨_, rfl, own_lf2 w y.toInt wn.toInt wk.toInt.toNat rp141.toInt _ (fun q q1 q2 => hlow q q1 (by omega)) (by omega) (by omega) hwk.2.2 hwk.1 h_rp141 (by rw [own_sh6 wk d3 hwb ⟨by omega, by omega⟩]; omega)⟩, ep141, rfl⟩)
        · have h89i : sb.toInt = 0 := congrArg Int64.toInt h89
          have hsb0 := h89
          refine g_iinc X2 hx hby d8_92 (pc' := 95) rfl rfl (Ls' := #[.val (.ref o), .val (.int y), .val (.int wn), .val (.long bs), .second, .val (.int (-1 : Int32)), .val (.long sb), .second]) rfl ?_
          refine g_iload X2 hx hby d8_95 (pc' := 97) rfl rfl ?_
          refine g_ifge X2 hx hby d8_97 (pt := 102) (pf := 100) (by decide) (by decide) rfl (fun (h97 : 0 ≤ (-1)) => (by exfalso; revert h97; decide)) (fun (h97 : (-1) < 0) => ?_)
          refine g_iconst X2 hx hby d8_100 (pc' := 101) rfl (n := (-1 : Int32)) (by first | rfl | decide) ?_
          exact g_retI X2 hx hby hlk hret d8_101 (by decide) (by decide) (⟨⟨_, rfl, own_lf3 w y.toInt wn.toInt (fun q q1 q2 => hlow q q1 (by omega)) (fun k q1 => own_ln0 hin wn k2 sb ⟨by omega, by omega⟩ f_k2 h_sb h89 k q1)⟩, e2, rfl⟩)
      · have ev_sa : (1 : Int32).toInt = 1 := rfl
        refine g_aloadN X1 hx hby d8_64 (pc' := 65) rfl rfl rfl ?_
        refine g_getF X1 hx hby hZ hown e1 (hw _ (List.mem_of_getElem? (i := 12) rfl)) F2 d8_65 (pc' := 68) rfl (fun T4 X4 e4 => ?_)
        refine g_iload X4 hx hby d8_68 (pc' := 70) rfl rfl ?_
        refine a_laload X4 hx hby hZ e4 A2 (by decide) (by decide) (v := (.long (sm 1))) (rfl) d8_70 (pc' := 71) rfl ?_
        refine g_ldcL X4 hx hby hZ hown (hw _ (List.mem_of_getElem? (i := 24) rfl)) d8_71 (pc' := 74) rfl ?_
        refine g_bipush X4 hx hby d8_74 (pc' := 76) rfl (n := (63 : Int32)) (by first | rfl | decide) ?_
        refine g_iloadN X4 hx hby d8_76 (pc' := 77) rfl rfl ?_
        refine g_bipush X4 hx hby d8_77 (pc' := 79) rfl (n := (63 : Int32)) (by first | rfl | decide) ?_
        refine g_iand X4 hx hby d8_79 (pc' := 80) rfl ?_
        refine g_isub X4 hx hby d8_80 (pc' := 81) rfl ?_
        refine g_nameI (fun k2 h_k2 => ?_)
        have f_k2 := own_m63 wn k2 (by omega) h_k2
        refine g_lushr X4 hx hby d8_81 (pc' := 82) rfl ?_
        refine g_land X4 hx hby d8_82 (pc' := 83) rfl ?_
        refine g_nameL (fun sb h_sb => ?_)
        refine g_lstore X4 hx hby d8_83 (pc' := 85) rfl (Ls' := #[.val (.ref o), .val (.int y), .val (.int wn), .val (.long bs), .second, .val (.int (1 : Int32)), .val (.long sb), .second]) rfl ?_
        refine g_lload X4 hx hby d8_85 (pc' := 87) rfl rfl ?_
        refine g_lconst X4 hx hby d8_87 (pc' := 88) rfl (n := (0 : Int64)) (by first | rfl | decide) ?_
        refine g_lcmpne X4 hx hby d8_88 (pc' := 89) rfl d8_89 (pt := 114) (pf := 92) (by decide) (by decide) rfl (fun (h89 : ¬ sb = (0 : Int64)) => ?_) (fun (h89 : sb = (0 : Int64)) => ?_)
        · have h89i : ¬ sb.toInt = 0 := fun q => h89 (Int64.toInt_inj.mp q)
          refine g_iload X4 hx hby d8_114 (pc' := 116) rfl rfl ?_
          refine g_bipush X4 hx hby d8_116 (pc' := 118) rfl (n := (6 : Int32)) (by first | rfl | decide) ?_
          refine g_ishl X4 hx hby d8_118 (pc' := 119) rfl ?_
          show Go p e below s (QI h0 (fun r => own_last w y.toInt r.toInt)) ({ frames := 2, cells := 0, slots := 0, locals := 64 } : Room).cells ({ frames := 2, cells := 0, slots := 0, locals := 64 } : Room).slots m T4 119 #[.val (.ref o), .val (.int y), .val (.int wn), .val (.long bs), .second, .val (.int (1 : Int32)), .val (.long sb), .second] [(.int (64 : Int32))]
          refine g_bipush X4 hx hby d8_119 (pc' := 121) rfl (n := (63 : Int32)) (by first | rfl | decide) ?_
          refine g_lload X4 hx hby d8_121 (pc' := 123) rfl rfl ?_
          refine g_static X4 hx hby hZ hown hml rfl (hw _ (List.mem_of_getElem? (i := 56) rfl)) (hw _ (List.mem_of_getElem? (i := 57) rfl)) (hw _ (List.mem_of_getElem? (i := 49) rfl)) (hw _ (List.mem_of_getElem? (i := 58) rfl)) (by decide) e4 (rm12 l Z a0 hw sb h0 h89) pd__J_I_228 (argsL := [(.long sb)]) (rest := [(.int (63 : Int32)), (.int (64 : Int32))]) rfl rfl rfl d8_123 (pc' := 126) rfl (by decide) (Nat.le_of_ble_eq_true rfl) (by decide) (by decide) ?_
          intro Tp123 vp123 Lp123 Xp123 qp123
          obtain ⟨⟨rp123, rfl, h_rp123⟩, ep123, rfl⟩ := qp123
          rw [List.append_nil] at Xp123
          replace Xp123 : Stand p l e ({ frames := 2, cells := 0, slots := 0, locals := 64 } : Room) s m _ below meth c Tp123 _ 0 0 := Xp123
          show Go p e below s (QI h0 (fun r => own_last w y.toInt r.toInt)) ({ frames := 2, cells := 0, slots := 0, locals := 64 } : Room).cells ({ frames := 2, cells := 0, slots := 0, locals := 64 } : Room).slots m Tp123 126 #[.val (.ref o), .val (.int y), .val (.int wn), .val (.long bs), .second, .val (.int (1 : Int32)), .val (.long sb), .second] [(.int rp123), (.int (63 : Int32)), (.int (64 : Int32))]
          refine g_isub Xp123 hx hby d8_126 (pc' := 127) rfl ?_
          refine g_nameI (fun d2 h_d2 => ?_)
          have f_d2 := own_63 rp123 d2 ⟨h_rp123.1, h_rp123.2.1⟩ h_d2
          have z1_rp123 := h_rp123.1
          have z2_rp123 := h_rp123.2.1
          refine g_ior Xp123 hx hby d8_127 (pc' := 128) rfl ?_
          refine g_nameI (fun wk h_wk => ?_)
          have f_wk : wk.toInt = 64 + d2.toInt := by rw [h_wk]; exact own_or64 _ ⟨by omega, by omega⟩
          have hwk := own_lk hin wn k2 1 sb rp123.toInt ⟨by omega, by omega⟩ (by omega) f_k2 h_sb h_rp123
          have e_wk : wk.toInt.toNat = 64 * 1 + (63 - rp123.toInt).toNat := by omega
          rw [← e_wk] at hwk
          have hwb : 0 ≤ wk.toInt ∧ wk.toInt < 128 := by omega
          refine g_istoreN Xp123 hx hby d8_128 (pc' := 129) rfl (Ls' := #[.val (.ref o), .val (.int y), .val (.int wk), .val (.long bs), .second, .val (.int (1 : Int32)), .val (.long sb), .second]) rfl ?_
          refine g_iloadN Xp123 hx hby d8_129 (pc' := 130) rfl rfl ?_
          refine g_bipush Xp123 hx hby d8_130 (pc' := 132) rfl (n := (6 : Int32)) (by first | rfl | decide) ?_
          refine g_ishl Xp123 hx hby d8_132 (pc' := 133) rfl ?_
          refine g_bipush Xp123 hx hby d8_133 (pc' := 135) rfl (n := (63 : Int32)) (by first | rfl | decide) ?_
          refine g_aloadN Xp123 hx hby d8_135 (pc' := 136) rfl rfl rfl ?_
          refine g_getF Xp123 hx hby hZ hown ep123 (hw _ (List.mem_of_getElem? (i := 10) rfl)) F1 d8_136 (pc' := 139) rfl (fun T5 X5 e5 => ?_)
          refine g_iloadN X5 hx hby d8_139 (pc' := 140) rfl rfl ?_
          refine a_laload X5 hx hby hZ e5 A1 (by omega) (by omega) (v := (.long (w wk.toInt.toNat))) (rfl) d8_140 (pc' := 141) rfl ?_
          refine g_static X5 hx hby hZ hown hml rfl (hw _ (List.mem_of_getElem? (i := 56) rfl)) (hw _ (List.mem_of_getElem? (i := 57) rfl)) (hw _ (List.mem_of_getElem? (i := 49) rfl)) (hw _ (List.mem_of_getElem? (i := 58) rfl)) (by decide) e5 (rm12 l Z a0 hw (w wk.toInt.toNat) h0 hwk.2.1) pd__J_I_228 (argsL := [(.long (w wk.toInt.toNat))]) (rest := [(.int (63 : Int32)), (.int (wk <<< ((6 : Int32) &&& 31)))]) rfl rfl rfl d8_141 (pc' := 144) rfl (by decide) (Nat.le_of_ble_eq_true rfl) (by decide) (by decide) ?_
          intro Tp141 vp141 Lp141 Xp141 qp141
          obtain ⟨⟨rp141, rfl, h_rp141⟩, ep141, rfl⟩ := qp141
          rw [List.append_nil] at Xp141
          replace Xp141 : Stand p l e ({ frames := 2, cells := 0, slots := 0, locals := 64 } : Room) s m _ below meth c Tp141 _ 0 0 := Xp141
          show Go p e below s (QI h0 (fun r => own_last w y.toInt r.toInt)) ({ frames := 2, cells := 0, slots := 0, locals := 64 } : Room).cells ({ frames := 2, cells := 0, slots := 0, locals := 64 } : Room).slots m Tp141 144 #[.val (.ref o), .val (.int y), .val (.int wk), .val (.long bs), .second, .val (.int (1 : Int32)), .val (.long sb), .second] [(.int rp141), (.int (63 : Int32)), (.int (wk <<< ((6 : Int32) &&& 31)))]
          refine g_isub Xp141 hx hby d8_144 (pc' := 145) rfl ?_
          refine g_nameI (fun d3 h_d3 => ?_)
          have f_d3 := own_63 rp141 d3 ⟨h_rp141.1, h_rp141.2.1⟩ h_d3
          have z1_rp141 := h_rp141.1
          have z2_rp141 := h_rp141.2.1
          refine g_ior Xp141 hx hby d8_145 (pc' := 146) rfl ?_
          exact g_retI Xp141 hx hby hlk hret d8_146 (by decide) (by decide) (⟨⟨_, rfl, own_lf2 w y.toInt wn.toInt wk.toInt.toNat rp141.toInt _ (fun q q1 q2 => hlow q q1 (by omega)) (by omega) (by omega) hwk.2.2 hwk.1 h_rp141 (by rw [own_sh6 wk d3 hwb ⟨by omega, by omega⟩]; omega)⟩, ep141, rfl⟩)
        · have h89i : sb.toInt = 0 := congrArg Int64.toInt h89
          have hsb0 := h89
          refine g_iinc X4 hx hby d8_92 (pc' := 95) rfl rfl (Ls' := #[.val (.ref o), .val (.int y), .val (.int wn), .val (.long bs), .second, .val (.int (0 : Int32)), .val (.long sb), .second]) rfl ?_
          refine g_iload X4 hx hby d8_95 (pc' := 97) rfl rfl ?_
          refine g_ifge X4 hx hby d8_97 (pt := 102) (pf := 100) (by decide) (by decide) rfl (fun (h97 : 0 ≤ 0) => ?_) (fun (h97 : 0 < 0) => (by exfalso; revert h97; decide))
          refine g_aloadN X4 hx hby d8_102 (pc' := 103) rfl rfl rfl ?_
          refine g_getF X4 hx hby hZ hown e4 (hw _ (List.mem_of_getElem? (i := 12) rfl)) F2 d8_103 (pc' := 106) rfl (fun T6 X6 e6 => ?_)
          refine g_iload X6 hx hby d8_106 (pc' := 108) rfl rfl ?_
          refine a_laload X6 hx hby hZ e6 A2 (by decide) (by decide) (v := (.long (sm 0))) (rfl) d8_108 (pc' := 109) rfl ?_
          refine g_lstore X6 hx hby d8_109 (pc' := 111) rfl (Ls' := #[.val (.ref o), .val (.int y), .val (.int wn), .val (.long bs), .second, .val (.int (0 : Int32)), .val (.long (sm 0)), .second]) rfl ?_
          refine g_goto X6 hx hby d8_111 (pc' := 85) (by decide) (by decide) ?_
          refine g_lload X6 hx hby d8_85 (pc' := 87) rfl rfl ?_
          refine g_lconst X6 hx hby d8_87 (pc' := 88) rfl (n := (0 : Int64)) (by first | rfl | decide) ?_
          refine g_lcmpne X6 hx hby d8_88 (pc' := 89) rfl d8_89 (pt := 114) (pf := 92) (by decide) (by decide) rfl (fun (h89 : ¬ (sm 0) = (0 : Int64)) => ?_) (fun (h89 : (sm 0) = (0 : Int64)) => ?_)
          · have h89i : ¬ (sm 0).toInt = 0 := fun q => h89 (Int64.toInt_inj.mp q)
            refine g_iload X6 hx hby d8_114 (pc' := 116) rfl rfl ?_
            refine g_bipush X6 hx hby d8_116 (pc' := 118) rfl (n := (6 : Int32)) (by first | rfl | decide) ?_
            refine g_ishl X6 hx hby d8_118 (pc' := 119) rfl ?_
            show Go p e below s (QI h0 (fun r => own_last w y.toInt r.toInt)) ({ frames := 2, cells := 0, slots := 0, locals := 64 } : Room).cells ({ frames := 2, cells := 0, slots := 0, locals := 64 } : Room).slots m T6 119 #[.val (.ref o), .val (.int y), .val (.int wn), .val (.long bs), .second, .val (.int (0 : Int32)), .val (.long (sm 0)), .second] [(.int (0 : Int32))]
            refine g_bipush X6 hx hby d8_119 (pc' := 121) rfl (n := (63 : Int32)) (by first | rfl | decide) ?_
            refine g_lload X6 hx hby d8_121 (pc' := 123) rfl rfl ?_
            refine g_static X6 hx hby hZ hown hml rfl (hw _ (List.mem_of_getElem? (i := 56) rfl)) (hw _ (List.mem_of_getElem? (i := 57) rfl)) (hw _ (List.mem_of_getElem? (i := 49) rfl)) (hw _ (List.mem_of_getElem? (i := 58) rfl)) (by decide) e6 (rm12 l Z a0 hw (sm 0) h0 h89) pd__J_I_228 (argsL := [(.long (sm 0))]) (rest := [(.int (63 : Int32)), (.int (0 : Int32))]) rfl rfl rfl d8_123 (pc' := 126) rfl (by decide) (Nat.le_of_ble_eq_true rfl) (by decide) (by decide) ?_
            intro Tp123 vp123 Lp123 Xp123 qp123
            obtain ⟨⟨rp123, rfl, h_rp123⟩, ep123, rfl⟩ := qp123
            rw [List.append_nil] at Xp123
            replace Xp123 : Stand p l e ({ frames := 2, cells := 0, slots := 0, locals := 64 } : Room) s m _ below meth c Tp123 _ 0 0 := Xp123
            show Go p e below s (QI h0 (fun r => own_last w y.toInt r.toInt)) ({ frames := 2, cells := 0, slots := 0, locals := 64 } : Room).cells ({ frames := 2, cells := 0, slots := 0, locals := 64 } : Room).slots m Tp123 126 #[.val (.ref o), .val (.int y), .val (.int wn), .val (.long bs), .second, .val (.int (0 : Int32)), .val (.long (sm 0)), .second] [(.int rp123), (.int (63 : Int32)), (.int (0 : Int32))]
            refine g_isub Xp123 hx hby d8_126 (pc' := 127) rfl ?_
            refine g_nameI (fun d2 h_d2 => ?_)
            have f_d2 := own_63 rp123 d2 ⟨h_rp123.1, h_rp123.2.1⟩ h_d2
            have z1_rp123 := h_rp123.1
            have z2_rp123 := h_rp123.2.1
            refine g_ior Xp123 hx hby d8_127 (pc' := 128) rfl ?_
            refine g_nameI (fun wk h_wk => ?_)
            have f_wk : wk.toInt = d2.toInt := by rw [h_wk]; exact own_or00 _
            have hwk := own_lk1 hin wn k2 sb rp123.toInt ⟨by omega, by omega⟩ f_k2 h_sb hsb0 h_rp123
            have e_wk : wk.toInt.toNat = (63 - rp123.toInt).toNat := by omega
            rw [← e_wk] at hwk
            have hwb : 0 ≤ wk.toInt ∧ wk.toInt < 128 := by omega
            refine g_istoreN Xp123 hx hby d8_128 (pc' := 129) rfl (Ls' := #[.val (.ref o), .val (.int y), .val (.int wk), .val (.long bs), .second, .val (.int (0 : Int32)), .val (.long (sm 0)), .second]) rfl ?_
            refine g_iloadN Xp123 hx hby d8_129 (pc' := 130) rfl rfl ?_
            refine g_bipush Xp123 hx hby d8_130 (pc' := 132) rfl (n := (6 : Int32)) (by first | rfl | decide) ?_
            refine g_ishl Xp123 hx hby d8_132 (pc' := 133) rfl ?_
            refine g_bipush Xp123 hx hby d8_133 (pc' := 135) rfl (n := (63 : Int32)) (by first | rfl | decide) ?_
            refine g_aloadN Xp123 hx hby d8_135 (pc' := 136) rfl rfl rfl ?_
            refine g_getF Xp123 hx hby hZ hown ep123 (hw _ (List.mem_of_getElem? (i := 10) rfl)) F1 d8_136 (pc' := 139) rfl (fun T7 X7 e7 => ?_)
            refine g_iloadN X7 hx hby d8_139 (pc' := 140) rfl rfl ?_
            refine a_laload X7 hx hby hZ e7 A1 (by omega) (by omega) (v := (.long (w wk.toInt.toNat))) (rfl) d8_140 (pc' := 141) rfl ?_
            refine g_static X7 hx hby hZ hown hml rfl (hw _ (List.mem_of_getElem? (i := 56) rfl)) (hw _ (List.mem_of_getElem? (i := 57) rfl)) (hw _ (List.mem_of_getElem? (i := 49) rfl)) (hw _ (List.mem_of_getElem? (i := 58) rfl)) (by decide) e7 (rm12 l Z a0 hw (w wk.toInt.toNat) h0 hwk.2.1) pd__J_I_228 (argsL := [(.long (w wk.toInt.toNat))]) (rest := [(.int (63 : Int32)), (.int (wk <<< ((6 : Int32) &&& 31)))]) rfl rfl rfl d8_141 (pc' := 144) rfl (by decide) (Nat.le_of_ble_eq_true rfl) (by decide) (by decide) ?_
            intro Tp141 vp141 Lp141 Xp141 qp141
            obtain ⟨⟨rp141, rfl, h_rp141⟩, ep141, rfl⟩ := qp141
            rw [List.append_nil] at Xp141
            replace Xp141 : Stand p l e ({ frames := 2, cells := 0, slots := 0, locals := 64 } : Room) s m _ below meth c Tp141 _ 0 0 := Xp141
            show Go p e below s (QI h0 (fun r => own_last w y.toInt r.toInt)) ({ frames := 2, cells := 0, slots := 0, locals := 64 } : Room).cells ({ frames := 2, cells := 0, slots := 0, locals := 64 } : Room).slots m Tp141 144 #[.val (.ref o), .val (.int y), .val (.int wk), .val (.long bs), .second, .val (.int (0 : Int32)), .val (.long (sm 0)), .second] [(.int rp141), (.int (63 : Int32)), (.int (wk <<< ((6 : Int32) &&& 31)))]
            refine g_isub Xp141 hx hby d8_144 (pc' := 145) rfl ?_
            refine g_nameI (fun d3 h_d3 => ?_)
            have f_d3 := own_63 rp141 d3 ⟨h_rp141.1, h_rp141.2.1⟩ h_d3
            have z1_rp141 := h_rp141.1
            have z2_rp141 := h_rp141.2.1
            refine g_ior Xp141 hx hby d8_145 (pc' := 146) rfl ?_
            exact g_retI Xp141 hx hby hlk hret d8_146 (by decide) (by decide) (⟨⟨_, rfl, own_lf2 w y.toInt wn.toInt wk.toInt.toNat rp141.toInt _ (fun q q1 q2 => hlow q q1 (by omega)) (by omega) (by omega) hwk.2.2 hwk.1 h_rp141 (by rw [own_sh6 wk d3 hwb ⟨by omega, by omega⟩]; omega)⟩, ep141, rfl⟩)
          · have h89i : (sm 0).toInt = 0 := congrArg Int64.toInt h89
            skip
            refine g_iinc X6 hx hby d8_92 (pc' := 95) rfl rfl (Ls' := #[.val (.ref o), .val (.int y), .val (.int wn), .val (.long bs), .second, .val (.int (-1 : Int32)), .val (.long (sm 0)), .second]) rfl ?_
            refine g_iload X6 hx hby d8_95 (pc' := 97) rfl rfl ?_
            refine g_ifge X6 hx hby d8_97 (pt := 102) (pf := 100) (by decide) (by decide) rfl (fun (h97 : 0 ≤ (-1)) => (by exfalso; revert h97; decide)) (fun (h97 : (-1) < 0) => ?_)
            refine g_iconst X6 hx hby d8_100 (pc' := 101) rfl (n := (-1 : Int32)) (by first | rfl | decide) ?_
            exact g_retI X6 hx hby hlk hret d8_101 (by decide) (by decide) (⟨⟨_, rfl, own_lf3 w y.toInt wn.toInt (fun q q1 q2 => hlow q q1 (by omega)) (fun k q1 => own_ln1 hin wn k2 sb ⟨by omega, by omega⟩ f_k2 h_sb hsb0 h89 k q1)⟩, e6, rfl⟩)
    · refine g_iconst X1 hx hby d8_56 (pc' := 57) rfl (n := (-1 : Int32)) (by first | rfl | decide) ?_
      exact g_retI X1 hx hby hlk hret d8_57 (by decide) (by decide) (⟨⟨_, rfl, own_lf3 w y.toInt (-1) (fun q q1 q2 => hlow q q1 (by omega)) (fun k q1 => by omega)⟩, e1, rfl⟩)
  · have h33i : ¬ bs.toInt = 0 := fun q => h33 (Int64.toInt_inj.mp q)
    refine g_iloadN X1 hx hby d8_36 (pc' := 37) rfl rfl ?_
    refine g_bipush X1 hx hby d8_37 (pc' := 39) rfl (n := (6 : Int32)) (by first | rfl | decide) ?_
    refine g_ishl X1 hx hby d8_39 (pc' := 40) rfl ?_
    refine g_bipush X1 hx hby d8_40 (pc' := 42) rfl (n := (63 : Int32)) (by first | rfl | decide) ?_
    refine g_lloadN X1 hx hby d8_42 (pc' := 43) rfl rfl ?_
    refine g_static X1 hx hby hZ hown hml rfl (hw _ (List.mem_of_getElem? (i := 56) rfl)) (hw _ (List.mem_of_getElem? (i := 57) rfl)) (hw _ (List.mem_of_getElem? (i := 49) rfl)) (hw _ (List.mem_of_getElem? (i := 58) rfl)) (by decide) e1 (rm12 l Z a0 hw bs h0 h33) pd__J_I_228 (argsL := [(.long bs)]) (rest := [(.int (63 : Int32)), (.int (wd <<< ((6 : Int32) &&& 31)))]) rfl rfl rfl d8_43 (pc' := 46) rfl (by decide) (Nat.le_of_ble_eq_true rfl) (by decide) (by decide) ?_
    intro Tp43 vp43 Lp43 Xp43 qp43
    obtain ⟨⟨rp43, rfl, h_rp43⟩, ep43, rfl⟩ := qp43
    rw [List.append_nil] at Xp43
    replace Xp43 : Stand p l e ({ frames := 2, cells := 0, slots := 0, locals := 64 } : Room) s m _ below meth c Tp43 _ 0 0 := Xp43
    show Go p e below s (QI h0 (fun r => own_last w y.toInt r.toInt)) ({ frames := 2, cells := 0, slots := 0, locals := 64 } : Room).cells ({ frames := 2, cells := 0, slots := 0, locals := 64 } : Room).slots m Tp43 46 #[.val (.ref o), .val (.int y), .val (.int wd), .val (.long bs), .second, .unset, .unset, .unset] [(.int rp43), (.int (63 : Int32)), (.int (wd <<< ((6 : Int32) &&& 31)))]
    refine g_isub Xp43 hx hby d8_46 (pc' := 47) rfl ?_
    refine g_nameI (fun d1 h_d1 => ?_)
    have f_d1 := own_63 rp43 d1 ⟨h_rp43.1, h_rp43.2.1⟩ h_d1
    have z1_rp43 := h_rp43.1
    have z2_rp43 := h_rp43.2.1
    refine g_ior Xp43 hx hby d8_47 (pc' := 48) rfl ?_
    exact g_retI Xp43 hx hby hlk hret d8_48 (by decide) (by decide) (⟨⟨_, rfl, own_lf1 w y wd k1 bs rp43.toInt _ hp f_wd f_k1 h_bs h_rp43 (by rw [own_sh6 wd d1 ⟨by omega, by omega⟩ ⟨by omega, by omega⟩]; omega)⟩, ep43, rfl⟩)
def own_fr (f p q a b r : Int) : Prop := (r = -1 ∧ ¬ (¬ p = 0 ∧ f ≤ a) ∧ ¬ (¬ q = 0 ∧ f ≤ b)) ∨ (r = a ∧ ¬ p = 0 ∧ f ≤ a ∧ (¬ q = 0 → f ≤ b → a ≤ b)) ∨ (r = b ∧ ¬ q = 0 ∧ f ≤ b ∧ (¬ p = 0 → f ≤ a → b ≤ a))
def own_lr (t p q a b r : Int) : Prop := (r = -1 ∧ ¬ (¬ p = 0 ∧ a ≤ t) ∧ ¬ (¬ q = 0 ∧ b ≤ t)) ∨ (r = a ∧ ¬ p = 0 ∧ a ≤ t ∧ (¬ q = 0 → b ≤ t → b ≤ a)) ∨ (r = b ∧ ¬ q = 0 ∧ b ≤ t ∧ (¬ p = 0 → a ≤ t → a ≤ b))
theorem own_eqf (w : Nat → Int64) (f p q a b : Int) (r r2 : Int32) (ha : 0 ≤ a ∧ a < 8192) (hb : 0 ≤ b ∧ b < 8192) (hM : ∀ k : Nat, own_mem w k = true ↔ (¬ p = 0 ∧ (k : Int) = a) ∨ (¬ q = 0 ∧ (k : Int) = b)) (h1 : own_first w f r.toInt) (h2 : own_fr f p q a b r2.toInt) : r = r2 := by
  apply Int32.toInt_inj.mp
  have na : own_mem w a.toNat = true ↔ (¬ p = 0) ∨ (¬ q = 0 ∧ a = b) := by rw [hM]; omega
  have nb : own_mem w b.toNat = true ↔ (¬ p = 0 ∧ b = a) ∨ (¬ q = 0) := by rw [hM]; omega
  rcases h1 with ⟨e, n1⟩ | ⟨l1, l2, l3, m1, n1⟩
  · rcases h2 with ⟨e2, -, -⟩ | ⟨e2, p2, f2, -⟩ | ⟨e2, p2, f2, -⟩
    · omega
    · have := n1 a.toNat (by omega) (by omega); rw [na.mpr (Or.inl p2)] at this; cases this
    · have := n1 b.toNat (by omega) (by omega); rw [nb.mpr (Or.inr p2)] at this; cases this
  · rw [hM] at m1
    rcases h2 with ⟨e2, x1, x2⟩ | ⟨e2, p2, f2, x1⟩ | ⟨e2, p2, f2, x1⟩
    · omega
    · by_cases c : a < r.toInt
      · have := n1 a.toNat (by omega) (by omega); rw [na.mpr (Or.inl p2)] at this; cases this
      · omega
    · by_cases c : b < r.toInt
      · have := n1 b.toNat (by omega) (by omega); rw [nb.mpr (Or.inr p2)] at this; cases this
      · omega
theorem own_eql (w : Nat → Int64) (t p q a b : Int) (r r2 : Int32) (ha : 0 ≤ a ∧ a < 8192) (hb : 0 ≤ b ∧ b < 8192) (hM : ∀ k : Nat, own_mem w k = true ↔ (¬ p = 0 ∧ (k : Int) = a) ∨ (¬ q = 0 ∧ (k : Int) = b)) (h1 : own_last w t r.toInt) (h2 : own_lr t p q a b r2.toInt) : r = r2 := by
  apply Int32.toInt_inj.mp
  have na : own_mem w a.toNat = true ↔ (¬ p = 0) ∨ (¬ q = 0 ∧ a = b) := by rw [hM]; omega
  have nb : own_mem w b.toNat = true ↔ (¬ p = 0 ∧ b = a) ∨ (¬ q = 0) := by rw [hM]; omega
  rcases h1 with ⟨e, n1⟩ | ⟨l1, l2, l3, m1, n1⟩
  · rcases h2 with ⟨e2, -, -⟩ | ⟨e2, p2, f2, -⟩ | ⟨e2, p2, f2, -⟩
    · omega
    · have := n1 a.toNat (by omega); rw [na.mpr (Or.inl p2)] at this; cases this
    · have := n1 b.toNat (by omega); rw [nb.mpr (Or.inr p2)] at this; cases this
  · rw [hM] at m1
    rcases h2 with ⟨e2, x1, x2⟩ | ⟨e2, p2, f2, x1⟩ | ⟨e2, p2, f2, x1⟩
    · omega
    · by_cases c : r.toInt < a
      · have := n1 a.toNat (by omega) (by omega); rw [na.mpr (Or.inl p2)] at this; cases this
      · omega
    · by_cases c : r.toInt < b
      · have := n1 b.toNat (by omega) (by omega); rw [nb.mpr (Or.inr p2)] at this; cases this
      · omega
theorem own_m8191 (u y : Int32) (h : y = (u &&& (8191 : Int32))) : 0 ≤ y.toInt ∧ y.toInt < 8192 := by
  have a := c_mask u 8191 13 (by decide) (by decide)
  rw [← h] at a; omega
theorem own_same (u y : Int32) (hu : 0 ≤ u.toInt ∧ u.toInt < 8192) : 0 ≤ ((u &&& (-64 : Int32)) ||| (y &&& (63 : Int32))).toInt ∧ ((u &&& (-64 : Int32)) ||| (y &&& (63 : Int32))).toInt < 8192 := by
  have a := c_mask y 63 6 (by decide) (by decide)
  have e : (u &&& (-64 : Int32)).toInt = u.toInt / 64 * 64 := by
    have z : (u &&& (-64 : Int32)) = u - (u &&& 63) := by
      have k : (u &&& (-64 : Int32)) + (u &&& 63) = u := by
        apply Int32.toBitVec_inj.mp
        rw [Int32.toBitVec_add, Int32.toBitVec_and, Int32.toBitVec_and]
        have d : (u.toBitVec &&& (-64 : Int32).toBitVec) &&& (u.toBitVec &&& (63 : Int32).toBitVec) = 0#32 := by
          rw [show (u.toBitVec &&& (-64 : Int32).toBitVec) &&& (u.toBitVec &&& (63 : Int32).toBitVec) = u.toBitVec &&& ((-64 : Int32).toBitVec &&& (63 : Int32).toBitVec) by rw [BitVec.and_assoc, ← BitVec.and_assoc (-64 : Int32).toBitVec, BitVec.and_comm (-64 : Int32).toBitVec u.toBitVec, BitVec.and_assoc, ← BitVec.and_assoc, BitVec.and_self]]
          rw [show (-64 : Int32).toBitVec &&& (63 : Int32).toBitVec = 0#32 by decide, BitVec.and_zero]
        rw [BitVec.add_eq_or_of_and_eq_zero _ _ d, ← BitVec.and_or_distrib_left, show (-64 : Int32).toBitVec ||| (63 : Int32).toBitVec = BitVec.allOnes 32 by decide, BitVec.and_allOnes]
      rw [← k]
      conv => rhs; rw [k]
      apply Int32.toInt_inj.mp
      have h := c_iadd (u &&& (-64 : Int32)) (u &&& 63)
      rw [k] at h ⊢
      have h2 := c_isub u (u &&& 63)
      have r1 := rng32 (u &&& (-64 : Int32))
      have r2 := rng32 (u - (u &&& 63))
      omega
    have b := c_mask u 63 6 (by decide) (by decide)
    have d := own_sub u (u &&& 63) (by omega) (by omega)
    rw [z, d]; omega
  have d := c_or (u &&& (-64 : Int32)) (y &&& 63) 6 (by decide) 64 rfl (by omega) (by omega) (by omega)
  have r := rng32 ((u &&& (-64 : Int32)) ||| (y &&& (63 : Int32)))
  omega
theorem own_bool_ti {b : Int32} {P : Prop} (h : own_bool b P) : b.toInt = 0 ↔ ¬ P := by
  rcases h with ⟨rfl, q⟩ | ⟨rfl, q⟩
  · exact ⟨fun z => absurd z (by decide), fun z => absurd q z⟩
  · exact ⟨fun _ => q, fun _ => rfl⟩
theorem ef_7 (m : MethodId) (f : Int32) (p1 : Int32) (a : Int32) (p2 : Int32) (b : Int32) : entryFrame m #[(.int f), (.int p1), (.int a), (.int p2), (.int b)] 6 = mkF m 0 #[.val (.int f), .val (.int p1), .val (.int a), .val (.int p2), .val (.int b), .unset] [] := by first | (simp [entryFrame, mkF, argsToLocals, Value.category]; done) | rfl
theorem pn_7 : plainName "com/example/isolens/isolens/checker/PlaceSetRemovePinLaw" = true := by first | (simp [plainName, overriddenIn]; done) | decide +kernel
theorem d7_0 : decode method_2_code 0 = .ok (.iconst (-1), 1) := by decide +kernel
theorem d7_1 : decode method_2_code 1 = .ok (.istore 5, 2) := by decide +kernel
theorem d7_3 : decode method_2_code 3 = .ok (.iload_n 1, 1) := by decide +kernel
theorem d7_4 : decode method_2_code 4 = .ok (.ifCond .eq 11, 3) := by decide +kernel
theorem d7_15 : decode method_2_code 15 = .ok (.iload_n 3, 1) := by decide +kernel
theorem d7_16 : decode method_2_code 16 = .ok (.ifCond .eq 25, 3) := by decide +kernel
theorem d7_41 : decode method_2_code 41 = .ok (.iload 5, 2) := by decide +kernel
theorem d7_43 : decode method_2_code 43 = .ok (.ireturn, 1) := by decide +kernel
theorem d7_19 : decode method_2_code 19 = .ok (.iload 4, 2) := by decide +kernel
theorem d7_21 : decode method_2_code 21 = .ok (.iload_n 0, 1) := by decide +kernel
theorem d7_22 : decode method_2_code 22 = .ok (.if_icmp .lt 19, 3) := by decide +kernel
theorem d7_25 : decode method_2_code 25 = .ok (.iload 5, 2) := by decide +kernel
theorem d7_27 : decode method_2_code 27 = .ok (.ifCond .lt 10, 3) := by decide +kernel
theorem d7_37 : decode method_2_code 37 = .ok (.iload 4, 2) := by decide +kernel
theorem d7_39 : decode method_2_code 39 = .ok (.istore 5, 2) := by decide +kernel
theorem d7_7 : decode method_2_code 7 = .ok (.iload_n 2, 1) := by decide +kernel
theorem d7_8 : decode method_2_code 8 = .ok (.iload_n 0, 1) := by decide +kernel
theorem d7_9 : decode method_2_code 9 = .ok (.if_icmp .lt 6, 3) := by decide +kernel
theorem d7_12 : decode method_2_code 12 = .ok (.iload_n 2, 1) := by decide +kernel
theorem d7_13 : decode method_2_code 13 = .ok (.istore 5, 2) := by decide +kernel
theorem d7_30 : decode method_2_code 30 = .ok (.iload 4, 2) := by decide +kernel
theorem d7_32 : decode method_2_code 32 = .ok (.iload 5, 2) := by decide +kernel
theorem d7_34 : decode method_2_code 34 = .ok (.if_icmp .ge 7, 3) := by decide +kernel
set_option maxRecDepth 65536 in
set_option maxHeartbeats 40000000 in
theorem rm7 (l : Launch) (Z : State) (a0 : Array Value) (hw : ∀ d ∈ tables_1, d.before a0 Z = true) (f : Int32) (p1 : Int32) (a : Int32) (p2 : Int32) (b : Int32) (h0 : Heap) (ha : 0 ≤ a.toInt) (hb : 0 ≤ b.toInt) :
    Ct l Z (⟨"com/example/isolens/isolens/checker/PlaceSetRemovePinLaw", "firstRef", "(IZIZI)I"⟩ : MethodName) method_2_code 6 (some .int) ({ frames := 0, cells := 0, slots := 0, locals := 0 } : Room) #[(.int f), (.int p1), (.int a), (.int p2), (.int b)] h0 (QI h0 (fun r => own_fr f.toInt p1.toInt p2.toInt a.toInt b.toInt r.toInt)) := by
  refine own_met (plainFor_of_name pn_7) (fun m => ef_7 m f p1 a p2 b) ?_
  intro p e s m below meth c T0 X0 hx hby hml hown hnm hret hlk hZ e0
  refine g_iconst X0 hx hby d7_0 (pc' := 1) rfl (n := (-1 : Int32)) (by first | rfl | decide) ?_
  refine g_istore X0 hx hby d7_1 (pc' := 3) rfl (Ls' := #[.val (.int f), .val (.int p1), .val (.int a), .val (.int p2), .val (.int b), .val (.int (-1 : Int32))]) rfl ?_
  refine g_iloadN X0 hx hby d7_3 (pc' := 4) rfl rfl ?_
  refine g_ifeq X0 hx hby d7_4 (pt := 15) (pf := 7) (by decide) (by decide) rfl (fun (h4 : p1 = (0 : Int32)) => ?_) (fun (h4 : ¬ p1 = (0 : Int32)) => ?_)
  · have h4i : p1.toInt = 0 := congrArg Int32.toInt h4
    refine g_iloadN X0 hx hby d7_15 (pc' := 16) rfl rfl ?_
    refine g_ifeq X0 hx hby d7_16 (pt := 41) (pf := 19) (by decide) (by decide) rfl (fun (h16 : p2 = (0 : Int32)) => ?_) (fun (h16 : ¬ p2 = (0 : Int32)) => ?_)
    · have h16i : p2.toInt = 0 := congrArg Int32.toInt h16
      refine g_iload X0 hx hby d7_41 (pc' := 43) rfl rfl ?_
      exact g_retI X0 hx hby hlk hret d7_43 (by decide) (by decide) (⟨⟨_, rfl, by unfold own_fr; have e1 : (-1 : Int32).toInt = -1 := rfl; omega⟩, e0, rfl⟩)
    · have h16i : ¬ p2.toInt = 0 := fun q => h16 (Int32.toInt_inj.mp q)
      refine g_iload X0 hx hby d7_19 (pc' := 21) rfl rfl ?_
      refine g_iloadN X0 hx hby d7_21 (pc' := 22) rfl rfl ?_
      refine g_icmplt X0 hx hby d7_22 (pt := 41) (pf := 25) (by decide) (by decide) rfl (fun (h22 : b.toInt < f.toInt) => ?_) (fun (h22 : f.toInt ≤ b.toInt) => ?_)
      · refine g_iload X0 hx hby d7_41 (pc' := 43) rfl rfl ?_
        exact g_retI X0 hx hby hlk hret d7_43 (by decide) (by decide) (⟨⟨_, rfl, by unfold own_fr; have e1 : (-1 : Int32).toInt = -1 := rfl; omega⟩, e0, rfl⟩)
      · refine g_iload X0 hx hby d7_25 (pc' := 27) rfl rfl ?_
        refine g_iflt X0 hx hby d7_27 (pt := 37) (pf := 30) (by decide) (by decide) rfl (fun (h27 : (-1) < 0) => ?_) (fun (h27 : 0 ≤ (-1)) => (by exfalso; revert h27; decide))
        refine g_iload X0 hx hby d7_37 (pc' := 39) rfl rfl ?_
        refine g_istore X0 hx hby d7_39 (pc' := 41) rfl (Ls' := #[.val (.int f), .val (.int p1), .val (.int a), .val (.int p2), .val (.int b), .val (.int b)]) rfl ?_
        refine g_iload X0 hx hby d7_41 (pc' := 43) rfl rfl ?_
        exact g_retI X0 hx hby hlk hret d7_43 (by decide) (by decide) (⟨⟨_, rfl, by unfold own_fr; omega⟩, e0, rfl⟩)
  · have h4i : ¬ p1.toInt = 0 := fun q => h4 (Int32.toInt_inj.mp q)
    refine g_iloadN X0 hx hby d7_7 (pc' := 8) rfl rfl ?_
    refine g_iloadN X0 hx hby d7_8 (pc' := 9) rfl rfl ?_
    refine g_icmplt X0 hx hby d7_9 (pt := 15) (pf := 12) (by decide) (by decide) rfl (fun (h9 : a.toInt < f.toInt) => ?_) (fun (h9 : f.toInt ≤ a.toInt) => ?_)
    · refine g_iloadN X0 hx hby d7_15 (pc' := 16) rfl rfl ?_
      refine g_ifeq X0 hx hby d7_16 (pt := 41) (pf := 19) (by decide) (by decide) rfl (fun (h16 : p2 = (0 : Int32)) => ?_) (fun (h16 : ¬ p2 = (0 : Int32)) => ?_)
      · have h16i : p2.toInt = 0 := congrArg Int32.toInt h16
        refine g_iload X0 hx hby d7_41 (pc' := 43) rfl rfl ?_
        exact g_retI X0 hx hby hlk hret d7_43 (by decide) (by decide) (⟨⟨_, rfl, by unfold own_fr; have e1 : (-1 : Int32).toInt = -1 := rfl; omega⟩, e0, rfl⟩)
      · have h16i : ¬ p2.toInt = 0 := fun q => h16 (Int32.toInt_inj.mp q)
        refine g_iload X0 hx hby d7_19 (pc' := 21) rfl rfl ?_
        refine g_iloadN X0 hx hby d7_21 (pc' := 22) rfl rfl ?_
        refine g_icmplt X0 hx hby d7_22 (pt := 41) (pf := 25) (by decide) (by decide) rfl (fun (h22 : b.toInt < f.toInt) => ?_) (fun (h22 : f.toInt ≤ b.toInt) => ?_)
        · refine g_iload X0 hx hby d7_41 (pc' := 43) rfl rfl ?_
          exact g_retI X0 hx hby hlk hret d7_43 (by decide) (by decide) (⟨⟨_, rfl, by unfold own_fr; have e1 : (-1 : Int32).toInt = -1 := rfl; omega⟩, e0, rfl⟩)
        · refine g_iload X0 hx hby d7_25 (pc' := 27) rfl rfl ?_
          refine g_iflt X0 hx hby d7_27 (pt := 37) (pf := 30) (by decide) (by decide) rfl (fun (h27 : (-1) < 0) => ?_) (fun (h27 : 0 ≤ (-1)) => (by exfalso; revert h27; decide))
          refine g_iload X0 hx hby d7_37 (pc' := 39) rfl rfl ?_
          refine g_istore X0 hx hby d7_39 (pc' := 41) rfl (Ls' := #[.val (.int f), .val (.int p1), .val (.int a), .val (.int p2), .val (.int b), .val (.int b)]) rfl ?_
          refine g_iload X0 hx hby d7_41 (pc' := 43) rfl rfl ?_
          exact g_retI X0 hx hby hlk hret d7_43 (by decide) (by decide) (⟨⟨_, rfl, by unfold own_fr; omega⟩, e0, rfl⟩)
    · refine g_iloadN X0 hx hby d7_12 (pc' := 13) rfl rfl ?_
      refine g_istore X0 hx hby d7_13 (pc' := 15) rfl (Ls' := #[.val (.int f), .val (.int p1), .val (.int a), .val (.int p2), .val (.int b), .val (.int a)]) rfl ?_
      refine g_iloadN X0 hx hby d7_15 (pc' := 16) rfl rfl ?_
      refine g_ifeq X0 hx hby d7_16 (pt := 41) (pf := 19) (by decide) (by decide) rfl (fun (h16 : p2 = (0 : Int32)) => ?_) (fun (h16 : ¬ p2 = (0 : Int32)) => ?_)
      · have h16i : p2.toInt = 0 := congrArg Int32.toInt h16
        refine g_iload X0 hx hby d7_41 (pc' := 43) rfl rfl ?_
        exact g_retI X0 hx hby hlk hret d7_43 (by decide) (by decide) (⟨⟨_, rfl, by unfold own_fr; omega⟩, e0, rfl⟩)
      · have h16i : ¬ p2.toInt = 0 := fun q => h16 (Int32.toInt_inj.mp q)
        refine g_iload X0 hx hby d7_19 (pc' := 21) rfl rfl ?_
        refine g_iloadN X0 hx hby d7_21 (pc' := 22) rfl rfl ?_
        refine g_icmplt X0 hx hby d7_22 (pt := 41) (pf := 25) (by decide) (by decide) rfl (fun (h22 : b.toInt < f.toInt) => ?_) (fun (h22 : f.toInt ≤ b.toInt) => ?_)
        · refine g_iload X0 hx hby d7_41 (pc' := 43) rfl rfl ?_
          exact g_retI X0 hx hby hlk hret d7_43 (by decide) (by decide) (⟨⟨_, rfl, by unfold own_fr; omega⟩, e0, rfl⟩)
        · refine g_iload X0 hx hby d7_25 (pc' := 27) rfl rfl ?_
          refine g_iflt X0 hx hby d7_27 (pt := 37) (pf := 30) (by decide) (by decide) rfl (fun (h27 : a.toInt < 0) => ?_) (fun (h27 : 0 ≤ a.toInt) => ?_)
          · refine g_iload X0 hx hby d7_37 (pc' := 39) rfl rfl ?_
            refine g_istore X0 hx hby d7_39 (pc' := 41) rfl (Ls' := #[.val (.int f), .val (.int p1), .val (.int a), .val (.int p2), .val (.int b), .val (.int b)]) rfl ?_
            refine g_iload X0 hx hby d7_41 (pc' := 43) rfl rfl ?_
            exact g_retI X0 hx hby hlk hret d7_43 (by decide) (by decide) (⟨⟨_, rfl, by unfold own_fr; omega⟩, e0, rfl⟩)
          · refine g_iload X0 hx hby d7_30 (pc' := 32) rfl rfl ?_
            refine g_iload X0 hx hby d7_32 (pc' := 34) rfl rfl ?_
            refine g_icmpge X0 hx hby d7_34 (pt := 41) (pf := 37) (by decide) (by decide) rfl (fun (h34 : a.toInt ≤ b.toInt) => ?_) (fun (h34 : b.toInt < a.toInt) => ?_)
            · refine g_iload X0 hx hby d7_41 (pc' := 43) rfl rfl ?_
              exact g_retI X0 hx hby hlk hret d7_43 (by decide) (by decide) (⟨⟨_, rfl, by unfold own_fr; omega⟩, e0, rfl⟩)
            · refine g_iload X0 hx hby d7_37 (pc' := 39) rfl rfl ?_
              refine g_istore X0 hx hby d7_39 (pc' := 41) rfl (Ls' := #[.val (.int f), .val (.int p1), .val (.int a), .val (.int p2), .val (.int b), .val (.int b)]) rfl ?_
              refine g_iload X0 hx hby d7_41 (pc' := 43) rfl rfl ?_
              exact g_retI X0 hx hby hlk hret d7_43 (by decide) (by decide) (⟨⟨_, rfl, by unfold own_fr; omega⟩, e0, rfl⟩)
theorem ef_9 (m : MethodId) (f : Int32) (p1 : Int32) (a : Int32) (p2 : Int32) (b : Int32) : entryFrame m #[(.int f), (.int p1), (.int a), (.int p2), (.int b)] 6 = mkF m 0 #[.val (.int f), .val (.int p1), .val (.int a), .val (.int p2), .val (.int b), .unset] [] := by first | (simp [entryFrame, mkF, argsToLocals, Value.category]; done) | rfl
theorem pn_9 : plainName "com/example/isolens/isolens/checker/PlaceSetRemovePinLaw" = true := by first | (simp [plainName, overriddenIn]; done) | decide +kernel
theorem d9_0 : decode method_3_code 0 = .ok (.iconst (-1), 1) := by decide +kernel
theorem d9_1 : decode method_3_code 1 = .ok (.istore 5, 2) := by decide +kernel
theorem d9_3 : decode method_3_code 3 = .ok (.iload_n 1, 1) := by decide +kernel
theorem d9_4 : decode method_3_code 4 = .ok (.ifCond .eq 11, 3) := by decide +kernel
theorem d9_15 : decode method_3_code 15 = .ok (.iload_n 3, 1) := by decide +kernel
theorem d9_16 : decode method_3_code 16 = .ok (.ifCond .eq 20, 3) := by decide +kernel
theorem d9_36 : decode method_3_code 36 = .ok (.iload 5, 2) := by decide +kernel
theorem d9_38 : decode method_3_code 38 = .ok (.ireturn, 1) := by decide +kernel
theorem d9_19 : decode method_3_code 19 = .ok (.iload 4, 2) := by decide +kernel
theorem d9_21 : decode method_3_code 21 = .ok (.iload_n 0, 1) := by decide +kernel
theorem d9_22 : decode method_3_code 22 = .ok (.if_icmp .gt 14, 3) := by decide +kernel
theorem d9_25 : decode method_3_code 25 = .ok (.iload 4, 2) := by decide +kernel
theorem d9_27 : decode method_3_code 27 = .ok (.iload 5, 2) := by decide +kernel
theorem d9_29 : decode method_3_code 29 = .ok (.if_icmp .le 7, 3) := by decide +kernel
theorem d9_32 : decode method_3_code 32 = .ok (.iload 4, 2) := by decide +kernel
theorem d9_34 : decode method_3_code 34 = .ok (.istore 5, 2) := by decide +kernel
theorem d9_7 : decode method_3_code 7 = .ok (.iload_n 2, 1) := by decide +kernel
theorem d9_8 : decode method_3_code 8 = .ok (.iload_n 0, 1) := by decide +kernel
theorem d9_9 : decode method_3_code 9 = .ok (.if_icmp .gt 6, 3) := by decide +kernel
theorem d9_12 : decode method_3_code 12 = .ok (.iload_n 2, 1) := by decide +kernel
theorem d9_13 : decode method_3_code 13 = .ok (.istore 5, 2) := by decide +kernel
set_option maxRecDepth 65536 in
set_option maxHeartbeats 40000000 in
theorem rm9 (l : Launch) (Z : State) (a0 : Array Value) (hw : ∀ d ∈ tables_1, d.before a0 Z = true) (f : Int32) (p1 : Int32) (a : Int32) (p2 : Int32) (b : Int32) (h0 : Heap) (ha : 0 ≤ a.toInt) (hb : 0 ≤ b.toInt) :
    Ct l Z (⟨"com/example/isolens/isolens/checker/PlaceSetRemovePinLaw", "lastRef", "(IZIZI)I"⟩ : MethodName) method_3_code 6 (some .int) ({ frames := 0, cells := 0, slots := 0, locals := 0 } : Room) #[(.int f), (.int p1), (.int a), (.int p2), (.int b)] h0 (QI h0 (fun r => own_lr f.toInt p1.toInt p2.toInt a.toInt b.toInt r.toInt)) := by
  refine own_met (plainFor_of_name pn_9) (fun m => ef_9 m f p1 a p2 b) ?_
  intro p e s m below meth c T0 X0 hx hby hml hown hnm hret hlk hZ e0
  refine g_iconst X0 hx hby d9_0 (pc' := 1) rfl (n := (-1 : Int32)) (by first | rfl | decide) ?_
  refine g_istore X0 hx hby d9_1 (pc' := 3) rfl (Ls' := #[.val (.int f), .val (.int p1), .val (.int a), .val (.int p2), .val (.int b), .val (.int (-1 : Int32))]) rfl ?_
  refine g_iloadN X0 hx hby d9_3 (pc' := 4) rfl rfl ?_
  refine g_ifeq X0 hx hby d9_4 (pt := 15) (pf := 7) (by decide) (by decide) rfl (fun (h4 : p1 = (0 : Int32)) => ?_) (fun (h4 : ¬ p1 = (0 : Int32)) => ?_)
  · have h4i : p1.toInt = 0 := congrArg Int32.toInt h4
    refine g_iloadN X0 hx hby d9_15 (pc' := 16) rfl rfl ?_
    refine g_ifeq X0 hx hby d9_16 (pt := 36) (pf := 19) (by decide) (by decide) rfl (fun (h16 : p2 = (0 : Int32)) => ?_) (fun (h16 : ¬ p2 = (0 : Int32)) => ?_)
    · have h16i : p2.toInt = 0 := congrArg Int32.toInt h16
      refine g_iload X0 hx hby d9_36 (pc' := 38) rfl rfl ?_
      exact g_retI X0 hx hby hlk hret d9_38 (by decide) (by decide) (⟨⟨_, rfl, by unfold own_lr; have e1 : (-1 : Int32).toInt = -1 := rfl; omega⟩, e0, rfl⟩)
    · have h16i : ¬ p2.toInt = 0 := fun q => h16 (Int32.toInt_inj.mp q)
      refine g_iload X0 hx hby d9_19 (pc' := 21) rfl rfl ?_
      refine g_iloadN X0 hx hby d9_21 (pc' := 22) rfl rfl ?_
      refine g_icmpgt X0 hx hby d9_22 (pt := 36) (pf := 25) (by decide) (by decide) rfl (fun (h22 : f.toInt < b.toInt) => ?_) (fun (h22 : b.toInt ≤ f.toInt) => ?_)
      · refine g_iload X0 hx hby d9_36 (pc' := 38) rfl rfl ?_
        exact g_retI X0 hx hby hlk hret d9_38 (by decide) (by decide) (⟨⟨_, rfl, by unfold own_lr; have e1 : (-1 : Int32).toInt = -1 := rfl; omega⟩, e0, rfl⟩)
      · refine g_iload X0 hx hby d9_25 (pc' := 27) rfl rfl ?_
        refine g_iload X0 hx hby d9_27 (pc' := 29) rfl rfl ?_
        refine g_icmple X0 hx hby d9_29 (pt := 36) (pf := 32) (by decide) (by decide) rfl (fun (h29 : b.toInt ≤ (-1)) => ?_) (fun (h29 : (-1) < b.toInt) => ?_)
        · refine g_iload X0 hx hby d9_36 (pc' := 38) rfl rfl ?_
          exact g_retI X0 hx hby hlk hret d9_38 (by decide) (by decide) (⟨⟨_, rfl, by unfold own_lr; have e1 : (-1 : Int32).toInt = -1 := rfl; omega⟩, e0, rfl⟩)
        · refine g_iload X0 hx hby d9_32 (pc' := 34) rfl rfl ?_
          refine g_istore X0 hx hby d9_34 (pc' := 36) rfl (Ls' := #[.val (.int f), .val (.int p1), .val (.int a), .val (.int p2), .val (.int b), .val (.int b)]) rfl ?_
          refine g_iload X0 hx hby d9_36 (pc' := 38) rfl rfl ?_
          exact g_retI X0 hx hby hlk hret d9_38 (by decide) (by decide) (⟨⟨_, rfl, by unfold own_lr; omega⟩, e0, rfl⟩)
  · have h4i : ¬ p1.toInt = 0 := fun q => h4 (Int32.toInt_inj.mp q)
    refine g_iloadN X0 hx hby d9_7 (pc' := 8) rfl rfl ?_
    refine g_iloadN X0 hx hby d9_8 (pc' := 9) rfl rfl ?_
    refine g_icmpgt X0 hx hby d9_9 (pt := 15) (pf := 12) (by decide) (by decide) rfl (fun (h9 : f.toInt < a.toInt) => ?_) (fun (h9 : a.toInt ≤ f.toInt) => ?_)
    · refine g_iloadN X0 hx hby d9_15 (pc' := 16) rfl rfl ?_
      refine g_ifeq X0 hx hby d9_16 (pt := 36) (pf := 19) (by decide) (by decide) rfl (fun (h16 : p2 = (0 : Int32)) => ?_) (fun (h16 : ¬ p2 = (0 : Int32)) => ?_)
      · have h16i : p2.toInt = 0 := congrArg Int32.toInt h16
        refine g_iload X0 hx hby d9_36 (pc' := 38) rfl rfl ?_
        exact g_retI X0 hx hby hlk hret d9_38 (by decide) (by decide) (⟨⟨_, rfl, by unfold own_lr; have e1 : (-1 : Int32).toInt = -1 := rfl; omega⟩, e0, rfl⟩)
      · have h16i : ¬ p2.toInt = 0 := fun q => h16 (Int32.toInt_inj.mp q)
        refine g_iload X0 hx hby d9_19 (pc' := 21) rfl rfl ?_
        refine g_iloadN X0 hx hby d9_21 (pc' := 22) rfl rfl ?_
        refine g_icmpgt X0 hx hby d9_22 (pt := 36) (pf := 25) (by decide) (by decide) rfl (fun (h22 : f.toInt < b.toInt) => ?_) (fun (h22 : b.toInt ≤ f.toInt) => ?_)
        · refine g_iload X0 hx hby d9_36 (pc' := 38) rfl rfl ?_
          exact g_retI X0 hx hby hlk hret d9_38 (by decide) (by decide) (⟨⟨_, rfl, by unfold own_lr; have e1 : (-1 : Int32).toInt = -1 := rfl; omega⟩, e0, rfl⟩)
        · refine g_iload X0 hx hby d9_25 (pc' := 27) rfl rfl ?_
          refine g_iload X0 hx hby d9_27 (pc' := 29) rfl rfl ?_
          refine g_icmple X0 hx hby d9_29 (pt := 36) (pf := 32) (by decide) (by decide) rfl (fun (h29 : b.toInt ≤ (-1)) => ?_) (fun (h29 : (-1) < b.toInt) => ?_)
          · refine g_iload X0 hx hby d9_36 (pc' := 38) rfl rfl ?_
            exact g_retI X0 hx hby hlk hret d9_38 (by decide) (by decide) (⟨⟨_, rfl, by unfold own_lr; have e1 : (-1 : Int32).toInt = -1 := rfl; omega⟩, e0, rfl⟩)
          · refine g_iload X0 hx hby d9_32 (pc' := 34) rfl rfl ?_
            refine g_istore X0 hx hby d9_34 (pc' := 36) rfl (Ls' := #[.val (.int f), .val (.int p1), .val (.int a), .val (.int p2), .val (.int b), .val (.int b)]) rfl ?_
            refine g_iload X0 hx hby d9_36 (pc' := 38) rfl rfl ?_
            exact g_retI X0 hx hby hlk hret d9_38 (by decide) (by decide) (⟨⟨_, rfl, by unfold own_lr; omega⟩, e0, rfl⟩)
    · refine g_iloadN X0 hx hby d9_12 (pc' := 13) rfl rfl ?_
      refine g_istore X0 hx hby d9_13 (pc' := 15) rfl (Ls' := #[.val (.int f), .val (.int p1), .val (.int a), .val (.int p2), .val (.int b), .val (.int a)]) rfl ?_
      refine g_iloadN X0 hx hby d9_15 (pc' := 16) rfl rfl ?_
      refine g_ifeq X0 hx hby d9_16 (pt := 36) (pf := 19) (by decide) (by decide) rfl (fun (h16 : p2 = (0 : Int32)) => ?_) (fun (h16 : ¬ p2 = (0 : Int32)) => ?_)
      · have h16i : p2.toInt = 0 := congrArg Int32.toInt h16
        refine g_iload X0 hx hby d9_36 (pc' := 38) rfl rfl ?_
        exact g_retI X0 hx hby hlk hret d9_38 (by decide) (by decide) (⟨⟨_, rfl, by unfold own_lr; omega⟩, e0, rfl⟩)
      · have h16i : ¬ p2.toInt = 0 := fun q => h16 (Int32.toInt_inj.mp q)
        refine g_iload X0 hx hby d9_19 (pc' := 21) rfl rfl ?_
        refine g_iloadN X0 hx hby d9_21 (pc' := 22) rfl rfl ?_
        refine g_icmpgt X0 hx hby d9_22 (pt := 36) (pf := 25) (by decide) (by decide) rfl (fun (h22 : f.toInt < b.toInt) => ?_) (fun (h22 : b.toInt ≤ f.toInt) => ?_)
        · refine g_iload X0 hx hby d9_36 (pc' := 38) rfl rfl ?_
          exact g_retI X0 hx hby hlk hret d9_38 (by decide) (by decide) (⟨⟨_, rfl, by unfold own_lr; omega⟩, e0, rfl⟩)
        · refine g_iload X0 hx hby d9_25 (pc' := 27) rfl rfl ?_
          refine g_iload X0 hx hby d9_27 (pc' := 29) rfl rfl ?_
          refine g_icmple X0 hx hby d9_29 (pt := 36) (pf := 32) (by decide) (by decide) rfl (fun (h29 : b.toInt ≤ a.toInt) => ?_) (fun (h29 : a.toInt < b.toInt) => ?_)
          · refine g_iload X0 hx hby d9_36 (pc' := 38) rfl rfl ?_
            exact g_retI X0 hx hby hlk hret d9_38 (by decide) (by decide) (⟨⟨_, rfl, by unfold own_lr; omega⟩, e0, rfl⟩)
          · refine g_iload X0 hx hby d9_32 (pc' := 34) rfl rfl ?_
            refine g_istore X0 hx hby d9_34 (pc' := 36) rfl (Ls' := #[.val (.int f), .val (.int p1), .val (.int a), .val (.int p2), .val (.int b), .val (.int b)]) rfl ?_
            refine g_iload X0 hx hby d9_36 (pc' := 38) rfl rfl ?_
            exact g_retI X0 hx hby hlk hret d9_38 (by decide) (by decide) (⟨⟨_, rfl, by unfold own_lr; omega⟩, e0, rfl⟩)
theorem ef_0 (m : MethodId) (up : Int32) (uq : Int32) (ur : Int32) (us : Int32) (uf : Int32) : entryFrame m #[(.int up), (.int uq), (.int ur), (.int us), (.int uf)] maxLocals = mkF m 0 #[.val (.int up), .val (.int uq), .val (.int ur), .val (.int us), .val (.int uf), .unset, .unset, .unset, .unset, .unset, .unset, .unset, .unset, .unset, .unset, .unset, .unset, .unset] [] := by first | (simp [entryFrame, mkF, argsToLocals, Value.category, maxLocals]; done) | rfl
theorem pn_0 : plainName "com/example/isolens/isolens/checker/PlaceSetRemovePinLaw" = true := by first | (simp [plainName, overriddenIn]; done) | decide +kernel
theorem pd__I_V_240 : parseMethodDescriptor "(I)V" = some ⟨[.int], none⟩ := by decide +kernel
theorem pd__I_Z_244 : parseMethodDescriptor "(I)Z" = some ⟨[.int], some .boolean⟩ := by decide +kernel
theorem pd__IZIZI_I_553 : parseMethodDescriptor "(IZIZI)I" = some ⟨[.int, .boolean, .int, .boolean, .int], some .int⟩ := by decide +kernel
set_option maxRecDepth 65536 in
set_option maxHeartbeats 40000000 in
theorem law0 (l : Launch) (Z : State) (a0 : Array Value) (hw : ∀ d ∈ tables_1, d.before a0 Z = true) (ws : List Jvm.Cond) (up : Int32) (uq : Int32) (ur : Int32) (us : Int32) (uf : Int32) (n0 : Nat) (h0 : Heap) (Z0 : n0 ≤ h0.size) :
    MetFree l x (head1 (Jvm.Cond.code x code maxLocals ret :: ws) room_1) (fun a U => a = #[(.int up), (.int uq), (.int ur), (.int us), (.int uf)] ∧ Z.Warmed39 U.vm ∧ U.heap = h0) (fun _ _ _ _ _ => True) (fun _ U o U' => ∃ v L, o = .returned v ∧ (Q0 n0) v U'.heap L ∧ FrameEnd U o U' L room_1.cells room_1.slots) := by
  refine own_met (plainFor_of_name pn_0) (fun m => ef_0 m up uq ur us uf) ?_
  intro p e s m below meth c T0 X0 hx hby hml hown hnm hret hlk hZ e0
  have N0 := Fr.nil n0
  refine g_sipush X0 hx hby at_0 (pc' := 3) rfl (n := (8192 : Int32)) (by first | rfl | decide) ?_
  refine g_istore X0 hx hby at_3 (pc' := 5) rfl (Ls' := #[.val (.int up), .val (.int uq), .val (.int ur), .val (.int us), .val (.int uf), .val (.int (8192 : Int32)), .unset, .unset, .unset, .unset, .unset, .unset, .unset, .unset, .unset, .unset, .unset, .unset]) rfl ?_
  refine g_iloadN X0 hx hby at_5 (pc' := 6) rfl rfl ?_
  refine g_sipush X0 hx hby at_6 (pc' := 9) rfl (n := (8191 : Int32)) (by first | rfl | decide) ?_
  refine g_iand X0 hx hby at_9 (pc' := 10) rfl ?_
  refine g_nameI (fun ua h_ua => ?_)
  replace h_ua := own_m8191 _ ua h_ua
  refine g_istore X0 hx hby at_10 (pc' := 12) rfl (Ls' := #[.val (.int up), .val (.int uq), .val (.int ur), .val (.int us), .val (.int uf), .val (.int (8192 : Int32)), .val (.int ua), .unset, .unset, .unset, .unset, .unset, .unset, .unset, .unset, .unset, .unset, .unset]) rfl ?_
  refine g_iload X0 hx hby at_12 (pc' := 14) rfl rfl ?_
  refine g_iconst X0 hx hby at_14 (pc' := 15) rfl (n := (1 : Int32)) (by first | rfl | decide) ?_
  refine g_iand X0 hx hby at_15 (pc' := 16) rfl ?_
  refine g_nameI (fun fb h_fb => ?_)
  suffices J24_1 : ∀ (hb : Int32) (h_hb : own_bool hb (¬ fb.toInt = 0)), Go p e below s (Q0 n0) room_1.cells room_1.slots m T0 24 #[.val (.int up), .val (.int uq), .val (.int ur), .val (.int us), .val (.int uf), .val (.int (8192 : Int32)), .val (.int ua), .unset, .unset, .unset, .unset, .unset, .unset, .unset, .unset, .unset, .unset, .unset] [(.int hb)] by
    refine g_ifeq X0 hx hby at_16 (pt := 23) (pf := 19) (by decide) (by decide) rfl (fun (h16 : fb = (0 : Int32)) => ?_) (fun (h16 : ¬ fb = (0 : Int32)) => ?_)
    · have h16i : fb.toInt = 0 := congrArg Int32.toInt h16
      refine g_iconst X0 hx hby at_23 (pc' := 24) rfl (n := (0 : Int32)) (by first | rfl | decide) ?_
      exact J24_1 _ (Or.inr ⟨rfl, by omega⟩)
    · have h16i : ¬ fb.toInt = 0 := fun q => h16 (Int32.toInt_inj.mp q)
      refine g_iconst X0 hx hby at_19 (pc' := 20) rfl (n := (1 : Int32)) (by first | rfl | decide) ?_
      refine g_goto X0 hx hby at_20 (pc' := 24) (by decide) (by decide) ?_
      exact J24_1 _ (Or.inl ⟨rfl, by omega⟩)
  intro hb h_hb
  refine g_istore X0 hx hby at_24 (pc' := 26) rfl (Ls' := #[.val (.int up), .val (.int uq), .val (.int ur), .val (.int us), .val (.int uf), .val (.int (8192 : Int32)), .val (.int ua), .val (.int hb), .unset, .unset, .unset, .unset, .unset, .unset, .unset, .unset, .unset, .unset]) rfl ?_
  refine g_iload X0 hx hby at_26 (pc' := 28) rfl rfl ?_
  refine g_iconst X0 hx hby at_28 (pc' := 29) rfl (n := (1 : Int32)) (by first | rfl | decide) ?_
  refine g_iushr X0 hx hby at_29 (pc' := 30) rfl ?_
  refine g_iconst X0 hx hby at_30 (pc' := 31) rfl (n := (3 : Int32)) (by first | rfl | decide) ?_
  refine g_iand X0 hx hby at_31 (pc' := 32) rfl ?_
  refine g_nameI (fun cm h_cm => ?_)
  refine g_istore X0 hx hby at_32 (pc' := 34) rfl (Ls' := #[.val (.int up), .val (.int uq), .val (.int ur), .val (.int us), .val (.int uf), .val (.int (8192 : Int32)), .val (.int ua), .val (.int hb), .val (.int cm), .unset, .unset, .unset, .unset, .unset, .unset, .unset, .unset, .unset]) rfl ?_
  refine g_iload X0 hx hby at_34 (pc' := 36) rfl rfl ?_
  refine g_iconst X0 hx hby at_36 (pc' := 37) rfl (n := (3 : Int32)) (by first | rfl | decide) ?_
  refine g_iushr X0 hx hby at_37 (pc' := 38) rfl ?_
  refine g_iconst X0 hx hby at_38 (pc' := 39) rfl (n := (1 : Int32)) (by first | rfl | decide) ?_
  refine g_iand X0 hx hby at_39 (pc' := 40) rfl ?_
  refine g_nameI (fun fs h_fs => ?_)
  suffices J48_2 : ∀ (sw : Int32) (h_sw : own_bool sw (¬ fs.toInt = 0)), Go p e below s (Q0 n0) room_1.cells room_1.slots m T0 48 #[.val (.int up), .val (.int uq), .val (.int ur), .val (.int us), .val (.int uf), .val (.int (8192 : Int32)), .val (.int ua), .val (.int hb), .val (.int cm), .unset, .unset, .unset, .unset, .unset, .unset, .unset, .unset, .unset] [(.int sw)] by
    refine g_ifeq X0 hx hby at_40 (pt := 47) (pf := 43) (by decide) (by decide) rfl (fun (h40 : fs = (0 : Int32)) => ?_) (fun (h40 : ¬ fs = (0 : Int32)) => ?_)
    · have h40i : fs.toInt = 0 := congrArg Int32.toInt h40
      refine g_iconst X0 hx hby at_47 (pc' := 48) rfl (n := (0 : Int32)) (by first | rfl | decide) ?_
      exact J48_2 _ (Or.inr ⟨rfl, by omega⟩)
    · have h40i : ¬ fs.toInt = 0 := fun q => h40 (Int32.toInt_inj.mp q)
      refine g_iconst X0 hx hby at_43 (pc' := 44) rfl (n := (1 : Int32)) (by first | rfl | decide) ?_
      refine g_goto X0 hx hby at_44 (pc' := 48) (by decide) (by decide) ?_
      exact J48_2 _ (Or.inl ⟨rfl, by omega⟩)
  intro sw h_sw
  refine g_istore X0 hx hby at_48 (pc' := 50) rfl (Ls' := #[.val (.int up), .val (.int uq), .val (.int ur), .val (.int us), .val (.int uf), .val (.int (8192 : Int32)), .val (.int ua), .val (.int hb), .val (.int cm), .val (.int sw), .unset, .unset, .unset, .unset, .unset, .unset, .unset, .unset]) rfl ?_
  suffices J73_3 : ∀ (ub : Int32) (h_ub : 0 ≤ ub.toInt ∧ ub.toInt < 8192), Go p e below s (Q0 n0) room_1.cells room_1.slots m T0 73 #[.val (.int up), .val (.int uq), .val (.int ur), .val (.int us), .val (.int uf), .val (.int (8192 : Int32)), .val (.int ua), .val (.int hb), .val (.int cm), .val (.int sw), .unset, .unset, .unset, .unset, .unset, .unset, .unset, .unset] [(.int ub)] by
    refine g_iload X0 hx hby at_50 (pc' := 52) rfl rfl ?_
    refine g_ifeq X0 hx hby at_52 (pt := 68) (pf := 55) (by decide) (by decide) rfl (fun (h52 : sw = (0 : Int32)) => ?_) (fun (h52 : ¬ sw = (0 : Int32)) => ?_)
    · have h52i : sw.toInt = 0 := congrArg Int32.toInt h52
      refine g_iloadN X0 hx hby at_68 (pc' := 69) rfl rfl ?_
      refine g_sipush X0 hx hby at_69 (pc' := 72) rfl (n := (8191 : Int32)) (by first | rfl | decide) ?_
      refine g_iand X0 hx hby at_72 (pc' := 73) rfl ?_
      exact J73_3 _ (own_m8191 uq _ rfl)
    · have h52i : ¬ sw.toInt = 0 := fun q => h52 (Int32.toInt_inj.mp q)
      refine g_iload X0 hx hby at_55 (pc' := 57) rfl rfl ?_
      refine g_bipush X0 hx hby at_57 (pc' := 59) rfl (n := (-64 : Int32)) (by first | rfl | decide) ?_
      refine g_iand X0 hx hby at_59 (pc' := 60) rfl ?_
      refine g_iloadN X0 hx hby at_60 (pc' := 61) rfl rfl ?_
      refine g_bipush X0 hx hby at_61 (pc' := 63) rfl (n := (63 : Int32)) (by first | rfl | decide) ?_
      refine g_iand X0 hx hby at_63 (pc' := 64) rfl ?_
      refine g_ior X0 hx hby at_64 (pc' := 65) rfl ?_
      refine g_goto X0 hx hby at_65 (pc' := 73) (by decide) (by decide) ?_
      exact J73_3 _ (own_same ua uq h_ua)
  intro ub h_ub
  refine g_istore X0 hx hby at_73 (pc' := 75) rfl (Ls' := #[.val (.int up), .val (.int uq), .val (.int ur), .val (.int us), .val (.int uf), .val (.int (8192 : Int32)), .val (.int ua), .val (.int hb), .val (.int cm), .val (.int sw), .val (.int ub), .unset, .unset, .unset, .unset, .unset, .unset, .unset]) rfl ?_
  suffices J101_4 : ∀ (uc : Int32) (h_uc : 0 ≤ uc.toInt ∧ uc.toInt < 8192), Go p e below s (Q0 n0) room_1.cells room_1.slots m T0 101 #[.val (.int up), .val (.int uq), .val (.int ur), .val (.int us), .val (.int uf), .val (.int (8192 : Int32)), .val (.int ua), .val (.int hb), .val (.int cm), .val (.int sw), .val (.int ub), .unset, .unset, .unset, .unset, .unset, .unset, .unset] [(.int uc)] by
    refine g_iload X0 hx hby at_75 (pc' := 77) rfl rfl ?_
    refine g_ifne X0 hx hby at_77 (pt := 85) (pf := 80) (by decide) (by decide) rfl (fun (h77 : ¬ cm = (0 : Int32)) => ?_) (fun (h77 : cm = (0 : Int32)) => ?_)
    · have h77i : ¬ cm.toInt = 0 := fun q => h77 (Int32.toInt_inj.mp q)
      refine g_iload X0 hx hby at_85 (pc' := 87) rfl rfl ?_
      refine g_iconst X0 hx hby at_87 (pc' := 88) rfl (n := (1 : Int32)) (by first | rfl | decide) ?_
      refine g_icmpne X0 hx hby at_88 (pt := 96) (pf := 91) (by decide) (by decide) rfl (fun (h88 : ¬ cm = (1 : Int32)) => ?_) (fun (h88 : cm = (1 : Int32)) => ?_)
      · have h88i : ¬ cm.toInt = 1 := fun q => h88 (Int32.toInt_inj.mp q)
        refine g_iloadN X0 hx hby at_96 (pc' := 97) rfl rfl ?_
        refine g_sipush X0 hx hby at_97 (pc' := 100) rfl (n := (8191 : Int32)) (by first | rfl | decide) ?_
        refine g_iand X0 hx hby at_100 (pc' := 101) rfl ?_
        exact J101_4 _ (own_m8191 ur _ rfl)
      · have h88i : cm.toInt = 1 := congrArg Int32.toInt h88
        refine g_iload X0 hx hby at_91 (pc' := 93) rfl rfl ?_
        refine g_goto X0 hx hby at_93 (pc' := 101) (by decide) (by decide) ?_
        exact J101_4 _ h_ub
    · have h77i : cm.toInt = 0 := congrArg Int32.toInt h77
      refine g_iload X0 hx hby at_80 (pc' := 82) rfl rfl ?_
      refine g_goto X0 hx hby at_82 (pc' := 101) (by decide) (by decide) ?_
      exact J101_4 _ h_ua
  intro uc h_uc
  refine g_istore X0 hx hby at_101 (pc' := 103) rfl (Ls' := #[.val (.int up), .val (.int uq), .val (.int ur), .val (.int us), .val (.int uf), .val (.int (8192 : Int32)), .val (.int ua), .val (.int hb), .val (.int cm), .val (.int sw), .val (.int ub), .val (.int uc), .unset, .unset, .unset, .unset, .unset, .unset]) rfl ?_
  refine g_iloadN X0 hx hby at_103 (pc' := 104) rfl rfl ?_
  refine g_sipush X0 hx hby at_104 (pc' := 107) rfl (n := (8191 : Int32)) (by first | rfl | decide) ?_
  refine g_iand X0 hx hby at_107 (pc' := 108) rfl ?_
  refine g_nameI (fun ud h_ud => ?_)
  replace h_ud := own_m8191 _ ud h_ud
  refine g_istore X0 hx hby at_108 (pc' := 110) rfl (Ls' := #[.val (.int up), .val (.int uq), .val (.int ur), .val (.int us), .val (.int uf), .val (.int (8192 : Int32)), .val (.int ua), .val (.int hb), .val (.int cm), .val (.int sw), .val (.int ub), .val (.int uc), .val (.int ud), .unset, .unset, .unset, .unset, .unset]) rfl ?_
  refine g_new X0 hx hby hZ hown e0 (hw _ (List.mem_of_getElem? (i := 0) rfl)) (hw _ (List.mem_of_getElem? (i := 1) rfl)) (hw _ (List.mem_of_getElem? (i := 2) rfl)) at_110 (pc' := 113) rfl (by decide) (by decide) (fun T5 h5 o g5 X5 e5 E5 A5 D5 => ?_)
  have g6 : n0 ≤ o := by rw [g5]; exact Z0
  have Z7 : n0 ≤ h5.size := Nat.le_trans Z0 E5.1
  replace X5 : Stand p l e room_1 s m _ below meth c T5 _ 1 2 := X5
  have E_o : Exa Z h5 o "com/example/isolens/isolens/checker/PlaceSet" := A5
  have F_words_o : Fld Z h5 o "com/example/isolens/isolens/checker/PlaceSet" "words" "[J" .null := D5 (Or.inr (hw _ (List.mem_of_getElem? (i := 11) rfl))) (ty := (.array .long)) (by decide)
  have F_summary_o : Fld Z h5 o "com/example/isolens/isolens/checker/PlaceSet" "summary" "[J" .null := D5 (Or.inr (hw _ (List.mem_of_getElem? (i := 13) rfl))) (ty := (.array .long)) (by decide)
  refine g_dup X5 hx hby at_113 (pc' := 114) rfl rfl ?_
  refine g_iload X5 hx hby at_114 (pc' := 116) rfl rfl ?_
  refine g_special X5 hx hby hZ hown rfl hml rfl (hw _ (List.mem_of_getElem? (i := 3) rfl)) (hw _ (List.mem_of_getElem? (i := 4) rfl)) (hw _ (List.mem_of_getElem? (i := 2) rfl)) rfl (hw _ (List.mem_of_getElem? (i := 5) rfl)) (by decide) e5 (rm1 l Z a0 hw o n0 h5 Z7 g6 E_o F_words_o F_summary_o) pd__I_V_240 (a := o) (argsL := [(.int (8192 : Int32))]) (rest := [(.ref o)]) rfl rfl rfl at_116 (pc' := 119) rfl (by decide) (Nat.le_of_ble_eq_true rfl) (by decide) (by decide) ?_
  intro Tp116 vp116 Lp116 Xp116 qp116
  obtain ⟨twp116, tsp116, wp116, smp116, rfl, Nqp116, g_twp116, g_tsp116, ne1p116, ne2p116, ne3p116, E_o, Fwp116, Fsp116, Awp116, Asp116, hmep116, hinp116⟩ := qp116
  replace Xp116 : Stand p l e room_1 s m _ below meth c Tp116 _ 3 132 := Xp116
  have Np116 := Fr.app N0 Nqp116
  show Go p e below s (Q0 n0) room_1.cells room_1.slots m Tp116 119 #[.val (.int up), .val (.int uq), .val (.int ur), .val (.int us), .val (.int uf), .val (.int (8192 : Int32)), .val (.int ua), .val (.int hb), .val (.int cm), .val (.int sw), .val (.int ub), .val (.int uc), .val (.int ud), .unset, .unset, .unset, .unset, .unset] [(.ref o)]
  have Zsp116 : n0 ≤ Tp116.heap.size := Nat.le_of_lt (Nat.lt_of_le_of_lt g_twp116 Awp116.lt)
  refine g_astore Xp116 hx hby at_119 (pc' := 121) rfl rfl (Ls' := #[.val (.int up), .val (.int uq), .val (.int ur), .val (.int us), .val (.int uf), .val (.int (8192 : Int32)), .val (.int ua), .val (.int hb), .val (.int cm), .val (.int sw), .val (.int ub), .val (.int uc), .val (.int ud), .val (.ref o), .unset, .unset, .unset, .unset]) rfl ?_
  refine g_aload Xp116 hx hby at_121 (pc' := 123) rfl rfl rfl ?_
  refine g_iload Xp116 hx hby at_123 (pc' := 125) rfl rfl ?_
  refine g_virtual Xp116 hx hby hZ hown hml rfl (hw _ (List.mem_of_getElem? (i := 14) rfl)) (hw _ (List.mem_of_getElem? (i := 15) rfl)) (hw _ (List.mem_of_getElem? (i := 17) rfl)) (hw _ (List.mem_of_getElem? (i := 16) rfl)) (hw _ (List.mem_of_getElem? (i := 2) rfl)) (hw _ (List.mem_of_getElem? (i := 18) rfl)) (by decide) rfl (rm3 l Z a0 hw o ua n0 twp116 tsp116 wp116 smp116 Tp116.heap Zsp116 g6 g_twp116 g_tsp116 ne1p116 ne2p116 ne3p116 E_o Fwp116 Fsp116 Awp116 Asp116 h_ua hinp116) pd__I_V_240 E_o (argsL := [(.int ua)]) (rest := []) rfl rfl rfl at_125 (pc' := 128) rfl (by decide) (Nat.le_of_ble_eq_true rfl) (by decide) (by decide) ?_
  intro Tp125 vp125 Lp125 Xp125 qp125
  obtain ⟨twp125, tsp125, wp125, smp125, rfl, Nqp125, g_twp125, g_tsp125, ne1p125, ne2p125, ne3p125, E_o, Fwp125, Fsp125, Awp125, Asp125, hmep125, hinp125⟩ := qp125
  replace Xp125 : Stand p l e room_1 s m _ below meth c Tp125 _ 3 132 := Xp125
  have Np125 := Fr.app Np116 Nqp125
  show Go p e below s (Q0 n0) room_1.cells room_1.slots m Tp125 128 #[.val (.int up), .val (.int uq), .val (.int ur), .val (.int us), .val (.int uf), .val (.int (8192 : Int32)), .val (.int ua), .val (.int hb), .val (.int cm), .val (.int sw), .val (.int ub), .val (.int uc), .val (.int ud), .val (.ref o), .unset, .unset, .unset, .unset] []
  have Zsp125 : n0 ≤ Tp125.heap.size := Nat.le_of_lt (Nat.lt_of_le_of_lt g_twp125 Awp125.lt)
  suffices J140_8 : ∀ (locs9 : List Loc) (T9 : State) (X9 : Stand p l e room_1 s m #[(.int up), (.int uq), (.int ur), (.int us), (.int uf)] below meth c T9 locs9 3 132) (hp9 : Heap) (e9 : T9.heap = hp9) (N9 : Fr n0 locs9) (twj : Addr) (tsj : Addr) (wj : Nat → Int64) (smj : Nat → Int64) (g1j : n0 ≤ twj) (g2j : n0 ≤ tsj) (n1j : o ≠ twj) (n2j : o ≠ tsj) (n3j : twj ≠ tsj) (E_o : Exa Z hp9 o "com/example/isolens/isolens/checker/PlaceSet") (Fwj : Fld Z hp9 o "com/example/isolens/isolens/checker/PlaceSet" "words" "[J" (.ref twj)) (Fsj : Fld Z hp9 o "com/example/isolens/isolens/checker/PlaceSet" "summary" "[J" (.ref tsj)) (Awj : Ara Z hp9 twj .long 128 (fun j => .long (wj j))) (Asj : Ara Z hp9 tsj .long 2 (fun j => .long (smj j))) (Zsj : n0 ≤ hp9.size) (hinj : own_inv wj smj) (hmj : ∀ q : Nat, own_mem wj q = true ↔ q = ua.toInt.toNat ∨ (¬ hb.toInt = 0 ∧ q = ub.toInt.toNat)), Go p e below s (Q0 n0) room_1.cells room_1.slots m T9 140 #[.val (.int up), .val (.int uq), .val (.int ur), .val (.int us), .val (.int uf), .val (.int (8192 : Int32)), .val (.int ua), .val (.int hb), .val (.int cm), .val (.int sw), .val (.int ub), .val (.int uc), .val (.int ud), .val (.ref o), .unset, .unset, .unset, .unset] [] by
    refine g_iload Xp125 hx hby at_128 (pc' := 130) rfl rfl ?_
    refine g_ifeq Xp125 hx hby at_130 (pt := 140) (pf := 133) (by decide) (by decide) rfl (fun (h130 : hb = (0 : Int32)) => ?_) (fun (h130 : ¬ hb = (0 : Int32)) => ?_)
    · have h130i : hb.toInt = 0 := congrArg Int32.toInt h130
      exact J140_8 _ _ Xp125 _ rfl Np125 twp125 tsp125 _ _ g_twp125 g_tsp125 ne1p125 ne2p125 ne3p125 E_o Fwp125 Fsp125 Awp125 Asp125 Zsp125 hinp125 (fun q => by rw [hmep125, hmep116]; simp [h130i])
    · have h130i : ¬ hb.toInt = 0 := fun q => h130 (Int32.toInt_inj.mp q)
      refine g_aload Xp125 hx hby at_133 (pc' := 135) rfl rfl rfl ?_
      refine g_iload Xp125 hx hby at_135 (pc' := 137) rfl rfl ?_
      refine g_virtual Xp125 hx hby hZ hown hml rfl (hw _ (List.mem_of_getElem? (i := 14) rfl)) (hw _ (List.mem_of_getElem? (i := 15) rfl)) (hw _ (List.mem_of_getElem? (i := 17) rfl)) (hw _ (List.mem_of_getElem? (i := 16) rfl)) (hw _ (List.mem_of_getElem? (i := 2) rfl)) (hw _ (List.mem_of_getElem? (i := 18) rfl)) (by decide) rfl (rm3 l Z a0 hw o ub n0 twp125 tsp125 wp125 smp125 Tp125.heap Zsp125 g6 g_twp125 g_tsp125 ne1p125 ne2p125 ne3p125 E_o Fwp125 Fsp125 Awp125 Asp125 h_ub hinp125) pd__I_V_240 E_o (argsL := [(.int ub)]) (rest := []) rfl rfl rfl at_137 (pc' := 140) rfl (by decide) (Nat.le_of_ble_eq_true rfl) (by decide) (by decide) ?_
      intro Tp137 vp137 Lp137 Xp137 qp137
      obtain ⟨twp137, tsp137, wp137, smp137, rfl, Nqp137, g_twp137, g_tsp137, ne1p137, ne2p137, ne3p137, E_o, Fwp137, Fsp137, Awp137, Asp137, hmep137, hinp137⟩ := qp137
      replace Xp137 : Stand p l e room_1 s m _ below meth c Tp137 _ 3 132 := Xp137
      have Np137 := Fr.app Np125 Nqp137
      show Go p e below s (Q0 n0) room_1.cells room_1.slots m Tp137 140 #[.val (.int up), .val (.int uq), .val (.int ur), .val (.int us), .val (.int uf), .val (.int (8192 : Int32)), .val (.int ua), .val (.int hb), .val (.int cm), .val (.int sw), .val (.int ub), .val (.int uc), .val (.int ud), .val (.ref o), .unset, .unset, .unset, .unset] []
      have Zsp137 : n0 ≤ Tp137.heap.size := Nat.le_of_lt (Nat.lt_of_le_of_lt g_twp137 Awp137.lt)
      exact J140_8 _ _ Xp137 _ rfl Np137 twp137 tsp137 _ _ g_twp137 g_tsp137 ne1p137 ne2p137 ne3p137 E_o Fwp137 Fsp137 Awp137 Asp137 Zsp137 hinp137 (fun q => by rw [hmep137, hmep125, hmep116]; simp [h130i])
  intro locs9 T9 X9 hp9 e9 N9 twj tsj wj smj g1j g2j n1j n2j n3j E_o Fwj Fsj Awj Asj Zsj hinj hmj
  refine g_aload X9 hx hby at_140 (pc' := 142) rfl rfl rfl ?_
  refine g_iload X9 hx hby at_142 (pc' := 144) rfl rfl ?_
  refine g_virtual X9 hx hby hZ hown hml rfl (hw _ (List.mem_of_getElem? (i := 19) rfl)) (hw _ (List.mem_of_getElem? (i := 20) rfl)) (hw _ (List.mem_of_getElem? (i := 22) rfl)) (hw _ (List.mem_of_getElem? (i := 21) rfl)) (hw _ (List.mem_of_getElem? (i := 2) rfl)) (hw _ (List.mem_of_getElem? (i := 23) rfl)) (by decide) e9 (rm4 l Z a0 hw o uc n0 twj tsj wj smj hp9 Zsj g6 g1j g2j n1j n2j n3j E_o Fwj Fsj Awj Asj h_uc hinj) pd__I_V_240 E_o (argsL := [(.int uc)]) (rest := []) rfl rfl rfl at_144 (pc' := 147) rfl (by decide) (Nat.le_of_ble_eq_true rfl) (by decide) (by decide) ?_
  intro Tp144 vp144 Lp144 Xp144 qp144
  obtain ⟨twp144, tsp144, wp144, smp144, rfl, Nqp144, g_twp144, g_tsp144, ne1p144, ne2p144, ne3p144, E_o, Fwp144, Fsp144, Awp144, Asp144, hmep144, hinp144⟩ := qp144
  replace Xp144 : Stand p l e room_1 s m _ below meth c Tp144 _ 3 132 := Xp144
  have Np144 := Fr.app N9 Nqp144
  show Go p e below s (Q0 n0) room_1.cells room_1.slots m Tp144 147 #[.val (.int up), .val (.int uq), .val (.int ur), .val (.int us), .val (.int uf), .val (.int (8192 : Int32)), .val (.int ua), .val (.int hb), .val (.int cm), .val (.int sw), .val (.int ub), .val (.int uc), .val (.int ud), .val (.ref o), .unset, .unset, .unset, .unset] []
  have Zsp144 : n0 ≤ Tp144.heap.size := Nat.le_of_lt (Nat.lt_of_le_of_lt g_twp144 Awp144.lt)
  suffices J159_10 : ∀ (ia : Int32) (h_ia : own_bool ia (¬ ua.toInt = uc.toInt)), Go p e below s (Q0 n0) room_1.cells room_1.slots m Tp144 159 #[.val (.int up), .val (.int uq), .val (.int ur), .val (.int us), .val (.int uf), .val (.int (8192 : Int32)), .val (.int ua), .val (.int hb), .val (.int cm), .val (.int sw), .val (.int ub), .val (.int uc), .val (.int ud), .val (.ref o), .unset, .unset, .unset, .unset] [(.int ia)] by
    refine g_iload Xp144 hx hby at_147 (pc' := 149) rfl rfl ?_
    refine g_iload Xp144 hx hby at_149 (pc' := 151) rfl rfl ?_
    refine g_icmpeq Xp144 hx hby at_151 (pt := 158) (pf := 154) (by decide) (by decide) rfl (fun (h151 : ua = uc) => ?_) (fun (h151 : ¬ ua = uc) => ?_)
    · have h151i : ua.toInt = uc.toInt := congrArg Int32.toInt h151
      refine g_iconst Xp144 hx hby at_158 (pc' := 159) rfl (n := (0 : Int32)) (by first | rfl | decide) ?_
      exact J159_10 _ (Or.inr ⟨rfl, by omega⟩)
    · have h151i : ¬ ua.toInt = uc.toInt := fun q => h151 (Int32.toInt_inj.mp q)
      refine g_iconst Xp144 hx hby at_154 (pc' := 155) rfl (n := (1 : Int32)) (by first | rfl | decide) ?_
      refine g_goto Xp144 hx hby at_155 (pc' := 159) (by decide) (by decide) ?_
      exact J159_10 _ (Or.inl ⟨rfl, by omega⟩)
  intro ia h_ia
  refine g_istore Xp144 hx hby at_159 (pc' := 161) rfl (Ls' := #[.val (.int up), .val (.int uq), .val (.int ur), .val (.int us), .val (.int uf), .val (.int (8192 : Int32)), .val (.int ua), .val (.int hb), .val (.int cm), .val (.int sw), .val (.int ub), .val (.int uc), .val (.int ud), .val (.ref o), .val (.int ia), .unset, .unset, .unset]) rfl ?_
  suffices J178_11 : ∀ (ib : Int32) (h_ib : own_bool ib (¬ hb.toInt = 0 ∧ ¬ ub.toInt = uc.toInt)), Go p e below s (Q0 n0) room_1.cells room_1.slots m Tp144 178 #[.val (.int up), .val (.int uq), .val (.int ur), .val (.int us), .val (.int uf), .val (.int (8192 : Int32)), .val (.int ua), .val (.int hb), .val (.int cm), .val (.int sw), .val (.int ub), .val (.int uc), .val (.int ud), .val (.ref o), .val (.int ia), .unset, .unset, .unset] [(.int ib)] by
    refine g_iload Xp144 hx hby at_161 (pc' := 163) rfl rfl ?_
    refine g_ifeq Xp144 hx hby at_163 (pt := 177) (pf := 166) (by decide) (by decide) rfl (fun (h163 : hb = (0 : Int32)) => ?_) (fun (h163 : ¬ hb = (0 : Int32)) => ?_)
    · have h163i : hb.toInt = 0 := congrArg Int32.toInt h163
      refine g_iconst Xp144 hx hby at_177 (pc' := 178) rfl (n := (0 : Int32)) (by first | rfl | decide) ?_
      exact J178_11 _ (Or.inr ⟨rfl, by omega⟩)
    · have h163i : ¬ hb.toInt = 0 := fun q => h163 (Int32.toInt_inj.mp q)
      refine g_iload Xp144 hx hby at_166 (pc' := 168) rfl rfl ?_
      refine g_iload Xp144 hx hby at_168 (pc' := 170) rfl rfl ?_
      refine g_icmpeq Xp144 hx hby at_170 (pt := 177) (pf := 173) (by decide) (by decide) rfl (fun (h170 : ub = uc) => ?_) (fun (h170 : ¬ ub = uc) => ?_)
      · have h170i : ub.toInt = uc.toInt := congrArg Int32.toInt h170
        refine g_iconst Xp144 hx hby at_177 (pc' := 178) rfl (n := (0 : Int32)) (by first | rfl | decide) ?_
        exact J178_11 _ (Or.inr ⟨rfl, by omega⟩)
      · have h170i : ¬ ub.toInt = uc.toInt := fun q => h170 (Int32.toInt_inj.mp q)
        refine g_iconst Xp144 hx hby at_173 (pc' := 174) rfl (n := (1 : Int32)) (by first | rfl | decide) ?_
        refine g_goto Xp144 hx hby at_174 (pc' := 178) (by decide) (by decide) ?_
        exact J178_11 _ (Or.inl ⟨rfl, by omega⟩)
  intro ib h_ib
  refine g_istore Xp144 hx hby at_178 (pc' := 180) rfl (Ls' := #[.val (.int up), .val (.int uq), .val (.int ur), .val (.int us), .val (.int uf), .val (.int (8192 : Int32)), .val (.int ua), .val (.int hb), .val (.int cm), .val (.int sw), .val (.int ub), .val (.int uc), .val (.int ud), .val (.ref o), .val (.int ia), .val (.int ib), .unset, .unset]) rfl ?_
  suffices J202_12 : ∀ (ie : Int32) (h_ie : own_bool ie ((¬ ia.toInt = 0 ∧ ub.toInt = ua.toInt) ∨ ¬ ib.toInt = 0)), Go p e below s (Q0 n0) room_1.cells room_1.slots m Tp144 202 #[.val (.int up), .val (.int uq), .val (.int ur), .val (.int us), .val (.int uf), .val (.int (8192 : Int32)), .val (.int ua), .val (.int hb), .val (.int cm), .val (.int sw), .val (.int ub), .val (.int uc), .val (.int ud), .val (.ref o), .val (.int ia), .val (.int ib), .unset, .unset] [(.int ie)] by
    refine g_iload Xp144 hx hby at_180 (pc' := 182) rfl rfl ?_
    refine g_ifeq Xp144 hx hby at_182 (pt := 192) (pf := 185) (by decide) (by decide) rfl (fun (h182 : ia = (0 : Int32)) => ?_) (fun (h182 : ¬ ia = (0 : Int32)) => ?_)
    · have h182i : ia.toInt = 0 := congrArg Int32.toInt h182
      refine g_iload Xp144 hx hby at_192 (pc' := 194) rfl rfl ?_
      refine g_ifeq Xp144 hx hby at_194 (pt := 201) (pf := 197) (by decide) (by decide) rfl (fun (h194 : ib = (0 : Int32)) => ?_) (fun (h194 : ¬ ib = (0 : Int32)) => ?_)
      · have h194i : ib.toInt = 0 := congrArg Int32.toInt h194
        refine g_iconst Xp144 hx hby at_201 (pc' := 202) rfl (n := (0 : Int32)) (by first | rfl | decide) ?_
        exact J202_12 _ (Or.inr ⟨rfl, by omega⟩)
      · have h194i : ¬ ib.toInt = 0 := fun q => h194 (Int32.toInt_inj.mp q)
        refine g_iconst Xp144 hx hby at_197 (pc' := 198) rfl (n := (1 : Int32)) (by first | rfl | decide) ?_
        refine g_goto Xp144 hx hby at_198 (pc' := 202) (by decide) (by decide) ?_
        exact J202_12 _ (Or.inl ⟨rfl, by omega⟩)
    · have h182i : ¬ ia.toInt = 0 := fun q => h182 (Int32.toInt_inj.mp q)
      refine g_iload Xp144 hx hby at_185 (pc' := 187) rfl rfl ?_
      refine g_iload Xp144 hx hby at_187 (pc' := 189) rfl rfl ?_
      refine g_icmpeq Xp144 hx hby at_189 (pt := 197) (pf := 192) (by decide) (by decide) rfl (fun (h189 : ub = ua) => ?_) (fun (h189 : ¬ ub = ua) => ?_)
      · have h189i : ub.toInt = ua.toInt := congrArg Int32.toInt h189
        refine g_iconst Xp144 hx hby at_197 (pc' := 198) rfl (n := (1 : Int32)) (by first | rfl | decide) ?_
        refine g_goto Xp144 hx hby at_198 (pc' := 202) (by decide) (by decide) ?_
        exact J202_12 _ (Or.inl ⟨rfl, by omega⟩)
      · have h189i : ¬ ub.toInt = ua.toInt := fun q => h189 (Int32.toInt_inj.mp q)
        refine g_iload Xp144 hx hby at_192 (pc' := 194) rfl rfl ?_
        refine g_ifeq Xp144 hx hby at_194 (pt := 201) (pf := 197) (by decide) (by decide) rfl (fun (h194 : ib = (0 : Int32)) => ?_) (fun (h194 : ¬ ib = (0 : Int32)) => ?_)
        · have h194i : ib.toInt = 0 := congrArg Int32.toInt h194
          refine g_iconst Xp144 hx hby at_201 (pc' := 202) rfl (n := (0 : Int32)) (by first | rfl | decide) ?_
          exact J202_12 _ (Or.inr ⟨rfl, by omega⟩)
        · have h194i : ¬ ib.toInt = 0 := fun q => h194 (Int32.toInt_inj.mp q)
          refine g_iconst Xp144 hx hby at_197 (pc' := 198) rfl (n := (1 : Int32)) (by first | rfl | decide) ?_
          refine g_goto Xp144 hx hby at_198 (pc' := 202) (by decide) (by decide) ?_
          exact J202_12 _ (Or.inl ⟨rfl, by omega⟩)
  intro ie h_ie
  refine g_istore Xp144 hx hby at_202 (pc' := 204) rfl (Ls' := #[.val (.int up), .val (.int uq), .val (.int ur), .val (.int us), .val (.int uf), .val (.int (8192 : Int32)), .val (.int ua), .val (.int hb), .val (.int cm), .val (.int sw), .val (.int ub), .val (.int uc), .val (.int ud), .val (.ref o), .val (.int ia), .val (.int ib), .val (.int ie), .unset]) rfl ?_
  have fi := own_bool_ti h_ia
  have fj := own_bool_ti h_ib
  have fe := own_bool_ti h_ie
  have hM : ∀ k : Nat, own_mem wp144 k = true ↔ (¬ ia.toInt = 0 ∧ (k : Int) = ua.toInt) ∨ (¬ ib.toInt = 0 ∧ (k : Int) = ub.toInt) := fun k => by
    have e := hmep144 k
    have e2 := hmj k
    rw [e, Bool.and_eq_true, e2]
    simp only [Bool.not_eq_true', decide_eq_false_iff_not]
    omega
  refine g_aload Xp144 hx hby at_204 (pc' := 206) rfl rfl rfl ?_
  refine g_iload Xp144 hx hby at_206 (pc' := 208) rfl rfl ?_
  refine g_virtual Xp144 hx hby hZ hown hml rfl (hw _ (List.mem_of_getElem? (i := 25) rfl)) (hw _ (List.mem_of_getElem? (i := 26) rfl)) (hw _ (List.mem_of_getElem? (i := 28) rfl)) (hw _ (List.mem_of_getElem? (i := 27) rfl)) (hw _ (List.mem_of_getElem? (i := 2) rfl)) (hw _ (List.mem_of_getElem? (i := 29) rfl)) (by decide) rfl (rm5 l Z a0 hw o ua twp144 tsp144 wp144 smp144 Tp144.heap Fwp144 Fsp144 Awp144 Asp144 h_ua) pd__I_Z_244 E_o (argsL := [(.int ua)]) (rest := []) rfl rfl rfl at_208 (pc' := 211) rfl (by decide) (Nat.le_of_ble_eq_true rfl) (by decide) (by decide) ?_
  intro Tp208 vp208 Lp208 Xp208 qp208
  obtain ⟨⟨rp208, rfl, h_rp208⟩, ep208, rfl⟩ := qp208
  rw [List.append_nil] at Xp208
  replace Xp208 : Stand p l e room_1 s m _ below meth c Tp208 _ 3 132 := Xp208
  show Go p e below s (Q0 n0) room_1.cells room_1.slots m Tp208 211 #[.val (.int up), .val (.int uq), .val (.int ur), .val (.int us), .val (.int uf), .val (.int (8192 : Int32)), .val (.int ua), .val (.int hb), .val (.int cm), .val (.int sw), .val (.int ub), .val (.int uc), .val (.int ud), .val (.ref o), .val (.int ia), .val (.int ib), .val (.int ie), .unset] [(.int rp208)]
  refine g_iload Xp208 hx hby at_211 (pc' := 213) rfl rfl ?_
  refine g_icmpne Xp208 hx hby at_213 (pt := 220) (pf := 216) (by decide) (by decide) rfl (fun (h213 : ¬ rp208 = ia) => (by exfalso; exact h213 (own_bool_eq h_rp208 h_ia (by rw [hM]; omega)))) (fun (h213 : rp208 = ia) => ?_)
  have h213i : rp208.toInt = ia.toInt := congrArg Int32.toInt h213
  refine g_iconst Xp208 hx hby at_216 (pc' := 217) rfl (n := (1 : Int32)) (by first | rfl | decide) ?_
  refine g_goto Xp208 hx hby at_217 (pc' := 221) (by decide) (by decide) ?_
  refine g_istore Xp208 hx hby at_221 (pc' := 223) rfl (Ls' := #[.val (.int up), .val (.int uq), .val (.int ur), .val (.int us), .val (.int uf), .val (.int (8192 : Int32)), .val (.int ua), .val (.int hb), .val (.int cm), .val (.int sw), .val (.int ub), .val (.int uc), .val (.int ud), .val (.ref o), .val (.int ia), .val (.int ib), .val (.int ie), .val (.int (1 : Int32))]) rfl ?_
  refine g_iload Xp208 hx hby at_223 (pc' := 225) rfl rfl ?_
  refine g_ifeq Xp208 hx hby at_225 (pt := 244) (pf := 228) (by decide) (by decide) rfl (fun (h225 : (1 : Int32) = (0 : Int32)) => (by exfalso; revert h225; decide)) (fun (h225 : ¬ (1 : Int32) = (0 : Int32)) => ?_)
  refine g_aload Xp208 hx hby at_228 (pc' := 230) rfl rfl rfl ?_
  refine g_iload Xp208 hx hby at_230 (pc' := 232) rfl rfl ?_
  refine g_virtual Xp208 hx hby hZ hown hml rfl (hw _ (List.mem_of_getElem? (i := 25) rfl)) (hw _ (List.mem_of_getElem? (i := 26) rfl)) (hw _ (List.mem_of_getElem? (i := 28) rfl)) (hw _ (List.mem_of_getElem? (i := 27) rfl)) (hw _ (List.mem_of_getElem? (i := 2) rfl)) (hw _ (List.mem_of_getElem? (i := 29) rfl)) (by decide) ep208 (rm5 l Z a0 hw o ub twp144 tsp144 wp144 smp144 Tp144.heap Fwp144 Fsp144 Awp144 Asp144 h_ub) pd__I_Z_244 E_o (argsL := [(.int ub)]) (rest := []) rfl rfl rfl at_232 (pc' := 235) rfl (by decide) (Nat.le_of_ble_eq_true rfl) (by decide) (by decide) ?_
  intro Tp232 vp232 Lp232 Xp232 qp232
  obtain ⟨⟨rp232, rfl, h_rp232⟩, ep232, rfl⟩ := qp232
  rw [List.append_nil] at Xp232
  replace Xp232 : Stand p l e room_1 s m _ below meth c Tp232 _ 3 132 := Xp232
  show Go p e below s (Q0 n0) room_1.cells room_1.slots m Tp232 235 #[.val (.int up), .val (.int uq), .val (.int ur), .val (.int us), .val (.int uf), .val (.int (8192 : Int32)), .val (.int ua), .val (.int hb), .val (.int cm), .val (.int sw), .val (.int ub), .val (.int uc), .val (.int ud), .val (.ref o), .val (.int ia), .val (.int ib), .val (.int ie), .val (.int (1 : Int32))] [(.int rp232)]
  refine g_iload Xp232 hx hby at_235 (pc' := 237) rfl rfl ?_
  refine g_icmpne Xp232 hx hby at_237 (pt := 244) (pf := 240) (by decide) (by decide) rfl (fun (h237 : ¬ rp232 = ie) => (by exfalso; exact h237 (own_bool_eq h_rp232 h_ie (by rw [hM]; omega)))) (fun (h237 : rp232 = ie) => ?_)
  have h237i : rp232.toInt = ie.toInt := congrArg Int32.toInt h237
  refine g_iconst Xp232 hx hby at_240 (pc' := 241) rfl (n := (1 : Int32)) (by first | rfl | decide) ?_
  refine g_goto Xp232 hx hby at_241 (pc' := 245) (by decide) (by decide) ?_
  refine g_istore Xp232 hx hby at_245 (pc' := 247) rfl (Ls' := #[.val (.int up), .val (.int uq), .val (.int ur), .val (.int us), .val (.int uf), .val (.int (8192 : Int32)), .val (.int ua), .val (.int hb), .val (.int cm), .val (.int sw), .val (.int ub), .val (.int uc), .val (.int ud), .val (.ref o), .val (.int ia), .val (.int ib), .val (.int ie), .val (.int (1 : Int32))]) rfl ?_
  refine g_iload Xp232 hx hby at_247 (pc' := 249) rfl rfl ?_
  refine g_ifeq Xp232 hx hby at_249 (pt := 266) (pf := 252) (by decide) (by decide) rfl (fun (h249 : (1 : Int32) = (0 : Int32)) => (by exfalso; revert h249; decide)) (fun (h249 : ¬ (1 : Int32) = (0 : Int32)) => ?_)
  refine g_aload Xp232 hx hby at_252 (pc' := 254) rfl rfl rfl ?_
  refine g_iload Xp232 hx hby at_254 (pc' := 256) rfl rfl ?_
  refine g_virtual Xp232 hx hby hZ hown hml rfl (hw _ (List.mem_of_getElem? (i := 25) rfl)) (hw _ (List.mem_of_getElem? (i := 26) rfl)) (hw _ (List.mem_of_getElem? (i := 28) rfl)) (hw _ (List.mem_of_getElem? (i := 27) rfl)) (hw _ (List.mem_of_getElem? (i := 2) rfl)) (hw _ (List.mem_of_getElem? (i := 29) rfl)) (by decide) ep232 (rm5 l Z a0 hw o uc twp144 tsp144 wp144 smp144 Tp144.heap Fwp144 Fsp144 Awp144 Asp144 h_uc) pd__I_Z_244 E_o (argsL := [(.int uc)]) (rest := []) rfl rfl rfl at_256 (pc' := 259) rfl (by decide) (Nat.le_of_ble_eq_true rfl) (by decide) (by decide) ?_
  intro Tp256 vp256 Lp256 Xp256 qp256
  obtain ⟨⟨rp256, rfl, h_rp256⟩, ep256, rfl⟩ := qp256
  rw [List.append_nil] at Xp256
  replace Xp256 : Stand p l e room_1 s m _ below meth c Tp256 _ 3 132 := Xp256
  show Go p e below s (Q0 n0) room_1.cells room_1.slots m Tp256 259 #[.val (.int up), .val (.int uq), .val (.int ur), .val (.int us), .val (.int uf), .val (.int (8192 : Int32)), .val (.int ua), .val (.int hb), .val (.int cm), .val (.int sw), .val (.int ub), .val (.int uc), .val (.int ud), .val (.ref o), .val (.int ia), .val (.int ib), .val (.int ie), .val (.int (1 : Int32))] [(.int rp256)]
  refine g_ifne Xp256 hx hby at_259 (pt := 266) (pf := 262) (by decide) (by decide) rfl (fun (h259 : ¬ rp256 = (0 : Int32)) => (by exfalso; exact h259 ((own_bool_zero h_rp256).mpr (by rw [hM]; omega)))) (fun (h259 : rp256 = (0 : Int32)) => ?_)
  have h259i : rp256.toInt = 0 := congrArg Int32.toInt h259
  refine g_iconst Xp256 hx hby at_262 (pc' := 263) rfl (n := (1 : Int32)) (by first | rfl | decide) ?_
  refine g_goto Xp256 hx hby at_263 (pc' := 267) (by decide) (by decide) ?_
  refine g_istore Xp256 hx hby at_267 (pc' := 269) rfl (Ls' := #[.val (.int up), .val (.int uq), .val (.int ur), .val (.int us), .val (.int uf), .val (.int (8192 : Int32)), .val (.int ua), .val (.int hb), .val (.int cm), .val (.int sw), .val (.int ub), .val (.int uc), .val (.int ud), .val (.ref o), .val (.int ia), .val (.int ib), .val (.int ie), .val (.int (1 : Int32))]) rfl ?_
  refine g_iload Xp256 hx hby at_269 (pc' := 271) rfl rfl ?_
  refine g_ifeq Xp256 hx hby at_271 (pt := 299) (pf := 274) (by decide) (by decide) rfl (fun (h271 : (1 : Int32) = (0 : Int32)) => (by exfalso; revert h271; decide)) (fun (h271 : ¬ (1 : Int32) = (0 : Int32)) => ?_)
  refine g_aload Xp256 hx hby at_274 (pc' := 276) rfl rfl rfl ?_
  refine g_iconst Xp256 hx hby at_276 (pc' := 277) rfl (n := (0 : Int32)) (by first | rfl | decide) ?_
  refine g_virtual Xp256 hx hby hZ hown hml rfl (hw _ (List.mem_of_getElem? (i := 30) rfl)) (hw _ (List.mem_of_getElem? (i := 31) rfl)) (hw _ (List.mem_of_getElem? (i := 33) rfl)) (hw _ (List.mem_of_getElem? (i := 32) rfl)) (hw _ (List.mem_of_getElem? (i := 2) rfl)) (hw _ (List.mem_of_getElem? (i := 34) rfl)) (by decide) ep256 (rm6 l Z a0 hw o (0 : Int32) twp144 tsp144 wp144 smp144 Tp144.heap Fwp144 Fsp144 Awp144 Asp144 (by decide) hinp144) pd__I_I_227 E_o (argsL := [(.int (0 : Int32))]) (rest := []) rfl rfl rfl at_277 (pc' := 280) rfl (by decide) (Nat.le_of_ble_eq_true rfl) (by decide) (by decide) ?_
  intro Tp277 vp277 Lp277 Xp277 qp277
  obtain ⟨⟨rp277, rfl, h_rp277⟩, ep277, rfl⟩ := qp277
  rw [List.append_nil] at Xp277
  replace Xp277 : Stand p l e room_1 s m _ below meth c Tp277 _ 3 132 := Xp277
  show Go p e below s (Q0 n0) room_1.cells room_1.slots m Tp277 280 #[.val (.int up), .val (.int uq), .val (.int ur), .val (.int us), .val (.int uf), .val (.int (8192 : Int32)), .val (.int ua), .val (.int hb), .val (.int cm), .val (.int sw), .val (.int ub), .val (.int uc), .val (.int ud), .val (.ref o), .val (.int ia), .val (.int ib), .val (.int ie), .val (.int (1 : Int32))] [(.int rp277)]
  refine g_iconst Xp277 hx hby at_280 (pc' := 281) rfl (n := (0 : Int32)) (by first | rfl | decide) ?_
  refine g_iload Xp277 hx hby at_281 (pc' := 283) rfl rfl ?_
  refine g_iload Xp277 hx hby at_283 (pc' := 285) rfl rfl ?_
  refine g_iload Xp277 hx hby at_285 (pc' := 287) rfl rfl ?_
  refine g_iload Xp277 hx hby at_287 (pc' := 289) rfl rfl ?_
  refine g_static Xp277 hx hby hZ hown hml rfl (hw _ (List.mem_of_getElem? (i := 35) rfl)) (hw _ (List.mem_of_getElem? (i := 36) rfl)) (hw _ (List.mem_of_getElem? (i := 37) rfl)) (hw _ (List.mem_of_getElem? (i := 38) rfl)) (by decide) ep277 (rm7 l Z a0 hw (0 : Int32) ia ua ib ub Tp144.heap h_ua.1 h_ub.1) pd__IZIZI_I_553 (argsL := [(.int (0 : Int32)), (.int ia), (.int ua), (.int ib), (.int ub)]) (rest := [(.int rp277)]) rfl rfl rfl at_289 (pc' := 292) rfl (by decide) (Nat.le_of_ble_eq_true rfl) (by decide) (by decide) ?_
  intro Tp289 vp289 Lp289 Xp289 qp289
  obtain ⟨⟨rp289, rfl, h_rp289⟩, ep289, rfl⟩ := qp289
  rw [List.append_nil] at Xp289
  replace Xp289 : Stand p l e room_1 s m _ below meth c Tp289 _ 3 132 := Xp289
  show Go p e below s (Q0 n0) room_1.cells room_1.slots m Tp289 292 #[.val (.int up), .val (.int uq), .val (.int ur), .val (.int us), .val (.int uf), .val (.int (8192 : Int32)), .val (.int ua), .val (.int hb), .val (.int cm), .val (.int sw), .val (.int ub), .val (.int uc), .val (.int ud), .val (.ref o), .val (.int ia), .val (.int ib), .val (.int ie), .val (.int (1 : Int32))] [(.int rp289), (.int rp277)]
  refine g_icmpne Xp289 hx hby at_292 (pt := 299) (pf := 295) (by decide) (by decide) rfl (fun (h292 : ¬ rp277 = rp289) => (by exfalso; exact h292 (own_eqf wp144 0 _ _ _ _ rp277 rp289 h_ua h_ub hM h_rp277 h_rp289))) (fun (h292 : rp277 = rp289) => ?_)
  have h292i : rp277.toInt = rp289.toInt := congrArg Int32.toInt h292
  refine g_iconst Xp289 hx hby at_295 (pc' := 296) rfl (n := (1 : Int32)) (by first | rfl | decide) ?_
  refine g_goto Xp289 hx hby at_296 (pc' := 300) (by decide) (by decide) ?_
  refine g_istore Xp289 hx hby at_300 (pc' := 302) rfl (Ls' := #[.val (.int up), .val (.int uq), .val (.int ur), .val (.int us), .val (.int uf), .val (.int (8192 : Int32)), .val (.int ua), .val (.int hb), .val (.int cm), .val (.int sw), .val (.int ub), .val (.int uc), .val (.int ud), .val (.ref o), .val (.int ia), .val (.int ib), .val (.int ie), .val (.int (1 : Int32))]) rfl ?_
  refine g_iload Xp289 hx hby at_302 (pc' := 304) rfl rfl ?_
  refine g_ifeq Xp289 hx hby at_304 (pt := 338) (pf := 307) (by decide) (by decide) rfl (fun (h304 : (1 : Int32) = (0 : Int32)) => (by exfalso; revert h304; decide)) (fun (h304 : ¬ (1 : Int32) = (0 : Int32)) => ?_)
  refine g_aload Xp289 hx hby at_307 (pc' := 309) rfl rfl rfl ?_
  refine g_iload Xp289 hx hby at_309 (pc' := 311) rfl rfl ?_
  refine g_iconst Xp289 hx hby at_311 (pc' := 312) rfl (n := (1 : Int32)) (by first | rfl | decide) ?_
  refine g_isub Xp289 hx hby at_312 (pc' := 313) rfl ?_
  show Go p e below s (Q0 n0) room_1.cells room_1.slots m Tp289 313 #[.val (.int up), .val (.int uq), .val (.int ur), .val (.int us), .val (.int uf), .val (.int (8192 : Int32)), .val (.int ua), .val (.int hb), .val (.int cm), .val (.int sw), .val (.int ub), .val (.int uc), .val (.int ud), .val (.ref o), .val (.int ia), .val (.int ib), .val (.int ie), .val (.int (1 : Int32))] [(.int (8191 : Int32)), (.ref o)]
  refine g_virtual Xp289 hx hby hZ hown hml rfl (hw _ (List.mem_of_getElem? (i := 39) rfl)) (hw _ (List.mem_of_getElem? (i := 40) rfl)) (hw _ (List.mem_of_getElem? (i := 42) rfl)) (hw _ (List.mem_of_getElem? (i := 41) rfl)) (hw _ (List.mem_of_getElem? (i := 2) rfl)) (hw _ (List.mem_of_getElem? (i := 43) rfl)) (by decide) ep289 (rm8 l Z a0 hw o (8191 : Int32) twp144 tsp144 wp144 smp144 Tp144.heap Fwp144 Fsp144 Awp144 Asp144 (by decide) hinp144) pd__I_I_227 E_o (argsL := [(.int (8191 : Int32))]) (rest := []) rfl rfl rfl at_313 (pc' := 316) rfl (by decide) (Nat.le_of_ble_eq_true rfl) (by decide) (by decide) ?_
  intro Tp313 vp313 Lp313 Xp313 qp313
  obtain ⟨⟨rp313, rfl, h_rp313⟩, ep313, rfl⟩ := qp313
  rw [List.append_nil] at Xp313
  replace Xp313 : Stand p l e room_1 s m _ below meth c Tp313 _ 3 132 := Xp313
  show Go p e below s (Q0 n0) room_1.cells room_1.slots m Tp313 316 #[.val (.int up), .val (.int uq), .val (.int ur), .val (.int us), .val (.int uf), .val (.int (8192 : Int32)), .val (.int ua), .val (.int hb), .val (.int cm), .val (.int sw), .val (.int ub), .val (.int uc), .val (.int ud), .val (.ref o), .val (.int ia), .val (.int ib), .val (.int ie), .val (.int (1 : Int32))] [(.int rp313)]
  refine g_iload Xp313 hx hby at_316 (pc' := 318) rfl rfl ?_
  refine g_iconst Xp313 hx hby at_318 (pc' := 319) rfl (n := (1 : Int32)) (by first | rfl | decide) ?_
  refine g_isub Xp313 hx hby at_319 (pc' := 320) rfl ?_
  show Go p e below s (Q0 n0) room_1.cells room_1.slots m Tp313 320 #[.val (.int up), .val (.int uq), .val (.int ur), .val (.int us), .val (.int uf), .val (.int (8192 : Int32)), .val (.int ua), .val (.int hb), .val (.int cm), .val (.int sw), .val (.int ub), .val (.int uc), .val (.int ud), .val (.ref o), .val (.int ia), .val (.int ib), .val (.int ie), .val (.int (1 : Int32))] [(.int (8191 : Int32)), (.int rp313)]
  refine g_iload Xp313 hx hby at_320 (pc' := 322) rfl rfl ?_
  refine g_iload Xp313 hx hby at_322 (pc' := 324) rfl rfl ?_
  refine g_iload Xp313 hx hby at_324 (pc' := 326) rfl rfl ?_
  refine g_iload Xp313 hx hby at_326 (pc' := 328) rfl rfl ?_
  refine g_static Xp313 hx hby hZ hown hml rfl (hw _ (List.mem_of_getElem? (i := 44) rfl)) (hw _ (List.mem_of_getElem? (i := 45) rfl)) (hw _ (List.mem_of_getElem? (i := 37) rfl)) (hw _ (List.mem_of_getElem? (i := 46) rfl)) (by decide) ep313 (rm9 l Z a0 hw (8191 : Int32) ia ua ib ub Tp144.heap h_ua.1 h_ub.1) pd__IZIZI_I_553 (argsL := [(.int (8191 : Int32)), (.int ia), (.int ua), (.int ib), (.int ub)]) (rest := [(.int rp313)]) rfl rfl rfl at_328 (pc' := 331) rfl (by decide) (Nat.le_of_ble_eq_true rfl) (by decide) (by decide) ?_
  intro Tp328 vp328 Lp328 Xp328 qp328
  obtain ⟨⟨rp328, rfl, h_rp328⟩, ep328, rfl⟩ := qp328
  rw [List.append_nil] at Xp328
  replace Xp328 : Stand p l e room_1 s m _ below meth c Tp328 _ 3 132 := Xp328
  show Go p e below s (Q0 n0) room_1.cells room_1.slots m Tp328 331 #[.val (.int up), .val (.int uq), .val (.int ur), .val (.int us), .val (.int uf), .val (.int (8192 : Int32)), .val (.int ua), .val (.int hb), .val (.int cm), .val (.int sw), .val (.int ub), .val (.int uc), .val (.int ud), .val (.ref o), .val (.int ia), .val (.int ib), .val (.int ie), .val (.int (1 : Int32))] [(.int rp328), (.int rp313)]
  refine g_icmpne Xp328 hx hby at_331 (pt := 338) (pf := 334) (by decide) (by decide) rfl (fun (h331 : ¬ rp313 = rp328) => (by exfalso; exact h331 (own_eql wp144 8191 _ _ _ _ rp313 rp328 h_ua h_ub hM h_rp313 h_rp328))) (fun (h331 : rp313 = rp328) => ?_)
  have h331i : rp313.toInt = rp328.toInt := congrArg Int32.toInt h331
  refine g_iconst Xp328 hx hby at_334 (pc' := 335) rfl (n := (1 : Int32)) (by first | rfl | decide) ?_
  refine g_goto Xp328 hx hby at_335 (pc' := 339) (by decide) (by decide) ?_
  refine g_istore Xp328 hx hby at_339 (pc' := 341) rfl (Ls' := #[.val (.int up), .val (.int uq), .val (.int ur), .val (.int us), .val (.int uf), .val (.int (8192 : Int32)), .val (.int ua), .val (.int hb), .val (.int cm), .val (.int sw), .val (.int ub), .val (.int uc), .val (.int ud), .val (.ref o), .val (.int ia), .val (.int ib), .val (.int ie), .val (.int (1 : Int32))]) rfl ?_
  refine g_iload Xp328 hx hby at_341 (pc' := 343) rfl rfl ?_
  refine g_ifeq Xp328 hx hby at_343 (pt := 373) (pf := 346) (by decide) (by decide) rfl (fun (h343 : (1 : Int32) = (0 : Int32)) => (by exfalso; revert h343; decide)) (fun (h343 : ¬ (1 : Int32) = (0 : Int32)) => ?_)
  refine g_aload Xp328 hx hby at_346 (pc' := 348) rfl rfl rfl ?_
  refine g_iload Xp328 hx hby at_348 (pc' := 350) rfl rfl ?_
  refine g_virtual Xp328 hx hby hZ hown hml rfl (hw _ (List.mem_of_getElem? (i := 30) rfl)) (hw _ (List.mem_of_getElem? (i := 31) rfl)) (hw _ (List.mem_of_getElem? (i := 33) rfl)) (hw _ (List.mem_of_getElem? (i := 32) rfl)) (hw _ (List.mem_of_getElem? (i := 2) rfl)) (hw _ (List.mem_of_getElem? (i := 34) rfl)) (by decide) ep328 (rm6 l Z a0 hw o ud twp144 tsp144 wp144 smp144 Tp144.heap Fwp144 Fsp144 Awp144 Asp144 h_ud hinp144) pd__I_I_227 E_o (argsL := [(.int ud)]) (rest := []) rfl rfl rfl at_350 (pc' := 353) rfl (by decide) (Nat.le_of_ble_eq_true rfl) (by decide) (by decide) ?_
  intro Tp350 vp350 Lp350 Xp350 qp350
  obtain ⟨⟨rp350, rfl, h_rp350⟩, ep350, rfl⟩ := qp350
  rw [List.append_nil] at Xp350
  replace Xp350 : Stand p l e room_1 s m _ below meth c Tp350 _ 3 132 := Xp350
  show Go p e below s (Q0 n0) room_1.cells room_1.slots m Tp350 353 #[.val (.int up), .val (.int uq), .val (.int ur), .val (.int us), .val (.int uf), .val (.int (8192 : Int32)), .val (.int ua), .val (.int hb), .val (.int cm), .val (.int sw), .val (.int ub), .val (.int uc), .val (.int ud), .val (.ref o), .val (.int ia), .val (.int ib), .val (.int ie), .val (.int (1 : Int32))] [(.int rp350)]
  refine g_iload Xp350 hx hby at_353 (pc' := 355) rfl rfl ?_
  refine g_iload Xp350 hx hby at_355 (pc' := 357) rfl rfl ?_
  refine g_iload Xp350 hx hby at_357 (pc' := 359) rfl rfl ?_
  refine g_iload Xp350 hx hby at_359 (pc' := 361) rfl rfl ?_
  refine g_iload Xp350 hx hby at_361 (pc' := 363) rfl rfl ?_
  refine g_static Xp350 hx hby hZ hown hml rfl (hw _ (List.mem_of_getElem? (i := 35) rfl)) (hw _ (List.mem_of_getElem? (i := 36) rfl)) (hw _ (List.mem_of_getElem? (i := 37) rfl)) (hw _ (List.mem_of_getElem? (i := 38) rfl)) (by decide) ep350 (rm7 l Z a0 hw ud ia ua ib ub Tp144.heap h_ua.1 h_ub.1) pd__IZIZI_I_553 (argsL := [(.int ud), (.int ia), (.int ua), (.int ib), (.int ub)]) (rest := [(.int rp350)]) rfl rfl rfl at_363 (pc' := 366) rfl (by decide) (Nat.le_of_ble_eq_true rfl) (by decide) (by decide) ?_
  intro Tp363 vp363 Lp363 Xp363 qp363
  obtain ⟨⟨rp363, rfl, h_rp363⟩, ep363, rfl⟩ := qp363
  rw [List.append_nil] at Xp363
  replace Xp363 : Stand p l e room_1 s m _ below meth c Tp363 _ 3 132 := Xp363
  show Go p e below s (Q0 n0) room_1.cells room_1.slots m Tp363 366 #[.val (.int up), .val (.int uq), .val (.int ur), .val (.int us), .val (.int uf), .val (.int (8192 : Int32)), .val (.int ua), .val (.int hb), .val (.int cm), .val (.int sw), .val (.int ub), .val (.int uc), .val (.int ud), .val (.ref o), .val (.int ia), .val (.int ib), .val (.int ie), .val (.int (1 : Int32))] [(.int rp363), (.int rp350)]
  refine g_icmpne Xp363 hx hby at_366 (pt := 373) (pf := 369) (by decide) (by decide) rfl (fun (h366 : ¬ rp350 = rp363) => (by exfalso; exact h366 (own_eqf wp144 ud.toInt _ _ _ _ rp350 rp363 h_ua h_ub hM h_rp350 h_rp363))) (fun (h366 : rp350 = rp363) => ?_)
  have h366i : rp350.toInt = rp363.toInt := congrArg Int32.toInt h366
  refine g_iconst Xp363 hx hby at_369 (pc' := 370) rfl (n := (1 : Int32)) (by first | rfl | decide) ?_
  refine g_goto Xp363 hx hby at_370 (pc' := 374) (by decide) (by decide) ?_
  refine g_istore Xp363 hx hby at_374 (pc' := 376) rfl (Ls' := #[.val (.int up), .val (.int uq), .val (.int ur), .val (.int us), .val (.int uf), .val (.int (8192 : Int32)), .val (.int ua), .val (.int hb), .val (.int cm), .val (.int sw), .val (.int ub), .val (.int uc), .val (.int ud), .val (.ref o), .val (.int ia), .val (.int ib), .val (.int ie), .val (.int (1 : Int32))]) rfl ?_
  refine g_iload Xp363 hx hby at_376 (pc' := 378) rfl rfl ?_
  refine g_ifeq Xp363 hx hby at_378 (pt := 408) (pf := 381) (by decide) (by decide) rfl (fun (h378 : (1 : Int32) = (0 : Int32)) => (by exfalso; revert h378; decide)) (fun (h378 : ¬ (1 : Int32) = (0 : Int32)) => ?_)
  refine g_aload Xp363 hx hby at_381 (pc' := 383) rfl rfl rfl ?_
  refine g_iload Xp363 hx hby at_383 (pc' := 385) rfl rfl ?_
  refine g_virtual Xp363 hx hby hZ hown hml rfl (hw _ (List.mem_of_getElem? (i := 39) rfl)) (hw _ (List.mem_of_getElem? (i := 40) rfl)) (hw _ (List.mem_of_getElem? (i := 42) rfl)) (hw _ (List.mem_of_getElem? (i := 41) rfl)) (hw _ (List.mem_of_getElem? (i := 2) rfl)) (hw _ (List.mem_of_getElem? (i := 43) rfl)) (by decide) ep363 (rm8 l Z a0 hw o ud twp144 tsp144 wp144 smp144 Tp144.heap Fwp144 Fsp144 Awp144 Asp144 h_ud hinp144) pd__I_I_227 E_o (argsL := [(.int ud)]) (rest := []) rfl rfl rfl at_385 (pc' := 388) rfl (by decide) (Nat.le_of_ble_eq_true rfl) (by decide) (by decide) ?_
  intro Tp385 vp385 Lp385 Xp385 qp385
  obtain ⟨⟨rp385, rfl, h_rp385⟩, ep385, rfl⟩ := qp385
  rw [List.append_nil] at Xp385
  replace Xp385 : Stand p l e room_1 s m _ below meth c Tp385 _ 3 132 := Xp385
  show Go p e below s (Q0 n0) room_1.cells room_1.slots m Tp385 388 #[.val (.int up), .val (.int uq), .val (.int ur), .val (.int us), .val (.int uf), .val (.int (8192 : Int32)), .val (.int ua), .val (.int hb), .val (.int cm), .val (.int sw), .val (.int ub), .val (.int uc), .val (.int ud), .val (.ref o), .val (.int ia), .val (.int ib), .val (.int ie), .val (.int (1 : Int32))] [(.int rp385)]
  refine g_iload Xp385 hx hby at_388 (pc' := 390) rfl rfl ?_
  refine g_iload Xp385 hx hby at_390 (pc' := 392) rfl rfl ?_
  refine g_iload Xp385 hx hby at_392 (pc' := 394) rfl rfl ?_
  refine g_iload Xp385 hx hby at_394 (pc' := 396) rfl rfl ?_
  refine g_iload Xp385 hx hby at_396 (pc' := 398) rfl rfl ?_
  refine g_static Xp385 hx hby hZ hown hml rfl (hw _ (List.mem_of_getElem? (i := 44) rfl)) (hw _ (List.mem_of_getElem? (i := 45) rfl)) (hw _ (List.mem_of_getElem? (i := 37) rfl)) (hw _ (List.mem_of_getElem? (i := 46) rfl)) (by decide) ep385 (rm9 l Z a0 hw ud ia ua ib ub Tp144.heap h_ua.1 h_ub.1) pd__IZIZI_I_553 (argsL := [(.int ud), (.int ia), (.int ua), (.int ib), (.int ub)]) (rest := [(.int rp385)]) rfl rfl rfl at_398 (pc' := 401) rfl (by decide) (Nat.le_of_ble_eq_true rfl) (by decide) (by decide) ?_
  intro Tp398 vp398 Lp398 Xp398 qp398
  obtain ⟨⟨rp398, rfl, h_rp398⟩, ep398, rfl⟩ := qp398
  rw [List.append_nil] at Xp398
  replace Xp398 : Stand p l e room_1 s m _ below meth c Tp398 _ 3 132 := Xp398
  show Go p e below s (Q0 n0) room_1.cells room_1.slots m Tp398 401 #[.val (.int up), .val (.int uq), .val (.int ur), .val (.int us), .val (.int uf), .val (.int (8192 : Int32)), .val (.int ua), .val (.int hb), .val (.int cm), .val (.int sw), .val (.int ub), .val (.int uc), .val (.int ud), .val (.ref o), .val (.int ia), .val (.int ib), .val (.int ie), .val (.int (1 : Int32))] [(.int rp398), (.int rp385)]
  refine g_icmpne Xp398 hx hby at_401 (pt := 408) (pf := 404) (by decide) (by decide) rfl (fun (h401 : ¬ rp385 = rp398) => (by exfalso; exact h401 (own_eql wp144 ud.toInt _ _ _ _ rp385 rp398 h_ua h_ub hM h_rp385 h_rp398))) (fun (h401 : rp385 = rp398) => ?_)
  have h401i : rp385.toInt = rp398.toInt := congrArg Int32.toInt h401
  refine g_iconst Xp398 hx hby at_404 (pc' := 405) rfl (n := (1 : Int32)) (by first | rfl | decide) ?_
  refine g_goto Xp398 hx hby at_405 (pc' := 409) (by decide) (by decide) ?_
  refine g_istore Xp398 hx hby at_409 (pc' := 411) rfl (Ls' := #[.val (.int up), .val (.int uq), .val (.int ur), .val (.int us), .val (.int uf), .val (.int (8192 : Int32)), .val (.int ua), .val (.int hb), .val (.int cm), .val (.int sw), .val (.int ub), .val (.int uc), .val (.int ud), .val (.ref o), .val (.int ia), .val (.int ib), .val (.int ie), .val (.int (1 : Int32))]) rfl ?_
  refine g_iload Xp398 hx hby at_411 (pc' := 413) rfl rfl ?_
  exact g_retZ Xp398 hx hby hlk (Or.inr rfl) hret at_413 (by decide) (by decide) (⟨rfl, Np144⟩)
set_option maxRecDepth 65536 in
set_option maxHeartbeats 40000000 in
theorem comes_1 {Post : Tables → Env → Array Value → State → Outcome → State → Prop} (hpost : ∀ tb e args s v u, (limb_1_1.after args s (.returned v) u = true ∧ limb_1_2.after args s (.returned v) u = true ∧ True) → FrameEnd s (.returned v) u (Jvm.fieldLocs frame_1_writes args s ++ Jvm.arrayLocs frame_1_arrays args s ++ Jvm.staticLocs frame_1_statics s) 16 384 → Post tb e args s (.returned v) u) :
    ArmFor flags0 classFile x code maxLocals ret World_1 tables_1 room_1 Calls_1 rest_1 Pre_1 Post := by
  intro l hfl _ _ p e ha hc hk s m args below hf hA hF happ hP
  obtain ⟨hcalls, hrest, hpre⟩ := hP
  obtain ⟨-, -, -, hnamed, -, -, -, hat⟩ := (Spec.applies_iff hf).mp happ
  obtain ⟨hg, hn⟩ := and_e (Cond.before_iff.mp (show (Jvm.Cond.and given_1 narrow_1).before args s = true from hpre))
  obtain ⟨g1, g2⟩ := and_e hg
  obtain ⟨g3, g4⟩ := and_e g2
  obtain ⟨g5, g6⟩ := and_e g4
  obtain ⟨g7, g8⟩ := and_e g6
  obtain ⟨g9, g10⟩ := and_e g8
  obtain ⟨w0, w1, w2, w3, w4, rfl⟩ : ∃ w0 w1 w2 w3 w4 : Value, args = #[w0, w1, w2, w3, w4] := by
    have hs : args.size = 5 := by simpa [Cond.value, given_1] using g1
    obtain ⟨L⟩ := args
    match L, hs with
    | [w0, w1, w2, w3, w4], _ => exact ⟨w0, w1, w2, w3, w4, rfl⟩
  have hw := fun d (hd : d ∈ tables_1) => atoms_spec (ws := Jvm.Cond.code x code maxLocals ret :: tables_1) hat d (List.mem_cons_of_mem _ hd)
  have hfit : Fit s := fun {y c} hc i hi => by
    obtain ⟨ha, rfl⟩ := Array.getElem?_eq_some_iff.mp hc
    have q := List.all_eq_true.mp ((Array.all_eq_true_iff_forall_mem.mp hF) _ (Array.getElem_mem ha)) i (List.mem_range.mpr hi)
    simpa [Array.getElem?_eq_getElem hi] using q
  obtain ⟨i0, ei0⟩ := is_v g3
  obtain rfl : w0 = (.int i0) := Option.some.inj ei0
  obtain ⟨i1, ei1⟩ := is_v g5
  obtain rfl : w1 = (.int i1) := Option.some.inj ei1
  obtain ⟨i2, ei2⟩ := is_v g7
  obtain rfl : w2 = (.int i2) := Option.some.inj ei2
  obtain ⟨i3, ei3⟩ := is_v g9
  obtain rfl : w3 = (.int i3) := Option.some.inj ei3
  obtain ⟨i4, ei4⟩ := is_v g10
  obtain rfl : w4 = (.int i4) := Option.some.inj ei4
  obtain ⟨n, o, h1, h2, h3, _, L, rfl, ⟨rfl, N⟩, hq⟩ := law0 l s _ hw tables_1 i0 i1 i2 i3 i4 s.heap.size s.heap (Nat.le_refl _) p e ha hc hk s m _ below hf ((Spec.applies_iff_loose hf).mp happ).1 ⟨rfl, State.Warmed39.refl s, rfl⟩ trivial
  refine ⟨n, _, h1, h2, h3, hpost _ _ _ _ _ _ ⟨Cond.after_iff.mpr rfl, Cond.after_iff.mpr (eq_i res_at (Term.int_eval (1)) rfl), trivial⟩ ⟨hq.1, hq.2.1, (hq.2.2.sift fun y hy => Or.inr (N y hy)).mono (by decide) (by decide)⟩⟩
theorem main_1_1 : Claimed_1_1 := comes_1 fun _ _ _ _ _ _ h hF => ⟨h.1, hF⟩
theorem main_1_2 : Claimed_1_2 := comes_1 fun _ _ _ _ _ _ h hF => ⟨h.2.1, hF⟩
end Jvm.Pilot.@@N@@
namespace Jvm.Pilot.@@N@@
open Jvm Jvm.ClassFile Sem Op Lib Jvm.Free Jvm.Stand Jvm.Pilot.@@N@@.Jvm.D
/-! MADE BY PROGRAM (witnessworld.py) out of the Statement's table words and the real class files: 17 classes; the members and pool entries that the words name. The judged class is class 1, her method 3. -/
namespace start1
open Jvm.ClassFile
def u (s : String) : CpInfo := .utf8 (stringToUtf16 s)
/-- a pool by its gaps: so many unusable entries, then the entry; so many at the end -/
def gap : Nat → List CpInfo → List CpInfo
  | 0, r => r
  | n + 1, r => .unusable :: gap n r
def poolList (es : List (Nat × CpInfo)) (last : Nat) : List CpInfo := es.foldr (fun e r => gap e.1 (e.2 :: r)) (gap last [])
def pool (es : List (Nat × CpInfo)) (last : Nat) : Array CpInfo := ⟨poolList es last⟩
def fileOf (pool : Array CpInfo) (this : Nat) (attrs : Array Attribute := #[]) (ms : Array MethodInfo := #[]) (fl : Nat := 33) (sup : Nat := 0) (ifs : Array Nat := #[]) (fds : Array FieldInfo := #[]) : ClassFile where
  minorVersion := 0
  majorVersion := 65
  constantPool := pool
  accessFlags := fl
  thisClass := this
  superClass := sup
  interfaces := ifs
  fields := fds
  methods := ms
  attributes := attrs
def plain (name : String) (sup : Option ClassId) : Class where
  name := name
  kind := .ordinary
  loader := none
  accessFlags := 33
  super := sup
  interfaces := #[]
  cf := none
  fields := #[]
  methods := #[]
  instanceTypes := #[]
  staticTypes := #[]
  resolved := #[]
  callSites := []
  init := .initialized
  statics := none
  mirror := none

def pool0 : Array CpInfo := pool [(5, u "<init>"), (0, u "()V"), (1, .class_ 10), (1, u "java/lang/Object")] 113

def k0c0 : Code := { maxStack := 0, maxLocals := 1, code := object_method_1_code, exceptionTable := #[], attributes := #[] }
def k0m0 : Method := { name := "<init>", desc := "()V", sig := { parameters := [], returnType := none }, accessFlags := 1, code := some k0c0 }
/-- java/lang/Object -/
def k0 : Class := { plain "java/lang/Object" none with
  accessFlags := 33
  interfaces := #[]
  cf := some (fileOf pool0 8 #[] #[{ accessFlags := 1, nameIndex := 5, descriptorIndex := 6, attributes := #[] }] 33 0 #[] #[])
  fields := #[]
  methods := #[k0m0]
  instanceTypes := #[]
  staticTypes := #[]
  resolved := Array.replicate 124 none
  statics := none }

def pool1 : Array CpInfo := pool [(2, .class_ 4), (1, u "java/lang/Object"), (0, u "<init>"), (0, u "()V"), (0, .class_ 8), (0, u "com/example/isolens/isolens/checker/PlaceSet"), (0, .methodref 7 10), (0, .nameAndType 5 11), (0, u "(I)V"), (0, .methodref 7 13), (0, .nameAndType 14 11), (0, u "add"), (0, .methodref 7 16), (0, .nameAndType 17 11), (0, u "remove"), (0, .methodref 7 19), (0, .nameAndType 20 21), (0, u "contains"), (0, u "(I)Z"), (0, .methodref 7 23), (0, .nameAndType 24 25), (0, u "firstFrom"), (0, u "(I)I"), (0, .methodref 27 28), (0, .class_ 29), (0, .nameAndType 30 31), (0, u "com/example/isolens/isolens/checker/PlaceSetRemovePinLaw"), (0, u "firstRef"), (0, u "(IZIZI)I"), (0, .methodref 7 33), (0, .nameAndType 34 25), (0, u "lastUpTo"), (0, .methodref 27 36), (0, .nameAndType 37 31), (0, u "lastRef"), (3, u "law"), (0, u "(IIIII)Z")] 2

def k1m0 : Method := { name := "<init>", desc := "()V", sig := { parameters := [], returnType := none }, accessFlags := 1, code := none }
def k1c1 : Code := { maxStack := 2, maxLocals := 6, code := method_2_code, exceptionTable := #[], attributes := #[] }
def k1m1 : Method := { name := "firstRef", desc := "(IZIZI)I", sig := { parameters := [.int, .boolean, .int, .boolean, .int], returnType := some .int }, accessFlags := 10, code := some k1c1 }
def k1c2 : Code := { maxStack := 2, maxLocals := 6, code := method_3_code, exceptionTable := #[], attributes := #[] }
def k1m2 : Method := { name := "lastRef", desc := "(IZIZI)I", sig := { parameters := [.int, .boolean, .int, .boolean, .int], returnType := some .int }, accessFlags := 10, code := some k1c2 }
def k1c3 : Code := { maxStack := 6, maxLocals := 18, code := code, exceptionTable := #[], attributes := #[] }
def k1m3 : Method := { name := "law", desc := "(IIIII)Z", sig := { parameters := [.int, .int, .int, .int, .int], returnType := some .boolean }, accessFlags := 9, code := some k1c3 }
/-- com/example/isolens/isolens/checker/PlaceSetRemovePinLaw -/
def k1 : Class := { plain "com/example/isolens/isolens/checker/PlaceSetRemovePinLaw" (some 0) with
  accessFlags := 49
  interfaces := #[]
  cf := some (fileOf pool1 27 #[] #[{ accessFlags := 1, nameIndex := 5, descriptorIndex := 6, attributes := #[] }, { accessFlags := 10, nameIndex := 30, descriptorIndex := 31, attributes := #[] }, { accessFlags := 10, nameIndex := 37, descriptorIndex := 31, attributes := #[] }, { accessFlags := 9, nameIndex := 41, descriptorIndex := 42, attributes := #[] }] 49 2 #[] #[])
  fields := #[]
  methods := #[k1m0, k1m1, k1m2, k1m3]
  instanceTypes := #[]
  staticTypes := #[]
  resolved := Array.replicate 45 none
  statics := none }

def pool2 : Array CpInfo := pool [(1, .methodref 2 3), (0, .class_ 4), (0, .nameAndType 5 6), (0, u "java/lang/Object"), (0, u "<init>"), (0, u "()V"), (0, .fieldref 8 9), (0, .class_ 10), (0, .nameAndType 11 12), (0, u "com/example/isolens/isolens/checker/PlaceSet"), (0, u "words"), (0, u "[J"), (0, .fieldref 8 14), (0, .nameAndType 15 12), (0, u "summary"), (0, .long 18446744073709551615), (1, .methodref 19 20), (0, .class_ 21), (0, .nameAndType 22 23), (0, u "java/lang/Long"), (0, u "numberOfTrailingZeros"), (0, u "(J)I"), (0, .methodref 19 25), (0, .nameAndType 26 23), (0, u "numberOfLeadingZeros"), (0, u "(I)V"), (2, u "contains"), (0, u "(I)Z"), (1, u "add"), (0, u "remove"), (0, u "firstFrom"), (0, u "(I)I"), (0, u "lastUpTo")] 2

def k2c0 : Code := { maxStack := 3, maxLocals := 2, code := prog_39_method_1_code, exceptionTable := #[], attributes := #[] }
def k2m0 : Method := { name := "<init>", desc := "(I)V", sig := { parameters := [.int], returnType := none }, accessFlags := 0, code := some k2c0 }
def k2c1 : Code := { maxStack := 5, maxLocals := 2, code := prog_39_method_2_code, exceptionTable := #[], attributes := #[] }
def k2m1 : Method := { name := "contains", desc := "(I)Z", sig := { parameters := [.int], returnType := some .boolean }, accessFlags := 0, code := some k2c1 }
def k2c2 : Code := { maxStack := 7, maxLocals := 3, code := prog_39_method_3_code, exceptionTable := #[], attributes := #[] }
def k2m2 : Method := { name := "add", desc := "(I)V", sig := { parameters := [.int], returnType := none }, accessFlags := 0, code := some k2c2 }
def k2c3 : Code := { maxStack := 8, maxLocals := 3, code := prog_39_method_4_code, exceptionTable := #[], attributes := #[] }
def k2m3 : Method := { name := "remove", desc := "(I)V", sig := { parameters := [.int], returnType := none }, accessFlags := 0, code := some k2c3 }
def k2c4 : Code := { maxStack := 5, maxLocals := 8, code := prog_39_method_5_code, exceptionTable := #[], attributes := #[] }
def k2m4 : Method := { name := "firstFrom", desc := "(I)I", sig := { parameters := [.int], returnType := some .int }, accessFlags := 0, code := some k2c4 }
def k2c5 : Code := { maxStack := 7, maxLocals := 8, code := prog_39_method_6_code, exceptionTable := #[], attributes := #[] }
def k2m5 : Method := { name := "lastUpTo", desc := "(I)I", sig := { parameters := [.int], returnType := some .int }, accessFlags := 0, code := some k2c5 }
/-- com/example/isolens/isolens/checker/PlaceSet -/
def k2 : Class := { plain "com/example/isolens/isolens/checker/PlaceSet" (some 0) with
  accessFlags := 48
  interfaces := #[]
  cf := some (fileOf pool2 8 #[] #[{ accessFlags := 0, nameIndex := 5, descriptorIndex := 27, attributes := #[] }, { accessFlags := 0, nameIndex := 30, descriptorIndex := 31, attributes := #[] }, { accessFlags := 0, nameIndex := 33, descriptorIndex := 27, attributes := #[] }, { accessFlags := 0, nameIndex := 34, descriptorIndex := 27, attributes := #[] }, { accessFlags := 0, nameIndex := 35, descriptorIndex := 36, attributes := #[] }, { accessFlags := 0, nameIndex := 37, descriptorIndex := 36, attributes := #[] }] 48 2 #[] #[{ accessFlags := 18, nameIndex := 11, descriptorIndex := 12, attributes := #[] }, { accessFlags := 18, nameIndex := 15, descriptorIndex := 12, attributes := #[] }])
  fields := #[{ name := "words", type := (.array .long), accessFlags := 18, slot := 0, constantValue := 0 }, { name := "summary", type := (.array .long), accessFlags := 18, slot := 1, constantValue := 0 }]
  methods := #[k2m0, k2m1, k2m2, k2m3, k2m4, k2m5]
  instanceTypes := #[(.array .long), (.array .long)]
  staticTypes := #[]
  resolved := Array.replicate 40 none
  statics := none }

def pool3 : Array CpInfo := pool [(1, .class_ 2), (0, u "java/io/Serializable"), (0, .class_ 4), (0, u "java/lang/Object")] 2

/-- java/io/Serializable -/
def k3 : Class := { plain "java/io/Serializable" (some 0) with
  accessFlags := 1537
  interfaces := #[]
  cf := some (fileOf pool3 1 #[] #[] 1537 3 #[] #[])
  fields := #[]
  methods := #[]
  instanceTypes := #[]
  staticTypes := #[]
  resolved := Array.replicate 7 none
  statics := none }

def pool4 : Array CpInfo := pool [(2, .class_ 4), (1, u "java/lang/Object"), (0, u "<init>"), (0, u "()V"), (1, .class_ 10), (1, u "java/lang/Number"), (2, .class_ 14), (0, u "java/io/Serializable"), (0, u "serialVersionUID"), (0, u "J")] 20

def k4m0 : Method := { name := "<init>", desc := "()V", sig := { parameters := [], returnType := none }, accessFlags := 1, code := none }
/-- java/lang/Number -/
def k4 : Class := { plain "java/lang/Number" (some 0) with
  accessFlags := 1057
  interfaces := #[3]
  cf := some (fileOf pool4 8 #[] #[{ accessFlags := 1, nameIndex := 5, descriptorIndex := 6, attributes := #[] }] 1057 2 #[13] #[{ accessFlags := 26, nameIndex := 15, descriptorIndex := 16, attributes := #[] }])
  fields := #[{ name := "serialVersionUID", type := .long, accessFlags := 26, slot := 0, constantValue := 0 }]
  methods := #[k4m0]
  instanceTypes := #[]
  staticTypes := #[.long]
  resolved := Array.replicate 37 none
  statics := none }

def pool5 : Array CpInfo := pool [(1, .class_ 2), (0, u "java/lang/Comparable"), (0, .class_ 4), (0, u "java/lang/Object")] 7

/-- java/lang/Comparable -/
def k5 : Class := { plain "java/lang/Comparable" (some 0) with
  accessFlags := 1537
  interfaces := #[]
  cf := some (fileOf pool5 1 #[] #[] 1537 3 #[] #[])
  fields := #[]
  methods := #[]
  instanceTypes := #[]
  staticTypes := #[]
  resolved := Array.replicate 12 none
  statics := none }

def pool6 : Array CpInfo := pool [(1, .class_ 2), (0, u "java/lang/constant/Constable"), (0, .class_ 4), (0, u "java/lang/Object")] 6

/-- java/lang/constant/Constable -/
def k6 : Class := { plain "java/lang/constant/Constable" (some 0) with
  accessFlags := 1537
  interfaces := #[]
  cf := some (fileOf pool6 1 #[] #[] 1537 3 #[] #[])
  fields := #[]
  methods := #[]
  instanceTypes := #[]
  staticTypes := #[]
  resolved := Array.replicate 11 none
  statics := none }

def pool7 : Array CpInfo := pool [(1, .class_ 2), (0, u "java/lang/constant/ConstantDesc"), (0, .class_ 4), (0, u "java/lang/Object")] 32

/-- java/lang/constant/ConstantDesc -/
def k7 : Class := { plain "java/lang/constant/ConstantDesc" (some 0) with
  accessFlags := 1537
  interfaces := #[]
  cf := some (fileOf pool7 1 #[] #[] 1537 3 #[] #[])
  fields := #[]
  methods := #[]
  instanceTypes := #[]
  staticTypes := #[]
  resolved := Array.replicate 37 none
  statics := none }

def pool8 : Array CpInfo := pool [(1, .class_ 2), (0, u "java/lang/Long"), (15, .class_ 20), (1, u "java/lang/Integer"), (79, u "numberOfLeadingZeros"), (0, u "(J)I"), (133, .class_ 237), (1, u "java/lang/Long$LongCache"), (33, .class_ 272), (0, u "java/lang/Number"), (2, u "value"), (0, u "J"), (31, .methodref 18 309), (0, .nameAndType 100 310), (0, u "(I)I"), (0, .methodref 18 312), (0, .nameAndType 313 310), (0, u "numberOfTrailingZeros"), (47, u "TYPE"), (0, u "Ljava/lang/Class;"), (0, .class_ 364), (0, u "java/lang/Comparable"), (0, .class_ 366), (0, u "java/lang/constant/Constable"), (0, .class_ 368), (0, u "java/lang/constant/ConstantDesc"), (0, u "MIN_VALUE"), (1, u "MAX_VALUE"), (4, u "SIZE"), (0, u "I"), (1, u "BYTES"), (1, u "serialVersionUID")] 142

def k8c0 : Code := { maxStack := 3, maxLocals := 3, code := jdk_35_method_48_code, exceptionTable := #[], attributes := #[] }
def k8m0 : Method := { name := "numberOfLeadingZeros", desc := "(J)I", sig := { parameters := [.long], returnType := some .int }, accessFlags := 9, code := some k8c0 }
def k8c1 : Code := { maxStack := 4, maxLocals := 3, code := jdk_35_method_49_code, exceptionTable := #[], attributes := #[] }
def k8m1 : Method := { name := "numberOfTrailingZeros", desc := "(J)I", sig := { parameters := [.long], returnType := some .int }, accessFlags := 9, code := some k8c1 }
/-- java/lang/Long -/
def k8 : Class := { plain "java/lang/Long" (some 4) with
  accessFlags := 49
  interfaces := #[5, 6, 7]
  cf := some (fileOf pool8 1 #[.nestMembers #[235]] #[{ accessFlags := 9, nameIndex := 100, descriptorIndex := 101, attributes := #[] }, { accessFlags := 9, nameIndex := 313, descriptorIndex := 101, attributes := #[] }] 49 271 #[363, 365, 367] #[{ accessFlags := 25, nameIndex := 369, descriptorIndex := 276, attributes := #[] }, { accessFlags := 25, nameIndex := 371, descriptorIndex := 276, attributes := #[] }, { accessFlags := 25, nameIndex := 361, descriptorIndex := 362, attributes := #[] }, { accessFlags := 18, nameIndex := 275, descriptorIndex := 276, attributes := #[] }, { accessFlags := 25, nameIndex := 376, descriptorIndex := 377, attributes := #[] }, { accessFlags := 25, nameIndex := 379, descriptorIndex := 377, attributes := #[] }, { accessFlags := 26, nameIndex := 381, descriptorIndex := 276, attributes := #[] }])
  fields := #[{ name := "MIN_VALUE", type := .long, accessFlags := 25, slot := 0, constantValue := 0 }, { name := "MAX_VALUE", type := .long, accessFlags := 25, slot := 1, constantValue := 0 }, { name := "TYPE", type := (.object "java/lang/Class"), accessFlags := 25, slot := 2, constantValue := 0 }, { name := "value", type := .long, accessFlags := 18, slot := 0, constantValue := 0 }, { name := "SIZE", type := .int, accessFlags := 25, slot := 3, constantValue := 0 }, { name := "BYTES", type := .int, accessFlags := 25, slot := 4, constantValue := 0 }, { name := "serialVersionUID", type := .long, accessFlags := 26, slot := 5, constantValue := 0 }]
  methods := #[k8m0, k8m1]
  instanceTypes := #[.long]
  staticTypes := #[.long, .long, (.object "java/lang/Class"), .int, .int, .long]
  resolved := Array.replicate 524 none
  statics := none }

def pool9 : Array CpInfo := pool [(1, .class_ 2), (0, u "java/lang/Integer"), (16, u "digits"), (0, u "[C"), (32, u "numberOfLeadingZeros"), (0, u "(I)I"), (30, u "DigitOnes"), (0, u "[B"), (2, u "DigitTens"), (99, .class_ 190), (0, u "java/lang/Integer$IntegerCache"), (3, u "I"), (8, .class_ 204), (0, u "java/lang/Number"), (2, u "value"), (56, .integer 65536), (37, u "TYPE"), (0, u "Ljava/lang/Class;"), (0, .class_ 305), (0, u "java/lang/Comparable"), (0, .class_ 307), (0, u "java/lang/constant/Constable"), (0, .class_ 309), (0, u "java/lang/constant/ConstantDesc"), (0, u "MIN_VALUE"), (1, u "MAX_VALUE"), (3, u "SIZE"), (1, u "BYTES"), (1, u "serialVersionUID"), (0, u "J"), (84, u "numberOfTrailingZeros")] 46

def k9c0 : Code := { maxStack := 3, maxLocals := 2, code := jdk_33_method_47_code, exceptionTable := #[], attributes := #[] }
def k9m0 : Method := { name := "numberOfLeadingZeros", desc := "(I)I", sig := { parameters := [.int], returnType := some .int }, accessFlags := 9, code := some k9c0 }
def k9c1 : Code := { maxStack := 3, maxLocals := 2, code := jdk_33_method_48_code, exceptionTable := #[], attributes := #[] }
def k9m1 : Method := { name := "numberOfTrailingZeros", desc := "(I)I", sig := { parameters := [.int], returnType := some .int }, accessFlags := 9, code := some k9c1 }
/-- java/lang/Integer -/
def k9 : Class := { plain "java/lang/Integer" (some 4) with
  accessFlags := 49
  interfaces := #[5, 6, 7]
  cf := some (fileOf pool9 1 #[.nestMembers #[189]] #[{ accessFlags := 9, nameIndex := 53, descriptorIndex := 54, attributes := #[] }, { accessFlags := 9, nameIndex := 406, descriptorIndex := 54, attributes := #[] }] 49 203 #[304, 306, 308] #[{ accessFlags := 25, nameIndex := 310, descriptorIndex := 194, attributes := #[] }, { accessFlags := 25, nameIndex := 312, descriptorIndex := 194, attributes := #[] }, { accessFlags := 25, nameIndex := 302, descriptorIndex := 303, attributes := #[] }, { accessFlags := 24, nameIndex := 19, descriptorIndex := 20, attributes := #[] }, { accessFlags := 24, nameIndex := 89, descriptorIndex := 86, attributes := #[] }, { accessFlags := 24, nameIndex := 85, descriptorIndex := 86, attributes := #[] }, { accessFlags := 18, nameIndex := 207, descriptorIndex := 194, attributes := #[] }, { accessFlags := 25, nameIndex := 316, descriptorIndex := 194, attributes := #[] }, { accessFlags := 25, nameIndex := 318, descriptorIndex := 194, attributes := #[] }, { accessFlags := 26, nameIndex := 320, descriptorIndex := 321, attributes := #[] }])
  fields := #[{ name := "MIN_VALUE", type := .int, accessFlags := 25, slot := 0, constantValue := 0 }, { name := "MAX_VALUE", type := .int, accessFlags := 25, slot := 1, constantValue := 0 }, { name := "TYPE", type := (.object "java/lang/Class"), accessFlags := 25, slot := 2, constantValue := 0 }, { name := "digits", type := (.array .char), accessFlags := 24, slot := 3, constantValue := 0 }, { name := "DigitTens", type := (.array .byte), accessFlags := 24, slot := 4, constantValue := 0 }, { name := "DigitOnes", type := (.array .byte), accessFlags := 24, slot := 5, constantValue := 0 }, { name := "value", type := .int, accessFlags := 18, slot := 0, constantValue := 0 }, { name := "SIZE", type := .int, accessFlags := 25, slot := 6, constantValue := 0 }, { name := "BYTES", type := .int, accessFlags := 25, slot := 7, constantValue := 0 }, { name := "serialVersionUID", type := .long, accessFlags := 26, slot := 8, constantValue := 0 }]
  methods := #[k9m0, k9m1]
  instanceTypes := #[.int]
  staticTypes := #[.int, .int, (.object "java/lang/Class"), (.array .char), (.array .byte), (.array .byte), .int, .int, .long]
  resolved := Array.replicate 453 none
  statics := none }

def pool10 : Array CpInfo := pool [(1, u "java/lang/Cloneable"), (0, .class_ 1), (0, u "java/lang/Object"), (0, .class_ 3)] 3

/-- java/lang/Cloneable -/
def k10 : Class := { plain "java/lang/Cloneable" (some 0) with
  accessFlags := 1537
  interfaces := #[]
  cf := some (fileOf pool10 2 #[] #[] 1537 4 #[] #[])
  fields := #[]
  methods := #[]
  instanceTypes := #[]
  staticTypes := #[]
  resolved := Array.replicate 8 none
  statics := none }

/-- the primitive byte -/
def k11 : Class := { plain "byte" none with kind := .primitive 'B', accessFlags := 0x411 }
/-- [B -/
def k12 : Class := { plain "[B" (some 0) with kind := .array 11 .byte, interfaces := #[10, 3], accessFlags := 1041 }

/-- the primitive int -/
def k13 : Class := { plain "int" none with kind := .primitive 'I', accessFlags := 0x411 }
/-- [I -/
def k14 : Class := { plain "[I" (some 0) with kind := .array 13 .int, interfaces := #[10, 3], accessFlags := 1041 }

/-- the primitive long -/
def k15 : Class := { plain "long" none with kind := .primitive 'J', accessFlags := 0x411 }
/-- [J -/
def k16 : Class := { plain "[J" (some 0) with kind := .array 15 .long, interfaces := #[10, 3], accessFlags := 1041 }

def heap : Heap := #[]
def classes : Array Class := #[k0, k1, k2, k3, k4, k5, k6, k7, k8, k9, k10, k11, k12, k13, k14, k15, k16]
def interned : List (Array UInt16 × Addr) := []
def slotsUsed : Nat := 0
def theMethod : MethodId := ⟨1, 3⟩
def args0 : Array Value := #[.int 5, .int 7, .int 1, .int 9, .int 3]
def aboutOver (below : List Frame) : State where
  vm := { classes := classes, interned := interned.toArray }
  heap := heap
  slotsUsed := slotsUsed
  threads := #[{ frames := .invoking theMethod args0 :: below }]
def below0 : List Frame := [.native { method := ⟨0, 0⟩, args := #[] }]
def about1 : State := aboutOver below0
def p0 : Program := .bare "" "" ""
def e0 : Env := launch0.env 0 0 0
theorem w_frames : about1.frames = Frame.invoking theMethod args0 :: below0 := rfl
set_option maxRecDepth 65536 in
theorem w_args : argsFit about1.vm theMethod args0 = true := by decide +kernel
set_option maxRecDepth 65536 in
theorem w_heap : heapFits about1 = true := by decide +kernel
set_option maxRecDepth 65536 in
theorem w_runnable : about1.curStatus? = some .runnable := by decide +kernel
set_option maxRecDepth 65536 in
theorem w_alone : about1.alone = true := by decide +kernel
set_option maxRecDepth 65536 in
theorem w_named : about1.methodNamed? x = some theMethod := by decide +kernel
set_option maxRecDepth 65536 in
theorem w_hears : about1.hears theMethod below0 = true := by decide +kernel
set_option maxRecDepth 65536 in
theorem w_ripe : about1.ripe theMethod args0 below0 = true := by decide +kernel
theorem w_running : about1.status = .running := rfl
set_option maxRecDepth 65536 in
theorem w_room : about1.hasRoom e0.platform room_1 = true :=
  launch0.hasRoom_least _ room_1 (by decide +kernel) (by decide +kernel) (by decide +kernel) (by decide +kernel) (by decide +kernel) (by decide +kernel)
theorem allAtoms_all (ts : List Jvm.Cond) (a : Array Jvm.Value) (st : Jvm.State) : (allAtoms ts).before a st = ts.all (fun c => c.before a st) := by
  induction ts with
  | nil => rfl
  | cons c t ih =>
    show (Jvm.Cond.and c (allAtoms t)).before a st = _
    rw [Jvm.Cond.before_and, ih, List.all_cons]
def words1 : List Jvm.Cond := Jvm.Cond.code x code maxLocals ret :: tables_1
/-- a 'code' word, met by the world's own term for the bytes: nothing is compared byte by byte -/
theorem code_word {y : MethodName} {bytes : ByteArray} {mx : Nat} {rt : Option FieldType} {a : Array Value} {s : State} {m : MethodId} {meth : Method} {c : Code} (h1 : s.methodNamed? y = some m) (h2 : s.vm.method? m = some meth) (h3 : meth.code = some c) (h4 : c.code = bytes)
    (h5 : (c.maxLocals == mx && c.exceptionTable.isEmpty && decide (c.maxStack ≤ mostOperands) && decide (meth.sig.returnType = rt) && !meth.locks && decide (parseMethodDescriptor y.desc = some meth.sig)) = true) : (Jvm.Cond.code y bytes mx rt).before a s = true := by
  simp only [Bool.and_eq_true, beq_iff_eq, Bool.not_eq_true', decide_eq_true_eq] at h5
  obtain ⟨⟨⟨⟨⟨g1, g2⟩, g3⟩, g4⟩, g5⟩, g6⟩ := h5
  simp [Cond.before, Cond.holds, Cond.value, h1, h2, h3, h4, g1, g2, g3, g4, g5, g6]
def isCode : Jvm.Cond → Bool
  | .code _ _ _ _ => true
  | _ => false
theorem all_split {L : List Jvm.Cond} {P : Jvm.Cond → Bool} (h1 : L.all (fun c => isCode c || P c) = true) (h2 : ∀ c ∈ L.filter isCode, P c = true) : L.all P = true := by
  refine List.all_eq_true.mpr fun c hc => ?_
  have h := List.all_eq_true.mp h1 c hc
  rcases Bool.eq_false_or_eq_true (isCode c) with hi | hi
  · exact h2 c (List.mem_filter.mpr ⟨hc, hi⟩)
  · simpa [hi] using h
set_option maxRecDepth 65536 in
theorem w_c0 : (Jvm.Cond.code x code maxLocals ret).before args0 about1 = true := code_word (m := ⟨1, 3⟩) (meth := k1m3) (c := k1c3) (by decide +kernel) rfl rfl rfl (by decide +kernel)
set_option maxRecDepth 65536 in
theorem w_c1 : (Jvm.Cond.code ({ cls := "com/example/isolens/isolens/checker/PlaceSet", name := "<init>", desc := "(I)V" } : Jvm.MethodName) prog_39_method_1_code (2 : Nat) (Option.none : Option Jvm.ClassFile.FieldType)).before args0 about1 = true := code_word (m := ⟨2, 0⟩) (meth := k2m0) (c := k2c0) (by decide +kernel) rfl rfl rfl (by decide +kernel)
set_option maxRecDepth 65536 in
theorem w_c2 : (Jvm.Cond.code ({ cls := "java/lang/Object", name := "<init>", desc := "()V" } : Jvm.MethodName) object_method_1_code (1 : Nat) (Option.none : Option Jvm.ClassFile.FieldType)).before args0 about1 = true := code_word (m := ⟨0, 0⟩) (meth := k0m0) (c := k0c0) (by decide +kernel) rfl rfl rfl (by decide +kernel)
set_option maxRecDepth 65536 in
theorem w_c3 : (Jvm.Cond.code ({ cls := "com/example/isolens/isolens/checker/PlaceSet", name := "add", desc := "(I)V" } : Jvm.MethodName) prog_39_method_3_code (3 : Nat) (Option.none : Option Jvm.ClassFile.FieldType)).before args0 about1 = true := code_word (m := ⟨2, 2⟩) (meth := k2m2) (c := k2c2) (by decide +kernel) rfl rfl rfl (by decide +kernel)
set_option maxRecDepth 65536 in
theorem w_c4 : (Jvm.Cond.code ({ cls := "com/example/isolens/isolens/checker/PlaceSet", name := "remove", desc := "(I)V" } : Jvm.MethodName) prog_39_method_4_code (3 : Nat) (Option.none : Option Jvm.ClassFile.FieldType)).before args0 about1 = true := code_word (m := ⟨2, 3⟩) (meth := k2m3) (c := k2c3) (by decide +kernel) rfl rfl rfl (by decide +kernel)
set_option maxRecDepth 65536 in
theorem w_c5 : (Jvm.Cond.code ({ cls := "com/example/isolens/isolens/checker/PlaceSet", name := "contains", desc := "(I)Z" } : Jvm.MethodName) prog_39_method_2_code (2 : Nat) (Option.some Jvm.ClassFile.FieldType.boolean)).before args0 about1 = true := code_word (m := ⟨2, 1⟩) (meth := k2m1) (c := k2c1) (by decide +kernel) rfl rfl rfl (by decide +kernel)
set_option maxRecDepth 65536 in
theorem w_c6 : (Jvm.Cond.code ({ cls := "com/example/isolens/isolens/checker/PlaceSet", name := "firstFrom", desc := "(I)I" } : Jvm.MethodName) prog_39_method_5_code (8 : Nat) (Option.some Jvm.ClassFile.FieldType.int)).before args0 about1 = true := code_word (m := ⟨2, 4⟩) (meth := k2m4) (c := k2c4) (by decide +kernel) rfl rfl rfl (by decide +kernel)
set_option maxRecDepth 65536 in
theorem w_c7 : (Jvm.Cond.code ({ cls := "com/example/isolens/isolens/checker/PlaceSetRemovePinLaw", name := "firstRef", desc := "(IZIZI)I" } : Jvm.MethodName) method_2_code (6 : Nat) (Option.some Jvm.ClassFile.FieldType.int)).before args0 about1 = true := code_word (m := ⟨1, 1⟩) (meth := k1m1) (c := k1c1) (by decide +kernel) rfl rfl rfl (by decide +kernel)
set_option maxRecDepth 65536 in
theorem w_c8 : (Jvm.Cond.code ({ cls := "com/example/isolens/isolens/checker/PlaceSet", name := "lastUpTo", desc := "(I)I" } : Jvm.MethodName) prog_39_method_6_code (8 : Nat) (Option.some Jvm.ClassFile.FieldType.int)).before args0 about1 = true := code_word (m := ⟨2, 5⟩) (meth := k2m5) (c := k2c5) (by decide +kernel) rfl rfl rfl (by decide +kernel)
set_option maxRecDepth 65536 in
theorem w_c9 : (Jvm.Cond.code ({ cls := "com/example/isolens/isolens/checker/PlaceSetRemovePinLaw", name := "lastRef", desc := "(IZIZI)I" } : Jvm.MethodName) method_3_code (6 : Nat) (Option.some Jvm.ClassFile.FieldType.int)).before args0 about1 = true := code_word (m := ⟨1, 2⟩) (meth := k1m2) (c := k1c2) (by decide +kernel) rfl rfl rfl (by decide +kernel)
set_option maxRecDepth 65536 in
theorem w_c10 : (Jvm.Cond.code ({ cls := "java/lang/Long", name := "numberOfTrailingZeros", desc := "(J)I" } : Jvm.MethodName) jdk_35_method_49_code (3 : Nat) (Option.some Jvm.ClassFile.FieldType.int)).before args0 about1 = true := code_word (m := ⟨8, 1⟩) (meth := k8m1) (c := k8c1) (by decide +kernel) rfl rfl rfl (by decide +kernel)
set_option maxRecDepth 65536 in
theorem w_c11 : (Jvm.Cond.code ({ cls := "java/lang/Integer", name := "numberOfTrailingZeros", desc := "(I)I" } : Jvm.MethodName) jdk_33_method_48_code (2 : Nat) (Option.some Jvm.ClassFile.FieldType.int)).before args0 about1 = true := code_word (m := ⟨9, 1⟩) (meth := k9m1) (c := k9c1) (by decide +kernel) rfl rfl rfl (by decide +kernel)
set_option maxRecDepth 65536 in
theorem w_c12 : (Jvm.Cond.code ({ cls := "java/lang/Long", name := "numberOfLeadingZeros", desc := "(J)I" } : Jvm.MethodName) jdk_35_method_48_code (3 : Nat) (Option.some Jvm.ClassFile.FieldType.int)).before args0 about1 = true := code_word (m := ⟨8, 0⟩) (meth := k8m0) (c := k8c0) (by decide +kernel) rfl rfl rfl (by decide +kernel)
set_option maxRecDepth 65536 in
theorem w_c13 : (Jvm.Cond.code ({ cls := "java/lang/Integer", name := "numberOfLeadingZeros", desc := "(I)I" } : Jvm.MethodName) jdk_33_method_47_code (2 : Nat) (Option.some Jvm.ClassFile.FieldType.int)).before args0 about1 = true := code_word (m := ⟨9, 0⟩) (meth := k9m0) (c := k9c0) (by decide +kernel) rfl rfl rfl (by decide +kernel)
def codes1 : List Jvm.Cond := [Jvm.Cond.code x code maxLocals ret, Jvm.Cond.code ({ cls := "com/example/isolens/isolens/checker/PlaceSet", name := "<init>", desc := "(I)V" } : Jvm.MethodName) prog_39_method_1_code (2 : Nat) (Option.none : Option Jvm.ClassFile.FieldType), Jvm.Cond.code ({ cls := "java/lang/Object", name := "<init>", desc := "()V" } : Jvm.MethodName) object_method_1_code (1 : Nat) (Option.none : Option Jvm.ClassFile.FieldType), Jvm.Cond.code ({ cls := "com/example/isolens/isolens/checker/PlaceSet", name := "add", desc := "(I)V" } : Jvm.MethodName) prog_39_method_3_code (3 : Nat) (Option.none : Option Jvm.ClassFile.FieldType), Jvm.Cond.code ({ cls := "com/example/isolens/isolens/checker/PlaceSet", name := "remove", desc := "(I)V" } : Jvm.MethodName) prog_39_method_4_code (3 : Nat) (Option.none : Option Jvm.ClassFile.FieldType), Jvm.Cond.code ({ cls := "com/example/isolens/isolens/checker/PlaceSet", name := "contains", desc := "(I)Z" } : Jvm.MethodName) prog_39_method_2_code (2 : Nat) (Option.some Jvm.ClassFile.FieldType.boolean), Jvm.Cond.code ({ cls := "com/example/isolens/isolens/checker/PlaceSet", name := "firstFrom", desc := "(I)I" } : Jvm.MethodName) prog_39_method_5_code (8 : Nat) (Option.some Jvm.ClassFile.FieldType.int), Jvm.Cond.code ({ cls := "com/example/isolens/isolens/checker/PlaceSetRemovePinLaw", name := "firstRef", desc := "(IZIZI)I" } : Jvm.MethodName) method_2_code (6 : Nat) (Option.some Jvm.ClassFile.FieldType.int), Jvm.Cond.code ({ cls := "com/example/isolens/isolens/checker/PlaceSet", name := "lastUpTo", desc := "(I)I" } : Jvm.MethodName) prog_39_method_6_code (8 : Nat) (Option.some Jvm.ClassFile.FieldType.int), Jvm.Cond.code ({ cls := "com/example/isolens/isolens/checker/PlaceSetRemovePinLaw", name := "lastRef", desc := "(IZIZI)I" } : Jvm.MethodName) method_3_code (6 : Nat) (Option.some Jvm.ClassFile.FieldType.int), Jvm.Cond.code ({ cls := "java/lang/Long", name := "numberOfTrailingZeros", desc := "(J)I" } : Jvm.MethodName) jdk_35_method_49_code (3 : Nat) (Option.some Jvm.ClassFile.FieldType.int), Jvm.Cond.code ({ cls := "java/lang/Integer", name := "numberOfTrailingZeros", desc := "(I)I" } : Jvm.MethodName) jdk_33_method_48_code (2 : Nat) (Option.some Jvm.ClassFile.FieldType.int), Jvm.Cond.code ({ cls := "java/lang/Long", name := "numberOfLeadingZeros", desc := "(J)I" } : Jvm.MethodName) jdk_35_method_48_code (3 : Nat) (Option.some Jvm.ClassFile.FieldType.int), Jvm.Cond.code ({ cls := "java/lang/Integer", name := "numberOfLeadingZeros", desc := "(I)I" } : Jvm.MethodName) jdk_33_method_47_code (2 : Nat) (Option.some Jvm.ClassFile.FieldType.int)]
set_option maxRecDepth 65536 in
theorem codes_eq : words1.filter isCode = codes1 := rfl
theorem w_codes : ∀ c ∈ words1.filter isCode, c.before args0 about1 = true := by
  rw [codes_eq]
  intro c hc
  simp only [codes1, List.mem_cons, List.not_mem_nil, or_false] at hc
  rcases hc with rfl | rfl | rfl | rfl | rfl | rfl | rfl | rfl | rfl | rfl | rfl | rfl | rfl | rfl
  · exact w_c0
  · exact w_c1
  · exact w_c2
  · exact w_c3
  · exact w_c4
  · exact w_c5
  · exact w_c6
  · exact w_c7
  · exact w_c8
  · exact w_c9
  · exact w_c10
  · exact w_c11
  · exact w_c12
  · exact w_c13
set_option maxRecDepth 65536 in
theorem w_t1 : (words1.take 24).all (fun c => isCode c || c.before args0 about1) = true := by decide +kernel
set_option maxRecDepth 65536 in
theorem w_t2 : ((words1.drop 24).take 24).all (fun c => isCode c || c.before args0 about1) = true := by decide +kernel
set_option maxRecDepth 65536 in
theorem w_t3 : ((words1.drop 24).drop 24).all (fun c => isCode c || c.before args0 about1) = true := by decide +kernel
theorem w_tables : (allAtoms (Jvm.Cond.code x code maxLocals ret :: tables_1)).before args0 about1 = true := by
  rw [allAtoms_all]
  show words1.all (fun c => c.before args0 about1) = true
  refine all_split ?_ w_codes
  rw [← List.take_append_drop 24 words1, List.all_append, w_t1, ← List.take_append_drop 24 (words1.drop 24), List.all_append, w_t2, w_t3]
  rfl
set_option maxRecDepth 65536 in
theorem w_case : (Jvm.Cond.and given_1 narrow_1).before args0 about1 = true := by decide +kernel
theorem w_applies : (headSpec (Jvm.Cond.code x code maxLocals ret :: tables_1) room_1).applies x e0.platform about1 = true :=
  (Spec.applies_iff w_frames).mpr ⟨w_running, w_runnable, w_alone, w_named, w_hears, w_ripe, w_room, w_tables⟩
theorem atStart : AtStart classFile x code maxLocals ret World_1 tables_1 room_1 Calls_1 rest_1 Pre_1 launch0 p0 e0 about1 theMethod args0 below0 :=
  ⟨lists_1, trivial, launch0.admits_env _ _ _, launch0.least_env, fairChoices_fair.cas, fairChoices_fair.clock, w_frames, w_args, w_heap, w_applies, trivial, trivial, w_case⟩
end start1
theorem witness_1 : WitnessClaimed_1 := ⟨start1.p0, start1.e0, start1.about1, start1.theMethod, start1.args0, start1.below0, start1.atStart⟩
end Jvm.Pilot.@@N@@
