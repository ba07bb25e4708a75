import JvmDerived
import JvmDerived.Pilot.@@N@@Statement
import JvmDerived.Pilot.@@N@@Code
set_option linter.unusedVariables false
set_option linter.unusedSimpArgs false
namespace Jvm.Pilot.@@N@@
open Jvm Jvm.ClassFile Sem Op Lib Jvm.Free Jvm.Stand Jvm.LawKit Jvm.RoadKit Bundle Jvm.Pilot.@@N@@.Jvm.D
section OwnKit
variable {p : Program} {l : Launch} {e : Env} {R : Room} {s : State} {m : MethodId} {args : Array Value} {below : List Frame} {meth : Method} {c : Code} {T : State} {locs : List Loc} {cells slots : Nat} {bc : ByteArray} {Q : Option Value → Heap → List Loc → Prop} {mc ms : Nat} {Z : State} {a0 : Array Value} {h : Heap} {pc pc' pt pf : Nat} {Ls : Array Slot} {st rest : List Value}
/-- from this frame over T the invocation comes to its end by returning, and Q holds there -/
def Go (p : Program) (e : Env) (below : List Frame) (s : State) (Q : Option Value → Heap → List Loc → Prop) (mc ms : Nat) (m : MethodId) (T : State) (pc : Nat) (Ls : Array Slot) (st : List Value) : Prop :=
  ∃ s₂ o, Steps p.tables e below (T.setTop (mkF m pc Ls st)) s₂ ∧ s₂.status = .running ∧ Ended s₂ below o ∧ ∃ v L, o = .returned v ∧ Q v s₂.heap L ∧ FrameEnd s o s₂ L mc ms
theorem Go.of {T' : State} {Ls' : Array Slot} {st' : List Value} (k : ∀ t, Steps p.tables e below (T'.setTop (mkF m pc' Ls' st')) t → Steps p.tables e below (T.setTop (mkF m pc Ls st)) t) (g : Go p e below s Q mc ms m T' pc' Ls' st') : Go p e below s Q mc ms m T pc Ls st := by
  obtain ⟨s₂, o, h1, h2⟩ := g
  exact ⟨s₂, o, k _ h1, h2⟩
/-- a method's contract, as a caller takes it -/
def Ct (l : Launch) (Z : State) (y : MethodName) (bytes : ByteArray) (maxL : Nat) (ret : Option FieldType) (rm : Room) (as' : Array Value) (h : Heap) (Q : Option Value → Heap → List Loc → Prop) : Prop :=
  MetFree l y (head1 [Jvm.Cond.code y bytes maxL ret] rm) (fun a U => a = as' ∧ Z.Warmed39 U.vm ∧ U.heap = h) (fun _ _ _ _ _ => True) (fun _ U o U' => ∃ v L, o = .returned v ∧ Q v U'.heap L ∧ FrameEnd U o U' L rm.cells rm.slots)
theorem own_met {y : MethodName} {bytes : ByteArray} {maxL : Nat} {ret : Option FieldType} {ws : List Jvm.Cond} {rm : Room} {as' : Array Value}
    (hpl : plainFor y = true) (hef : ∀ m, entryFrame m as' maxL = mkF m 0 Ls [])
    (body : ∀ (p : Program) (e : Env) (s : State) (m : MethodId) (below : List Frame) (meth : Method) (c : Code) (T : State), Stand p l e rm s m as' below meth c T [] 0 0 → p.tables.exec = Jvm.exec → c.code = bytes → c.maxLocals = maxL →
      s.vm.findClass y.cls = some m.cls → meth.name = y.name → meth.sig.returnType = ret → meth.locks = false → Z.Warmed39 s.vm → T.heap = h → Go p e below s Q mc ms m T 0 Ls []) :
    MetFree l y (head1 (Jvm.Cond.code y bytes maxL ret :: ws) rm) (fun a U => a = as' ∧ Z.Warmed39 U.vm ∧ U.heap = h) (fun _ _ _ _ _ => True) (fun _ U o U' => ∃ v L, o = .returned v ∧ Q v U'.heap L ∧ FrameEnd U o U' L mc ms) := by
  refine MetFree.of_bodySF hpl hisR ?_
  intro p e s m args below meth c s₁ Bd hml0 hP hK
  obtain ⟨rfl, hZ, hh⟩ := hP
  obtain ⟨s₂, o, h1, h2, h3, v, L, h4, h5, h6⟩ := body p e s m below meth c s₁ (Stand.of_body Bd) Bd.exec Bd.bytes hml0 (findClass_of_methodNamed Bd.named) (name_of_methodNamed Bd.named Bd.method).1 Bd.returns Bd.notSynchronized hZ (by rw [← hh, Bd.state]; rfl)
  exact ⟨s₂, o, castTop (hef m) h1, h2, h3, v, L, h4, h5, h6⟩
theorem g_nameI {x : Int32} (k : ∀ z : Int32, z = x → Go p e below s Q mc ms m T pc Ls (.int z :: rest)) : Go p e below s Q mc ms m T pc Ls (.int x :: rest) := k x rfl
theorem g_nameL {x : Int64} (k : ∀ z : Int64, z = x → Go p e below s Q mc ms m T pc Ls (.long z :: rest)) : Go p e below s Q mc ms m T pc Ls (.long x :: rest) := k x rfl
theorem g_iloadN (X : Stand p l e R s m args below meth c T locs cells slots) (hx : p.tables.exec = Jvm.exec) (hby : c.code = bc) {n : Fin 4} {v : Int32} (hd : decode bc pc = .ok (.iload_n n, 1)) (hp : pc + 1 = pc') (hl : Ls[n.val]? = some (.val (.int v))) (k : Go p e below s Q mc ms m T pc' Ls (.int v :: st)) : Go p e below s Q mc ms m T pc Ls st := by
  subst hp; exact Go.of (fun _ q => XS.iloadN X.here hx rfl (hb hby hd) hl q) k
theorem g_iload (X : Stand p l e R s m args below meth c T locs cells slots) (hx : p.tables.exec = Jvm.exec) (hby : c.code = bc) {n : Nat} {v : Int32} (hd : decode bc pc = .ok (.iload n, 2)) (hp : pc + 2 = pc') (hl : Ls[n]? = some (.val (.int v))) (k : Go p e below s Q mc ms m T pc' Ls (.int v :: st)) : Go p e below s Q mc ms m T pc Ls st := by
  subst hp; exact Go.of (fun _ q => XS.iload X.here hx rfl (hb hby hd) hl q) k
theorem g_istoreN (X : Stand p l e R s m args below meth c T locs cells slots) (hx : p.tables.exec = Jvm.exec) (hby : c.code = bc) {n : Fin 4} {v : Int32} {Ls' : Array Slot} (hd : decode bc pc = .ok (.istore_n n, 1)) (hp : pc + 1 = pc') (hl : storeLocals Ls n.val (.int v) = some Ls') (k : Go p e below s Q mc ms m T pc' Ls' rest) : Go p e below s Q mc ms m T pc Ls (.int v :: rest) := by
  subst hp; exact Go.of (fun _ q => XS.istoreN X.here hx rfl (hb hby hd) rfl hl q) k
theorem g_istore (X : Stand p l e R s m args below meth c T locs cells slots) (hx : p.tables.exec = Jvm.exec) (hby : c.code = bc) {n : Nat} {v : Int32} {Ls' : Array Slot} (hd : decode bc pc = .ok (.istore n, 2)) (hp : pc + 2 = pc') (hl : storeLocals Ls n (.int v) = some Ls') (k : Go p e below s Q mc ms m T pc' Ls' rest) : Go p e below s Q mc ms m T pc Ls (.int v :: rest) := by
  subst hp; exact Go.of (fun _ q => XS.istore X.here hx rfl (hb hby hd) rfl hl q) k
theorem g_lloadN (X : Stand p l e R s m args below meth c T locs cells slots) (hx : p.tables.exec = Jvm.exec) (hby : c.code = bc) {n : Fin 4} {v : Int64} (hd : decode bc pc = .ok (.lload_n n, 1)) (hp : pc + 1 = pc') (hl : Ls[n.val]? = some (.val (.long v))) (k : Go p e below s Q mc ms m T pc' Ls (.long v :: st)) : Go p e below s Q mc ms m T pc Ls st := by
  subst hp; exact Go.of (fun _ q => XS.lloadN X.here hx rfl (hb hby hd) hl q) k
theorem g_lload (X : Stand p l e R s m args below meth c T locs cells slots) (hx : p.tables.exec = Jvm.exec) (hby : c.code = bc) {n : Nat} {v : Int64} (hd : decode bc pc = .ok (.lload n, 2)) (hp : pc + 2 = pc') (hl : Ls[n]? = some (.val (.long v))) (k : Go p e below s Q mc ms m T pc' Ls (.long v :: st)) : Go p e below s Q mc ms m T pc Ls st := by
  subst hp; exact Go.of (fun _ q => XS.lload X.here hx rfl (hb hby hd) hl q) k
theorem g_lstoreN (X : Stand p l e R s m args below meth c T locs cells slots) (hx : p.tables.exec = Jvm.exec) (hby : c.code = bc) {n : Fin 4} {v : Int64} {Ls' : Array Slot} (hd : decode bc pc = .ok (.lstore_n n, 1)) (hp : pc + 1 = pc') (hl : storeLocals Ls n.val (.long v) = some Ls') (k : Go p e below s Q mc ms m T pc' Ls' rest) : Go p e below s Q mc ms m T pc Ls (.long v :: rest) := by
  subst hp; exact Go.of (fun _ q => XS.lstoreN X.here hx rfl (hb hby hd) rfl hl q) k
theorem g_lstore (X : Stand p l e R s m args below meth c T locs cells slots) (hx : p.tables.exec = Jvm.exec) (hby : c.code = bc) {n : Nat} {v : Int64} {Ls' : Array Slot} (hd : decode bc pc = .ok (.lstore n, 2)) (hp : pc + 2 = pc') (hl : storeLocals Ls n (.long v) = some Ls') (k : Go p e below s Q mc ms m T pc' Ls' rest) : Go p e below s Q mc ms m T pc Ls (.long v :: rest) := by
  subst hp; exact Go.of (fun _ q => XS.lstore X.here hx rfl (hb hby hd) rfl hl q) k
theorem g_aloadN (X : Stand p l e R s m args below meth c T locs cells slots) (hx : p.tables.exec = Jvm.exec) (hby : c.code = bc) {n : Fin 4} {v : Value} (hd : decode bc pc = .ok (.aload_n n, 1)) (hp : pc + 1 = pc') (hl : Ls[n.val]? = some (.val v)) (hv : v.isRef = true) (k : Go p e below s Q mc ms m T pc' Ls (v :: st)) : Go p e below s Q mc ms m T pc Ls st := by
  subst hp; exact Go.of (fun _ q => XS.aloadN X.here hx rfl (hb hby hd) hl hv q) k
theorem g_aload (X : Stand p l e R s m args below meth c T locs cells slots) (hx : p.tables.exec = Jvm.exec) (hby : c.code = bc) {n : Nat} {v : Value} (hd : decode bc pc = .ok (.aload n, 2)) (hp : pc + 2 = pc') (hl : Ls[n]? = some (.val v)) (hv : v.isRef = true) (k : Go p e below s Q mc ms m T pc' Ls (v :: st)) : Go p e below s Q mc ms m T pc Ls st := by
  subst hp; exact Go.of (fun _ q => XS.aload X.here hx rfl (hb hby hd) hl hv q) k
theorem g_astore (X : Stand p l e R s m args below meth c T locs cells slots) (hx : p.tables.exec = Jvm.exec) (hby : c.code = bc) {n : Nat} {v : Value} {Ls' : Array Slot} (hd : decode bc pc = .ok (.astore n, 2)) (hp : pc + 2 = pc') (hv : v.isRef = true) (hl : storeLocals Ls n v = some Ls') (k : Go p e below s Q mc ms m T pc' Ls' rest) : Go p e below s Q mc ms m T pc Ls (v :: rest) := by
  subst hp; exact Go.of (fun _ q => XS.astore X.here hx rfl (hb hby hd) rfl hv hl q) k
theorem g_iconst (X : Stand p l e R s m args below meth c T locs cells slots) (hx : p.tables.exec = Jvm.exec) (hby : c.code = bc) {i : Int} {n : Int32} (hd : decode bc pc = .ok (.iconst i, 1)) (hp : pc + 1 = pc') (hn : Int32.ofInt i = n) (k : Go p e below s Q mc ms m T pc' Ls (.int n :: st)) : Go p e below s Q mc ms m T pc Ls st := by
  subst hp; exact Go.of (fun _ q => XS.iconst X.here hx rfl (hb hby hd) (by rw [hn]; exact q)) k
theorem g_bipush (X : Stand p l e R s m args below meth c T locs cells slots) (hx : p.tables.exec = Jvm.exec) (hby : c.code = bc) {i : Int} {n : Int32} (hd : decode bc pc = .ok (.bipush i, 2)) (hp : pc + 2 = pc') (hn : (Int8.ofInt i).toInt32 = n) (k : Go p e below s Q mc ms m T pc' Ls (.int n :: st)) : Go p e below s Q mc ms m T pc Ls st := by
  subst hp; exact Go.of (fun _ q => XS.bipush X.here hx rfl (hb hby hd) (by rw [hn]; exact q)) k
theorem g_iadd (X : Stand p l e R s m args below meth c T locs cells slots) (hx : p.tables.exec = Jvm.exec) (hby : c.code = bc) {x y : Int32} (hd : decode bc pc = .ok (.iadd, 1)) (hp : pc + 1 = pc')  (k : Go p e below s Q mc ms m T pc' Ls (.int (x + y) :: rest)) : Go p e below s Q mc ms m T pc Ls (.int y :: .int x :: rest) := by
  subst hp; exact Go.of (fun _ q => XS.iadd X.here hx rfl (hb hby hd) rfl q) k
theorem g_isub (X : Stand p l e R s m args below meth c T locs cells slots) (hx : p.tables.exec = Jvm.exec) (hby : c.code = bc) {x y : Int32} (hd : decode bc pc = .ok (.isub, 1)) (hp : pc + 1 = pc')  (k : Go p e below s Q mc ms m T pc' Ls (.int (x - y) :: rest)) : Go p e below s Q mc ms m T pc Ls (.int y :: .int x :: rest) := by
  subst hp; exact Go.of (fun _ q => XS.isub X.here hx rfl (hb hby hd) rfl q) k
theorem g_imul (X : Stand p l e R s m args below meth c T locs cells slots) (hx : p.tables.exec = Jvm.exec) (hby : c.code = bc) {x y : Int32} (hd : decode bc pc = .ok (.imul, 1)) (hp : pc + 1 = pc')  (k : Go p e below s Q mc ms m T pc' Ls (.int (x * y) :: rest)) : Go p e below s Q mc ms m T pc Ls (.int y :: .int x :: rest) := by
  subst hp; exact Go.of (fun _ q => XS.imul X.here hx rfl (hb hby hd) rfl q) k
theorem g_iand (X : Stand p l e R s m args below meth c T locs cells slots) (hx : p.tables.exec = Jvm.exec) (hby : c.code = bc) {x y : Int32} (hd : decode bc pc = .ok (.iand, 1)) (hp : pc + 1 = pc')  (k : Go p e below s Q mc ms m T pc' Ls (.int (x &&& y) :: rest)) : Go p e below s Q mc ms m T pc Ls (.int y :: .int x :: rest) := by
  subst hp; exact Go.of (fun _ q => XS.iand X.here hx rfl (hb hby hd) rfl q) k
theorem g_lor (X : Stand p l e R s m args below meth c T locs cells slots) (hx : p.tables.exec = Jvm.exec) (hby : c.code = bc) {x y : Int64} (hd : decode bc pc = .ok (.lor, 1)) (hp : pc + 1 = pc')  (k : Go p e below s Q mc ms m T pc' Ls (.long (x ||| y) :: rest)) : Go p e below s Q mc ms m T pc Ls (.long y :: .long x :: rest) := by
  subst hp; exact Go.of (fun _ q => XS.lor X.here hx rfl (hb hby hd) rfl q) k
theorem g_idiv (X : Stand p l e R s m args below meth c T locs cells slots) (hx : p.tables.exec = Jvm.exec) (hby : c.code = bc) {x y : Int32} (hd : decode bc pc = .ok (.idiv, 1)) (hp : pc + 1 = pc') (hy : y ≠ 0) (k : Go p e below s Q mc ms m T pc' Ls (.int (x / y) :: rest)) : Go p e below s Q mc ms m T pc Ls (.int y :: .int x :: rest) := by
  subst hp; exact Go.of (fun _ q => XS.idiv X.here hx rfl (hb hby hd) rfl hy q) k
theorem g_irem (X : Stand p l e R s m args below meth c T locs cells slots) (hx : p.tables.exec = Jvm.exec) (hby : c.code = bc) {x y : Int32} (hd : decode bc pc = .ok (.irem, 1)) (hp : pc + 1 = pc') (hy : y ≠ 0) (k : Go p e below s Q mc ms m T pc' Ls (.int (x % y) :: rest)) : Go p e below s Q mc ms m T pc Ls (.int y :: .int x :: rest) := by
  subst hp; exact Go.of (fun _ q => iremM X hx rfl (hb hby hd) rfl hy q) k
theorem g_iushr (X : Stand p l e R s m args below meth c T locs cells slots) (hx : p.tables.exec = Jvm.exec) (hby : c.code = bc) {x y : Int32} (hd : decode bc pc = .ok (.iushr, 1)) (hp : pc + 1 = pc')  (k : Go p e below s Q mc ms m T pc' Ls (.int ((x.toUInt32 >>> (y &&& 31).toUInt32).toInt32) :: rest)) : Go p e below s Q mc ms m T pc Ls (.int y :: .int x :: rest) := by
  subst hp; exact Go.of (fun _ q => XS.iushr X.here hx rfl (hb hby hd) rfl q) k
theorem g_lshl (X : Stand p l e R s m args below meth c T locs cells slots) (hx : p.tables.exec = Jvm.exec) (hby : c.code = bc) {x : Int64} {y : Int32} (hd : decode bc pc = .ok (.lshl, 1)) (hp : pc + 1 = pc')  (k : Go p e below s Q mc ms m T pc' Ls (.long (x <<< (y.toInt64 &&& 63)) :: rest)) : Go p e below s Q mc ms m T pc Ls (.int y :: .long x :: rest) := by
  subst hp; exact Go.of (fun _ q => XT.lshl X.here hx rfl (hb hby hd) rfl q) k
theorem g_i2l (X : Stand p l e R s m args below meth c T locs cells slots) (hx : p.tables.exec = Jvm.exec) (hby : c.code = bc) {x : Int32} (hd : decode bc pc = .ok (.i2l, 1)) (hp : pc + 1 = pc')  (k : Go p e below s Q mc ms m T pc' Ls (.long (x.toInt64) :: rest)) : Go p e below s Q mc ms m T pc Ls (.int x :: rest) := by
  subst hp; exact Go.of (fun _ q => XS.i2l X.here hx rfl (hb hby hd) rfl q) k
theorem x_i2d {tb : Tables} [Ours tb] {e : Env} {below : List Frame} {T target : State} {m : MethodId} {c : Code} {g : JFrame} (h : At T m c below) (hx : tb.exec = Jvm.exec) (hg : g.method = m) {v : Int32} {rest : List Value} (hd : decode c.code g.pc = .ok (.i2d, 1)) (hs : g.stack = .int v :: rest) 
    (hr : Steps tb e below (T.setTop { g with pc := g.pc + 1, stack := .double (FP.i2d v) :: rest }) target) : Steps tb e below (T.setTop g) target := by
  subst hg
  jvm_step h [h.top, hx, hd, hs]
  exact hr
theorem x_d2f {tb : Tables} [Ours tb] {e : Env} {below : List Frame} {T target : State} {m : MethodId} {c : Code} {g : JFrame} (h : At T m c below) (hx : tb.exec = Jvm.exec) (hg : g.method = m) {v : UInt64} {rest : List Value} (hd : decode c.code g.pc = .ok (.d2f, 1)) (hs : g.stack = .double v :: rest) (hn : FP.d2f v &&& 0x7fffffff ≤ 0x7f800000)
    (hr : Steps tb e below (T.setTop { g with pc := g.pc + 1, stack := .float (FP.d2f v) :: rest }) target) : Steps tb e below (T.setTop g) target := by
  subst hg
  jvm_step h [h.top, hx, hd, hs, Op.d2f.wp_number h.top hs hn]
  exact hr
theorem x_dloadN {tb : Tables} [Ours tb] {e : Env} {below : List Frame} {T target : State} {m : MethodId} {c : Code} {g : JFrame} (h : At T m c below) (hx : tb.exec = Jvm.exec) (hg : g.method = m) {n : Fin 4} {v : UInt64} (hd : decode c.code g.pc = .ok (.dload_n n, 1)) (hl : g.locals[n.val]? = some (.val (.double v)))
    (hr : Steps tb e below (T.setTop { g with pc := g.pc + 1, stack := .double v :: g.stack }) target) : Steps tb e below (T.setTop g) target := by
  subst hg
  jvm_step h [h.top, hx, hd, hl]
  exact hr
theorem g_i2d (X : Stand p l e R s m args below meth c T locs cells slots) (hx : p.tables.exec = Jvm.exec) (hby : c.code = bc) {v : Int32} (hd : decode bc pc = .ok (.i2d, 1)) (hp : pc + 1 = pc')  (k : Go p e below s Q mc ms m T pc' Ls (.double (FP.i2d v) :: rest)) : Go p e below s Q mc ms m T pc Ls (.int v :: rest) := by
  subst hp; exact Go.of (fun _ q => x_i2d X.here hx rfl (hb hby hd) rfl q) k
theorem g_d2f (X : Stand p l e R s m args below meth c T locs cells slots) (hx : p.tables.exec = Jvm.exec) (hby : c.code = bc) {v : UInt64} (hd : decode bc pc = .ok (.d2f, 1)) (hp : pc + 1 = pc') (hn : FP.d2f v &&& 0x7fffffff ≤ 0x7f800000) (k : Go p e below s Q mc ms m T pc' Ls (.float (FP.d2f v) :: rest)) : Go p e below s Q mc ms m T pc Ls (.double v :: rest) := by
  subst hp; exact Go.of (fun _ q => x_d2f X.here hx rfl (hb hby hd) rfl hn q) k
theorem g_dloadN (X : Stand p l e R s m args below meth c T locs cells slots) (hx : p.tables.exec = Jvm.exec) (hby : c.code = bc) {n : Fin 4} {v : UInt64} (hd : decode bc pc = .ok (.dload_n n, 1)) (hp : pc + 1 = pc') (hl : Ls[n.val]? = some (.val (.double v))) (k : Go p e below s Q mc ms m T pc' Ls (.double v :: st)) : Go p e below s Q mc ms m T pc Ls st := by
  subst hp; exact Go.of (fun _ q => x_dloadN X.here hx rfl (hb hby hd) hl q) k
theorem g_dup (X : Stand p l e R s m args below meth c T locs cells slots) (hx : p.tables.exec = Jvm.exec) (hby : c.code = bc) {x : Value} (hd : decode bc pc = .ok (.dup, 1)) (hp : pc + 1 = pc') (hc : x.category = 1) (k : Go p e below s Q mc ms m T pc' Ls (x :: x :: rest)) : Go p e below s Q mc ms m T pc Ls (x :: rest) := by
  subst hp; exact Go.of (fun _ q => XS.dup X.here hx rfl (hb hby hd) rfl hc q) k
theorem g_dup_x1 (X : Stand p l e R s m args below meth c T locs cells slots) (hx : p.tables.exec = Jvm.exec) (hby : c.code = bc) {x y : Value} (hd : decode bc pc = .ok (.dup_x1, 1)) (hp : pc + 1 = pc') (hc : x.category = 1) (hc' : y.category = 1) (k : Go p e below s Q mc ms m T pc' Ls (x :: y :: x :: rest)) : Go p e below s Q mc ms m T pc Ls (x :: y :: rest) := by
  subst hp; exact Go.of (fun _ q => XS.dupX1 X.here hx rfl (hb hby hd) rfl hc hc' q) k
theorem g_iinc (X : Stand p l e R s m args below meth c T locs cells slots) (hx : p.tables.exec = Jvm.exec) (hby : c.code = bc) {n : Nat} {i : Int} {x : Int32} {Ls' : Array Slot} (hd : decode bc pc = .ok (.iinc n i, 3)) (hp : pc + 3 = pc') (hl : Ls[n]? = some (.val (.int x))) (hl' : storeLocals Ls n (.int (x + Int32.ofInt i)) = some Ls') (k : Go p e below s Q mc ms m T pc' Ls' st) : Go p e below s Q mc ms m T pc Ls st := by
  subst hp; exact Go.of (fun _ q => XS.iinc X.here hx rfl (hb hby hd) hl hl' q) k
theorem g_goto (X : Stand p l e R s m args below meth c T locs cells slots) (hx : p.tables.exec = Jvm.exec) (hby : c.code = bc) {i : Int} (hd : decode bc pc = .ok (.goto i, 3)) (ho : 0 ≤ (pc : Int) + i) (hp : ((pc : Int) + i).toNat = pc') (k : Go p e below s Q mc ms m T pc' Ls st) : Go p e below s Q mc ms m T pc Ls st := Go.of (fun _ q => XS.goto X.here hx rfl rfl (hb hby hd) ho hp q) k
theorem own_hlt (x y : Int32) : if_icmp.holds .lt x y = decide (x.toInt < y.toInt) := by simp [if_icmp.holds, Int32.lt_iff_toInt_lt]
theorem own_hge (x y : Int32) : if_icmp.holds .ge x y = decide (y.toInt ≤ x.toInt) := by simp [if_icmp.holds, Int32.le_iff_toInt_le]
theorem own_hle (x y : Int32) : if_icmp.holds .le x y = decide (x.toInt ≤ y.toInt) := by simp [if_icmp.holds, Int32.le_iff_toInt_le]
theorem own_heq (x y : Int32) : if_icmp.holds .eq x y = decide (x = y) := by by_cases q : x = y <;> simp [if_icmp.holds, q]
theorem own_hne (x y : Int32) : if_icmp.holds .ne x y = decide (¬ x = y) := by by_cases q : x = y <;> simp [if_icmp.holds, q]
theorem g_icmp (X : Stand p l e R s m args below meth c T locs cells slots) (hx : p.tables.exec = Jvm.exec) (hby : c.code = bc) {cd : ClassFile.Cond} {i : Int} {x y : Int32} {P : Prop} [Decidable P] (hP : if_icmp.holds cd x y = decide P) (hd : decode bc pc = .ok (.if_icmp cd i, 3)) (ho : 0 ≤ (pc : Int) + i) (hp : ((pc : Int) + i).toNat = pt) (hf : pc + 3 = pf) (ky : P → Go p e below s Q mc ms m T pt Ls rest) (kn : ¬ P → Go p e below s Q mc ms m T pf Ls rest) : Go p e below s Q mc ms m T pc Ls (.int y :: .int x :: rest) := by
  subst hf
  by_cases q : P
  · exact Go.of (fun _ z => XS.icmpYes X.here hx rfl rfl (hb hby hd) rfl (by rw [hP]; exact decide_eq_true q) ho hp z) (ky q)
  · exact Go.of (fun _ z => XS.icmpNo X.here hx rfl (hb hby hd) rfl (by rw [hP]; exact decide_eq_false q) z) (kn q)
theorem g_ifc (X : Stand p l e R s m args below meth c T locs cells slots) (hx : p.tables.exec = Jvm.exec) (hby : c.code = bc) {cd : ClassFile.Cond} {i : Int} {x : Int32} {P : Prop} [Decidable P] (hP : if_icmp.holds cd x 0 = decide P) (hd : decode bc pc = .ok (.ifCond cd i, 3)) (ho : 0 ≤ (pc : Int) + i) (hp : ((pc : Int) + i).toNat = pt) (hf : pc + 3 = pf) (ky : P → Go p e below s Q mc ms m T pt Ls rest) (kn : ¬ P → Go p e below s Q mc ms m T pf Ls rest) : Go p e below s Q mc ms m T pc Ls (.int x :: rest) := by
  subst hf
  by_cases q : P
  · exact Go.of (fun _ z => XS.ifYes X.here hx rfl rfl (hb hby hd) rfl (by rw [if0, hP]; exact decide_eq_true q) ho hp z) (ky q)
  · exact Go.of (fun _ z => XS.ifNo X.here hx rfl (hb hby hd) rfl (by rw [if0, hP]; exact decide_eq_false q) z) (kn q)
theorem g_icmplt (X : Stand p l e R s m args below meth c T locs cells slots) (hx : p.tables.exec = Jvm.exec) (hby : c.code = bc) {i : Int} {x y : Int32} (hd : decode bc pc = .ok (.if_icmp .lt i, 3)) (ho : 0 ≤ (pc : Int) + i) (hp : ((pc : Int) + i).toNat = pt) (hf : pc + 3 = pf) (ky : x.toInt < y.toInt → Go p e below s Q mc ms m T pt Ls rest) (kn : y.toInt ≤ x.toInt → Go p e below s Q mc ms m T pf Ls rest) : Go p e below s Q mc ms m T pc Ls (.int y :: .int x :: rest) :=
  g_icmp X hx hby (own_hlt x y) hd ho hp hf ky (fun q => kn (Int.not_lt.mp q))
theorem g_iflt (X : Stand p l e R s m args below meth c T locs cells slots) (hx : p.tables.exec = Jvm.exec) (hby : c.code = bc) {i : Int} {x : Int32} (hd : decode bc pc = .ok (.ifCond .lt i, 3)) (ho : 0 ≤ (pc : Int) + i) (hp : ((pc : Int) + i).toNat = pt) (hf : pc + 3 = pf) (ky : x.toInt < 0 → Go p e below s Q mc ms m T pt Ls rest) (kn : 0 ≤ x.toInt → Go p e below s Q mc ms m T pf Ls rest) : Go p e below s Q mc ms m T pc Ls (.int x :: rest) :=
  g_ifc X hx hby (own_hlt x 0) hd ho hp hf ky (fun q => kn (Int.not_lt.mp q))
theorem g_icmpge (X : Stand p l e R s m args below meth c T locs cells slots) (hx : p.tables.exec = Jvm.exec) (hby : c.code = bc) {i : Int} {x y : Int32} (hd : decode bc pc = .ok (.if_icmp .ge i, 3)) (ho : 0 ≤ (pc : Int) + i) (hp : ((pc : Int) + i).toNat = pt) (hf : pc + 3 = pf) (ky : y.toInt ≤ x.toInt → Go p e below s Q mc ms m T pt Ls rest) (kn : x.toInt < y.toInt → Go p e below s Q mc ms m T pf Ls rest) : Go p e below s Q mc ms m T pc Ls (.int y :: .int x :: rest) :=
  g_icmp X hx hby (own_hge x y) hd ho hp hf ky (fun q => kn (Int.not_le.mp q))
theorem g_ifge (X : Stand p l e R s m args below meth c T locs cells slots) (hx : p.tables.exec = Jvm.exec) (hby : c.code = bc) {i : Int} {x : Int32} (hd : decode bc pc = .ok (.ifCond .ge i, 3)) (ho : 0 ≤ (pc : Int) + i) (hp : ((pc : Int) + i).toNat = pt) (hf : pc + 3 = pf) (ky : 0 ≤ x.toInt → Go p e below s Q mc ms m T pt Ls rest) (kn : x.toInt < 0 → Go p e below s Q mc ms m T pf Ls rest) : Go p e below s Q mc ms m T pc Ls (.int x :: rest) :=
  g_ifc X hx hby (own_hge x 0) hd ho hp hf ky (fun q => kn (Int.not_le.mp q))
theorem g_icmple (X : Stand p l e R s m args below meth c T locs cells slots) (hx : p.tables.exec = Jvm.exec) (hby : c.code = bc) {i : Int} {x y : Int32} (hd : decode bc pc = .ok (.if_icmp .le i, 3)) (ho : 0 ≤ (pc : Int) + i) (hp : ((pc : Int) + i).toNat = pt) (hf : pc + 3 = pf) (ky : x.toInt ≤ y.toInt → Go p e below s Q mc ms m T pt Ls rest) (kn : y.toInt < x.toInt → Go p e below s Q mc ms m T pf Ls rest) : Go p e below s Q mc ms m T pc Ls (.int y :: .int x :: rest) :=
  g_icmp X hx hby (own_hle x y) hd ho hp hf ky (fun q => kn (Int.not_le.mp q))
theorem g_ifle (X : Stand p l e R s m args below meth c T locs cells slots) (hx : p.tables.exec = Jvm.exec) (hby : c.code = bc) {i : Int} {x : Int32} (hd : decode bc pc = .ok (.ifCond .le i, 3)) (ho : 0 ≤ (pc : Int) + i) (hp : ((pc : Int) + i).toNat = pt) (hf : pc + 3 = pf) (ky : x.toInt ≤ 0 → Go p e below s Q mc ms m T pt Ls rest) (kn : 0 < x.toInt → Go p e below s Q mc ms m T pf Ls rest) : Go p e below s Q mc ms m T pc Ls (.int x :: rest) :=
  g_ifc X hx hby (own_hle x 0) hd ho hp hf ky (fun q => kn (Int.not_le.mp q))
theorem g_ifeq (X : Stand p l e R s m args below meth c T locs cells slots) (hx : p.tables.exec = Jvm.exec) (hby : c.code = bc) {i : Int} {x : Int32} (hd : decode bc pc = .ok (.ifCond .eq i, 3)) (ho : 0 ≤ (pc : Int) + i) (hp : ((pc : Int) + i).toNat = pt) (hf : pc + 3 = pf) (ky : x = 0 → Go p e below s Q mc ms m T pt Ls rest) (kn : ¬ x = 0 → Go p e below s Q mc ms m T pf Ls rest) : Go p e below s Q mc ms m T pc Ls (.int x :: rest) :=
  g_ifc X hx hby (own_heq x 0) hd ho hp hf ky (fun q => kn (id q))
theorem g_icmpne (X : Stand p l e R s m args below meth c T locs cells slots) (hx : p.tables.exec = Jvm.exec) (hby : c.code = bc) {i : Int} {x y : Int32} (hd : decode bc pc = .ok (.if_icmp .ne i, 3)) (ho : 0 ≤ (pc : Int) + i) (hp : ((pc : Int) + i).toNat = pt) (hf : pc + 3 = pf) (ky : ¬ x = y → Go p e below s Q mc ms m T pt Ls rest) (kn : x = y → Go p e below s Q mc ms m T pf Ls rest) : Go p e below s Q mc ms m T pc Ls (.int y :: .int x :: rest) :=
  g_icmp X hx hby (own_hne x y) hd ho hp hf ky (fun q => kn (Decidable.not_not.mp q))
theorem g_ifne (X : Stand p l e R s m args below meth c T locs cells slots) (hx : p.tables.exec = Jvm.exec) (hby : c.code = bc) {i : Int} {x : Int32} (hd : decode bc pc = .ok (.ifCond .ne i, 3)) (ho : 0 ≤ (pc : Int) + i) (hp : ((pc : Int) + i).toNat = pt) (hf : pc + 3 = pf) (ky : ¬ x = 0 → Go p e below s Q mc ms m T pt Ls rest) (kn : x = 0 → Go p e below s Q mc ms m T pf Ls rest) : Go p e below s Q mc ms m T pc Ls (.int x :: rest) :=
  g_ifc X hx hby (own_hne x 0) hd ho hp hf ky (fun q => kn (Decidable.not_not.mp q))
theorem own_cmp (x y : Int64) : XT.cmpL x y = lcmpW x y := by simp only [XT.cmpL, lcmpW, gt_iff_lt]
theorem own_lc (x y : Int64) : ((lcmpW x y).toInt < 0 ↔ x.toInt < y.toInt) ∧ (0 < (lcmpW x y).toInt ↔ y.toInt < x.toInt) ∧ (lcmpW x y = 0 ↔ x = y) := by
  refine ⟨?_, ?_, lw_eq x y⟩
  · rw [← Int64.lt_iff_toInt_lt, ← lw_lt, Int32.lt_iff_toInt_lt]; rfl
  · rw [← Int64.lt_iff_toInt_lt, ← lw_gt, Int32.lt_iff_toInt_lt]; rfl
theorem g_lcmplt (X : Stand p l e R s m args below meth c T locs cells slots) (hx : p.tables.exec = Jvm.exec) (hby : c.code = bc) {i : Int} {x y : Int64} (hd : decode bc pc = .ok (.lcmp, 1)) (hp1 : pc + 1 = pc') (hd' : decode bc pc' = .ok (.ifCond .lt i, 3)) (ho : 0 ≤ (pc' : Int) + i) (hp : ((pc' : Int) + i).toNat = pt) (hf : pc' + 3 = pf) (ky : x.toInt < y.toInt → Go p e below s Q mc ms m T pt Ls rest) (kn : y.toInt ≤ x.toInt → Go p e below s Q mc ms m T pf Ls rest) : Go p e below s Q mc ms m T pc Ls (.long y :: .long x :: rest) := by
  subst hp1
  refine Go.of (fun _ q => XT.lcmp X.here hx rfl (hb hby hd) rfl (by rw [own_cmp]; exact q)) (g_iflt X hx hby hd' ho hp hf (fun q => ky ((own_lc x y).1.mp q)) (fun q => kn (Int.not_lt.mp fun z => Int.not_lt.mpr q ((own_lc x y).1.mpr z))))
theorem g_lcmpge (X : Stand p l e R s m args below meth c T locs cells slots) (hx : p.tables.exec = Jvm.exec) (hby : c.code = bc) {i : Int} {x y : Int64} (hd : decode bc pc = .ok (.lcmp, 1)) (hp1 : pc + 1 = pc') (hd' : decode bc pc' = .ok (.ifCond .ge i, 3)) (ho : 0 ≤ (pc' : Int) + i) (hp : ((pc' : Int) + i).toNat = pt) (hf : pc' + 3 = pf) (ky : y.toInt ≤ x.toInt → Go p e below s Q mc ms m T pt Ls rest) (kn : x.toInt < y.toInt → Go p e below s Q mc ms m T pf Ls rest) : Go p e below s Q mc ms m T pc Ls (.long y :: .long x :: rest) := by
  subst hp1
  refine Go.of (fun _ q => XT.lcmp X.here hx rfl (hb hby hd) rfl (by rw [own_cmp]; exact q)) (g_ifge X hx hby hd' ho hp hf (fun q => ky (Int.not_lt.mp fun z => Int.not_lt.mpr q ((own_lc x y).1.mpr z))) (fun q => kn ((own_lc x y).1.mp q)))
theorem g_ret (X : Stand p l e R s m args below meth c T locs cells slots) (hx : p.tables.exec = Jvm.exec) (hby : c.code = bc) (hlk : meth.locks = false) {t : FieldType} {w : Value} {i : Instr} (hret : meth.sig.returnType = some t) (hn : narrow t w = w) (hi : (i = .ireturn ∧ (t = .int ∨ t = .boolean ∨ t = .byte ∨ t = .char ∨ t = .short) ∧ ∃ z, w = .int z) ∨ (i = .lreturn ∧ t = .long ∧ ∃ z, w = .long z) ∨ (i = .dreturn ∧ t = .double ∧ ∃ z, w = .double z) ∨ (i = .freturn ∧ t = .float ∧ ∃ z, w = .float z) ∨ (i = .areturn ∧ t.isReference = true ∧ w.isRef = true)) (hd : decode bc pc = .ok (i, 1)) (hc : cells ≤ mc) (hs : slots ≤ ms) (hq : Q (some w) T.heap locs) : Go p e below s Q mc ms m T pc Ls (w :: rest) := by
  obtain ⟨fs, hr, hrun, hended, hW, hsame⟩ := X.leave (v := some w) (fun h => by rw [hret] at h; cases h) hlk
  exact ⟨_, _, retOut X hx hret hn hi (hb hby hd) hr, hrun, hended, _, _, rfl, hq, ⟨_, rfl⟩, hW, hsame.mono hc hs⟩
theorem g_retI (X : Stand p l e R s m args below meth c T locs cells slots) (hx : p.tables.exec = Jvm.exec) (hby : c.code = bc) (hlk : meth.locks = false) {z : Int32} (hret : meth.sig.returnType = some .int) (hd : decode bc pc = .ok (.ireturn, 1)) (hc : cells ≤ mc) (hs : slots ≤ ms) (hq : Q (some (.int z)) T.heap locs) : Go p e below s Q mc ms m T pc Ls (.int z :: rest) := g_ret X hx hby hlk hret rfl (Or.inl ⟨rfl, Or.inl rfl, _, rfl⟩) hd hc hs hq
theorem g_retZ (X : Stand p l e R s m args below meth c T locs cells slots) (hx : p.tables.exec = Jvm.exec) (hby : c.code = bc) (hlk : meth.locks = false) {z : Int32} (hz : z = 0 ∨ z = 1) (hret : meth.sig.returnType = some .boolean) (hd : decode bc pc = .ok (.ireturn, 1)) (hc : cells ≤ mc) (hs : slots ≤ ms) (hq : Q (some (.int z)) T.heap locs) : Go p e below s Q mc ms m T pc Ls (.int z :: rest) := g_ret X hx hby hlk hret (by rcases hz with rfl | rfl <;> rfl) (Or.inl ⟨rfl, Or.inr (Or.inl rfl), _, rfl⟩) hd hc hs hq
theorem g_retV (X : Stand p l e R s m args below meth c T locs cells slots) (hx : p.tables.exec = Jvm.exec) (hby : c.code = bc) (hlk : meth.locks = false) (hret : meth.sig.returnType = none) (hd : decode bc pc = .ok (.return_, 1)) (hc : cells ≤ mc) (hs : slots ≤ ms) (hq : Q none T.heap locs) : Go p e below s Q mc ms m T pc Ls [] := by
  obtain ⟨fs, hr, hrun, hended, hW, hsame⟩ := X.leave (v := none) (fun _ => rfl) hlk
  exact ⟨_, _, X.returnOut hx hret (hb hby hd) hr, hrun, hended, _, _, rfl, hq, ⟨_, rfl⟩, hW, hsame.mono hc hs⟩
theorem g_ldcI (X : Stand p l e R s m args below meth c T locs cells slots) (hx : p.tables.exec = Jvm.exec) (hby : c.code = bc) (hZ : Z.Warmed39 s.vm) {own : String} (hown : s.vm.findClass own = some m.cls) {n : Nat} {v : Int32} (w : (Jvm.Cond.constant own n v).before a0 Z = true) (hd : decode bc pc = .ok (.ldc n, 2)) (hp : pc + 2 = pc') (k : Go p e below s Q mc ms m T pc' Ls (.int v :: st)) : Go p e below s Q mc ms m T pc Ls st := by
  subst hp; exact Go.of (X.ldcInt hx hown (mvT hZ w) (g := mkF m pc Ls st) rfl (hb hby hd)) k
theorem g_getF (X : Stand p l e R s m args below meth c T locs cells slots) (hx : p.tables.exec = Jvm.exec) (hby : c.code = bc) (hZ : Z.Warmed39 s.vm) {own : String} (hown : s.vm.findClass own = some m.cls) (eT : T.heap = h) {i : Nat} {O n d : String} {a : Addr} {v : Value} (w : (Jvm.Cond.fieldLink own i O n d).before a0 Z = true) (F : Fld Z h a O n d v) (hd : decode bc pc = .ok (.getfield i, 3)) (hp : pc + 3 = pc') (k : ∀ T', Stand p l e R s m args below meth c T' locs cells slots → T'.heap = h → Go p e below s Q mc ms m T' pc' Ls (v :: rest)) : Go p e below s Q mc ms m T pc Ls (.ref a :: rest) := by
  subst hp
  obtain ⟨T', X', e', st'⟩ := getF X hx hZ hown (host := "") (Or.inl w) Via.refl eT F (g := mkF m pc Ls (.ref a :: rest)) rfl rfl (hb hby hd)
  exact Go.of st' (k T' X' e')
theorem g_putF (X : Stand p l e R s m args below meth c T locs cells slots) (hx : p.tables.exec = Jvm.exec) (hby : c.code = bc) (hZ : Z.Warmed39 s.vm) {own : String} (hown : s.vm.findClass own = some m.cls) (eT : T.heap = h) {i kk : Nat} {O n d C : String} {a : Addr} {v old : Value} {ty : FieldType} (w : (Jvm.Cond.fieldLink own i O n d).before a0 Z = true) (F : Fld Z h a O n d old) (E : Exa Z h a C) (L : (Jvm.Cond.lays C O n d).before a0 Z = true ∨ ((Jvm.Cond.laysFinal C O n d).before a0 Z = true ∧ own = O ∧ meth.name = "<init>")) (wi : (Jvm.Cond.instantiable C kk).before a0 Z = true) (hty : parseFieldDescriptor d = some ty) (hn : narrow ty v = v) (hf : fits ty v = true) (hd : decode bc pc = .ok (.putfield i, 3)) (hp : pc + 3 = pc') (k : ∀ T' h', Stand p l e R s m args below meth c T' (locs ++ [⟨a, Jvm.RoadKit.slotOf Z O n d⟩]) cells slots → T'.heap = h' → Wr h h' a (Jvm.RoadKit.slotOf Z O n d) v → Go p e below s Q mc ms m T' pc' Ls rest) : Go p e below s Q mc ms m T pc Ls (v :: .ref a :: rest) := by
  subst hp
  obtain ⟨T', h', X', e', W', st'⟩ := putF X hx hZ hown (host := "") (Or.inl w) Via.refl eT F E L wi hty hn hf (g := mkF m pc Ls (v :: .ref a :: rest)) rfl rfl (hb hby hd)
  exact Go.of st' (k T' h' X' e' W')
theorem g_new (X : Stand p l e R s m args below meth c T locs cells slots) (hx : p.tables.exec = Jvm.exec) (hby : c.code = bc) (hZ : Z.Warmed39 s.vm) {own : String} (hown : s.vm.findClass own = some m.cls) (eT : T.heap = h) {i n : Nat} {C : String} (w : (Jvm.Cond.classLink own i C).before a0 Z = true) (wi : (Jvm.Cond.instantiable C n).before a0 Z = true) (wz : (Jvm.Cond.initialized C).before a0 Z = true) (hd : decode bc pc = .ok (.new i, 3)) (hp : pc + 3 = pc') (hc : cells + 1 ≤ R.cells) (hl : slots + n ≤ R.slots) (k : ∀ T' h' b, b = h.size → Stand p l e R s m args below meth c T' locs (cells + 1) (slots + n) → T'.heap = h' → Ext h h' → Exa Z h' b C → (∀ {O nm d : String} {ty : FieldType}, Laid Z a0 C O nm d → parseFieldDescriptor d = some ty → Fld Z h' b O nm d (defaultValue ty)) → Go p e below s Q mc ms m T' pc' Ls (.ref b :: st)) : Go p e below s Q mc ms m T pc Ls st := by
  subst hp
  obtain ⟨T', h', X', e', E', A', D', -, st'⟩ := newO X hx hZ hown w wi wz eT (g := mkF m pc Ls st) rfl (hb hby hd) hc hl
  exact Go.of st' (k T' h' _ rfl X' e' E' A' D')
theorem g_initO (X : Stand p l e R s m args below meth c T locs cells slots) (hx : p.tables.exec = Jvm.exec) (hby : c.code = bc) (hZ : Z.Warmed39 s.vm) {own : String} (hown : s.vm.findClass own = some m.cls) (eT : T.heap = h) {i ML : Nat} {a : Addr} (w1 : (Jvm.Cond.methodLink own i Lib.objectInit).before a0 Z = true) (w2 : (Jvm.Cond.instanceMethod Lib.objectInit).before a0 Z = true) (w3 : (Jvm.Cond.code Lib.objectInit ⟨#[0xb1]⟩ 1 none).before a0 Z = true) (hml : c.maxLocals = ML) (hls : Ls.size = ML) (hd : decode bc pc = .ok (.invokespecial i, 3)) (hp : pc + 3 = pc') (hf : 1 ≤ R.frames) (hl : (rest.map fun v => v.category).sum + 12 ≤ R.locals) (k : ∀ T', Stand p l e R s m args below meth c T' locs cells slots → T'.heap = h → Go p e below s Q mc ms m T' pc' Ls rest) : Go p e below s Q mc ms m T pc Ls (.ref a :: rest) := by
  subst hp
  obtain ⟨T', X', e', st'⟩ := initO X hx hZ hown w1 w2 w3 eT (g := mkF m pc Ls (.ref a :: rest)) rfl (by rw [hml]; exact hls) rfl (hb hby hd) hf (W := (rest.map fun v => v.category).sum) (by show 2 * 0 + _ ≤ _; omega) hl
  exact Go.of st' (k T' X' e')
theorem g_newP (X : Stand p l e R s m args below meth c T locs cells slots) (hx : p.tables.exec = Jvm.exec) (hby : c.code = bc) (hZ : Z.Warmed39 s.vm) (eT : T.heap = h) {aty : ArrayType} {n : Int32} (w : (Jvm.Cond.arrayClass (newarray.typeOf aty)).before a0 Z = true) (hd : decode bc pc = .ok (.newarray aty, 2)) (hp : pc + 2 = pc') (hn : ¬ n < 0) {cap : Nat} (hcap : n.toNatClampNeg ≤ cap) (hbig : cap * 8 ≤ 536870912) (hc : cells + 1 ≤ R.cells) (hl : slots + cap ≤ R.slots) (k : ∀ T' h' b cA, b = h.size → Stand p l e R s m args below meth c T' locs (cells + 1) (slots + cap) → T'.heap = h' → Ext h h' → Arv Z h' b cA (newarray.typeOf aty) n [] (defaultValue (newarray.typeOf aty)) → Go p e below s Q mc ms m T' pc' Ls (.ref b :: rest)) : Go p e below s Q mc ms m T pc Ls (.int n :: rest) := by
  subst hp
  obtain ⟨T', h', cA, X', e', E', A', st'⟩ := newP X hx hZ w eT (g := mkF m pc Ls (.int n :: rest)) rfl (hb hby hd) rfl hn hcap hbig hc hl
  exact Go.of st' (k T' h' _ cA rfl X' e' E' (Arv.new A' hn))
theorem g_iastore (X : Stand p l e R s m args below meth c T locs cells slots) (hx : p.tables.exec = Jvm.exec) (hby : c.code = bc) (hZ : Z.Warmed39 s.vm) (eT : T.heap = h) {a : Addr} {cl : Cell} (A : Arr Z h a cl .int) {j : Int32} {x : Int32} (hj : ¬ (j < 0 ∨ cl.slots.size ≤ j.toNatClampNeg)) (hd : decode bc pc = .ok (.iastore, 1)) (hp : pc + 1 = pc') (k : ∀ T' h', Stand p l e R s m args below meth c T' (locs ++ [⟨a, j.toNatClampNeg⟩]) cells slots → T'.heap = h' → Wr h h' a j.toNatClampNeg (.int x) → Go p e below s Q mc ms m T' pc' Ls rest) : Go p e below s Q mc ms m T pc Ls (.int x :: .int j :: .ref a :: rest) := by
  subst hp
  obtain ⟨T', h', X', e', W', st'⟩ := stI X hx hZ eT A (j := j) hj (g := mkF m pc Ls (.int x :: .int j :: .ref a :: rest)) rfl rfl (hb hby hd)
  exact Go.of st' (k T' h' X' e' W')
theorem g_lastore (X : Stand p l e R s m args below meth c T locs cells slots) (hx : p.tables.exec = Jvm.exec) (hby : c.code = bc) (hZ : Z.Warmed39 s.vm) (eT : T.heap = h) {a : Addr} {cl : Cell} (A : Arr Z h a cl .long) {j : Int32} {x : Int64} (hj : ¬ (j < 0 ∨ cl.slots.size ≤ j.toNatClampNeg)) (hd : decode bc pc = .ok (.lastore, 1)) (hp : pc + 1 = pc') (k : ∀ T' h', Stand p l e R s m args below meth c T' (locs ++ [⟨a, j.toNatClampNeg⟩]) cells slots → T'.heap = h' → Wr h h' a j.toNatClampNeg (.long x) → Go p e below s Q mc ms m T' pc' Ls rest) : Go p e below s Q mc ms m T pc Ls (.long x :: .int j :: .ref a :: rest) := by
  subst hp
  obtain ⟨T', h', X', e', W', st'⟩ := stJ X hx hZ eT A (j := j) hj (g := mkF m pc Ls (.long x :: .int j :: .ref a :: rest)) rfl rfl (hb hby hd)
  exact Go.of st' (k T' h' X' e' W')
theorem g_iaload (X : Stand p l e R s m args below meth c T locs cells slots) (hx : p.tables.exec = Jvm.exec) (hby : c.code = bc) (hZ : Z.Warmed39 s.vm) (eT : T.heap = h) {a : Addr} {cl : Cell} (A : Arr Z h a cl .int) {j : Int32} {v : Value} (hj : ¬ (j < 0 ∨ cl.slots.size ≤ j.toNatClampNeg)) (hv : cl.slots[j.toNatClampNeg]? = some v) (hd : decode bc pc = .ok (.iaload, 1)) (hp : pc + 1 = pc') (k : Go p e below s Q mc ms m T pc' Ls (v :: rest)) : Go p e below s Q mc ms m T pc Ls (.int j :: .ref a :: rest) := by
  subst hp
  exact Go.of (fun _ q => X.iaload hx (j := j) (v := v) (by rw [eT]; exact A.1) (State.isArrayOf_alike hZ.alike A.2.1) A.2.2 hj hv (g := mkF m pc Ls (.int j :: .ref a :: rest)) rfl rfl (hb hby hd) _ q) k
theorem g_laload (X : Stand p l e R s m args below meth c T locs cells slots) (hx : p.tables.exec = Jvm.exec) (hby : c.code = bc) (hZ : Z.Warmed39 s.vm) (eT : T.heap = h) {a : Addr} {cl : Cell} (A : Arr Z h a cl .long) {j : Int32} {v : Value} (hj : ¬ (j < 0 ∨ cl.slots.size ≤ j.toNatClampNeg)) (hv : cl.slots[j.toNatClampNeg]? = some v) (hd : decode bc pc = .ok (.laload, 1)) (hp : pc + 1 = pc') (k : Go p e below s Q mc ms m T pc' Ls (v :: rest)) : Go p e below s Q mc ms m T pc Ls (.int j :: .ref a :: rest) := by
  subst hp
  exact Go.of (fun _ q => X.laload hx (j := j) (v := v) (by rw [eT]; exact A.1) (State.isArrayOf_alike hZ.alike A.2.1) A.2.2 hj hv (g := mkF m pc Ls (.int j :: .ref a :: rest)) rfl rfl (hb hby hd) _ q) k
theorem g_arraylength (X : Stand p l e R s m args below meth c T locs cells slots) (hx : p.tables.exec = Jvm.exec) (hby : c.code = bc) (hZ : Z.Warmed39 s.vm) (eT : T.heap = h) {a : Addr} {cl : Cell} {ty : FieldType} (A : Arr Z h a cl ty) {n : Int32} (S : cl.slots.size = n.toNatClampNeg) (hn : ¬ n < 0) (hd : decode bc pc = .ok (.arraylength, 1)) (hp : pc + 1 = pc') (k : Go p e below s Q mc ms m T pc' Ls (.int n :: rest)) : Go p e below s Q mc ms m T pc Ls (.ref a :: rest) := by
  subst hp
  exact Go.of (fun _ q => X.arraylength hx (by rw [eT]; exact A.1) (State.isArrayOf_alike hZ.alike A.2.1) (g := mkF m pc Ls (.ref a :: rest)) rfl rfl (hb hby hd) _ (by rw [len_of S hn]; exact q)) k
/-- in heap h the array at a (of kind ty) has n places; place j holds f j -/
def Ara (Z : State) (h : Heap) (a : Addr) (ty : FieldType) (n : Nat) (f : Nat → Value) : Prop := ∃ cl : Cell, Arr Z h a cl ty ∧ cl.slots.size = n ∧ n < 2147483648 ∧ ∀ j, j < n → cl.slots[j]? = some (f j)
def own_up (f : Nat → Value) (k : Nat) (v : Value) : Nat → Value := fun j => if j = k then v else f j
theorem own_up_self (f : Nat → Value) (k : Nat) (v : Value) : own_up f k v k = v := if_pos rfl
theorem own_up_ne (f : Nat → Value) {k j : Nat} (v : Value) (q : j ≠ k) : own_up f k v j = f j := if_neg q
theorem Ara.lt {h : Heap} {a : Addr} {ty : FieldType} {n : Nat} {f : Nat → Value} (V : Ara Z h a ty n f) : a < h.size := by obtain ⟨_, A, _⟩ := V; exact A.lt
theorem Ara.ext {h h' : Heap} {a : Addr} {ty : FieldType} {n : Nat} {f : Nat → Value} (V : Ara Z h a ty n f) (E : Ext h h') : Ara Z h' a ty n f := by obtain ⟨c, A, r⟩ := V; exact ⟨c, A.ext E, r⟩
theorem Ara.other {h h' : Heap} {a b : Addr} {ty : FieldType} {n : Nat} {f : Nat → Value} {sl : Nat} {v : Value} (V : Ara Z h a ty n f) (W : Wr h h' b sl v) (q : a ≠ b) : Ara Z h' a ty n f := by obtain ⟨c, A, r⟩ := V; exact ⟨c, A.other W q, r⟩
theorem Ara.keep {h h' : Heap} {a : Addr} {ty : FieldType} {n : Nat} {f : Nat → Value} {ws : List Addr} (V : Ara Z h a ty n f) (K : Keep h h' ws) (q : a ∉ ws) : Ara Z h' a ty n f := by obtain ⟨c, A, r⟩ := V; exact ⟨c, ⟨K.2.1 a c A.1 q, A.2⟩, r⟩
theorem Ara.set {h h' : Heap} {a : Addr} {ty : FieldType} {n k : Nat} {f : Nat → Value} {v : Value} (V : Ara Z h a ty n f) (W : Wr h h' a k v) : Ara Z h' a ty n (own_up f k v) := by
  obtain ⟨c, A, hs, hn, hf⟩ := V
  refine ⟨_, A.same W, by rw [sz_set]; exact hs, hn, fun j hj => ?_⟩
  by_cases q : k = j
  · subst q; rw [own_up_self]; simp [Cell.setSlot, hs, hj]
  · rw [own_up_ne f v (Ne.symm q), ← hf j hj]; exact Array.getElem?_setIfInBounds_ne q
theorem Ara.eq {h : Heap} {a : Addr} {ty : FieldType} {n : Nat} {f f' : Nat → Value} (V : Ara Z h a ty n f) (q : ∀ j, j < n → f j = f' j) : Ara Z h a ty n f' := by obtain ⟨c, A, hs, hn, hf⟩ := V; exact ⟨c, A, hs, hn, fun j hj => by rw [← q j hj]; exact hf j hj⟩
def own_ui (g : Nat → Int32) (k : Nat) (x : Int32) : Nat → Int32 := fun j => if j = k then x else g j
def own_ul (g : Nat → Int64) (k : Nat) (x : Int64) : Nat → Int64 := fun j => if j = k then x else g j
theorem Ara.setI {h h' : Heap} {a : Addr} {ty : FieldType} {n k : Nat} {g : Nat → Int32} {x : Int32} (V : Ara Z h a ty n (fun j => .int (g j))) (W : Wr h h' a k (.int x)) : Ara Z h' a ty n (fun j => .int (own_ui g k x j)) := (V.set W).eq fun j _ => by
  by_cases q : j = k <;> simp [own_up, own_ui, q]
theorem Ara.setL {h h' : Heap} {a : Addr} {ty : FieldType} {n k : Nat} {g : Nat → Int64} {x : Int64} (V : Ara Z h a ty n (fun j => .long (g j))) (W : Wr h h' a k (.long x)) : Ara Z h' a ty n (fun j => .long (own_ul g k x j)) := (V.set W).eq fun j _ => by
  by_cases q : j = k <;> simp [own_up, own_ul, q]
theorem own_in {cl : Cell} {j : Int32} {n : Nat} (hs : cl.slots.size = n) (h0 : 0 ≤ j.toInt) (h1 : j.toInt < n) : ¬ (j < 0 ∨ cl.slots.size ≤ j.toNatClampNeg) := by
  rw [Int32.lt_iff_toInt_lt, hs]
  show ¬ (j.toInt < 0 ∨ n ≤ j.toInt.toNat)
  omega
theorem own_ofNat {n : Nat} (hn : n < 2147483648) : (Int32.ofNat n).toInt = n := by rw [Int32.toInt_ofNat_of_lt (by omega)]
theorem g_newA (X : Stand p l e R s m args below meth c T locs cells slots) (hx : p.tables.exec = Jvm.exec) (hby : c.code = bc) (hZ : Z.Warmed39 s.vm) (eT : T.heap = h) {aty : ArrayType} {n : Int32} {N : Nat} (w : (Jvm.Cond.arrayClass (newarray.typeOf aty)).before a0 Z = true) (hd : decode bc pc = .ok (.newarray aty, 2)) (hp : pc + 2 = pc') (hn : n.toInt = N) {cap : Nat} (hcap : N ≤ cap) (hbig : cap * 8 ≤ 536870912) (hc : cells + 1 ≤ R.cells) (hl : slots + cap ≤ R.slots) (k : ∀ T' h' b, b = h.size → Stand p l e R s m args below meth c T' locs (cells + 1) (slots + cap) → T'.heap = h' → Ext h h' → Ara Z h' b (newarray.typeOf aty) N (fun _ => defaultValue (newarray.typeOf aty)) → Go p e below s Q mc ms m T' pc' Ls (.ref b :: rest)) : Go p e below s Q mc ms m T pc Ls (.int n :: rest) := by
  have h1 : n.toNatClampNeg = N := by show n.toInt.toNat = N; omega
  have h2 : ¬ n < 0 := by rw [Int32.lt_iff_toInt_lt]; show ¬ n.toInt < 0; omega
  have h3 := rng32 n
  refine g_newP X hx hby hZ eT w hd hp h2 (cap := cap) (by omega) hbig hc hl (fun T' h' b cA hb' X' e' E' V => k T' h' b hb' X' e' E' ?_)
  obtain ⟨cl, A, -, hs, -, hH, -⟩ := V
  exact ⟨cl, A, by rw [hs, h1], by omega, fun j hj => by rw [hH j (by rw [hs, h1]; exact hj)]; simp⟩
theorem a_iastore (X : Stand p l e R s m args below meth c T locs cells slots) (hx : p.tables.exec = Jvm.exec) (hby : c.code = bc) (hZ : Z.Warmed39 s.vm) (eT : T.heap = h) {a : Addr} {n : Nat} {f : Nat → Value} (A : Ara Z h a .int n f) {j : Int32} {x : Int32} (h0 : 0 ≤ j.toInt) (h1 : j.toInt < n) (hd : decode bc pc = .ok (.iastore, 1)) (hp : pc + 1 = pc') (k : ∀ T' h', Stand p l e R s m args below meth c T' (locs ++ [⟨a, j.toInt.toNat⟩]) cells slots → T'.heap = h' → Wr h h' a j.toInt.toNat (.int x) → Go p e below s Q mc ms m T' pc' Ls rest) : Go p e below s Q mc ms m T pc Ls (.int x :: .int j :: .ref a :: rest) := by
  obtain ⟨cl, A, hs, hn, hf⟩ := A
  exact g_iastore X hx hby hZ eT A (own_in hs h0 h1) hd hp k
theorem a_lastore (X : Stand p l e R s m args below meth c T locs cells slots) (hx : p.tables.exec = Jvm.exec) (hby : c.code = bc) (hZ : Z.Warmed39 s.vm) (eT : T.heap = h) {a : Addr} {n : Nat} {f : Nat → Value} (A : Ara Z h a .long n f) {j : Int32} {x : Int64} (h0 : 0 ≤ j.toInt) (h1 : j.toInt < n) (hd : decode bc pc = .ok (.lastore, 1)) (hp : pc + 1 = pc') (k : ∀ T' h', Stand p l e R s m args below meth c T' (locs ++ [⟨a, j.toInt.toNat⟩]) cells slots → T'.heap = h' → Wr h h' a j.toInt.toNat (.long x) → Go p e below s Q mc ms m T' pc' Ls rest) : Go p e below s Q mc ms m T pc Ls (.long x :: .int j :: .ref a :: rest) := by
  obtain ⟨cl, A, hs, hn, hf⟩ := A
  exact g_lastore X hx hby hZ eT A (own_in hs h0 h1) hd hp k
theorem a_iaload (X : Stand p l e R s m args below meth c T locs cells slots) (hx : p.tables.exec = Jvm.exec) (hby : c.code = bc) (hZ : Z.Warmed39 s.vm) (eT : T.heap = h) {a : Addr} {n : Nat} {f : Nat → Value} (A : Ara Z h a .int n f) {j : Int32} {v : Value} (h0 : 0 ≤ j.toInt) (h1 : j.toInt < n) (hv : f j.toInt.toNat = v) (hd : decode bc pc = .ok (.iaload, 1)) (hp : pc + 1 = pc') (k : Go p e below s Q mc ms m T pc' Ls (v :: rest)) : Go p e below s Q mc ms m T pc Ls (.int j :: .ref a :: rest) := by
  obtain ⟨cl, A, hs, hn, hf⟩ := A
  exact g_iaload X hx hby hZ eT A (own_in hs h0 h1) (by show cl.slots[j.toInt.toNat]? = some v; rw [hf _ (by omega), hv]) hd hp k
theorem a_laload (X : Stand p l e R s m args below meth c T locs cells slots) (hx : p.tables.exec = Jvm.exec) (hby : c.code = bc) (hZ : Z.Warmed39 s.vm) (eT : T.heap = h) {a : Addr} {n : Nat} {f : Nat → Value} (A : Ara Z h a .long n f) {j : Int32} {v : Value} (h0 : 0 ≤ j.toInt) (h1 : j.toInt < n) (hv : f j.toInt.toNat = v) (hd : decode bc pc = .ok (.laload, 1)) (hp : pc + 1 = pc') (k : Go p e below s Q mc ms m T pc' Ls (v :: rest)) : Go p e below s Q mc ms m T pc Ls (.int j :: .ref a :: rest) := by
  obtain ⟨cl, A, hs, hn, hf⟩ := A
  exact g_laload X hx hby hZ eT A (own_in hs h0 h1) (by show cl.slots[j.toInt.toNat]? = some v; rw [hf _ (by omega), hv]) hd hp k
theorem a_arraylength (X : Stand p l e R s m args below meth c T locs cells slots) (hx : p.tables.exec = Jvm.exec) (hby : c.code = bc) (hZ : Z.Warmed39 s.vm) (eT : T.heap = h) {a : Addr} {n : Nat} {f : Nat → Value} {ty : FieldType} (A : Ara Z h a ty n f) {N : Int32} (hN : N.toInt = n) (hd : decode bc pc = .ok (.arraylength, 1)) (hp : pc + 1 = pc') (k : Go p e below s Q mc ms m T pc' Ls (.int N :: rest)) : Go p e below s Q mc ms m T pc Ls (.ref a :: rest) := by
  obtain ⟨cl, A, hs, hn, hf⟩ := A
  exact g_arraylength X hx hby hZ eT A (n := N) (by rw [hs]; show n = N.toInt.toNat; omega) (by rw [Int32.lt_iff_toInt_lt]; show ¬ N.toInt < 0; omega) hd hp k
/-- the array at a takes arrays of ints -/
def Ovi (Z : State) (h : Heap) (a : Addr) : Prop := ∃ cl : Cell, h[a]? = some cl ∧ OvrA Z cl.cls .int "[I"
theorem Ovi.ext {h h' : Heap} {a : Addr} (V : Ovi Z h a) (E : Ext h h') : Ovi Z h' a := by obtain ⟨c, q, r⟩ := V; exact ⟨c, E.2 _ _ q, r⟩
theorem Ovi.wr {h h' : Heap} {a b : Addr} {sl : Nat} {v : Value} (V : Ovi Z h a) (W : Wr h h' b sl v) : Ovi Z h' a := by obtain ⟨c, q, r⟩ := V; obtain ⟨c', q', e, -⟩ := wr_at W q; exact ⟨c', q', e ▸ r⟩
theorem Ovi.keep {h h' : Heap} {a : Addr} {ws : List Addr} (V : Ovi Z h a) (K : Keep h h' ws) : Ovi Z h' a := by obtain ⟨c, q, r⟩ := V; obtain ⟨c', q', e, -⟩ := K.2.2 _ _ q; exact ⟨c', q', e ▸ r⟩
theorem g_f2raw (X : Stand p l e R s m args below meth c T locs cells slots) (hx : p.tables.exec = Jvm.exec) (hby : c.code = bc) (hZ : Z.Warmed39 s.vm) {own : String} (hown : s.vm.findClass own = some m.cls) (eT : T.heap = h) {i ML : Nat} (hml : c.maxLocals = ML) (hls : Ls.size = ML) (w1 : (Jvm.Cond.methodLink own i floatToRawIntBitsName).before a0 Z = true) (w2 : (Jvm.Cond.native floatToRawIntBitsName).before a0 Z = true) (w3 : (Jvm.Cond.static floatToRawIntBitsName).before a0 Z = true) (w4 : (Jvm.Cond.initialized "java/lang/Float").before a0 Z = true) {b : UInt32} (hd : decode bc pc = .ok (.invokestatic i, 3)) (hp : pc + 3 = pc') (hf : 1 ≤ R.frames) (hlo : (rest.map fun v => v.category).sum + (nativeFrameWords "java/lang/Float" "floatToRawIntBits" 1 + 11) ≤ R.locals) (kk : ∀ T', Stand p l e R s m args below meth c T' locs cells slots → T'.heap = h → Go p e below s Q mc ms m T' pc' Ls (.int b.toInt32 :: rest)) : Go p e below s Q mc ms m T pc Ls (.float b :: rest) := by
  subst hp
  obtain ⟨vm', X', st'⟩ := X.floatToRawIntBits hx hown (mvT hZ w1) (mvT hZ w2) (mvT hZ w3) (mvT hZ w4) (b := b) (g := mkF m pc Ls (.float b :: rest)) rfl (by rw [hml]; exact hls) (rest := rest) rfl (hb hby hd) hf (by show 2 * 0 + _ + _ ≤ _; omega)
  exact Go.of st' (kk _ X' eT)
theorem g_static (X : Stand p l e R s m args below meth c T locs cells slots) (hx : p.tables.exec = Jvm.exec) (hby : c.code = bc) (hZ : Z.Warmed39 s.vm) {own : String} (hown : s.vm.findClass own = some m.cls) {i ML : Nat} {y : MethodName} {bytes : ByteArray} {maxL : Nat} {ret : Option FieldType} {rm : Room} {as' : Array Value} {QC : Option Value → Heap → List Loc → Prop} (hml : c.maxLocals = ML) (hls : Ls.size = ML) (w1 : (Jvm.Cond.methodLink own i y).before a0 Z = true) (w2 : (Jvm.Cond.static y).before a0 Z = true) (w3 : (Jvm.Cond.initialized y.cls).before a0 Z = true) (w4 : (Jvm.Cond.code y bytes maxL ret).before a0 Z = true) (hy : y.cls ≠ "java/lang/invoke/MethodHandle" ∧ y.cls ≠ "java/lang/invoke/VarHandle") (eT : T.heap = h) (M : Ct l Z y bytes maxL ret rm as' h QC) {ps : List FieldType} {r : Option FieldType} (pd : parseMethodDescriptor y.desc = some ⟨ps, r⟩) {argsL : List Value} (hl : argsL.length = ps.length) (has : argsL.toArray = as') (hst : st = argsL.reverse ++ rest) (hd : decode bc pc = .ok (.invokestatic i, 3)) (hp : pc + 3 = pc') (hf : rm.frames + 1 ≤ R.frames) (hlo : (rest.map fun v => v.category).sum + (maxL + 11) + rm.locals ≤ R.locals) (hc : cells + rm.cells ≤ R.cells) (hs : slots + rm.slots ≤ R.slots)
    (k : ∀ (T' : State) (v : Option Value) (L : List Loc), Stand p l e R s m args below meth c T' (locs ++ L) (cells + rm.cells) (slots + rm.slots) → QC v T'.heap L → Go p e below s Q mc ms m T' pc' Ls (v.toList ++ rest)) : Go p e below s Q mc ms m T pc Ls st := by
  subst hp has hst
  obtain ⟨v, vm₁, ⟨U, L', c', s'⟩, -, X', ⟨L, hQ, l1, l2, l3⟩, st⟩ := Jvm.LawKit.callS X hx (y := y) hown (mvT hZ w1) (mvT hZ w2) (mvT hZ w3) (mvT hZ w4) hy (backOf (W := (rest.map fun v => v.category).sum) M hZ w4 w3 hf hlo) (g := mkF m pc Ls (argsL.reverse ++ rest)) rfl (by rw [hml]; exact hls) (argsL := argsL) (rest := rest) (lenOf pd hl) rfl (by show 2 * 0 + _ ≤ _; omega) (hb hby hd) (fun _ _ => ⟨rfl, eT, hc, hs⟩)
  dsimp only at X' l1 l2 l3 st hQ
  subst l1 l2 l3
  exact Go.of st (k _ _ _ X' hQ)
theorem g_special (X : Stand p l e R s m args below meth c T locs cells slots) (hx : p.tables.exec = Jvm.exec) (hby : c.code = bc) (hZ : Z.Warmed39 s.vm) {own : String} (hown : s.vm.findClass own = some m.cls) {i ML : Nat} {y : MethodName} {bytes : ByteArray} {maxL : Nat} {ret : Option FieldType} {rm : Room} {as' : Array Value} {QC : Option Value → Heap → List Loc → Prop} (hy1 : y.name = "<init>") (hml : c.maxLocals = ML) (hls : Ls.size = ML) (w1 : (Jvm.Cond.methodLink own i y).before a0 Z = true) (w2 : (Jvm.Cond.instanceMethod y).before a0 Z = true) (w3 : (Jvm.Cond.initialized y.cls).before a0 Z = true) (hrt : ret = none) (w4 : (Jvm.Cond.code y bytes maxL ret).before a0 Z = true) (hy : y.cls ≠ "java/lang/invoke/MethodHandle" ∧ y.cls ≠ "java/lang/invoke/VarHandle") (eT : T.heap = h) (M : Ct l Z y bytes maxL ret rm as' h QC) {ps : List FieldType} {r : Option FieldType} (pd : parseMethodDescriptor y.desc = some ⟨ps, r⟩) {a : Addr} {argsL : List Value} (hl : argsL.length = ps.length) (has : (.ref a :: argsL).toArray = as') (hst : st = argsL.reverse ++ .ref a :: rest) (hd : decode bc pc = .ok (.invokespecial i, 3)) (hp : pc + 3 = pc') (hf : rm.frames + 1 ≤ R.frames) (hlo : (rest.map fun v => v.category).sum + (maxL + 11) + rm.locals ≤ R.locals) (hc : cells + rm.cells ≤ R.cells) (hs : slots + rm.slots ≤ R.slots)
    (k : ∀ (T' : State) (v : Option Value) (L : List Loc), Stand p l e R s m args below meth c T' (locs ++ L) (cells + rm.cells) (slots + rm.slots) → QC v T'.heap L → Go p e below s Q mc ms m T' pc' Ls (v.toList ++ rest)) : Go p e below s Q mc ms m T pc Ls st := by
  subst hp has hst hrt
  obtain ⟨v, vm₁, ⟨U, L', c', s'⟩, -, X', ⟨L, hQ, l1, l2, l3⟩, st⟩ := X.specialBack hx (y := y) hy1 hown (mvT hZ w1) (mvT hZ w2) (mvT hZ w4) hy (backOf (W := (rest.map fun v => v.category).sum) M hZ w4 w3 hf hlo) (g := mkF m pc Ls (argsL.reverse ++ .ref a :: rest)) rfl (by rw [hml]; exact hls) (Steps.refl _) (a := a) (argsL := argsL) (rest := rest) (lenOf pd hl) rfl (by show 2 * 0 + _ ≤ _; omega) (hb hby hd) (fun _ _ => ⟨rfl, eT, hc, hs⟩)
  dsimp only at X' l1 l2 l3 st hQ
  subst l1 l2 l3
  exact Go.of (fun _ q => st.trans q) (k _ _ _ X' hQ)
theorem g_virtual (X : Stand p l e R s m args below meth c T locs cells slots) (hx : p.tables.exec = Jvm.exec) (hby : c.code = bc) (hZ : Z.Warmed39 s.vm) {own : String} (hown : s.vm.findClass own = some m.cls) {i ML : Nat} {y : MethodName} {bytes : ByteArray} {maxL : Nat} {ret : Option FieldType} {rm : Room} {as' : Array Value} {QC : Option Value → Heap → List Loc → Prop} (hml : c.maxLocals = ML) (hls : Ls.size = ML) {C : String} (w1 : (Jvm.Cond.methodLink own i y).before a0 Z = true) (w2 : (Jvm.Cond.declares y).before a0 Z = true) (w5 : (Jvm.Cond.selects C y y).before a0 Z = true) (w6 : (Jvm.Cond.instanceMethod y).before a0 Z = true) (w3 : (Jvm.Cond.initialized y.cls).before a0 Z = true) (w4 : (Jvm.Cond.code y bytes maxL ret).before a0 Z = true) (hy : y.cls ≠ "java/lang/invoke/MethodHandle" ∧ y.cls ≠ "java/lang/invoke/VarHandle") (eT : T.heap = h) (M : Ct l Z y bytes maxL ret rm as' h QC) {ps : List FieldType} {r : Option FieldType} (pd : parseMethodDescriptor y.desc = some ⟨ps, r⟩) {a : Addr} (E : Exa Z h a C) {argsL : List Value} (hl : argsL.length = ps.length) (has : (.ref a :: argsL).toArray = as') (hst : st = argsL.reverse ++ .ref a :: rest) (hd : decode bc pc = .ok (.invokevirtual i, 3)) (hp : pc + 3 = pc') (hf : rm.frames + 1 ≤ R.frames) (hlo : (rest.map fun v => v.category).sum + (maxL + 11) + rm.locals ≤ R.locals) (hc : cells + rm.cells ≤ R.cells) (hs : slots + rm.slots ≤ R.slots)
    (k : ∀ (T' : State) (v : Option Value) (L : List Loc), Stand p l e R s m args below meth c T' (locs ++ L) (cells + rm.cells) (slots + rm.slots) → QC v T'.heap L → Go p e below s Q mc ms m T' pc' Ls (v.toList ++ rest)) : Go p e below s Q mc ms m T pc Ls st := by
  subst hp has hst
  obtain ⟨cB, kB, qa, qb, qc⟩ := isOf hZ eT E
  obtain ⟨v, vm₁, ⟨U, L', c', s'⟩, -, X', ⟨L, hQ, l1, l2, l3⟩, st⟩ := X.virtualBack hx (y := y) (z := y) hown (mvT hZ w1) (mvT hZ w2) (notFace_of_selects (args := #[]) (mvT hZ w5)) (mvT hZ w5) (mvT hZ w6) hy (backOf (W := (rest.map fun v => v.category).sum) M hZ w4 w3 hf hlo) qa qc (g := mkF m pc Ls (argsL.reverse ++ .ref a :: rest)) rfl (by rw [hml]; exact hls) (Steps.refl _) (argsL := argsL) (rest := rest) (lenOf pd hl) rfl (by show 2 * 0 + _ ≤ _; omega) (hb hby hd) (fun _ _ => ⟨rfl, eT, hc, hs⟩)
  dsimp only at X' l1 l2 l3 st hQ
  subst l1 l2 l3
  exact Go.of (fun _ q => st.trans q) (k _ _ _ X' hQ)
end OwnKit
section OwnLib
/-- b is 1 where P holds, 0 where it doesn't -/
def own_bool (b : Int32) (P : Prop) : Prop := (b = 1 ∧ P) ∨ (b = 0 ∧ ¬ P)
theorem own_bool_01 {b : Int32} {P : Prop} (h : own_bool b P) : b = 0 ∨ b = 1 := h.elim (fun q => Or.inr q.1) (fun q => Or.inl q.1)
theorem own_bool_iff {b : Int32} {P : Prop} (h : own_bool b P) : b = 1 ↔ P := h.elim (fun q => ⟨fun _ => q.2, fun _ => q.1⟩) (fun q => ⟨fun z => absurd (q.1.symm.trans z) (by decide), fun z => absurd z q.2⟩)
theorem own_bool_zero {b : Int32} {P : Prop} (h : own_bool b P) : b = 0 ↔ ¬ P := h.elim (fun q => ⟨fun z => absurd (q.1.symm.trans z) (by decide), fun z => absurd q.2 z⟩) (fun q => ⟨fun _ => q.2, fun _ => q.1⟩)
theorem own_bool_eq {a b : Int32} {P P' : Prop} (h : own_bool a P) (h' : own_bool b P') (i : P ↔ P') : a = b := by
  rcases h with ⟨rfl, q⟩ | ⟨rfl, q⟩ <;> rcases h' with ⟨rfl, q'⟩ | ⟨rfl, q'⟩ <;> first | rfl | exact absurd (i.mp q) q' | exact absurd (i.mpr q') q
theorem own_inc (i : Int32) (h : i.toInt < 2147483647) : (i + 1).toInt = i.toInt + 1 := by
  have a := c_iadd i 1
  have e : (1 : Int32).toInt = 1 := rfl
  rw [e] at a
  have b := rng32 i
  have b' := rng32 (i + 1)
  omega
theorem own_dec (i : Int32) (h : -2147483648 < i.toInt) : (i - 1).toInt = i.toInt - 1 := by
  have a := c_isub i 1
  have e : (1 : Int32).toInt = 1 := rfl
  rw [e] at a
  have b := rng32 i
  have b' := rng32 (i - 1)
  omega
theorem own_add (x y : Int32) (h1 : -2147483648 ≤ x.toInt + y.toInt) (h2 : x.toInt + y.toInt < 2147483648) : (x + y).toInt = x.toInt + y.toInt := by
  have a := c_iadd x y
  have b := rng32 (x + y)
  omega
theorem own_sub (x y : Int32) (h1 : -2147483648 ≤ x.toInt - y.toInt) (h2 : x.toInt - y.toInt < 2147483648) : (x - y).toInt = x.toInt - y.toInt := by
  have a := c_isub x y
  have b := rng32 (x - y)
  omega
/-- (u & 0x7fffffff) % n lies from 0 up to n - 1 -/
theorem own_modr (u n : Int32) (hn : 0 < n.toInt) : 0 ≤ ((u &&& 2147483647) % n).toInt ∧ ((u &&& 2147483647) % n).toInt < n.toInt := by
  have a1 := c_mask u 2147483647 31 (by decide) (by decide)
  have a2 := (c_iremV (u &&& 2147483647) n).1 (by omega) hn
  omega
def QI (h0 : Heap) (P : Int32 → Prop) : Option Value → Heap → List Loc → Prop := fun v h L => (∃ r, v = some (.int r) ∧ P r) ∧ h = h0 ∧ L = []
def QL (h0 : Heap) (P : Int64 → Prop) : Option Value → Heap → List Loc → Prop := fun v h L => (∃ r, v = some (.long r) ∧ P r) ∧ h = h0 ∧ L = []
def QV (h0 : Heap) : Option Value → Heap → List Loc → Prop := fun v h L => v = none ∧ h = h0 ∧ L = []
/-- what the law leaves -/
def Q0 (n0 : Nat) : Option Value → Heap → List Loc → Prop := fun v h L => v = some (.int 1) ∧ Fr n0 L
end OwnLib
/-- two places changed -/
def own_sw (τ : Nat → Nat) (a b : Nat) : Nat → Nat := fun i => if i = a then τ b else if i = b then τ a else τ i
theorem own_sw_a (τ : Nat → Nat) (a b : Nat) : own_sw τ a b a = τ b := by simp [own_sw]
theorem own_sw_b (τ : Nat → Nat) (a b : Nat) : own_sw τ a b b = τ a := by
  unfold own_sw; by_cases q : b = a
  · simp [q]
  · simp [q]
theorem own_sw_o (τ : Nat → Nat) (a b i : Nat) (h1 : i ≠ a) (h2 : i ≠ b) : own_sw τ a b i = τ i := by simp [own_sw, h1, h2]
def own_inj (sz : Nat) (τ : Nat → Nat) : Prop := ∀ i j, i < sz → j < sz → τ i = τ j → i = j
theorem own_sw_at (τ : Nat → Nat) (sz a b : Nat) (ha : a < sz) (hb : b < sz) (i : Nat) (hi : i < sz) : ∃ i', i' < sz ∧ own_sw τ a b i = τ i' ∧ ((i = a ∧ i' = b) ∨ (i = b ∧ i' = a) ∨ (i ≠ a ∧ i ≠ b ∧ i' = i)) := by
  by_cases q : i = a
  · exact ⟨b, hb, by rw [q, own_sw_a], Or.inl ⟨q, rfl⟩⟩
  · by_cases q2 : i = b
    · exact ⟨a, ha, by rw [q2, own_sw_b], Or.inr (Or.inl ⟨q2, rfl⟩)⟩
    · exact ⟨i, hi, own_sw_o τ a b i q q2, Or.inr (Or.inr ⟨q, q2, rfl⟩)⟩
theorem own_sw_inj {τ : Nat → Nat} {sz a b : Nat} (ha : a < sz) (hb : b < sz) (h : own_inj sz τ) : own_inj sz (own_sw τ a b) := by
  intro i j hi hj hq
  obtain ⟨i', h1, h2, h3⟩ := own_sw_at τ sz a b ha hb i hi
  obtain ⟨j', k1, k2, k3⟩ := own_sw_at τ sz a b ha hb j hj
  rw [h2, k2] at hq
  have := h i' j' h1 k1 hq
  omega
theorem own_sw_img {τ : Nat → Nat} {sz a b : Nat} (ha : a < sz) (hb : b < sz) (t : Nat) : (∃ i, i < sz ∧ τ i = t) ↔ ∃ i, i < sz ∧ own_sw τ a b i = t := by
  constructor
  · rintro ⟨i, hi, rfl⟩
    by_cases q : i = a
    · exact ⟨b, hb, by rw [q, own_sw_b]⟩
    · by_cases q2 : i = b
      · exact ⟨a, ha, by rw [q2, own_sw_a]⟩
      · exact ⟨i, hi, own_sw_o τ a b i q q2⟩
  · rintro ⟨i, hi, rfl⟩
    obtain ⟨i', h1, h2, -⟩ := own_sw_at τ sz a b ha hb i hi
    exact ⟨i', h1, h2.symm⟩
theorem own_ul_s (K : Nat → Int64) (a : Nat) (v : Int64) : own_ul K a v a = v := if_pos rfl
theorem own_ul_o (K : Nat → Int64) (a i : Nat) (v : Int64) (q : i ≠ a) : own_ul K a v i = K i := if_neg q
theorem own_ui_s (K : Nat → Int32) (a : Nat) (v : Int32) : own_ui K a v a = v := if_pos rfl
theorem own_ui_o (K : Nat → Int32) (a i : Nat) (v : Int32) (q : i ≠ a) : own_ui K a v i = K i := if_neg q
/-- place i holds the entry τ i -/
def own_ent (key : Nat → Int64) (ub : Int32) (K : Nat → Int64) (G : Nat → Int32) (τ : Nat → Nat) (i : Nat) : Prop := K i = key (τ i) ∧ G i = ub + Int32.ofNat (τ i)
/-- a heap of sz entries, those of Lv -/
def own_hp (key : Nat → Int64) (ub : Int32) (sz : Nat) (K : Nat → Int64) (G : Nat → Int32) (τ : Nat → Nat) (Lv : Nat → Prop) : Prop :=
  (∀ i, i < sz → own_ent key ub K G τ i) ∧ (∀ i, 0 < i → i < sz → (key (τ ((i - 1) / 2))).toInt ≤ (key (τ i)).toInt) ∧ own_inj sz τ ∧ ∀ t, Lv t ↔ ∃ i, i < sz ∧ τ i = t
def own_upi (key : Nat → Int64) (ub : Int32) (t sz ix : Nat) (K : Nat → Int64) (G : Nat → Int32) (τ : Nat → Nat) (Lv : Nat → Prop) : Prop :=
  ix < sz ∧ τ ix = t ∧ (∀ i, i < sz → i ≠ ix → own_ent key ub K G τ i) ∧ (∀ i, 0 < i → i < sz → i ≠ ix → (key (τ ((i - 1) / 2))).toInt ≤ (key (τ i)).toInt) ∧
  (∀ i, 0 < i → i < sz → (i - 1) / 2 = ix → 0 < ix → (key (τ ((ix - 1) / 2))).toInt ≤ (key (τ i)).toInt) ∧ own_inj sz τ ∧ ∀ t, Lv t ↔ ∃ i, i < sz ∧ τ i = t
theorem own_ent_st {key : Nat → Int64} {ub : Int32} {K : Nat → Int64} {G : Nat → Int32} {τ : Nat → Nat} {a b i : Nat} (h1 : i ≠ b) (hb : own_ent key ub K G τ b) (h : i ≠ a → own_ent key ub K G τ i) : own_ent key ub (own_ul K a (K b)) (own_ui G a (G b)) (own_sw τ a b) i := by
  unfold own_ent at *
  by_cases q : i = a
  · subst q; rw [own_ul_s, own_ui_s, own_sw_a]; exact hb
  · rw [own_ul_o _ _ _ _ q, own_ui_o _ _ _ _ q, own_sw_o τ a b i q h1]; exact h q
theorem own_up_start {key : Nat → Int64} {ub : Int32} {sz : Nat} {K : Nat → Int64} {G : Nat → Int32} {τ : Nat → Nat} {Lv : Nat → Prop} (t : Nat) (h : own_hp key ub sz K G τ Lv) (ht : ¬ Lv t) : own_upi key ub t (sz + 1) sz K G (fun i => if i = sz then t else τ i) (fun t' => Lv t' ∨ t' = t) := by
  obtain ⟨h1, h2, h3, h4⟩ := h
  have e : ∀ i, i ≠ sz → (fun i => if i = sz then t else τ i) i = τ i := fun i q => if_neg q
  have e' : (fun i => if i = sz then t else τ i) sz = t := if_pos rfl
  generalize (fun i => if i = sz then t else τ i) = τ' at e e'
  refine ⟨by omega, e', fun i a b => ?_, fun i a b d => ?_, fun i a b d => by omega, fun i j a b d => ?_, fun t' => ?_⟩
  · unfold own_ent; rw [e i b]; exact h1 i (by omega)
  · rw [e i d, e _ (by omega)]; exact h2 i a (by omega)
  · by_cases q : i = sz
    · by_cases q2 : j = sz
      · omega
      · rw [q, e', e j q2] at d
        exact absurd ((h4 t).mpr ⟨j, by omega, d.symm⟩) ht
    · by_cases q2 : j = sz
      · rw [q2, e', e i q] at d
        exact absurd ((h4 t).mpr ⟨i, by omega, d⟩) ht
      · rw [e i q, e j q2] at d; exact h3 i j (by omega) (by omega) d
  · constructor
    · rintro (q | q)
      · obtain ⟨i, a, b⟩ := (h4 t').mp q; exact ⟨i, by omega, by rw [e i (by omega)]; exact b⟩
      · exact ⟨sz, by omega, by rw [e', q]⟩
    · rintro ⟨i, a, b⟩
      by_cases q : i = sz
      · rw [q, e'] at b; exact Or.inr b.symm
      · rw [e i q] at b; exact Or.inl ((h4 t').mpr ⟨i, by omega, b⟩)
theorem own_up_step {key : Nat → Int64} {ub : Int32} {t sz ix pa : Nat} {K : Nat → Int64} {G : Nat → Int32} {τ : Nat → Nat} {Lv : Nat → Prop} (h : own_upi key ub t sz ix K G τ Lv) (h0 : 0 < ix) (hp : pa = (ix - 1) / 2) (hlt : (key t).toInt < (K pa).toInt) : own_upi key ub t sz pa (own_ul K ix (K pa)) (own_ui G ix (G pa)) (own_sw τ ix pa) Lv := by
  obtain ⟨h1, h2, h3, h4, h5, h6, h7⟩ := h
  have hpi : pa < ix := by omega
  have hep := h3 pa (by omega) (by omega)
  rw [hep.1] at hlt
  have e1 := own_sw_a τ ix pa
  have e2 := own_sw_b τ ix pa
  have e3 := own_sw_o τ ix pa
  refine ⟨by omega, by rw [e2, h2], fun i a b => own_ent_st b hep (h3 i a), fun i a b d => ?_, fun i a b d f => ?_, own_sw_inj h1 (by omega) h6, fun t' => ?_⟩
  · by_cases q : i = ix
    · rw [q, ← hp, e2, e1, h2]; omega
    · rw [e3 i q d]
      by_cases q2 : (i - 1) / 2 = ix
      · rw [q2, e1, hp]; exact h5 i a b q2 h0
      · by_cases q3 : (i - 1) / 2 = pa
        · rw [q3, e2, h2]; have := h4 i a b q; rw [q3] at this; omega
        · rw [e3 _ q2 q3]; exact h4 i a b q
  · rw [e3 ((pa - 1) / 2) (by omega) (by omega)]
    have k1 := h4 pa f (by omega) (by omega)
    by_cases q : i = ix
    · rw [q, e1]; exact k1
    · rw [e3 i q (by omega)]; have := h4 i a b q; rw [d] at this; omega
  · rw [h7 t']; exact own_sw_img h1 (by omega) t'
theorem own_up_end {key : Nat → Int64} {ub : Int32} {t sz ix : Nat} {K : Nat → Int64} {G : Nat → Int32} {τ : Nat → Nat} {Lv : Nat → Prop} (h : own_upi key ub t sz ix K G τ Lv) (hq : 0 < ix → (K ((ix - 1) / 2)).toInt ≤ (key t).toInt) {nk : Int64} {nt : Int32} (hk : nk = key t) (hn : nt = ub + Int32.ofNat t) : own_hp key ub sz (own_ul K ix nk) (own_ui G ix nt) τ Lv := by
  obtain ⟨h1, h2, h3, h4, h5, h6, h7⟩ := h
  refine ⟨fun i a => ?_, fun i a b => ?_, h6, h7⟩
  · unfold own_ent
    by_cases q : i = ix
    · rw [q, own_ul_s, own_ui_s, h2]; exact ⟨hk, hn⟩
    · rw [own_ul_o _ _ _ _ q, own_ui_o _ _ _ _ q]; exact h3 i a q
  · by_cases q : i = ix
    · have := hq (by omega)
      rw [(h3 ((ix - 1) / 2) (by omega) (by omega)).1] at this
      rw [q, h2]; exact this
    · exact h4 i a b q
def own_dni (key : Nat → Int64) (ub : Int32) (t sz ix : Nat) (K : Nat → Int64) (G : Nat → Int32) (τ : Nat → Nat) (Lv : Nat → Prop) : Prop :=
  (0 < sz → ix < sz ∧ τ ix = t) ∧ (∀ i, i < sz → i ≠ ix → own_ent key ub K G τ i) ∧ (∀ i, 0 < i → i < sz → (i - 1) / 2 ≠ ix → (key (τ ((i - 1) / 2))).toInt ≤ (key (τ i)).toInt) ∧
  (∀ i, 0 < i → i < sz → (i - 1) / 2 = ix → 0 < ix → (key (τ ((ix - 1) / 2))).toInt ≤ (key (τ i)).toInt) ∧ own_inj sz τ ∧ ∀ t, Lv t ↔ ∃ i, i < sz ∧ τ i = t
theorem own_dn_start {key : Nat → Int64} {ub : Int32} {sz : Nat} {K : Nat → Int64} {G : Nat → Int32} {τ : Nat → Nat} {Lv : Nat → Prop} (h : own_hp key ub (sz + 1) K G τ Lv) : own_dni key ub (τ sz) sz 0 K G (fun i => if i = 0 then τ sz else τ i) (fun t => Lv t ∧ t ≠ τ 0) := by
  obtain ⟨h1, h2, h3, h4⟩ := h
  have e : ∀ i, i ≠ 0 → (fun i => if i = 0 then τ sz else τ i) i = τ i := fun i q => if_neg q
  have e' : (fun i => if i = 0 then τ sz else τ i) 0 = τ sz := if_pos rfl
  generalize (fun i => if i = 0 then τ sz else τ i) = τ' at e e'
  refine ⟨fun z => ⟨z, e'⟩, fun i a b => ?_, fun i a b d => ?_, fun i a b d f => by omega, fun i j a b d => ?_, fun t => ?_⟩
  · unfold own_ent; rw [e i b]; exact h1 i (by omega)
  · rw [e i (by omega), e _ d]; exact h2 i a (by omega)
  · by_cases q : i = 0
    · by_cases q2 : j = 0
      · omega
      · rw [q, e', e j q2] at d
        have := h3 sz j (by omega) (by omega) d; omega
    · by_cases q2 : j = 0
      · rw [q2, e', e i q] at d
        have := h3 i sz (by omega) (by omega) d; omega
      · rw [e i q, e j q2] at d; exact h3 i j (by omega) (by omega) d
  · constructor
    · rintro ⟨q, q2⟩
      obtain ⟨i, a, b⟩ := (h4 t).mp q
      have hi : i ≠ 0 := fun z => q2 (by rw [← b, z])
      by_cases z : i = sz
      · exact ⟨0, by omega, by rw [e', ← z]; exact b⟩
      · exact ⟨i, by omega, by rw [e i hi]; exact b⟩
    · rintro ⟨i, a, b⟩
      by_cases q : i = 0
      · rw [q, e'] at b
        exact ⟨(h4 t).mpr ⟨sz, by omega, b⟩, fun z => by have := h3 sz 0 (by omega) (by omega) (b.trans z); omega⟩
      · rw [e i q] at b
        exact ⟨(h4 t).mpr ⟨i, by omega, b⟩, fun z => by have := h3 i 0 (by omega) (by omega) (b.trans z); omega⟩
theorem own_dn_step {key : Nat → Int64} {ub : Int32} {t sz ix ch : Nat} {K : Nat → Int64} {G : Nat → Int32} {τ : Nat → Nat} {Lv : Nat → Prop} (h : own_dni key ub t sz ix K G τ Lv) (hp : 0 < ch ∧ (ch - 1) / 2 = ix) (hs : ch < sz) (hmin : ∀ i, 0 < i → i < sz → (i - 1) / 2 = ix → (K ch).toInt ≤ (K i).toInt) (hlt : (K ch).toInt < (key t).toInt) : own_dni key ub t sz ch (own_ul K ix (K ch)) (own_ui G ix (G ch)) (own_sw τ ix ch) Lv := by
  obtain ⟨h1, h3, h4, h5, h6, h7⟩ := h
  obtain ⟨h1, h2⟩ := h1 (by omega)
  have hpi : ix < ch := by omega
  have hep := h3 ch (by omega) (by omega)
  rw [hep.1] at hlt
  have hmin' : ∀ i, 0 < i → i < sz → (i - 1) / 2 = ix → (key (τ ch)).toInt ≤ (key (τ i)).toInt := fun i a b d => by
    have := hmin i a b d
    rw [hep.1, (h3 i b (by omega)).1] at this; exact this
  have e1 := own_sw_a τ ix ch
  have e2 := own_sw_b τ ix ch
  have e3 := own_sw_o τ ix ch
  refine ⟨fun _ => ⟨hs, by rw [e2, h2]⟩, fun i a b => own_ent_st b hep (h3 i a), fun i a b d => ?_, fun i a b d f => ?_, own_sw_inj h1 hs h6, fun t' => ?_⟩
  · by_cases q : (i - 1) / 2 = ix
    · rw [q, e1]
      by_cases q2 : i = ch
      · rw [q2, e2, h2]; omega
      · rw [e3 i (by omega) q2]; exact hmin' i a b q
    · rw [e3 ((i - 1) / 2) q d]
      by_cases q2 : i = ix
      · rw [q2, e1]; exact h5 ch hp.1 hs hp.2 (by omega)
      · by_cases q3 : i = ch
        · omega
        · rw [e3 i q2 q3]; exact h4 i a b q
  · rw [hp.2, e1, e3 i (by omega) (by omega)]
    have := h4 i a b (by omega)
    rw [d] at this; exact this
  · rw [h7 t']; exact own_sw_img h1 hs t'
theorem own_dn_end {key : Nat → Int64} {ub : Int32} {t sz ix : Nat} {K : Nat → Int64} {G : Nat → Int32} {τ : Nat → Nat} {Lv : Nat → Prop} (h : own_dni key ub t sz ix K G τ Lv) (hq : ∀ i, 0 < i → i < sz → (i - 1) / 2 = ix → (key t).toInt ≤ (K i).toInt) {nk : Int64} {nt : Int32} (hk : nk = key t) (hn : nt = ub + Int32.ofNat t) : own_hp key ub sz (own_ul K ix nk) (own_ui G ix nt) τ Lv := by
  obtain ⟨h1, h3, h4, h5, h6, h7⟩ := h
  refine ⟨fun i a => ?_, fun i a b => ?_, h6, h7⟩
  · unfold own_ent
    by_cases q : i = ix
    · rw [q, own_ul_s, own_ui_s, (h1 (by omega)).2]; exact ⟨hk, hn⟩
    · rw [own_ul_o _ _ _ _ q, own_ui_o _ _ _ _ q]; exact h3 i a q
  · by_cases q : (i - 1) / 2 = ix
    · have := hq i a b q
      rw [(h3 i b (by omega)).1] at this
      rw [q, (h1 (by omega)).2]; exact this
    · exact h4 i a b q
theorem own_hp_min {key : Nat → Int64} {ub : Int32} {sz : Nat} {K : Nat → Int64} {G : Nat → Int32} {τ : Nat → Nat} {Lv : Nat → Prop} (h : own_hp key ub sz K G τ Lv) (i : Nat) : i < sz → (key (τ 0)).toInt ≤ (key (τ i)).toInt := by
  induction i using Nat.strongRecOn with
  | _ i ih =>
    intro hi
    by_cases q : i = 0
    · rw [q]; exact Int.le_refl _
    · exact Int.le_trans (ih ((i - 1) / 2) (by omega) (by omega)) (h.2.1 i (by omega) hi)
def own_lt (cf : Nat → Int32) (n : Int) (j i : Nat) : Prop := (j : Int) < n ∧ j ≠ i ∧ ((cf j).toInt < (cf i).toInt ∨ ((cf j).toInt = (cf i).toInt ∧ j < i))
instance own_ltD (cf : Nat → Int32) (n : Int) (j i : Nat) : Decidable (own_lt cf n j i) := by unfold own_lt; infer_instance
def own_rk (cf : Nat → Int32) (n : Int) (i : Nat) : Int := (if own_lt cf n 0 i then 1 else 0) + (if own_lt cf n 1 i then 1 else 0) + (if own_lt cf n 2 i then 1 else 0) + (if own_lt cf n 3 i then 1 else 0) + (if own_lt cf n 4 i then 1 else 0) + (if own_lt cf n 5 i then 1 else 0)
def own_ct (D : Nat → Bool) : Int := (if D 0 then 1 else 0) + (if D 1 then 1 else 0) + (if D 2 then 1 else 0) + (if D 3 then 1 else 0) + (if D 4 then 1 else 0) + (if D 5 then 1 else 0)
/-- after k removals: D are out, each before every one that is left -/
def own_iv (key : Nat → Int64) (ub : Int32) (n : Int) (sz : Nat) (K : Nat → Int64) (G : Nat → Int32) (τ : Nat → Nat) (D : Nat → Bool) (k : Int) : Prop :=
  own_hp key ub sz K G τ (fun t => (t : Int) < n ∧ D t = false) ∧ (∀ j t : Nat, D j = true → (t : Int) < n → D t = false → (key j).toInt < (key t).toInt) ∧ (∀ j : Nat, D j = true → (j : Int) < n) ∧ own_ct D = min k n ∧ (sz : Int) = n - min k n
def own_ko (key : Nat → Int64) (cf : Nat → Int32) : Prop := ∀ i j, i < 6 → j < 6 → ((key i).toInt < (key j).toInt ↔ (cf i).toInt < (cf j).toInt ∨ ((cf i).toInt = (cf j).toInt ∧ i < j))
theorem own_iv_rank {key : Nat → Int64} {cf : Nat → Int32} {ub : Int32} {n : Int} {sz : Nat} {K : Nat → Int64} {G : Nat → Int32} {τ : Nat → Nat} {D : Nat → Bool} {k : Int} (hko : own_ko key cf) (hn : n ≤ 6) (h : own_iv key ub n sz K G τ D k) (hk : 0 ≤ k) (hkn : k < n) : (τ 0 : Int) < n ∧ G 0 = ub + Int32.ofNat (τ 0) ∧ own_rk cf n (τ 0) = k ∧ D (τ 0) = false := by
  obtain ⟨hp, h2, h3, h4, h5⟩ := h
  have hs : 0 < sz := by omega
  have l0 := (hp.2.2.2 (τ 0)).mpr ⟨0, hs, rfl⟩
  have hm : ∀ j : Nat, j < 6 → ((own_lt cf n j (τ 0)) ↔ D j = true) := fun j hj => by
    have o := hko j (τ 0) hj (by omega)
    unfold own_lt
    cases hD : D j with
    | true =>
      have a := h2 j (τ 0) hD l0.1 l0.2
      have b := h3 j hD
      have d : j ≠ τ 0 := fun z => by rw [z, l0.2] at hD; cases hD
      exact ⟨fun _ => rfl, fun _ => ⟨b, d, o.mp a⟩⟩
    | false =>
      refine ⟨fun ⟨a, b, d⟩ => ?_, fun z => nomatch z⟩
      obtain ⟨i, q1, q2⟩ := (hp.2.2.2 j).mp ⟨a, hD⟩
      have := own_hp_min hp i q1
      rw [q2] at this
      have := o.mpr d
      omega
  refine ⟨l0.1, (hp.1 0 hs).2, ?_, l0.2⟩
  unfold own_rk
  simp only [hm 0 (by decide), hm 1 (by decide), hm 2 (by decide), hm 3 (by decide), hm 4 (by decide), hm 5 (by decide)]
  have : own_ct D = k := by omega
  rw [← this]; rfl
theorem own_ct_add (D : Nat → Bool) (m : Nat) (hm : m < 6) (h : D m = false) : own_ct (fun t => D t || decide (t = m)) = own_ct D + 1 := by
  have e : m = 0 ∨ m = 1 ∨ m = 2 ∨ m = 3 ∨ m = 4 ∨ m = 5 := by omega
  rcases e with rfl | rfl | rfl | rfl | rfl | rfl <;> simp [own_ct, h] <;> omega
theorem own_iv_next {key : Nat → Int64} {cf : Nat → Int32} {ub : Int32} {n : Int} {sz sz' : Nat} {K K' : Nat → Int64} {G G' : Nat → Int32} {τ τ' : Nat → Nat} {D : Nat → Bool} {k : Int} (hko : own_ko key cf) (hn : n ≤ 6) (h : own_iv key ub n sz K G τ D k) (hk : 0 ≤ k) (hkn : k < n) (hsz : (sz' : Int) = sz - 1) (h' : own_hp key ub sz' K' G' τ' (fun t => ((t : Int) < n ∧ D t = false) ∧ t ≠ τ 0)) : own_iv key ub n sz' K' G' τ' (fun t => D t || decide (t = τ 0)) (k + 1) := by
  obtain ⟨r1, r2, r3, r4⟩ := own_iv_rank hko hn h hk hkn
  obtain ⟨hp, h2, h3, h4, h5⟩ := h
  refine ⟨?_, fun j t a b d => ?_, fun j a => ?_, ?_, by omega⟩
  · refine ⟨h'.1, h'.2.1, h'.2.2.1, fun t => ?_⟩
    rw [← h'.2.2.2 t]
    simp only [Bool.or_eq_false_iff, decide_eq_false_iff_not]
    exact ⟨fun ⟨a, b, d⟩ => ⟨⟨a, b⟩, d⟩, fun ⟨⟨a, b⟩, d⟩ => ⟨a, b, d⟩⟩
  · simp only [Bool.or_eq_false_iff, decide_eq_false_iff_not] at d
    simp only [Bool.or_eq_true, decide_eq_true_eq] at a
    rcases a with a | a
    · exact h2 j t a b d.1
    · obtain ⟨i, q1, q2⟩ := (hp.2.2.2 t).mp ⟨b, d.1⟩
      have := own_hp_min hp i q1
      rw [q2] at this
      have o := hko (τ 0) t (by omega) (by omega)
      have o2 := hko t (τ 0) (by omega) (by omega)
      rw [a]
      have := d.2
      omega
  · simp only [Bool.or_eq_true, decide_eq_true_eq] at a
    rcases a with a | a
    · exact h3 j a
    · rw [a]; exact r1
  · rw [own_ct_add D (τ 0) (by omega) r4]; omega
/-- the bits of the cost as a float -/
def own_fb (u : Int32) : Int32 := (FP.d2f (FP.i2d u)).toInt32
def own_key (cf : Nat → Int32) (t : Nat) : Int64 := ((own_fb (cf t)).toInt64 <<< ((32 : Int32).toInt64 &&& 63)) ||| (Int32.ofNat t).toInt64
def own_fn : Nat → Int := fun u => if u = 0 then 0 else if u = 1 then 1065353216 else if u = 2 then 1073741824 else 1077936128
theorem own_key_at : ∀ u : Fin 4, ∀ t : Fin 6, (((own_fb (Int32.ofNat u.val)).toInt64 <<< ((32 : Int32).toInt64 &&& 63)) ||| (Int32.ofNat t.val).toInt64).toInt = own_fn u.val * 4294967296 + t.val := by decide +kernel
theorem own_nn4 : ∀ u : Fin 4, FP.d2f (FP.i2d (Int32.ofNat u.val)) &&& 0x7fffffff ≤ 0x7f800000 := by decide +kernel
theorem own_c4 (u : Int32) (h : 0 ≤ u.toInt ∧ u.toInt < 4) : ∃ v : Fin 4, u = Int32.ofNat v.val ∧ u.toInt = v.val := ⟨⟨u.toInt.toNat, by omega⟩, by
  apply Int32.toInt_inj.mp
  show u.toInt = (Int32.ofNat u.toInt.toNat).toInt
  rw [own_ofNat (by omega)]; omega, by show u.toInt = (u.toInt.toNat : Int); omega⟩
theorem own_nn (u : Int32) (h : 0 ≤ u.toInt ∧ u.toInt < 4) : FP.d2f (FP.i2d u) &&& 0x7fffffff ≤ 0x7f800000 := by
  obtain ⟨v, e, -⟩ := own_c4 u h
  rw [e]; exact own_nn4 v
theorem own_ko_at (cf : Nat → Int32) (h : ∀ t, t < 6 → 0 ≤ (cf t).toInt ∧ (cf t).toInt < 4) : own_ko (own_key cf) cf := by
  intro i j hi hj
  obtain ⟨u, e1, f1⟩ := own_c4 (cf i) (h i hi)
  obtain ⟨v, e2, f2⟩ := own_c4 (cf j) (h j hj)
  have a := own_key_at u ⟨i, hi⟩
  have b := own_key_at v ⟨j, hj⟩
  unfold own_key
  rw [f1, f2, e1, e2, a, b]
  have hu := u.isLt
  have hv := v.isLt
  simp only [own_fn]
  have c1 : u.val = 0 ∨ u.val = 1 ∨ u.val = 2 ∨ u.val = 3 := by omega
  have c2 : v.val = 0 ∨ v.val = 1 ∨ v.val = 2 ∨ v.val = 3 := by omega
  rcases c1 with c1 | c1 | c1 | c1 <;> rcases c2 with c2 | c2 | c2 | c2 <;> simp [c1, c2] <;> omega
theorem own_c2 (u y : Int32) (h : y = u &&& (3 : Int32)) : 0 ≤ y.toInt ∧ y.toInt < 4 := by
  have a := c_mask u 3 2 (by decide) (by decide)
  rw [← h] at a; omega
theorem own_par (ix pa : Int32) (h0 : 0 < ix.toInt) (h : pa = (ix - (1 : Int32)) / (2 : Int32)) : pa.toInt = (ix.toInt - 1) / 2 := by
  have a := own_dec ix (by omega)
  rw [h, Int32.toInt_div_of_ne_right _ _ (by decide), Int.tdiv_eq_ediv_of_nonneg (by omega), a]; rfl
theorem own_dbl (ix y : Int32) (h0 : 0 ≤ ix.toInt ∧ ix.toInt < 64) (h : y = ((2 : Int32) * ix) + (1 : Int32)) : y.toInt = 2 * ix.toInt + 1 := by
  have a := c_imul 2 ix
  have e : (2 : Int32).toInt = 2 := rfl
  rw [e] at a
  have r := rng32 ((2 : Int32) * ix)
  have a2 : ((2 : Int32) * ix).toInt = 2 * ix.toInt := by omega
  have b := own_inc ((2 : Int32) * ix) (by omega)
  rw [← h] at b; omega
theorem own_net (ub : Int32) (t : Nat) : ub + Int32.ofNat t - ub = Int32.ofNat t := by
  rw [Int32.add_comm, Int32.add_sub_cancel]
def QCq (Z : State) (n0 : Nat) (o tk tn : Addr) (rv : Option Value) (ws : Heap → Prop) (P : Int32 → Int32 → (Nat → Int64) → (Nat → Int32) → Prop) : Option Value → Heap → List Loc → Prop := fun v h L => ∃ (K : Nat → Int64) (G : Nat → Int32) (sz ad : Int32), v = rv ∧ Fr n0 L ∧ Exa Z h o "com/example/switchbox/switchbox/CostQueue" ∧ Fld Z h o "com/example/switchbox/switchbox/CostQueue" "keys" "[J" (.ref tk) ∧ Fld Z h o "com/example/switchbox/switchbox/CostQueue" "nets" "[I" (.ref tn) ∧ Fld Z h o "com/example/switchbox/switchbox/CostQueue" "size" "I" (.int sz) ∧ Fld Z h o "com/example/switchbox/switchbox/CostQueue" "added" "I" (.int ad) ∧ Ara Z h tk .long 64 (fun jz => .long (K jz)) ∧ Ara Z h tn .int 64 (fun jz => .int (G jz)) ∧ ws h ∧ P sz ad K G
def QCi (Z : State) (n0 : Nat) (h0 : Heap) (o : Addr) : Option Value → Heap → List Loc → Prop := fun v h L => ∃ (tk tn : Addr) (K : Nat → Int64) (G : Nat → Int32), v = none ∧ Fr n0 L ∧ n0 ≤ tk ∧ n0 ≤ tn ∧ o ≠ tk ∧ o ≠ tn ∧ tk ≠ tn ∧ h0.size ≤ tk ∧ h0.size ≤ tn ∧ Exa Z h o "com/example/switchbox/switchbox/CostQueue" ∧ Fld Z h o "com/example/switchbox/switchbox/CostQueue" "keys" "[J" (.ref tk) ∧ Fld Z h o "com/example/switchbox/switchbox/CostQueue" "nets" "[I" (.ref tn) ∧ Fld Z h o "com/example/switchbox/switchbox/CostQueue" "size" "I" (.int 0) ∧ Fld Z h o "com/example/switchbox/switchbox/CostQueue" "added" "I" (.int 0) ∧ Ara Z h tk .long 64 (fun jz => .long (K jz)) ∧ Ara Z h tn .int 64 (fun jz => .int (G jz)) ∧ Keep h0 h [o]
theorem ef_1 (m : MethodId) (o : Addr) : entryFrame m #[(.ref o)] 1 = mkF m 0 #[.val (.ref o)] [] := by first | (simp [entryFrame, mkF, argsToLocals, Value.category]; done) | rfl
theorem pn_1 : plainName "com/example/switchbox/switchbox/CostQueue" = true := by first | (simp [plainName, overriddenIn]; done) | decide +kernel
theorem d1_0 : decode prog_10_method_1_code 0 = .ok (.aload_n 0, 1) := by decide +kernel
theorem d1_1 : decode prog_10_method_1_code 1 = .ok (.invokespecial 1, 3) := by decide +kernel
theorem d1_4 : decode prog_10_method_1_code 4 = .ok (.aload_n 0, 1) := by decide +kernel
theorem d1_5 : decode prog_10_method_1_code 5 = .ok (.bipush 64, 2) := by decide +kernel
theorem d1_7 : decode prog_10_method_1_code 7 = .ok (.newarray .long, 2) := by decide +kernel
theorem d1_9 : decode prog_10_method_1_code 9 = .ok (.putfield 7, 3) := by decide +kernel
theorem d1_12 : decode prog_10_method_1_code 12 = .ok (.aload_n 0, 1) := by decide +kernel
theorem d1_13 : decode prog_10_method_1_code 13 = .ok (.bipush 64, 2) := by decide +kernel
theorem d1_15 : decode prog_10_method_1_code 15 = .ok (.newarray .int, 2) := by decide +kernel
theorem d1_17 : decode prog_10_method_1_code 17 = .ok (.putfield 13, 3) := by decide +kernel
theorem d1_20 : decode prog_10_method_1_code 20 = .ok (.return_, 1) := by decide +kernel
set_option maxRecDepth 65536 in
set_option maxHeartbeats 40000000 in
theorem rm1 (l : Launch) (Z : State) (a0 : Array Value) (hw : ∀ d ∈ tables_1, d.before a0 Z = true) (o : Addr) (n0 : Nat) (h0 : Heap) (Z0 : n0 ≤ h0.size) (g_o : n0 ≤ o) (E_o : Exa Z h0 o "com/example/switchbox/switchbox/CostQueue") (F1 : Fld Z h0 o "com/example/switchbox/switchbox/CostQueue" "keys" "[J" .null) (F2 : Fld Z h0 o "com/example/switchbox/switchbox/CostQueue" "nets" "[I" .null) (F3 : Fld Z h0 o "com/example/switchbox/switchbox/CostQueue" "size" "I" (.int 0)) (F4 : Fld Z h0 o "com/example/switchbox/switchbox/CostQueue" "added" "I" (.int 0)) :
    Ct l Z (⟨"com/example/switchbox/switchbox/CostQueue", "<init>", "()V"⟩ : MethodName) prog_10_method_1_code 1 none ({ frames := 1, cells := 2, slots := 128, locals := 12 } : Room) #[(.ref o)] h0 (QCi Z n0 h0 o) := by
  refine own_met (plainFor_of_name pn_1) (fun m => ef_1 m o) ?_
  intro p e s m below meth c T0 X0 hx hby hml hown hnm hret hlk hZ e0
  have N0 := Fr.nil n0
  refine g_aloadN X0 hx hby d1_0 (pc' := 1) rfl rfl rfl ?_
  refine g_initO X0 hx hby hZ hown e0 (hw _ (List.mem_of_getElem? (i := 8) rfl)) (hw _ (List.mem_of_getElem? (i := 9) rfl)) (hw _ (List.mem_of_getElem? (i := 10) rfl)) hml rfl d1_1 (pc' := 4) rfl (by decide) (Nat.le_of_ble_eq_true rfl) (fun Tp1 Xp1 ep1 => ?_)
  refine g_aloadN Xp1 hx hby d1_4 (pc' := 5) rfl rfl rfl ?_
  refine g_bipush Xp1 hx hby d1_5 (pc' := 7) rfl (n := (64 : Int32)) (by first | rfl | decide) ?_
  refine g_newA Xp1 hx hby hZ ep1 (N := 64) (hw _ (List.mem_of_getElem? (i := 11) rfl)) d1_7 (pc' := 9) rfl rfl (cap := 64) (Nat.le_refl _) (by decide) (by decide) (by decide) (fun T1 h1 tk g1 X1 e1 E1 A_tk => ?_)
  have ne2 : o ≠ tk := by rw [g1]; exact Nat.ne_of_lt E_o.lt
  have g3 : n0 ≤ tk := by rw [g1]; exact Z0
  have o4 : h0.size ≤ tk := by rw [g1]; exact (Keep.refl h0 [o]).1
  replace E_o := E_o.ext E1
  replace F1 := F1.ext E1
  replace F2 := F2.ext E1
  replace F3 := F3.ext E1
  replace F4 := F4.ext E1
  have Z5 : n0 ≤ h1.size := Nat.le_trans Z0 E1.1
  have K6 := (Keep.refl h0 [o]).ext E1
  replace X1 : Stand p l e ({ frames := 1, cells := 2, slots := 128, locals := 12 } : Room) s m _ below meth c T1 _ 1 64 := X1
  replace A_tk : Ara Z h1 tk .long 64 (fun jz => .long ((fun _ => (0 : Int64)) jz)) := A_tk
  refine g_putF X1 hx hby hZ hown e1 (hw _ (List.mem_of_getElem? (i := 12) rfl)) F1 E_o (Or.inl (hw _ (List.mem_of_getElem? (i := 13) rfl))) (hw _ (List.mem_of_getElem? (i := 3) rfl)) (ty := (.array .long)) (by decide) rfl rfl d1_9 (pc' := 12) rfl (fun T7 h7 X7 e7 W7 => ?_)
  replace E_o := E_o.wr W7
  replace F1 := F1.same W7
  replace F2 := F2.other W7 (Or.inr (slot_ne (Or.inl (hw _ (List.mem_of_getElem? (i := 15) rfl))) (Or.inl (hw _ (List.mem_of_getElem? (i := 13) rfl))) (by decide) (t := (.array .int)) (t' := (.array .long)) (by decide) (by decide)))
  replace F3 := F3.other W7 (Or.inr (slot_ne (Or.inl (hw _ (List.mem_of_getElem? (i := 22) rfl))) (Or.inl (hw _ (List.mem_of_getElem? (i := 13) rfl))) (by decide) (t := .int) (t' := (.array .long)) (by decide) (by decide)))
  replace F4 := F4.other W7 (Or.inr (slot_ne (Or.inl (hw _ (List.mem_of_getElem? (i := 28) rfl))) (Or.inl (hw _ (List.mem_of_getElem? (i := 13) rfl))) (by decide) (t := .int) (t' := (.array .long)) (by decide) (by decide)))
  replace A_tk := A_tk.other W7 (Ne.symm ne2)
  have Z8 : n0 ≤ h7.size := by rw [W7.size]; exact Z5
  have K9 := K6.wr W7 (Or.inl (List.mem_of_getElem? (i := 0) rfl))
  have N10 := Fr.snoc X7 N0 g_o
  refine g_aloadN X7 hx hby d1_12 (pc' := 13) rfl rfl rfl ?_
  refine g_bipush X7 hx hby d1_13 (pc' := 15) rfl (n := (64 : Int32)) (by first | rfl | decide) ?_
  refine g_newA X7 hx hby hZ e7 (N := 64) (hw _ (List.mem_of_getElem? (i := 1) rfl)) d1_15 (pc' := 17) rfl rfl (cap := 64) (Nat.le_refl _) (by decide) (by decide) (by decide) (fun T11 h11 tn g11 X11 e11 E11 A_tn => ?_)
  have ne12 : o ≠ tn := by rw [g11]; exact Nat.ne_of_lt E_o.lt
  have ne13 : tk ≠ tn := by rw [g11]; exact Nat.ne_of_lt A_tk.lt
  have g14 : n0 ≤ tn := by rw [g11]; exact Z8
  have o15 : h0.size ≤ tn := by rw [g11]; exact K9.1
  replace E_o := E_o.ext E11
  replace F1 := F1.ext E11
  replace F2 := F2.ext E11
  replace F3 := F3.ext E11
  replace F4 := F4.ext E11
  replace A_tk := A_tk.ext E11
  have Z16 : n0 ≤ h11.size := Nat.le_trans Z8 E11.1
  have K17 := K9.ext E11
  replace X11 : Stand p l e ({ frames := 1, cells := 2, slots := 128, locals := 12 } : Room) s m _ below meth c T11 _ 2 128 := X11
  replace A_tn : Ara Z h11 tn .int 64 (fun jz => .int ((fun _ => (0 : Int32)) jz)) := A_tn
  refine g_putF X11 hx hby hZ hown e11 (hw _ (List.mem_of_getElem? (i := 14) rfl)) F2 E_o (Or.inl (hw _ (List.mem_of_getElem? (i := 15) rfl))) (hw _ (List.mem_of_getElem? (i := 3) rfl)) (ty := (.array .int)) (by decide) rfl rfl d1_17 (pc' := 20) rfl (fun T18 h18 X18 e18 W18 => ?_)
  replace E_o := E_o.wr W18
  replace F1 := F1.other W18 (Or.inr (slot_ne (Or.inl (hw _ (List.mem_of_getElem? (i := 13) rfl))) (Or.inl (hw _ (List.mem_of_getElem? (i := 15) rfl))) (by decide) (t := (.array .long)) (t' := (.array .int)) (by decide) (by decide)))
  replace F2 := F2.same W18
  replace F3 := F3.other W18 (Or.inr (slot_ne (Or.inl (hw _ (List.mem_of_getElem? (i := 22) rfl))) (Or.inl (hw _ (List.mem_of_getElem? (i := 15) rfl))) (by decide) (t := .int) (t' := (.array .int)) (by decide) (by decide)))
  replace F4 := F4.other W18 (Or.inr (slot_ne (Or.inl (hw _ (List.mem_of_getElem? (i := 28) rfl))) (Or.inl (hw _ (List.mem_of_getElem? (i := 15) rfl))) (by decide) (t := .int) (t' := (.array .int)) (by decide) (by decide)))
  replace A_tk := A_tk.other W18 (Ne.symm ne2)
  replace A_tn := A_tn.other W18 (Ne.symm ne12)
  have Z19 : n0 ≤ h18.size := by rw [W18.size]; exact Z16
  have K20 := K17.wr W18 (Or.inl (List.mem_of_getElem? (i := 0) rfl))
  have N21 := Fr.snoc X18 N10 g_o
  exact g_retV X18 hx hby hlk hret d1_20 (by decide) (by decide) (by rw [e18]; exact ⟨tk, tn, _, _, rfl, N21, g3, g14, ne2, ne12, ne13, o4, o15, E_o, F1, F2, F3, F4, A_tk, A_tn, K20⟩)
theorem ef_3 (m : MethodId) (o : Addr) (nt : Int32) (dv : UInt64) : entryFrame m #[(.ref o), (.int nt), (.double dv)] 8 = mkF m 0 #[.val (.ref o), .val (.int nt), .val (.double dv), .second, .unset, .unset, .unset, .unset] [] := by first | (simp [entryFrame, mkF, argsToLocals, Value.category]; done) | rfl
theorem pn_3 : plainName "com/example/switchbox/switchbox/CostQueue" = true := by first | (simp [plainName, overriddenIn]; done) | decide +kernel
theorem d3_0 : decode prog_10_method_4_code 0 = .ok (.aload_n 0, 1) := by decide +kernel
theorem d3_1 : decode prog_10_method_4_code 1 = .ok (.getfield 17, 3) := by decide +kernel
theorem d3_4 : decode prog_10_method_4_code 4 = .ok (.aload_n 0, 1) := by decide +kernel
theorem d3_5 : decode prog_10_method_4_code 5 = .ok (.getfield 13, 3) := by decide +kernel
theorem d3_8 : decode prog_10_method_4_code 8 = .ok (.arraylength, 1) := by decide +kernel
theorem d3_9 : decode prog_10_method_4_code 9 = .ok (.if_icmp .ne 37, 3) := by decide +kernel
theorem d3_46 : decode prog_10_method_4_code 46 = .ok (.dload_n 2, 1) := by decide +kernel
theorem d3_47 : decode prog_10_method_4_code 47 = .ok (.d2f, 1) := by decide +kernel
theorem d3_48 : decode prog_10_method_4_code 48 = .ok (.invokestatic 33, 3) := by decide +kernel
theorem d3_51 : decode prog_10_method_4_code 51 = .ok (.i2l, 1) := by decide +kernel
theorem d3_52 : decode prog_10_method_4_code 52 = .ok (.bipush 32, 2) := by decide +kernel
theorem d3_54 : decode prog_10_method_4_code 54 = .ok (.lshl, 1) := by decide +kernel
theorem d3_55 : decode prog_10_method_4_code 55 = .ok (.aload_n 0, 1) := by decide +kernel
theorem d3_56 : decode prog_10_method_4_code 56 = .ok (.dup, 1) := by decide +kernel
theorem d3_57 : decode prog_10_method_4_code 57 = .ok (.getfield 21, 3) := by decide +kernel
theorem d3_60 : decode prog_10_method_4_code 60 = .ok (.dup_x1, 1) := by decide +kernel
theorem d3_61 : decode prog_10_method_4_code 61 = .ok (.iconst 1, 1) := by decide +kernel
theorem d3_62 : decode prog_10_method_4_code 62 = .ok (.iadd, 1) := by decide +kernel
theorem d3_63 : decode prog_10_method_4_code 63 = .ok (.putfield 21, 3) := by decide +kernel
theorem d3_66 : decode prog_10_method_4_code 66 = .ok (.i2l, 1) := by decide +kernel
theorem d3_67 : decode prog_10_method_4_code 67 = .ok (.lor, 1) := by decide +kernel
theorem d3_68 : decode prog_10_method_4_code 68 = .ok (.lstore 4, 2) := by decide +kernel
theorem d3_70 : decode prog_10_method_4_code 70 = .ok (.aload_n 0, 1) := by decide +kernel
theorem d3_71 : decode prog_10_method_4_code 71 = .ok (.dup, 1) := by decide +kernel
theorem d3_72 : decode prog_10_method_4_code 72 = .ok (.getfield 17, 3) := by decide +kernel
theorem d3_75 : decode prog_10_method_4_code 75 = .ok (.dup_x1, 1) := by decide +kernel
theorem d3_76 : decode prog_10_method_4_code 76 = .ok (.iconst 1, 1) := by decide +kernel
theorem d3_77 : decode prog_10_method_4_code 77 = .ok (.iadd, 1) := by decide +kernel
theorem d3_78 : decode prog_10_method_4_code 78 = .ok (.putfield 17, 3) := by decide +kernel
theorem d3_81 : decode prog_10_method_4_code 81 = .ok (.istore 6, 2) := by decide +kernel
theorem d3_83 : decode prog_10_method_4_code 83 = .ok (.iload 6, 2) := by decide +kernel
theorem d3_85 : decode prog_10_method_4_code 85 = .ok (.ifCond .le 63, 3) := by decide +kernel
theorem d3_148 : decode prog_10_method_4_code 148 = .ok (.aload_n 0, 1) := by decide +kernel
theorem d3_149 : decode prog_10_method_4_code 149 = .ok (.getfield 7, 3) := by decide +kernel
theorem d3_152 : decode prog_10_method_4_code 152 = .ok (.iload 6, 2) := by decide +kernel
theorem d3_154 : decode prog_10_method_4_code 154 = .ok (.lload 4, 2) := by decide +kernel
theorem d3_156 : decode prog_10_method_4_code 156 = .ok (.lastore, 1) := by decide +kernel
theorem d3_157 : decode prog_10_method_4_code 157 = .ok (.aload_n 0, 1) := by decide +kernel
theorem d3_158 : decode prog_10_method_4_code 158 = .ok (.getfield 13, 3) := by decide +kernel
theorem d3_161 : decode prog_10_method_4_code 161 = .ok (.iload 6, 2) := by decide +kernel
theorem d3_163 : decode prog_10_method_4_code 163 = .ok (.iload_n 1, 1) := by decide +kernel
theorem d3_164 : decode prog_10_method_4_code 164 = .ok (.iastore, 1) := by decide +kernel
theorem d3_165 : decode prog_10_method_4_code 165 = .ok (.return_, 1) := by decide +kernel
theorem d3_88 : decode prog_10_method_4_code 88 = .ok (.lload 4, 2) := by decide +kernel
theorem d3_90 : decode prog_10_method_4_code 90 = .ok (.aload_n 0, 1) := by decide +kernel
theorem d3_91 : decode prog_10_method_4_code 91 = .ok (.getfield 7, 3) := by decide +kernel
theorem d3_94 : decode prog_10_method_4_code 94 = .ok (.iload 6, 2) := by decide +kernel
theorem d3_96 : decode prog_10_method_4_code 96 = .ok (.iconst 1, 1) := by decide +kernel
theorem d3_97 : decode prog_10_method_4_code 97 = .ok (.isub, 1) := by decide +kernel
theorem d3_98 : decode prog_10_method_4_code 98 = .ok (.iconst 2, 1) := by decide +kernel
theorem d3_99 : decode prog_10_method_4_code 99 = .ok (.idiv, 1) := by decide +kernel
theorem d3_100 : decode prog_10_method_4_code 100 = .ok (.laload, 1) := by decide +kernel
theorem d3_101 : decode prog_10_method_4_code 101 = .ok (.lcmp, 1) := by decide +kernel
theorem d3_102 : decode prog_10_method_4_code 102 = .ok (.ifCond .ge 46, 3) := by decide +kernel
theorem d3_105 : decode prog_10_method_4_code 105 = .ok (.iload 6, 2) := by decide +kernel
theorem d3_107 : decode prog_10_method_4_code 107 = .ok (.iconst 1, 1) := by decide +kernel
theorem d3_108 : decode prog_10_method_4_code 108 = .ok (.isub, 1) := by decide +kernel
theorem d3_109 : decode prog_10_method_4_code 109 = .ok (.iconst 2, 1) := by decide +kernel
theorem d3_110 : decode prog_10_method_4_code 110 = .ok (.idiv, 1) := by decide +kernel
theorem d3_111 : decode prog_10_method_4_code 111 = .ok (.istore 7, 2) := by decide +kernel
theorem d3_113 : decode prog_10_method_4_code 113 = .ok (.aload_n 0, 1) := by decide +kernel
theorem d3_114 : decode prog_10_method_4_code 114 = .ok (.getfield 7, 3) := by decide +kernel
theorem d3_117 : decode prog_10_method_4_code 117 = .ok (.iload 6, 2) := by decide +kernel
theorem d3_119 : decode prog_10_method_4_code 119 = .ok (.aload_n 0, 1) := by decide +kernel
theorem d3_120 : decode prog_10_method_4_code 120 = .ok (.getfield 7, 3) := by decide +kernel
theorem d3_123 : decode prog_10_method_4_code 123 = .ok (.iload 7, 2) := by decide +kernel
theorem d3_125 : decode prog_10_method_4_code 125 = .ok (.laload, 1) := by decide +kernel
theorem d3_126 : decode prog_10_method_4_code 126 = .ok (.lastore, 1) := by decide +kernel
theorem d3_127 : decode prog_10_method_4_code 127 = .ok (.aload_n 0, 1) := by decide +kernel
theorem d3_128 : decode prog_10_method_4_code 128 = .ok (.getfield 13, 3) := by decide +kernel
theorem d3_131 : decode prog_10_method_4_code 131 = .ok (.iload 6, 2) := by decide +kernel
theorem d3_133 : decode prog_10_method_4_code 133 = .ok (.aload_n 0, 1) := by decide +kernel
theorem d3_134 : decode prog_10_method_4_code 134 = .ok (.getfield 13, 3) := by decide +kernel
theorem d3_137 : decode prog_10_method_4_code 137 = .ok (.iload 7, 2) := by decide +kernel
theorem d3_139 : decode prog_10_method_4_code 139 = .ok (.iaload, 1) := by decide +kernel
theorem d3_140 : decode prog_10_method_4_code 140 = .ok (.iastore, 1) := by decide +kernel
theorem d3_141 : decode prog_10_method_4_code 141 = .ok (.iload 7, 2) := by decide +kernel
theorem d3_143 : decode prog_10_method_4_code 143 = .ok (.istore 6, 2) := by decide +kernel
theorem d3_145 : decode prog_10_method_4_code 145 = .ok (.goto (-62), 3) := by decide +kernel
set_option maxRecDepth 65536 in
set_option maxHeartbeats 40000000 in
theorem rm3 (l : Launch) (Z : State) (a0 : Array Value) (hw : ∀ d ∈ tables_1, d.before a0 Z = true) (o : Addr) (nt : Int32) (dv : UInt64) (n0 : Nat) (tk tn : Addr) (K : Nat → Int64) (G : Nat → Int32) (sz ad : Int32) (key : Nat → Int64) (ub : Int32) (τ : Nat → Nat) (Lv : Nat → Prop) (h0 : Heap) (Z0 : n0 ≤ h0.size) (g_o : n0 ≤ o) (g_tk : n0 ≤ tk) (g_tn : n0 ≤ tn) (ne1 : o ≠ tk) (ne2 : o ≠ tn) (ne3 : tk ≠ tn) (E_o : Exa Z h0 o "com/example/switchbox/switchbox/CostQueue") (F1 : Fld Z h0 o "com/example/switchbox/switchbox/CostQueue" "keys" "[J" (.ref tk)) (F2 : Fld Z h0 o "com/example/switchbox/switchbox/CostQueue" "nets" "[I" (.ref tn)) (F3 : Fld Z h0 o "com/example/switchbox/switchbox/CostQueue" "size" "I" (.int sz)) (F4 : Fld Z h0 o "com/example/switchbox/switchbox/CostQueue" "added" "I" (.int ad)) (A1 : Ara Z h0 tk .long 64 (fun jz => .long (K jz))) (A2 : Ara Z h0 tn .int 64 (fun jz => .int (G jz))) (hnn : FP.d2f dv &&& 0x7fffffff ≤ 0x7f800000) (hkey : ((FP.d2f dv).toInt32.toInt64 <<< ((32 : Int32).toInt64 &&& 63)) ||| ad.toInt64 = key sz.toInt.toNat) (hnet : nt = ub + Int32.ofNat sz.toInt.toNat) (hsz : 0 ≤ sz.toInt ∧ sz.toInt < 64) (hhp : own_hp key ub sz.toInt.toNat K G τ Lv) (hnl : ¬ Lv sz.toInt.toNat) :
    Ct l Z (⟨"com/example/switchbox/switchbox/CostQueue", "add", "(ID)V"⟩ : MethodName) prog_10_method_4_code 8 none ({ frames := 1, cells := 0, slots := 0, locals := 40 } : Room) #[(.ref o), (.int nt), (.double dv)] h0 (QCq Z n0 o tk tn none (fun h => Keep h0 h [o, tk, tn]) (fun sz' ad' K' G' => sz' = sz + 1 ∧ ad' = ad + 1 ∧ ∃ τ', own_hp key ub (sz.toInt.toNat + 1) K' G' τ' (fun t => Lv t ∨ t = sz.toInt.toNat))) := by
  refine own_met (plainFor_of_name pn_3) (fun m => ef_3 m o nt dv) ?_
  intro p e s m below meth c T0 X0 hx hby hml hown hnm hret hlk hZ e0
  have N0 := Fr.nil n0
  refine g_aloadN X0 hx hby d3_0 (pc' := 1) rfl rfl rfl ?_
  refine g_getF X0 hx hby hZ hown e0 (hw _ (List.mem_of_getElem? (i := 21) rfl)) F3 d3_1 (pc' := 4) rfl (fun T1 X1 e1 => ?_)
  refine g_aloadN X1 hx hby d3_4 (pc' := 5) rfl rfl rfl ?_
  refine g_getF X1 hx hby hZ hown e1 (hw _ (List.mem_of_getElem? (i := 14) rfl)) F2 d3_5 (pc' := 8) rfl (fun T2 X2 e2 => ?_)
  refine a_arraylength X2 hx hby hZ e2 A2 (N := (64 : Int32)) rfl d3_8 (pc' := 9) rfl ?_
  refine g_icmpne X2 hx hby d3_9 (pt := 46) (pf := 12) (by decide) (by decide) rfl (fun (h9 : ¬ sz = (64 : Int32)) => ?_) (fun (h9 : sz = (64 : Int32)) => (by exfalso; have := congrArg Int32.toInt h9; have e64 : (64 : Int32).toInt = 64 := rfl; omega))
  have h9i : ¬ sz.toInt = 64 := fun q => h9 (Int32.toInt_inj.mp q)
  refine g_dloadN X2 hx hby d3_46 (pc' := 47) rfl rfl ?_
  refine g_d2f X2 hx hby d3_47 (pc' := 48) rfl hnn ?_
  refine g_f2raw X2 hx hby hZ hown e2 hml rfl (hw _ (List.mem_of_getElem? (i := 23) rfl)) (hw _ (List.mem_of_getElem? (i := 26) rfl)) (hw _ (List.mem_of_getElem? (i := 24) rfl)) (hw _ (List.mem_of_getElem? (i := 25) rfl)) (rest := []) d3_48 (pc' := 51) rfl (by decide) (Nat.le_of_ble_eq_true rfl) (fun Tp48 Xp48 ep48 => ?_)
  refine g_i2l Xp48 hx hby d3_51 (pc' := 52) rfl ?_
  refine g_bipush Xp48 hx hby d3_52 (pc' := 54) rfl (n := (32 : Int32)) (by first | rfl | decide) ?_
  refine g_lshl Xp48 hx hby d3_54 (pc' := 55) rfl ?_
  refine g_aloadN Xp48 hx hby d3_55 (pc' := 56) rfl rfl rfl ?_
  refine g_dup Xp48 hx hby d3_56 (pc' := 57) rfl rfl ?_
  refine g_getF Xp48 hx hby hZ hown ep48 (hw _ (List.mem_of_getElem? (i := 27) rfl)) F4 d3_57 (pc' := 60) rfl (fun T3 X3 e3 => ?_)
  refine g_dup_x1 X3 hx hby d3_60 (pc' := 61) rfl rfl rfl ?_
  refine g_iconst X3 hx hby d3_61 (pc' := 62) rfl (n := (1 : Int32)) (by first | rfl | decide) ?_
  refine g_iadd X3 hx hby d3_62 (pc' := 63) rfl ?_
  refine g_putF X3 hx hby hZ hown e3 (hw _ (List.mem_of_getElem? (i := 27) rfl)) F4 E_o (Or.inl (hw _ (List.mem_of_getElem? (i := 28) rfl))) (hw _ (List.mem_of_getElem? (i := 3) rfl)) (ty := .int) (by decide) rfl rfl d3_63 (pc' := 66) rfl (fun T4 h4 X4 e4 W4 => ?_)
  replace E_o := E_o.wr W4
  replace F1 := F1.other W4 (Or.inr (slot_ne (Or.inl (hw _ (List.mem_of_getElem? (i := 13) rfl))) (Or.inl (hw _ (List.mem_of_getElem? (i := 28) rfl))) (by decide) (t := (.array .long)) (t' := .int) (by decide) (by decide)))
  replace F2 := F2.other W4 (Or.inr (slot_ne (Or.inl (hw _ (List.mem_of_getElem? (i := 15) rfl))) (Or.inl (hw _ (List.mem_of_getElem? (i := 28) rfl))) (by decide) (t := (.array .int)) (t' := .int) (by decide) (by decide)))
  replace F3 := F3.other W4 (Or.inr (slot_ne (Or.inl (hw _ (List.mem_of_getElem? (i := 22) rfl))) (Or.inl (hw _ (List.mem_of_getElem? (i := 28) rfl))) (by decide) (t := .int) (t' := .int) (by decide) (by decide)))
  replace F4 := F4.same W4
  replace A1 := A1.other W4 (Ne.symm ne1)
  replace A2 := A2.other W4 (Ne.symm ne2)
  have Z5 : n0 ≤ h4.size := by rw [W4.size]; exact Z0
  have K6 := (Keep.refl h0 [o, tk, tn]).wr W4 (Or.inl (List.mem_of_getElem? (i := 0) rfl))
  have N7 := Fr.snoc X4 N0 g_o
  refine g_i2l X4 hx hby d3_66 (pc' := 67) rfl ?_
  refine g_lor X4 hx hby d3_67 (pc' := 68) rfl ?_
  refine g_nameL (fun nk h_nk => ?_)
  have hnk : nk = key sz.toInt.toNat := h_nk.trans hkey
  refine g_lstore X4 hx hby d3_68 (pc' := 70) rfl (Ls' := #[.val (.ref o), .val (.int nt), .val (.double dv), .second, .val (.long nk), .second, .unset, .unset]) rfl ?_
  refine g_aloadN X4 hx hby d3_70 (pc' := 71) rfl rfl rfl ?_
  refine g_dup X4 hx hby d3_71 (pc' := 72) rfl rfl ?_
  refine g_getF X4 hx hby hZ hown e4 (hw _ (List.mem_of_getElem? (i := 21) rfl)) F3 d3_72 (pc' := 75) rfl (fun T8 X8 e8 => ?_)
  refine g_dup_x1 X8 hx hby d3_75 (pc' := 76) rfl rfl rfl ?_
  refine g_iconst X8 hx hby d3_76 (pc' := 77) rfl (n := (1 : Int32)) (by first | rfl | decide) ?_
  refine g_iadd X8 hx hby d3_77 (pc' := 78) rfl ?_
  refine g_putF X8 hx hby hZ hown e8 (hw _ (List.mem_of_getElem? (i := 21) rfl)) F3 E_o (Or.inl (hw _ (List.mem_of_getElem? (i := 22) rfl))) (hw _ (List.mem_of_getElem? (i := 3) rfl)) (ty := .int) (by decide) rfl rfl d3_78 (pc' := 81) rfl (fun T9 h9 X9 e9 W9 => ?_)
  replace E_o := E_o.wr W9
  replace F1 := F1.other W9 (Or.inr (slot_ne (Or.inl (hw _ (List.mem_of_getElem? (i := 13) rfl))) (Or.inl (hw _ (List.mem_of_getElem? (i := 22) rfl))) (by decide) (t := (.array .long)) (t' := .int) (by decide) (by decide)))
  replace F2 := F2.other W9 (Or.inr (slot_ne (Or.inl (hw _ (List.mem_of_getElem? (i := 15) rfl))) (Or.inl (hw _ (List.mem_of_getElem? (i := 22) rfl))) (by decide) (t := (.array .int)) (t' := .int) (by decide) (by decide)))
  replace F3 := F3.same W9
  replace F4 := F4.other W9 (Or.inr (slot_ne (Or.inl (hw _ (List.mem_of_getElem? (i := 28) rfl))) (Or.inl (hw _ (List.mem_of_getElem? (i := 22) rfl))) (by decide) (t := .int) (t' := .int) (by decide) (by decide)))
  replace A1 := A1.other W9 (Ne.symm ne1)
  replace A2 := A2.other W9 (Ne.symm ne2)
  have Z10 : n0 ≤ h9.size := by rw [W9.size]; exact Z5
  have K11 := K6.wr W9 (Or.inl (List.mem_of_getElem? (i := 0) rfl))
  have N12 := Fr.snoc X9 N7 g_o
  refine g_istore X9 hx hby d3_81 (pc' := 83) rfl (Ls' := #[.val (.ref o), .val (.int nt), .val (.double dv), .second, .val (.long nk), .second, .val (.int sz), .unset]) rfl ?_
  suffices J83_13 : ∀ (nn : Nat) (locs14 : List Loc) (T14 : State) (X14 : Stand p l e ({ frames := 1, cells := 0, slots := 0, locals := 40 } : Room) s m #[(.ref o), (.int nt), (.double dv)] below meth c T14 locs14 0 0) (hp14 : Heap) (e14 : T14.heap = hp14) (N14 : Fr n0 locs14) (ix : Int32) (s7 : Slot) (o7 : One s7) (Kj : Nat → Int64) (Gj : Nat → Int32) (τj : Nat → Nat) (Ej : Exa Z hp14 o "com/example/switchbox/switchbox/CostQueue") (Fj1 : Fld Z hp14 o "com/example/switchbox/switchbox/CostQueue" "keys" "[J" (.ref tk)) (Fj2 : Fld Z hp14 o "com/example/switchbox/switchbox/CostQueue" "nets" "[I" (.ref tn)) (Fj3 : Fld Z hp14 o "com/example/switchbox/switchbox/CostQueue" "size" "I" (.int (sz + (1 : Int32)))) (Fj4 : Fld Z hp14 o "com/example/switchbox/switchbox/CostQueue" "added" "I" (.int (ad + (1 : Int32)))) (Aj1 : Ara Z hp14 tk .long 64 (fun jz => .long (Kj jz))) (Aj2 : Ara Z hp14 tn .int 64 (fun jz => .int (Gj jz))) (Zj : n0 ≤ hp14.size) (Kpj : Keep h0 hp14 [o, tk, tn]) (hix : 0 ≤ ix.toInt) (hup : own_upi key ub sz.toInt.toNat (sz.toInt.toNat + 1) ix.toInt.toNat Kj Gj τj (fun t => Lv t ∨ t = sz.toInt.toNat)) (hnn : ix.toInt.toNat = nn), Go p e below s (QCq Z n0 o tk tn none (fun h => Keep h0 h [o, tk, tn]) (fun sz' ad' K' G' => sz' = sz + 1 ∧ ad' = ad + 1 ∧ ∃ τ', own_hp key ub (sz.toInt.toNat + 1) K' G' τ' (fun t => Lv t ∨ t = sz.toInt.toNat))) ({ frames := 1, cells := 0, slots := 0, locals := 40 } : Room).cells ({ frames := 1, cells := 0, slots := 0, locals := 40 } : Room).slots m T14 83 #[.val (.ref o), .val (.int nt), .val (.double dv), .second, .val (.long nk), .second, .val (.int ix), s7] [] by
    exact J83_13 _ _ _ X9 _ e9 N12 sz .unset One.u _ _ _ E_o F1 F2 F3 F4 A1 A2 Z10 K11 (by omega) (own_up_start sz.toInt.toNat hhp hnl) rfl
  intro nn
  induction nn using Nat.strongRecOn with
  | _ nn ih =>
    intro locs14 T14 X14 hp14 e14 N14 ix s7 o7 Kj Gj τj Ej Fj1 Fj2 Fj3 Fj4 Aj1 Aj2 Zj Kpj hix hup hnn
    have hixl := hup.1
    refine g_iload X14 hx hby d3_83 (pc' := 85) rfl rfl ?_
    refine g_ifle X14 hx hby d3_85 (pt := 148) (pf := 88) (by decide) (by decide) rfl (fun (h85 : ix.toInt ≤ 0) => ?_) (fun (h85 : 0 < ix.toInt) => ?_)
    · refine g_aloadN X14 hx hby d3_148 (pc' := 149) rfl rfl rfl ?_
      refine g_getF X14 hx hby hZ hown e14 (hw _ (List.mem_of_getElem? (i := 12) rfl)) Fj1 d3_149 (pc' := 152) rfl (fun T15 X15 e15 => ?_)
      refine g_iload X15 hx hby d3_152 (pc' := 154) rfl rfl ?_
      refine g_lload X15 hx hby d3_154 (pc' := 156) rfl rfl ?_
      refine a_lastore X15 hx hby hZ e15 Aj1 (by omega) (by omega) d3_156 (pc' := 157) rfl (fun T16 h16 X16 e16 W16 => ?_)
      replace Ej := Ej.wr W16
      replace Fj1 := Fj1.other W16 (Or.inl ne1)
      replace Fj2 := Fj2.other W16 (Or.inl ne1)
      replace Fj3 := Fj3.other W16 (Or.inl ne1)
      replace Fj4 := Fj4.other W16 (Or.inl ne1)
      replace Aj2 := Aj2.other W16 (Ne.symm ne3)
      have Z17 : n0 ≤ h16.size := by rw [W16.size]; exact Zj
      have K18 := Kpj.wr W16 (Or.inl (List.mem_of_getElem? (i := 1) rfl))
      have N19 := Fr.snoc X16 N14 g_tk
      replace Aj1 : Ara Z h16 tk .long 64 (fun jz => .long ((own_ul Kj ix.toInt.toNat nk) jz)) := Aj1.setL W16
      refine g_aloadN X16 hx hby d3_157 (pc' := 158) rfl rfl rfl ?_
      refine g_getF X16 hx hby hZ hown e16 (hw _ (List.mem_of_getElem? (i := 14) rfl)) Fj2 d3_158 (pc' := 161) rfl (fun T20 X20 e20 => ?_)
      refine g_iload X20 hx hby d3_161 (pc' := 163) rfl rfl ?_
      refine g_iloadN X20 hx hby d3_163 (pc' := 164) rfl rfl ?_
      refine a_iastore X20 hx hby hZ e20 Aj2 (by omega) (by omega) d3_164 (pc' := 165) rfl (fun T21 h21 X21 e21 W21 => ?_)
      replace Ej := Ej.wr W21
      replace Fj1 := Fj1.other W21 (Or.inl ne2)
      replace Fj2 := Fj2.other W21 (Or.inl ne2)
      replace Fj3 := Fj3.other W21 (Or.inl ne2)
      replace Fj4 := Fj4.other W21 (Or.inl ne2)
      replace Aj1 := Aj1.other W21 ne3
      have Z22 : n0 ≤ h21.size := by rw [W21.size]; exact Z17
      have K23 := K18.wr W21 (Or.inl (List.mem_of_getElem? (i := 2) rfl))
      have N24 := Fr.snoc X21 N19 g_tn
      replace Aj2 : Ara Z h21 tn .int 64 (fun jz => .int ((own_ui Gj ix.toInt.toNat nt) jz)) := Aj2.setI W21
      exact g_retV X21 hx hby hlk hret d3_165 (by decide) (by decide) (by rw [e21]; exact ⟨_, _, _, _, rfl, N24, Ej, Fj1, Fj2, Fj3, Fj4, Aj1, Aj2, K23, rfl, rfl, τj, own_up_end hup (fun z => by omega) hnk hnet⟩)
    · refine g_lload X14 hx hby d3_88 (pc' := 90) rfl rfl ?_
      refine g_aloadN X14 hx hby d3_90 (pc' := 91) rfl rfl rfl ?_
      refine g_getF X14 hx hby hZ hown e14 (hw _ (List.mem_of_getElem? (i := 12) rfl)) Fj1 d3_91 (pc' := 94) rfl (fun T25 X25 e25 => ?_)
      refine g_iload X25 hx hby d3_94 (pc' := 96) rfl rfl ?_
      refine g_iconst X25 hx hby d3_96 (pc' := 97) rfl (n := (1 : Int32)) (by first | rfl | decide) ?_
      refine g_isub X25 hx hby d3_97 (pc' := 98) rfl ?_
      refine g_iconst X25 hx hby d3_98 (pc' := 99) rfl (n := (2 : Int32)) (by first | rfl | decide) ?_
      refine g_idiv X25 hx hby d3_99 (pc' := 100) rfl (by decide) ?_
      refine g_nameI (fun pa h_pa => ?_)
      have f_pa := own_par ix pa (by omega) h_pa
      refine a_laload X25 hx hby hZ e25 Aj1 (by omega) (by omega) (v := (.long (Kj pa.toInt.toNat))) (rfl) d3_100 (pc' := 101) rfl ?_
      refine g_lcmpge X25 hx hby d3_101 (pc' := 102) rfl d3_102 (pt := 148) (pf := 105) (by decide) (by decide) rfl (fun (h102 : (Kj pa.toInt.toNat).toInt ≤ nk.toInt) => ?_) (fun (h102 : nk.toInt < (Kj pa.toInt.toNat).toInt) => ?_)
      · refine g_aloadN X25 hx hby d3_148 (pc' := 149) rfl rfl rfl ?_
        refine g_getF X25 hx hby hZ hown e25 (hw _ (List.mem_of_getElem? (i := 12) rfl)) Fj1 d3_149 (pc' := 152) rfl (fun T26 X26 e26 => ?_)
        refine g_iload X26 hx hby d3_152 (pc' := 154) rfl rfl ?_
        refine g_lload X26 hx hby d3_154 (pc' := 156) rfl rfl ?_
        refine a_lastore X26 hx hby hZ e26 Aj1 (by omega) (by omega) d3_156 (pc' := 157) rfl (fun T27 h27 X27 e27 W27 => ?_)
        replace Ej := Ej.wr W27
        replace Fj1 := Fj1.other W27 (Or.inl ne1)
        replace Fj2 := Fj2.other W27 (Or.inl ne1)
        replace Fj3 := Fj3.other W27 (Or.inl ne1)
        replace Fj4 := Fj4.other W27 (Or.inl ne1)
        replace Aj2 := Aj2.other W27 (Ne.symm ne3)
        have Z28 : n0 ≤ h27.size := by rw [W27.size]; exact Zj
        have K29 := Kpj.wr W27 (Or.inl (List.mem_of_getElem? (i := 1) rfl))
        have N30 := Fr.snoc X27 N14 g_tk
        replace Aj1 : Ara Z h27 tk .long 64 (fun jz => .long ((own_ul Kj ix.toInt.toNat nk) jz)) := Aj1.setL W27
        refine g_aloadN X27 hx hby d3_157 (pc' := 158) rfl rfl rfl ?_
        refine g_getF X27 hx hby hZ hown e27 (hw _ (List.mem_of_getElem? (i := 14) rfl)) Fj2 d3_158 (pc' := 161) rfl (fun T31 X31 e31 => ?_)
        refine g_iload X31 hx hby d3_161 (pc' := 163) rfl rfl ?_
        refine g_iloadN X31 hx hby d3_163 (pc' := 164) rfl rfl ?_
        refine a_iastore X31 hx hby hZ e31 Aj2 (by omega) (by omega) d3_164 (pc' := 165) rfl (fun T32 h32 X32 e32 W32 => ?_)
        replace Ej := Ej.wr W32
        replace Fj1 := Fj1.other W32 (Or.inl ne2)
        replace Fj2 := Fj2.other W32 (Or.inl ne2)
        replace Fj3 := Fj3.other W32 (Or.inl ne2)
        replace Fj4 := Fj4.other W32 (Or.inl ne2)
        replace Aj1 := Aj1.other W32 ne3
        have Z33 : n0 ≤ h32.size := by rw [W32.size]; exact Z28
        have K34 := K29.wr W32 (Or.inl (List.mem_of_getElem? (i := 2) rfl))
        have N35 := Fr.snoc X32 N30 g_tn
        replace Aj2 : Ara Z h32 tn .int 64 (fun jz => .int ((own_ui Gj ix.toInt.toNat nt) jz)) := Aj2.setI W32
        exact g_retV X32 hx hby hlk hret d3_165 (by decide) (by decide) (by rw [e32]; exact ⟨_, _, _, _, rfl, N35, Ej, Fj1, Fj2, Fj3, Fj4, Aj1, Aj2, K34, rfl, rfl, τj, own_up_end hup (fun _ => by rw [← hnk, show (ix.toInt.toNat - 1) / 2 = pa.toInt.toNat by omega]; exact h102) hnk hnet⟩)
      · refine g_iload X25 hx hby d3_105 (pc' := 107) rfl rfl ?_
        refine g_iconst X25 hx hby d3_107 (pc' := 108) rfl (n := (1 : Int32)) (by first | rfl | decide) ?_
        refine g_isub X25 hx hby d3_108 (pc' := 109) rfl ?_
        refine g_iconst X25 hx hby d3_109 (pc' := 110) rfl (n := (2 : Int32)) (by first | rfl | decide) ?_
        refine g_idiv X25 hx hby d3_110 (pc' := 111) rfl (by decide) ?_
        refine g_nameI (fun pb h_pb => ?_)
        have f_pb := own_par ix pb (by omega) h_pb
        refine g_istore X25 hx hby d3_111 (pc' := 113) rfl (Ls' := #[.val (.ref o), .val (.int nt), .val (.double dv), .second, .val (.long nk), .second, .val (.int ix), .val (.int pb)]) ((XS.store1 (o := s7) rfl o7 rfl).trans rfl) ?_
        refine g_aloadN X25 hx hby d3_113 (pc' := 114) rfl rfl rfl ?_
        refine g_getF X25 hx hby hZ hown e25 (hw _ (List.mem_of_getElem? (i := 12) rfl)) Fj1 d3_114 (pc' := 117) rfl (fun T36 X36 e36 => ?_)
        refine g_iload X36 hx hby d3_117 (pc' := 119) rfl rfl ?_
        refine g_aloadN X36 hx hby d3_119 (pc' := 120) rfl rfl rfl ?_
        refine g_getF X36 hx hby hZ hown e36 (hw _ (List.mem_of_getElem? (i := 12) rfl)) Fj1 d3_120 (pc' := 123) rfl (fun T37 X37 e37 => ?_)
        refine g_iload X37 hx hby d3_123 (pc' := 125) rfl rfl ?_
        refine a_laload X37 hx hby hZ e37 Aj1 (by omega) (by omega) (v := (.long (Kj pb.toInt.toNat))) (rfl) d3_125 (pc' := 126) rfl ?_
        refine a_lastore X37 hx hby hZ e37 Aj1 (by omega) (by omega) d3_126 (pc' := 127) rfl (fun T38 h38 X38 e38 W38 => ?_)
        replace Ej := Ej.wr W38
        replace Fj1 := Fj1.other W38 (Or.inl ne1)
        replace Fj2 := Fj2.other W38 (Or.inl ne1)
        replace Fj3 := Fj3.other W38 (Or.inl ne1)
        replace Fj4 := Fj4.other W38 (Or.inl ne1)
        replace Aj2 := Aj2.other W38 (Ne.symm ne3)
        have Z39 : n0 ≤ h38.size := by rw [W38.size]; exact Zj
        have K40 := Kpj.wr W38 (Or.inl (List.mem_of_getElem? (i := 1) rfl))
        have N41 := Fr.snoc X38 N14 g_tk
        replace Aj1 : Ara Z h38 tk .long 64 (fun jz => .long ((own_ul Kj ix.toInt.toNat (Kj pb.toInt.toNat)) jz)) := Aj1.setL W38
        refine g_aloadN X38 hx hby d3_127 (pc' := 128) rfl rfl rfl ?_
        refine g_getF X38 hx hby hZ hown e38 (hw _ (List.mem_of_getElem? (i := 14) rfl)) Fj2 d3_128 (pc' := 131) rfl (fun T42 X42 e42 => ?_)
        refine g_iload X42 hx hby d3_131 (pc' := 133) rfl rfl ?_
        refine g_aloadN X42 hx hby d3_133 (pc' := 134) rfl rfl rfl ?_
        refine g_getF X42 hx hby hZ hown e42 (hw _ (List.mem_of_getElem? (i := 14) rfl)) Fj2 d3_134 (pc' := 137) rfl (fun T43 X43 e43 => ?_)
        refine g_iload X43 hx hby d3_137 (pc' := 139) rfl rfl ?_
        refine a_iaload X43 hx hby hZ e43 Aj2 (by omega) (by omega) (v := (.int (Gj pb.toInt.toNat))) (rfl) d3_139 (pc' := 140) rfl ?_
        refine a_iastore X43 hx hby hZ e43 Aj2 (by omega) (by omega) d3_140 (pc' := 141) rfl (fun T44 h44 X44 e44 W44 => ?_)
        replace Ej := Ej.wr W44
        replace Fj1 := Fj1.other W44 (Or.inl ne2)
        replace Fj2 := Fj2.other W44 (Or.inl ne2)
        replace Fj3 := Fj3.other W44 (Or.inl ne2)
        replace Fj4 := Fj4.other W44 (Or.inl ne2)
        replace Aj1 := Aj1.other W44 ne3
        have Z45 : n0 ≤ h44.size := by rw [W44.size]; exact Z39
        have K46 := K40.wr W44 (Or.inl (List.mem_of_getElem? (i := 2) rfl))
        have N47 := Fr.snoc X44 N41 g_tn
        replace Aj2 : Ara Z h44 tn .int 64 (fun jz => .int ((own_ui Gj ix.toInt.toNat (Gj pb.toInt.toNat)) jz)) := Aj2.setI W44
        refine g_iload X44 hx hby d3_141 (pc' := 143) rfl rfl ?_
        refine g_istore X44 hx hby d3_143 (pc' := 145) rfl (Ls' := #[.val (.ref o), .val (.int nt), .val (.double dv), .second, .val (.long nk), .second, .val (.int pb), .val (.int pb)]) rfl ?_
        refine g_goto X44 hx hby d3_145 (pc' := 83) (by decide) (by decide) ?_
        exact ih _ (by omega) _ _ X44 _ e44 N47 pb _ (One.val rfl) _ _ _ Ej Fj1 Fj2 Fj3 Fj4 Aj1 Aj2 Z45 K46 (by omega) (own_up_step hup (by omega) (by omega) (by rw [show pb.toInt.toNat = pa.toInt.toNat by omega, ← hnk]; exact h102)) rfl
theorem ef_5 (m : MethodId) (o : Addr) : entryFrame m #[(.ref o)] 1 = mkF m 0 #[.val (.ref o)] [] := by first | (simp [entryFrame, mkF, argsToLocals, Value.category]; done) | rfl
theorem pn_5 : plainName "com/example/switchbox/switchbox/CostQueue" = true := by first | (simp [plainName, overriddenIn]; done) | decide +kernel
theorem d5_0 : decode prog_10_method_3_code 0 = .ok (.aload_n 0, 1) := by decide +kernel
theorem d5_1 : decode prog_10_method_3_code 1 = .ok (.getfield 17, 3) := by decide +kernel
theorem d5_4 : decode prog_10_method_3_code 4 = .ok (.ifCond .ne 7, 3) := by decide +kernel
theorem d5_11 : decode prog_10_method_3_code 11 = .ok (.iconst 0, 1) := by decide +kernel
theorem d5_12 : decode prog_10_method_3_code 12 = .ok (.ireturn, 1) := by decide +kernel
theorem d5_7 : decode prog_10_method_3_code 7 = .ok (.iconst 1, 1) := by decide +kernel
theorem d5_8 : decode prog_10_method_3_code 8 = .ok (.goto 4, 3) := by decide +kernel
set_option maxRecDepth 65536 in
set_option maxHeartbeats 40000000 in
theorem rm5 (l : Launch) (Z : State) (a0 : Array Value) (hw : ∀ d ∈ tables_1, d.before a0 Z = true) (o : Addr) (sz : Int32) (h0 : Heap) (F3 : Fld Z h0 o "com/example/switchbox/switchbox/CostQueue" "size" "I" (.int sz)) :
    Ct l Z (⟨"com/example/switchbox/switchbox/CostQueue", "isEmpty", "()Z"⟩ : MethodName) prog_10_method_3_code 1 (some .boolean) ({ frames := 0, cells := 0, slots := 0, locals := 0 } : Room) #[(.ref o)] h0 (QI h0 (fun r => own_bool r (sz.toInt = 0))) := by
  refine own_met (plainFor_of_name pn_5) (fun m => ef_5 m o) ?_
  intro p e s m below meth c T0 X0 hx hby hml hown hnm hret hlk hZ e0
  refine g_aloadN X0 hx hby d5_0 (pc' := 1) rfl rfl rfl ?_
  refine g_getF X0 hx hby hZ hown e0 (hw _ (List.mem_of_getElem? (i := 21) rfl)) F3 d5_1 (pc' := 4) rfl (fun T1 X1 e1 => ?_)
  refine g_ifne X1 hx hby d5_4 (pt := 11) (pf := 7) (by decide) (by decide) rfl (fun (h4 : ¬ sz = (0 : Int32)) => ?_) (fun (h4 : sz = (0 : Int32)) => ?_)
  · have h4i : ¬ sz.toInt = 0 := fun q => h4 (Int32.toInt_inj.mp q)
    refine g_iconst X1 hx hby d5_11 (pc' := 12) rfl (n := (0 : Int32)) (by first | rfl | decide) ?_
    exact g_retZ X1 hx hby hlk (Or.inl rfl) hret d5_12 (by decide) (by decide) (⟨⟨_, rfl, Or.inr ⟨rfl, by omega⟩⟩, e1, rfl⟩)
  · have h4i : sz.toInt = 0 := congrArg Int32.toInt h4
    refine g_iconst X1 hx hby d5_7 (pc' := 8) rfl (n := (1 : Int32)) (by first | rfl | decide) ?_
    refine g_goto X1 hx hby d5_8 (pc' := 12) (by decide) (by decide) ?_
    exact g_retZ X1 hx hby hlk (Or.inr rfl) hret d5_12 (by decide) (by decide) (⟨⟨_, rfl, Or.inl ⟨rfl, by omega⟩⟩, e1, rfl⟩)
theorem ef_6 (m : MethodId) (o : Addr) : entryFrame m #[(.ref o)] 1 = mkF m 0 #[.val (.ref o)] [] := by first | (simp [entryFrame, mkF, argsToLocals, Value.category]; done) | rfl
theorem pn_6 : plainName "com/example/switchbox/switchbox/CostQueue" = true := by first | (simp [plainName, overriddenIn]; done) | decide +kernel
theorem d6_0 : decode prog_10_method_5_code 0 = .ok (.aload_n 0, 1) := by decide +kernel
theorem d6_1 : decode prog_10_method_5_code 1 = .ok (.getfield 13, 3) := by decide +kernel
theorem d6_4 : decode prog_10_method_5_code 4 = .ok (.iconst 0, 1) := by decide +kernel
theorem d6_5 : decode prog_10_method_5_code 5 = .ok (.iaload, 1) := by decide +kernel
theorem d6_6 : decode prog_10_method_5_code 6 = .ok (.ireturn, 1) := by decide +kernel
set_option maxRecDepth 65536 in
set_option maxHeartbeats 40000000 in
theorem rm6 (l : Launch) (Z : State) (a0 : Array Value) (hw : ∀ d ∈ tables_1, d.before a0 Z = true) (o : Addr) (tn : Addr) (G : Nat → Int32) (h0 : Heap) (F2 : Fld Z h0 o "com/example/switchbox/switchbox/CostQueue" "nets" "[I" (.ref tn)) (A2 : Ara Z h0 tn .int 64 (fun jz => .int (G jz))) :
    Ct l Z (⟨"com/example/switchbox/switchbox/CostQueue", "net", "()I"⟩ : MethodName) prog_10_method_5_code 1 (some .int) ({ frames := 0, cells := 0, slots := 0, locals := 0 } : Room) #[(.ref o)] h0 (QI h0 (fun r => r = G 0)) := by
  refine own_met (plainFor_of_name pn_6) (fun m => ef_6 m o) ?_
  intro p e s m below meth c T0 X0 hx hby hml hown hnm hret hlk hZ e0
  refine g_aloadN X0 hx hby d6_0 (pc' := 1) rfl rfl rfl ?_
  refine g_getF X0 hx hby hZ hown e0 (hw _ (List.mem_of_getElem? (i := 14) rfl)) F2 d6_1 (pc' := 4) rfl (fun T1 X1 e1 => ?_)
  refine g_iconst X1 hx hby d6_4 (pc' := 5) rfl (n := (0 : Int32)) (by first | rfl | decide) ?_
  refine a_iaload X1 hx hby hZ e1 A2 (by decide) (by decide) (v := (.int (G 0))) (rfl) d6_5 (pc' := 6) rfl ?_
  exact g_retI X1 hx hby hlk hret d6_6 (by decide) (by decide) (⟨⟨_, rfl, rfl⟩, e1, rfl⟩)
theorem ef_8 (m : MethodId) (ca : Addr) (un : Int32) (uj : Int32) (ui : Int32) : entryFrame m #[(.ref ca), (.int un), (.int uj), (.int ui)] 4 = mkF m 0 #[.val (.ref ca), .val (.int un), .val (.int uj), .val (.int ui)] [] := by first | (simp [entryFrame, mkF, argsToLocals, Value.category]; done) | rfl
theorem pn_8 : plainName "com/example/switchbox/switchbox/CostQueueRemovePinLaw" = true := by first | (simp [plainName, overriddenIn]; done) | decide +kernel
theorem d8_0 : decode method_5_code 0 = .ok (.iload_n 2, 1) := by decide +kernel
theorem d8_1 : decode method_5_code 1 = .ok (.iload_n 1, 1) := by decide +kernel
theorem d8_2 : decode method_5_code 2 = .ok (.if_icmp .ge 8, 3) := by decide +kernel
theorem d8_10 : decode method_5_code 10 = .ok (.iconst 0, 1) := by decide +kernel
theorem d8_11 : decode method_5_code 11 = .ok (.ireturn, 1) := by decide +kernel
theorem d8_5 : decode method_5_code 5 = .ok (.iload_n 2, 1) := by decide +kernel
theorem d8_6 : decode method_5_code 6 = .ok (.iload_n 3, 1) := by decide +kernel
theorem d8_7 : decode method_5_code 7 = .ok (.if_icmp .ne 5, 3) := by decide +kernel
theorem d8_12 : decode method_5_code 12 = .ok (.aload_n 0, 1) := by decide +kernel
theorem d8_13 : decode method_5_code 13 = .ok (.iload_n 2, 1) := by decide +kernel
theorem d8_14 : decode method_5_code 14 = .ok (.iaload, 1) := by decide +kernel
theorem d8_15 : decode method_5_code 15 = .ok (.aload_n 0, 1) := by decide +kernel
theorem d8_16 : decode method_5_code 16 = .ok (.iload_n 3, 1) := by decide +kernel
theorem d8_17 : decode method_5_code 17 = .ok (.iaload, 1) := by decide +kernel
theorem d8_18 : decode method_5_code 18 = .ok (.if_icmp .ge 5, 3) := by decide +kernel
theorem d8_23 : decode method_5_code 23 = .ok (.aload_n 0, 1) := by decide +kernel
theorem d8_24 : decode method_5_code 24 = .ok (.iload_n 2, 1) := by decide +kernel
theorem d8_25 : decode method_5_code 25 = .ok (.iaload, 1) := by decide +kernel
theorem d8_26 : decode method_5_code 26 = .ok (.aload_n 0, 1) := by decide +kernel
theorem d8_27 : decode method_5_code 27 = .ok (.iload_n 3, 1) := by decide +kernel
theorem d8_28 : decode method_5_code 28 = .ok (.iaload, 1) := by decide +kernel
theorem d8_29 : decode method_5_code 29 = .ok (.if_icmp .ne 10, 3) := by decide +kernel
theorem d8_39 : decode method_5_code 39 = .ok (.iconst 0, 1) := by decide +kernel
theorem d8_40 : decode method_5_code 40 = .ok (.ireturn, 1) := by decide +kernel
theorem d8_32 : decode method_5_code 32 = .ok (.iload_n 2, 1) := by decide +kernel
theorem d8_33 : decode method_5_code 33 = .ok (.iload_n 3, 1) := by decide +kernel
theorem d8_34 : decode method_5_code 34 = .ok (.if_icmp .ge 5, 3) := by decide +kernel
theorem d8_37 : decode method_5_code 37 = .ok (.iconst 1, 1) := by decide +kernel
theorem d8_38 : decode method_5_code 38 = .ok (.ireturn, 1) := by decide +kernel
theorem d8_21 : decode method_5_code 21 = .ok (.iconst 1, 1) := by decide +kernel
theorem d8_22 : decode method_5_code 22 = .ok (.ireturn, 1) := by decide +kernel
set_option maxRecDepth 65536 in
set_option maxHeartbeats 40000000 in
theorem rm8 (l : Launch) (Z : State) (a0 : Array Value) (hw : ∀ d ∈ tables_1, d.before a0 Z = true) (ca : Addr) (un : Int32) (uj : Int32) (ui : Int32) (cf : Nat → Int32) (h0 : Heap) (A_ca : Ara Z h0 ca .int 6 (fun jz => .int (cf jz))) (hj : 0 ≤ uj.toInt ∧ uj.toInt < 6) (hi : 0 ≤ ui.toInt ∧ ui.toInt < 6) :
    Ct l Z (⟨"com/example/switchbox/switchbox/CostQueueRemovePinLaw", "before", "([IIII)I"⟩ : MethodName) method_5_code 4 (some .int) ({ frames := 0, cells := 0, slots := 0, locals := 0 } : Room) #[(.ref ca), (.int un), (.int uj), (.int ui)] h0 (QI h0 (fun r => own_bool r (own_lt cf un.toInt uj.toInt.toNat ui.toInt.toNat))) := by
  refine own_met (plainFor_of_name pn_8) (fun m => ef_8 m ca un uj ui) ?_
  intro p e s m below meth c T0 X0 hx hby hml hown hnm hret hlk hZ e0
  refine g_iloadN X0 hx hby d8_0 (pc' := 1) rfl rfl ?_
  refine g_iloadN X0 hx hby d8_1 (pc' := 2) rfl rfl ?_
  refine g_icmpge X0 hx hby d8_2 (pt := 10) (pf := 5) (by decide) (by decide) rfl (fun (h2 : un.toInt ≤ uj.toInt) => ?_) (fun (h2 : uj.toInt < un.toInt) => ?_)
  · refine g_iconst X0 hx hby d8_10 (pc' := 11) rfl (n := (0 : Int32)) (by first | rfl | decide) ?_
    exact g_retI X0 hx hby hlk hret d8_11 (by decide) (by decide) (⟨⟨_, rfl, Or.inr ⟨rfl, by unfold own_lt; omega⟩⟩, e0, rfl⟩)
  · refine g_iloadN X0 hx hby d8_5 (pc' := 6) rfl rfl ?_
    refine g_iloadN X0 hx hby d8_6 (pc' := 7) rfl rfl ?_
    refine g_icmpne X0 hx hby d8_7 (pt := 12) (pf := 10) (by decide) (by decide) rfl (fun (h7 : ¬ uj = ui) => ?_) (fun (h7 : uj = ui) => ?_)
    · have h7i : ¬ uj.toInt = ui.toInt := fun q => h7 (Int32.toInt_inj.mp q)
      refine g_aloadN X0 hx hby d8_12 (pc' := 13) rfl rfl rfl ?_
      refine g_iloadN X0 hx hby d8_13 (pc' := 14) rfl rfl ?_
      refine a_iaload X0 hx hby hZ e0 A_ca (by omega) (by omega) (v := (.int (cf uj.toInt.toNat))) (rfl) d8_14 (pc' := 15) rfl ?_
      refine g_aloadN X0 hx hby d8_15 (pc' := 16) rfl rfl rfl ?_
      refine g_iloadN X0 hx hby d8_16 (pc' := 17) rfl rfl ?_
      refine a_iaload X0 hx hby hZ e0 A_ca (by omega) (by omega) (v := (.int (cf ui.toInt.toNat))) (rfl) d8_17 (pc' := 18) rfl ?_
      refine g_icmpge X0 hx hby d8_18 (pt := 23) (pf := 21) (by decide) (by decide) rfl (fun (h18 : (cf ui.toInt.toNat).toInt ≤ (cf uj.toInt.toNat).toInt) => ?_) (fun (h18 : (cf uj.toInt.toNat).toInt < (cf ui.toInt.toNat).toInt) => ?_)
      · refine g_aloadN X0 hx hby d8_23 (pc' := 24) rfl rfl rfl ?_
        refine g_iloadN X0 hx hby d8_24 (pc' := 25) rfl rfl ?_
        refine a_iaload X0 hx hby hZ e0 A_ca (by omega) (by omega) (v := (.int (cf uj.toInt.toNat))) (rfl) d8_25 (pc' := 26) rfl ?_
        refine g_aloadN X0 hx hby d8_26 (pc' := 27) rfl rfl rfl ?_
        refine g_iloadN X0 hx hby d8_27 (pc' := 28) rfl rfl ?_
        refine a_iaload X0 hx hby hZ e0 A_ca (by omega) (by omega) (v := (.int (cf ui.toInt.toNat))) (rfl) d8_28 (pc' := 29) rfl ?_
        refine g_icmpne X0 hx hby d8_29 (pt := 39) (pf := 32) (by decide) (by decide) rfl (fun (h29 : ¬ (cf uj.toInt.toNat) = (cf ui.toInt.toNat)) => ?_) (fun (h29 : (cf uj.toInt.toNat) = (cf ui.toInt.toNat)) => ?_)
        · have h29i : ¬ (cf uj.toInt.toNat).toInt = (cf ui.toInt.toNat).toInt := fun q => h29 (Int32.toInt_inj.mp q)
          refine g_iconst X0 hx hby d8_39 (pc' := 40) rfl (n := (0 : Int32)) (by first | rfl | decide) ?_
          exact g_retI X0 hx hby hlk hret d8_40 (by decide) (by decide) (⟨⟨_, rfl, Or.inr ⟨rfl, by unfold own_lt; omega⟩⟩, e0, rfl⟩)
        · have h29i : (cf uj.toInt.toNat).toInt = (cf ui.toInt.toNat).toInt := congrArg Int32.toInt h29
          refine g_iloadN X0 hx hby d8_32 (pc' := 33) rfl rfl ?_
          refine g_iloadN X0 hx hby d8_33 (pc' := 34) rfl rfl ?_
          refine g_icmpge X0 hx hby d8_34 (pt := 39) (pf := 37) (by decide) (by decide) rfl (fun (h34 : ui.toInt ≤ uj.toInt) => ?_) (fun (h34 : uj.toInt < ui.toInt) => ?_)
          · refine g_iconst X0 hx hby d8_39 (pc' := 40) rfl (n := (0 : Int32)) (by first | rfl | decide) ?_
            exact g_retI X0 hx hby hlk hret d8_40 (by decide) (by decide) (⟨⟨_, rfl, Or.inr ⟨rfl, by unfold own_lt; omega⟩⟩, e0, rfl⟩)
          · refine g_iconst X0 hx hby d8_37 (pc' := 38) rfl (n := (1 : Int32)) (by first | rfl | decide) ?_
            exact g_retI X0 hx hby hlk hret d8_38 (by decide) (by decide) (⟨⟨_, rfl, Or.inl ⟨rfl, by unfold own_lt; omega⟩⟩, e0, rfl⟩)
      · refine g_iconst X0 hx hby d8_21 (pc' := 22) rfl (n := (1 : Int32)) (by first | rfl | decide) ?_
        exact g_retI X0 hx hby hlk hret d8_22 (by decide) (by decide) (⟨⟨_, rfl, Or.inl ⟨rfl, by unfold own_lt; omega⟩⟩, e0, rfl⟩)
    · have h7i : uj.toInt = ui.toInt := congrArg Int32.toInt h7
      refine g_iconst X0 hx hby d8_10 (pc' := 11) rfl (n := (0 : Int32)) (by first | rfl | decide) ?_
      exact g_retI X0 hx hby hlk hret d8_11 (by decide) (by decide) (⟨⟨_, rfl, Or.inr ⟨rfl, by unfold own_lt; omega⟩⟩, e0, rfl⟩)
theorem own_b2i {b : Int32} {P : Prop} [Decidable P] (h : own_bool b P) : b.toInt = if P then 1 else 0 := by
  rcases h with ⟨rfl, q⟩ | ⟨rfl, q⟩
  · rw [if_pos q]; rfl
  · rw [if_neg q]; rfl
theorem own_b01 {b : Int32} {P : Prop} (h : own_bool b P) : 0 ≤ b.toInt ∧ b.toInt ≤ 1 := by
  rcases h with ⟨rfl, q⟩ | ⟨rfl, q⟩ <;> decide
theorem ef_7 (m : MethodId) (ca : Addr) (un : Int32) (ui : Int32) : entryFrame m #[(.ref ca), (.int un), (.int ui)] 3 = mkF m 0 #[.val (.ref ca), .val (.int un), .val (.int ui)] [] := by first | (simp [entryFrame, mkF, argsToLocals, Value.category]; done) | rfl
theorem pn_7 : plainName "com/example/switchbox/switchbox/CostQueueRemovePinLaw" = true := by first | (simp [plainName, overriddenIn]; done) | decide +kernel
theorem d7_0 : decode method_4_code 0 = .ok (.iload_n 2, 1) := by decide +kernel
theorem d7_1 : decode method_4_code 1 = .ok (.ifCond .lt 8, 3) := by decide +kernel
theorem d7_4 : decode method_4_code 4 = .ok (.iload_n 2, 1) := by decide +kernel
theorem d7_5 : decode method_4_code 5 = .ok (.iload_n 1, 1) := by decide +kernel
theorem d7_6 : decode method_4_code 6 = .ok (.if_icmp .lt 5, 3) := by decide +kernel
theorem d7_11 : decode method_4_code 11 = .ok (.aload_n 0, 1) := by decide +kernel
theorem d7_12 : decode method_4_code 12 = .ok (.iload_n 1, 1) := by decide +kernel
theorem d7_13 : decode method_4_code 13 = .ok (.iconst 0, 1) := by decide +kernel
theorem d7_14 : decode method_4_code 14 = .ok (.iload_n 2, 1) := by decide +kernel
theorem d7_15 : decode method_4_code 15 = .ok (.invokestatic 36, 3) := by decide +kernel
theorem pd___IIII_I_537 : parseMethodDescriptor "([IIII)I" = some ⟨[(.array .int), .int, .int, .int], some .int⟩ := by decide +kernel
theorem d7_18 : decode method_4_code 18 = .ok (.aload_n 0, 1) := by decide +kernel
theorem d7_19 : decode method_4_code 19 = .ok (.iload_n 1, 1) := by decide +kernel
theorem d7_20 : decode method_4_code 20 = .ok (.iconst 1, 1) := by decide +kernel
theorem d7_21 : decode method_4_code 21 = .ok (.iload_n 2, 1) := by decide +kernel
theorem d7_22 : decode method_4_code 22 = .ok (.invokestatic 36, 3) := by decide +kernel
theorem d7_25 : decode method_4_code 25 = .ok (.iadd, 1) := by decide +kernel
theorem d7_26 : decode method_4_code 26 = .ok (.aload_n 0, 1) := by decide +kernel
theorem d7_27 : decode method_4_code 27 = .ok (.iload_n 1, 1) := by decide +kernel
theorem d7_28 : decode method_4_code 28 = .ok (.iconst 2, 1) := by decide +kernel
theorem d7_29 : decode method_4_code 29 = .ok (.iload_n 2, 1) := by decide +kernel
theorem d7_30 : decode method_4_code 30 = .ok (.invokestatic 36, 3) := by decide +kernel
theorem d7_33 : decode method_4_code 33 = .ok (.iadd, 1) := by decide +kernel
theorem d7_34 : decode method_4_code 34 = .ok (.aload_n 0, 1) := by decide +kernel
theorem d7_35 : decode method_4_code 35 = .ok (.iload_n 1, 1) := by decide +kernel
theorem d7_36 : decode method_4_code 36 = .ok (.iconst 3, 1) := by decide +kernel
theorem d7_37 : decode method_4_code 37 = .ok (.iload_n 2, 1) := by decide +kernel
theorem d7_38 : decode method_4_code 38 = .ok (.invokestatic 36, 3) := by decide +kernel
theorem d7_41 : decode method_4_code 41 = .ok (.iadd, 1) := by decide +kernel
theorem d7_42 : decode method_4_code 42 = .ok (.aload_n 0, 1) := by decide +kernel
theorem d7_43 : decode method_4_code 43 = .ok (.iload_n 1, 1) := by decide +kernel
theorem d7_44 : decode method_4_code 44 = .ok (.iconst 4, 1) := by decide +kernel
theorem d7_45 : decode method_4_code 45 = .ok (.iload_n 2, 1) := by decide +kernel
theorem d7_46 : decode method_4_code 46 = .ok (.invokestatic 36, 3) := by decide +kernel
theorem d7_49 : decode method_4_code 49 = .ok (.iadd, 1) := by decide +kernel
theorem d7_50 : decode method_4_code 50 = .ok (.aload_n 0, 1) := by decide +kernel
theorem d7_51 : decode method_4_code 51 = .ok (.iload_n 1, 1) := by decide +kernel
theorem d7_52 : decode method_4_code 52 = .ok (.iconst 5, 1) := by decide +kernel
theorem d7_53 : decode method_4_code 53 = .ok (.iload_n 2, 1) := by decide +kernel
theorem d7_54 : decode method_4_code 54 = .ok (.invokestatic 36, 3) := by decide +kernel
theorem d7_57 : decode method_4_code 57 = .ok (.iadd, 1) := by decide +kernel
theorem d7_58 : decode method_4_code 58 = .ok (.ireturn, 1) := by decide +kernel
set_option maxRecDepth 65536 in
set_option maxHeartbeats 40000000 in
theorem rm7 (l : Launch) (Z : State) (a0 : Array Value) (hw : ∀ d ∈ tables_1, d.before a0 Z = true) (ca : Addr) (un : Int32) (ui : Int32) (cf : Nat → Int32) (h0 : Heap) (A_ca : Ara Z h0 ca .int 6 (fun jz => .int (cf jz))) (hi : 0 ≤ ui.toInt ∧ ui.toInt < un.toInt) (hn : un.toInt ≤ 6) :
    Ct l Z (⟨"com/example/switchbox/switchbox/CostQueueRemovePinLaw", "rank", "([III)I"⟩ : MethodName) method_4_code 3 (some .int) ({ frames := 1, cells := 0, slots := 0, locals := 20 } : Room) #[(.ref ca), (.int un), (.int ui)] h0 (QI h0 (fun r => r.toInt = own_rk cf un.toInt ui.toInt.toNat)) := by
  refine own_met (plainFor_of_name pn_7) (fun m => ef_7 m ca un ui) ?_
  intro p e s m below meth c T0 X0 hx hby hml hown hnm hret hlk hZ e0
  refine g_iloadN X0 hx hby d7_0 (pc' := 1) rfl rfl ?_
  refine g_iflt X0 hx hby d7_1 (pt := 9) (pf := 4) (by decide) (by decide) rfl (fun (h1 : ui.toInt < 0) => (by exfalso; omega)) (fun (h1 : 0 ≤ ui.toInt) => ?_)
  refine g_iloadN X0 hx hby d7_4 (pc' := 5) rfl rfl ?_
  refine g_iloadN X0 hx hby d7_5 (pc' := 6) rfl rfl ?_
  refine g_icmplt X0 hx hby d7_6 (pt := 11) (pf := 9) (by decide) (by decide) rfl (fun (h6 : ui.toInt < un.toInt) => ?_) (fun (h6 : un.toInt ≤ ui.toInt) => (by exfalso; omega))
  refine g_aloadN X0 hx hby d7_11 (pc' := 12) rfl rfl rfl ?_
  refine g_iloadN X0 hx hby d7_12 (pc' := 13) rfl rfl ?_
  refine g_iconst X0 hx hby d7_13 (pc' := 14) rfl (n := (0 : Int32)) (by first | rfl | decide) ?_
  refine g_iloadN X0 hx hby d7_14 (pc' := 15) rfl rfl ?_
  refine g_static X0 hx hby hZ hown hml rfl (hw _ (List.mem_of_getElem? (i := 46) rfl)) (hw _ (List.mem_of_getElem? (i := 47) rfl)) (hw _ (List.mem_of_getElem? (i := 31) rfl)) (hw _ (List.mem_of_getElem? (i := 48) rfl)) (by decide) e0 (rm8 l Z a0 hw ca un (0 : Int32) ui cf h0 A_ca (by decide) (by omega)) pd___IIII_I_537 (argsL := [(.ref ca), (.int un), (.int (0 : Int32)), (.int ui)]) (rest := []) rfl rfl rfl d7_15 (pc' := 18) rfl (by decide) (Nat.le_of_ble_eq_true rfl) (by decide) (by decide) ?_
  intro Tp15 vp15 Lp15 Xp15 qp15
  obtain ⟨⟨rp15, rfl, h_rp15⟩, ep15, rfl⟩ := qp15
  rw [List.append_nil] at Xp15
  replace Xp15 : Stand p l e ({ frames := 1, cells := 0, slots := 0, locals := 20 } : Room) s m _ below meth c Tp15 _ 0 0 := Xp15
  show Go p e below s (QI h0 (fun r => r.toInt = own_rk cf un.toInt ui.toInt.toNat)) ({ frames := 1, cells := 0, slots := 0, locals := 20 } : Room).cells ({ frames := 1, cells := 0, slots := 0, locals := 20 } : Room).slots m Tp15 18 #[.val (.ref ca), .val (.int un), .val (.int ui)] [(.int rp15)]
  have i_rp15 := own_b2i h_rp15
  have j_rp15 := own_b01 h_rp15
  refine g_aloadN Xp15 hx hby d7_18 (pc' := 19) rfl rfl rfl ?_
  refine g_iloadN Xp15 hx hby d7_19 (pc' := 20) rfl rfl ?_
  refine g_iconst Xp15 hx hby d7_20 (pc' := 21) rfl (n := (1 : Int32)) (by first | rfl | decide) ?_
  refine g_iloadN Xp15 hx hby d7_21 (pc' := 22) rfl rfl ?_
  refine g_static Xp15 hx hby hZ hown hml rfl (hw _ (List.mem_of_getElem? (i := 46) rfl)) (hw _ (List.mem_of_getElem? (i := 47) rfl)) (hw _ (List.mem_of_getElem? (i := 31) rfl)) (hw _ (List.mem_of_getElem? (i := 48) rfl)) (by decide) ep15 (rm8 l Z a0 hw ca un (1 : Int32) ui cf h0 A_ca (by decide) (by omega)) pd___IIII_I_537 (argsL := [(.ref ca), (.int un), (.int (1 : Int32)), (.int ui)]) (rest := [(.int rp15)]) rfl rfl rfl d7_22 (pc' := 25) rfl (by decide) (Nat.le_of_ble_eq_true rfl) (by decide) (by decide) ?_
  intro Tp22 vp22 Lp22 Xp22 qp22
  obtain ⟨⟨rp22, rfl, h_rp22⟩, ep22, rfl⟩ := qp22
  rw [List.append_nil] at Xp22
  replace Xp22 : Stand p l e ({ frames := 1, cells := 0, slots := 0, locals := 20 } : Room) s m _ below meth c Tp22 _ 0 0 := Xp22
  show Go p e below s (QI h0 (fun r => r.toInt = own_rk cf un.toInt ui.toInt.toNat)) ({ frames := 1, cells := 0, slots := 0, locals := 20 } : Room).cells ({ frames := 1, cells := 0, slots := 0, locals := 20 } : Room).slots m Tp22 25 #[.val (.ref ca), .val (.int un), .val (.int ui)] [(.int rp22), (.int rp15)]
  have i_rp22 := own_b2i h_rp22
  have j_rp22 := own_b01 h_rp22
  refine g_iadd Xp22 hx hby d7_25 (pc' := 26) rfl ?_
  refine g_nameI (fun s1 h_s1 => ?_)
  have f_s1 := own_add rp15 rp22 (by omega) (by omega)
  rw [← h_s1] at f_s1
  refine g_aloadN Xp22 hx hby d7_26 (pc' := 27) rfl rfl rfl ?_
  refine g_iloadN Xp22 hx hby d7_27 (pc' := 28) rfl rfl ?_
  refine g_iconst Xp22 hx hby d7_28 (pc' := 29) rfl (n := (2 : Int32)) (by first | rfl | decide) ?_
  refine g_iloadN Xp22 hx hby d7_29 (pc' := 30) rfl rfl ?_
  refine g_static Xp22 hx hby hZ hown hml rfl (hw _ (List.mem_of_getElem? (i := 46) rfl)) (hw _ (List.mem_of_getElem? (i := 47) rfl)) (hw _ (List.mem_of_getElem? (i := 31) rfl)) (hw _ (List.mem_of_getElem? (i := 48) rfl)) (by decide) ep22 (rm8 l Z a0 hw ca un (2 : Int32) ui cf h0 A_ca (by decide) (by omega)) pd___IIII_I_537 (argsL := [(.ref ca), (.int un), (.int (2 : Int32)), (.int ui)]) (rest := [(.int s1)]) rfl rfl rfl d7_30 (pc' := 33) rfl (by decide) (Nat.le_of_ble_eq_true rfl) (by decide) (by decide) ?_
  intro Tp30 vp30 Lp30 Xp30 qp30
  obtain ⟨⟨rp30, rfl, h_rp30⟩, ep30, rfl⟩ := qp30
  rw [List.append_nil] at Xp30
  replace Xp30 : Stand p l e ({ frames := 1, cells := 0, slots := 0, locals := 20 } : Room) s m _ below meth c Tp30 _ 0 0 := Xp30
  show Go p e below s (QI h0 (fun r => r.toInt = own_rk cf un.toInt ui.toInt.toNat)) ({ frames := 1, cells := 0, slots := 0, locals := 20 } : Room).cells ({ frames := 1, cells := 0, slots := 0, locals := 20 } : Room).slots m Tp30 33 #[.val (.ref ca), .val (.int un), .val (.int ui)] [(.int rp30), (.int s1)]
  have i_rp30 := own_b2i h_rp30
  have j_rp30 := own_b01 h_rp30
  refine g_iadd Xp30 hx hby d7_33 (pc' := 34) rfl ?_
  refine g_nameI (fun s2 h_s2 => ?_)
  have f_s2 := own_add s1 rp30 (by omega) (by omega)
  rw [← h_s2] at f_s2
  refine g_aloadN Xp30 hx hby d7_34 (pc' := 35) rfl rfl rfl ?_
  refine g_iloadN Xp30 hx hby d7_35 (pc' := 36) rfl rfl ?_
  refine g_iconst Xp30 hx hby d7_36 (pc' := 37) rfl (n := (3 : Int32)) (by first | rfl | decide) ?_
  refine g_iloadN Xp30 hx hby d7_37 (pc' := 38) rfl rfl ?_
  refine g_static Xp30 hx hby hZ hown hml rfl (hw _ (List.mem_of_getElem? (i := 46) rfl)) (hw _ (List.mem_of_getElem? (i := 47) rfl)) (hw _ (List.mem_of_getElem? (i := 31) rfl)) (hw _ (List.mem_of_getElem? (i := 48) rfl)) (by decide) ep30 (rm8 l Z a0 hw ca un (3 : Int32) ui cf h0 A_ca (by decide) (by omega)) pd___IIII_I_537 (argsL := [(.ref ca), (.int un), (.int (3 : Int32)), (.int ui)]) (rest := [(.int s2)]) rfl rfl rfl d7_38 (pc' := 41) rfl (by decide) (Nat.le_of_ble_eq_true rfl) (by decide) (by decide) ?_
  intro Tp38 vp38 Lp38 Xp38 qp38
  obtain ⟨⟨rp38, rfl, h_rp38⟩, ep38, rfl⟩ := qp38
  rw [List.append_nil] at Xp38
  replace Xp38 : Stand p l e ({ frames := 1, cells := 0, slots := 0, locals := 20 } : Room) s m _ below meth c Tp38 _ 0 0 := Xp38
  show Go p e below s (QI h0 (fun r => r.toInt = own_rk cf un.toInt ui.toInt.toNat)) ({ frames := 1, cells := 0, slots := 0, locals := 20 } : Room).cells ({ frames := 1, cells := 0, slots := 0, locals := 20 } : Room).slots m Tp38 41 #[.val (.ref ca), .val (.int un), .val (.int ui)] [(.int rp38), (.int s2)]
  have i_rp38 := own_b2i h_rp38
  have j_rp38 := own_b01 h_rp38
  refine g_iadd Xp38 hx hby d7_41 (pc' := 42) rfl ?_
  refine g_nameI (fun s3 h_s3 => ?_)
  have f_s3 := own_add s2 rp38 (by omega) (by omega)
  rw [← h_s3] at f_s3
  refine g_aloadN Xp38 hx hby d7_42 (pc' := 43) rfl rfl rfl ?_
  refine g_iloadN Xp38 hx hby d7_43 (pc' := 44) rfl rfl ?_
  refine g_iconst Xp38 hx hby d7_44 (pc' := 45) rfl (n := (4 : Int32)) (by first | rfl | decide) ?_
  refine g_iloadN Xp38 hx hby d7_45 (pc' := 46) rfl rfl ?_
  refine g_static Xp38 hx hby hZ hown hml rfl (hw _ (List.mem_of_getElem? (i := 46) rfl)) (hw _ (List.mem_of_getElem? (i := 47) rfl)) (hw _ (List.mem_of_getElem? (i := 31) rfl)) (hw _ (List.mem_of_getElem? (i := 48) rfl)) (by decide) ep38 (rm8 l Z a0 hw ca un (4 : Int32) ui cf h0 A_ca (by decide) (by omega)) pd___IIII_I_537 (argsL := [(.ref ca), (.int un), (.int (4 : Int32)), (.int ui)]) (rest := [(.int s3)]) rfl rfl rfl d7_46 (pc' := 49) rfl (by decide) (Nat.le_of_ble_eq_true rfl) (by decide) (by decide) ?_
  intro Tp46 vp46 Lp46 Xp46 qp46
  obtain ⟨⟨rp46, rfl, h_rp46⟩, ep46, rfl⟩ := qp46
  rw [List.append_nil] at Xp46
  replace Xp46 : Stand p l e ({ frames := 1, cells := 0, slots := 0, locals := 20 } : Room) s m _ below meth c Tp46 _ 0 0 := Xp46
  show Go p e below s (QI h0 (fun r => r.toInt = own_rk cf un.toInt ui.toInt.toNat)) ({ frames := 1, cells := 0, slots := 0, locals := 20 } : Room).cells ({ frames := 1, cells := 0, slots := 0, locals := 20 } : Room).slots m Tp46 49 #[.val (.ref ca), .val (.int un), .val (.int ui)] [(.int rp46), (.int s3)]
  have i_rp46 := own_b2i h_rp46
  have j_rp46 := own_b01 h_rp46
  refine g_iadd Xp46 hx hby d7_49 (pc' := 50) rfl ?_
  refine g_nameI (fun s4 h_s4 => ?_)
  have f_s4 := own_add s3 rp46 (by omega) (by omega)
  rw [← h_s4] at f_s4
  refine g_aloadN Xp46 hx hby d7_50 (pc' := 51) rfl rfl rfl ?_
  refine g_iloadN Xp46 hx hby d7_51 (pc' := 52) rfl rfl ?_
  refine g_iconst Xp46 hx hby d7_52 (pc' := 53) rfl (n := (5 : Int32)) (by first | rfl | decide) ?_
  refine g_iloadN Xp46 hx hby d7_53 (pc' := 54) rfl rfl ?_
  refine g_static Xp46 hx hby hZ hown hml rfl (hw _ (List.mem_of_getElem? (i := 46) rfl)) (hw _ (List.mem_of_getElem? (i := 47) rfl)) (hw _ (List.mem_of_getElem? (i := 31) rfl)) (hw _ (List.mem_of_getElem? (i := 48) rfl)) (by decide) ep46 (rm8 l Z a0 hw ca un (5 : Int32) ui cf h0 A_ca (by decide) (by omega)) pd___IIII_I_537 (argsL := [(.ref ca), (.int un), (.int (5 : Int32)), (.int ui)]) (rest := [(.int s4)]) rfl rfl rfl d7_54 (pc' := 57) rfl (by decide) (Nat.le_of_ble_eq_true rfl) (by decide) (by decide) ?_
  intro Tp54 vp54 Lp54 Xp54 qp54
  obtain ⟨⟨rp54, rfl, h_rp54⟩, ep54, rfl⟩ := qp54
  rw [List.append_nil] at Xp54
  replace Xp54 : Stand p l e ({ frames := 1, cells := 0, slots := 0, locals := 20 } : Room) s m _ below meth c Tp54 _ 0 0 := Xp54
  show Go p e below s (QI h0 (fun r => r.toInt = own_rk cf un.toInt ui.toInt.toNat)) ({ frames := 1, cells := 0, slots := 0, locals := 20 } : Room).cells ({ frames := 1, cells := 0, slots := 0, locals := 20 } : Room).slots m Tp54 57 #[.val (.ref ca), .val (.int un), .val (.int ui)] [(.int rp54), (.int s4)]
  have i_rp54 := own_b2i h_rp54
  have j_rp54 := own_b01 h_rp54
  refine g_iadd Xp54 hx hby d7_57 (pc' := 58) rfl ?_
  refine g_nameI (fun s5 h_s5 => ?_)
  have f_s5 := own_add s4 rp54 (by omega) (by omega)
  rw [← h_s5] at f_s5
  exact g_retI Xp54 hx hby hlk hret d7_58 (by decide) (by decide) (⟨⟨_, rfl, by show s5.toInt = own_rk cf un.toInt ui.toInt.toNat; rw [f_s5, f_s4, f_s3, f_s2, f_s1, i_rp15, i_rp22, i_rp30, i_rp38, i_rp46, i_rp54]; rfl⟩, ep54, rfl⟩)
theorem own_ch {K : Nat → Int64} {ix ch cx zs : Nat} (hch : ch = 2 * ix + 1) (h : (cx = ch ∧ (zs ≤ ch + 1 ∨ (K ch).toInt ≤ (K (ch + 1)).toInt)) ∨ (cx = ch + 1 ∧ (K (ch + 1)).toInt < (K ch).toInt)) : ∀ i, 0 < i → i < zs → (i - 1) / 2 = ix → (K cx).toInt ≤ (K i).toInt := by
  intro i a b d
  have e : i = ch ∨ i = ch + 1 := by omega
  rcases h with ⟨q, r⟩ | ⟨q, r⟩ <;> rcases e with e | e <;> rw [q, e] <;> omega
theorem ef_9 (m : MethodId) (o : Addr) : entryFrame m #[(.ref o)] 6 = mkF m 0 #[.val (.ref o), .unset, .unset, .unset, .unset, .unset] [] := by first | (simp [entryFrame, mkF, argsToLocals, Value.category]; done) | rfl
theorem pn_9 : plainName "com/example/switchbox/switchbox/CostQueue" = true := by first | (simp [plainName, overriddenIn]; done) | decide +kernel
theorem d9_0 : decode prog_10_method_6_code 0 = .ok (.aload_n 0, 1) := by decide +kernel
theorem d9_1 : decode prog_10_method_6_code 1 = .ok (.dup, 1) := by decide +kernel
theorem d9_2 : decode prog_10_method_6_code 2 = .ok (.getfield 17, 3) := by decide +kernel
theorem d9_5 : decode prog_10_method_6_code 5 = .ok (.iconst 1, 1) := by decide +kernel
theorem d9_6 : decode prog_10_method_6_code 6 = .ok (.isub, 1) := by decide +kernel
theorem d9_7 : decode prog_10_method_6_code 7 = .ok (.putfield 17, 3) := by decide +kernel
theorem d9_10 : decode prog_10_method_6_code 10 = .ok (.aload_n 0, 1) := by decide +kernel
theorem d9_11 : decode prog_10_method_6_code 11 = .ok (.getfield 7, 3) := by decide +kernel
theorem d9_14 : decode prog_10_method_6_code 14 = .ok (.aload_n 0, 1) := by decide +kernel
theorem d9_15 : decode prog_10_method_6_code 15 = .ok (.getfield 17, 3) := by decide +kernel
theorem d9_18 : decode prog_10_method_6_code 18 = .ok (.laload, 1) := by decide +kernel
theorem d9_19 : decode prog_10_method_6_code 19 = .ok (.lstore_n 1, 1) := by decide +kernel
theorem d9_20 : decode prog_10_method_6_code 20 = .ok (.aload_n 0, 1) := by decide +kernel
theorem d9_21 : decode prog_10_method_6_code 21 = .ok (.getfield 13, 3) := by decide +kernel
theorem d9_24 : decode prog_10_method_6_code 24 = .ok (.aload_n 0, 1) := by decide +kernel
theorem d9_25 : decode prog_10_method_6_code 25 = .ok (.getfield 17, 3) := by decide +kernel
theorem d9_28 : decode prog_10_method_6_code 28 = .ok (.iaload, 1) := by decide +kernel
theorem d9_29 : decode prog_10_method_6_code 29 = .ok (.istore_n 3, 1) := by decide +kernel
theorem d9_30 : decode prog_10_method_6_code 30 = .ok (.iconst 0, 1) := by decide +kernel
theorem d9_31 : decode prog_10_method_6_code 31 = .ok (.istore 4, 2) := by decide +kernel
theorem d9_33 : decode prog_10_method_6_code 33 = .ok (.iconst 1, 1) := by decide +kernel
theorem d9_34 : decode prog_10_method_6_code 34 = .ok (.istore 5, 2) := by decide +kernel
theorem d9_36 : decode prog_10_method_6_code 36 = .ok (.iload 5, 2) := by decide +kernel
theorem d9_38 : decode prog_10_method_6_code 38 = .ok (.aload_n 0, 1) := by decide +kernel
theorem d9_39 : decode prog_10_method_6_code 39 = .ok (.getfield 17, 3) := by decide +kernel
theorem d9_42 : decode prog_10_method_6_code 42 = .ok (.if_icmp .ge 95, 3) := by decide +kernel
theorem d9_137 : decode prog_10_method_6_code 137 = .ok (.aload_n 0, 1) := by decide +kernel
theorem d9_138 : decode prog_10_method_6_code 138 = .ok (.getfield 7, 3) := by decide +kernel
theorem d9_141 : decode prog_10_method_6_code 141 = .ok (.iload 4, 2) := by decide +kernel
theorem d9_143 : decode prog_10_method_6_code 143 = .ok (.lload_n 1, 1) := by decide +kernel
theorem d9_144 : decode prog_10_method_6_code 144 = .ok (.lastore, 1) := by decide +kernel
theorem d9_145 : decode prog_10_method_6_code 145 = .ok (.aload_n 0, 1) := by decide +kernel
theorem d9_146 : decode prog_10_method_6_code 146 = .ok (.getfield 13, 3) := by decide +kernel
theorem d9_149 : decode prog_10_method_6_code 149 = .ok (.iload 4, 2) := by decide +kernel
theorem d9_151 : decode prog_10_method_6_code 151 = .ok (.iload_n 3, 1) := by decide +kernel
theorem d9_152 : decode prog_10_method_6_code 152 = .ok (.iastore, 1) := by decide +kernel
theorem d9_153 : decode prog_10_method_6_code 153 = .ok (.return_, 1) := by decide +kernel
theorem d9_45 : decode prog_10_method_6_code 45 = .ok (.iload 5, 2) := by decide +kernel
theorem d9_47 : decode prog_10_method_6_code 47 = .ok (.iconst 1, 1) := by decide +kernel
theorem d9_48 : decode prog_10_method_6_code 48 = .ok (.iadd, 1) := by decide +kernel
theorem d9_49 : decode prog_10_method_6_code 49 = .ok (.aload_n 0, 1) := by decide +kernel
theorem d9_50 : decode prog_10_method_6_code 50 = .ok (.getfield 17, 3) := by decide +kernel
theorem d9_53 : decode prog_10_method_6_code 53 = .ok (.if_icmp .ge 26, 3) := by decide +kernel
theorem d9_56 : decode prog_10_method_6_code 56 = .ok (.aload_n 0, 1) := by decide +kernel
theorem d9_57 : decode prog_10_method_6_code 57 = .ok (.getfield 7, 3) := by decide +kernel
theorem d9_60 : decode prog_10_method_6_code 60 = .ok (.iload 5, 2) := by decide +kernel
theorem d9_62 : decode prog_10_method_6_code 62 = .ok (.iconst 1, 1) := by decide +kernel
theorem d9_63 : decode prog_10_method_6_code 63 = .ok (.iadd, 1) := by decide +kernel
theorem d9_64 : decode prog_10_method_6_code 64 = .ok (.laload, 1) := by decide +kernel
theorem d9_65 : decode prog_10_method_6_code 65 = .ok (.aload_n 0, 1) := by decide +kernel
theorem d9_66 : decode prog_10_method_6_code 66 = .ok (.getfield 7, 3) := by decide +kernel
theorem d9_69 : decode prog_10_method_6_code 69 = .ok (.iload 5, 2) := by decide +kernel
theorem d9_71 : decode prog_10_method_6_code 71 = .ok (.laload, 1) := by decide +kernel
theorem d9_72 : decode prog_10_method_6_code 72 = .ok (.lcmp, 1) := by decide +kernel
theorem d9_73 : decode prog_10_method_6_code 73 = .ok (.ifCond .ge 6, 3) := by decide +kernel
theorem d9_76 : decode prog_10_method_6_code 76 = .ok (.iinc 5 1, 3) := by decide +kernel
theorem d9_79 : decode prog_10_method_6_code 79 = .ok (.aload_n 0, 1) := by decide +kernel
theorem d9_80 : decode prog_10_method_6_code 80 = .ok (.getfield 7, 3) := by decide +kernel
theorem d9_83 : decode prog_10_method_6_code 83 = .ok (.iload 5, 2) := by decide +kernel
theorem d9_85 : decode prog_10_method_6_code 85 = .ok (.laload, 1) := by decide +kernel
theorem d9_86 : decode prog_10_method_6_code 86 = .ok (.lload_n 1, 1) := by decide +kernel
theorem d9_87 : decode prog_10_method_6_code 87 = .ok (.lcmp, 1) := by decide +kernel
theorem d9_88 : decode prog_10_method_6_code 88 = .ok (.ifCond .lt 6, 3) := by decide +kernel
theorem d9_94 : decode prog_10_method_6_code 94 = .ok (.aload_n 0, 1) := by decide +kernel
theorem d9_95 : decode prog_10_method_6_code 95 = .ok (.getfield 7, 3) := by decide +kernel
theorem d9_98 : decode prog_10_method_6_code 98 = .ok (.iload 4, 2) := by decide +kernel
theorem d9_100 : decode prog_10_method_6_code 100 = .ok (.aload_n 0, 1) := by decide +kernel
theorem d9_101 : decode prog_10_method_6_code 101 = .ok (.getfield 7, 3) := by decide +kernel
theorem d9_104 : decode prog_10_method_6_code 104 = .ok (.iload 5, 2) := by decide +kernel
theorem d9_106 : decode prog_10_method_6_code 106 = .ok (.laload, 1) := by decide +kernel
theorem d9_107 : decode prog_10_method_6_code 107 = .ok (.lastore, 1) := by decide +kernel
theorem d9_108 : decode prog_10_method_6_code 108 = .ok (.aload_n 0, 1) := by decide +kernel
theorem d9_109 : decode prog_10_method_6_code 109 = .ok (.getfield 13, 3) := by decide +kernel
theorem d9_112 : decode prog_10_method_6_code 112 = .ok (.iload 4, 2) := by decide +kernel
theorem d9_114 : decode prog_10_method_6_code 114 = .ok (.aload_n 0, 1) := by decide +kernel
theorem d9_115 : decode prog_10_method_6_code 115 = .ok (.getfield 13, 3) := by decide +kernel
theorem d9_118 : decode prog_10_method_6_code 118 = .ok (.iload 5, 2) := by decide +kernel
theorem d9_120 : decode prog_10_method_6_code 120 = .ok (.iaload, 1) := by decide +kernel
theorem d9_121 : decode prog_10_method_6_code 121 = .ok (.iastore, 1) := by decide +kernel
theorem d9_122 : decode prog_10_method_6_code 122 = .ok (.iload 5, 2) := by decide +kernel
theorem d9_124 : decode prog_10_method_6_code 124 = .ok (.istore 4, 2) := by decide +kernel
theorem d9_126 : decode prog_10_method_6_code 126 = .ok (.iconst 2, 1) := by decide +kernel
theorem d9_127 : decode prog_10_method_6_code 127 = .ok (.iload 4, 2) := by decide +kernel
theorem d9_129 : decode prog_10_method_6_code 129 = .ok (.imul, 1) := by decide +kernel
theorem d9_130 : decode prog_10_method_6_code 130 = .ok (.iconst 1, 1) := by decide +kernel
theorem d9_131 : decode prog_10_method_6_code 131 = .ok (.iadd, 1) := by decide +kernel
theorem d9_132 : decode prog_10_method_6_code 132 = .ok (.istore 5, 2) := by decide +kernel
theorem d9_134 : decode prog_10_method_6_code 134 = .ok (.goto (-98), 3) := by decide +kernel
theorem d9_91 : decode prog_10_method_6_code 91 = .ok (.goto 46, 3) := by decide +kernel
set_option maxRecDepth 65536 in
set_option maxHeartbeats 40000000 in
theorem rm9 (l : Launch) (Z : State) (a0 : Array Value) (hw : ∀ d ∈ tables_1, d.before a0 Z = true) (o : Addr) (n0 : Nat) (tk tn : Addr) (K : Nat → Int64) (G : Nat → Int32) (sz ad : Int32) (key : Nat → Int64) (ub : Int32) (τ : Nat → Nat) (Lv : Nat → Prop) (h0 : Heap) (Z0 : n0 ≤ h0.size) (g_o : n0 ≤ o) (g_tk : n0 ≤ tk) (g_tn : n0 ≤ tn) (ne1 : o ≠ tk) (ne2 : o ≠ tn) (ne3 : tk ≠ tn) (E_o : Exa Z h0 o "com/example/switchbox/switchbox/CostQueue") (F1 : Fld Z h0 o "com/example/switchbox/switchbox/CostQueue" "keys" "[J" (.ref tk)) (F2 : Fld Z h0 o "com/example/switchbox/switchbox/CostQueue" "nets" "[I" (.ref tn)) (F3 : Fld Z h0 o "com/example/switchbox/switchbox/CostQueue" "size" "I" (.int sz)) (F4 : Fld Z h0 o "com/example/switchbox/switchbox/CostQueue" "added" "I" (.int ad)) (A1 : Ara Z h0 tk .long 64 (fun jz => .long (K jz))) (A2 : Ara Z h0 tn .int 64 (fun jz => .int (G jz))) (hsz : 0 < sz.toInt ∧ sz.toInt ≤ 64) (hhp : own_hp key ub sz.toInt.toNat K G τ Lv) :
    Ct l Z (⟨"com/example/switchbox/switchbox/CostQueue", "remove", "()V"⟩ : MethodName) prog_10_method_6_code 6 none ({ frames := 0, cells := 0, slots := 0, locals := 0 } : Room) #[(.ref o)] h0 (QCq Z n0 o tk tn none (fun h => Keep h0 h [o, tk, tn]) (fun sz' ad' K' G' => sz' = sz - 1 ∧ ad' = ad ∧ ∃ τ', own_hp key ub (sz.toInt.toNat - 1) K' G' τ' (fun t => Lv t ∧ t ≠ τ 0))) := by
  refine own_met (plainFor_of_name pn_9) (fun m => ef_9 m o) ?_
  intro p e s m below meth c T0 X0 hx hby hml hown hnm hret hlk hZ e0
  have N0 := Fr.nil n0
  refine g_aloadN X0 hx hby d9_0 (pc' := 1) rfl rfl rfl ?_
  refine g_dup X0 hx hby d9_1 (pc' := 2) rfl rfl ?_
  refine g_getF X0 hx hby hZ hown e0 (hw _ (List.mem_of_getElem? (i := 21) rfl)) F3 d9_2 (pc' := 5) rfl (fun T1 X1 e1 => ?_)
  refine g_iconst X1 hx hby d9_5 (pc' := 6) rfl (n := (1 : Int32)) (by first | rfl | decide) ?_
  refine g_isub X1 hx hby d9_6 (pc' := 7) rfl ?_
  refine g_nameI (fun zs h_zs => ?_)
  have f_zs := own_dec sz (by omega)
  rw [← h_zs] at f_zs
  have e_zs : zs.toInt.toNat = sz.toInt.toNat - 1 := by omega
  have hhp2 : own_hp key ub (zs.toInt.toNat + 1) K G τ Lv := by rw [show zs.toInt.toNat + 1 = sz.toInt.toNat by omega]; exact hhp
  have hst := own_dn_start hhp2
  have hent := hhp2.1 zs.toInt.toNat (by omega)
  refine g_putF X1 hx hby hZ hown e1 (hw _ (List.mem_of_getElem? (i := 21) rfl)) F3 E_o (Or.inl (hw _ (List.mem_of_getElem? (i := 22) rfl))) (hw _ (List.mem_of_getElem? (i := 3) rfl)) (ty := .int) (by decide) rfl rfl d9_7 (pc' := 10) rfl (fun T2 h2 X2 e2 W2 => ?_)
  replace E_o := E_o.wr W2
  replace F1 := F1.other W2 (Or.inr (slot_ne (Or.inl (hw _ (List.mem_of_getElem? (i := 13) rfl))) (Or.inl (hw _ (List.mem_of_getElem? (i := 22) rfl))) (by decide) (t := (.array .long)) (t' := .int) (by decide) (by decide)))
  replace F2 := F2.other W2 (Or.inr (slot_ne (Or.inl (hw _ (List.mem_of_getElem? (i := 15) rfl))) (Or.inl (hw _ (List.mem_of_getElem? (i := 22) rfl))) (by decide) (t := (.array .int)) (t' := .int) (by decide) (by decide)))
  replace F3 := F3.same W2
  replace F4 := F4.other W2 (Or.inr (slot_ne (Or.inl (hw _ (List.mem_of_getElem? (i := 28) rfl))) (Or.inl (hw _ (List.mem_of_getElem? (i := 22) rfl))) (by decide) (t := .int) (t' := .int) (by decide) (by decide)))
  replace A1 := A1.other W2 (Ne.symm ne1)
  replace A2 := A2.other W2 (Ne.symm ne2)
  have Z3 : n0 ≤ h2.size := by rw [W2.size]; exact Z0
  have K4 := (Keep.refl h0 [o, tk, tn]).wr W2 (Or.inl (List.mem_of_getElem? (i := 0) rfl))
  have N5 := Fr.snoc X2 N0 g_o
  refine g_aloadN X2 hx hby d9_10 (pc' := 11) rfl rfl rfl ?_
  refine g_getF X2 hx hby hZ hown e2 (hw _ (List.mem_of_getElem? (i := 12) rfl)) F1 d9_11 (pc' := 14) rfl (fun T6 X6 e6 => ?_)
  refine g_aloadN X6 hx hby d9_14 (pc' := 15) rfl rfl rfl ?_
  refine g_getF X6 hx hby hZ hown e6 (hw _ (List.mem_of_getElem? (i := 21) rfl)) F3 d9_15 (pc' := 18) rfl (fun T7 X7 e7 => ?_)
  refine a_laload X7 hx hby hZ e7 A1 (by omega) (by omega) (v := (.long (K zs.toInt.toNat))) (rfl) d9_18 (pc' := 19) rfl ?_
  refine g_nameL (fun ky h_ky => ?_)
  have hky : ky = key (τ zs.toInt.toNat) := h_ky.trans hent.1
  refine g_lstoreN X7 hx hby d9_19 (pc' := 20) rfl (Ls' := #[.val (.ref o), .val (.long ky), .second, .unset, .unset, .unset]) rfl ?_
  refine g_aloadN X7 hx hby d9_20 (pc' := 21) rfl rfl rfl ?_
  refine g_getF X7 hx hby hZ hown e7 (hw _ (List.mem_of_getElem? (i := 14) rfl)) F2 d9_21 (pc' := 24) rfl (fun T8 X8 e8 => ?_)
  refine g_aloadN X8 hx hby d9_24 (pc' := 25) rfl rfl rfl ?_
  refine g_getF X8 hx hby hZ hown e8 (hw _ (List.mem_of_getElem? (i := 21) rfl)) F3 d9_25 (pc' := 28) rfl (fun T9 X9 e9 => ?_)
  refine a_iaload X9 hx hby hZ e9 A2 (by omega) (by omega) (v := (.int (G zs.toInt.toNat))) (rfl) d9_28 (pc' := 29) rfl ?_
  refine g_nameI (fun nt h_nt => ?_)
  have hnt : nt = ub + Int32.ofNat (τ zs.toInt.toNat) := h_nt.trans hent.2
  refine g_istoreN X9 hx hby d9_29 (pc' := 30) rfl (Ls' := #[.val (.ref o), .val (.long ky), .second, .val (.int nt), .unset, .unset]) rfl ?_
  refine g_iconst X9 hx hby d9_30 (pc' := 31) rfl (n := (0 : Int32)) (by first | rfl | decide) ?_
  refine g_istore X9 hx hby d9_31 (pc' := 33) rfl (Ls' := #[.val (.ref o), .val (.long ky), .second, .val (.int nt), .val (.int (0 : Int32)), .unset]) rfl ?_
  refine g_iconst X9 hx hby d9_33 (pc' := 34) rfl (n := (1 : Int32)) (by first | rfl | decide) ?_
  refine g_istore X9 hx hby d9_34 (pc' := 36) rfl (Ls' := #[.val (.ref o), .val (.long ky), .second, .val (.int nt), .val (.int (0 : Int32)), .val (.int (1 : Int32))]) rfl ?_
  suffices J36_10 : ∀ (nn : Nat) (locs11 : List Loc) (T11 : State) (X11 : Stand p l e ({ frames := 0, cells := 0, slots := 0, locals := 0 } : Room) s m #[(.ref o)] below meth c T11 locs11 0 0) (hp11 : Heap) (e11 : T11.heap = hp11) (N11 : Fr n0 locs11) (ix : Int32) (ch : Int32) (Kj : Nat → Int64) (Gj : Nat → Int32) (τj : Nat → Nat) (Ej : Exa Z hp11 o "com/example/switchbox/switchbox/CostQueue") (Fj1 : Fld Z hp11 o "com/example/switchbox/switchbox/CostQueue" "keys" "[J" (.ref tk)) (Fj2 : Fld Z hp11 o "com/example/switchbox/switchbox/CostQueue" "nets" "[I" (.ref tn)) (Fj3 : Fld Z hp11 o "com/example/switchbox/switchbox/CostQueue" "size" "I" (.int zs)) (Fj4 : Fld Z hp11 o "com/example/switchbox/switchbox/CostQueue" "added" "I" (.int ad)) (Aj1 : Ara Z hp11 tk .long 64 (fun jz => .long (Kj jz))) (Aj2 : Ara Z hp11 tn .int 64 (fun jz => .int (Gj jz))) (Zj : n0 ≤ hp11.size) (Kpj : Keep h0 hp11 [o, tk, tn]) (hix : 0 ≤ ix.toInt ∧ ix.toInt < 64) (hch : ch.toInt = 2 * ix.toInt + 1) (hdn : own_dni key ub (τ zs.toInt.toNat) zs.toInt.toNat ix.toInt.toNat Kj Gj τj (fun t => Lv t ∧ t ≠ τ 0)) (hnn : (zs.toInt - ix.toInt).toNat = nn), Go p e below s (QCq Z n0 o tk tn none (fun h => Keep h0 h [o, tk, tn]) (fun sz' ad' K' G' => sz' = sz - 1 ∧ ad' = ad ∧ ∃ τ', own_hp key ub (sz.toInt.toNat - 1) K' G' τ' (fun t => Lv t ∧ t ≠ τ 0))) ({ frames := 0, cells := 0, slots := 0, locals := 0 } : Room).cells ({ frames := 0, cells := 0, slots := 0, locals := 0 } : Room).slots m T11 36 #[.val (.ref o), .val (.long ky), .second, .val (.int nt), .val (.int ix), .val (.int ch)] [] by
    exact J36_10 _ _ _ X9 _ e9 N5 0 1 _ _ _ E_o F1 F2 F3 F4 A1 A2 Z3 K4 (by decide) rfl hst rfl
  intro nn
  induction nn using Nat.strongRecOn with
  | _ nn ih =>
    intro locs11 T11 X11 hp11 e11 N11 ix ch Kj Gj τj Ej Fj1 Fj2 Fj3 Fj4 Aj1 Aj2 Zj Kpj hix hch hdn hnn
    refine g_iload X11 hx hby d9_36 (pc' := 38) rfl rfl ?_
    refine g_aloadN X11 hx hby d9_38 (pc' := 39) rfl rfl rfl ?_
    refine g_getF X11 hx hby hZ hown e11 (hw _ (List.mem_of_getElem? (i := 21) rfl)) Fj3 d9_39 (pc' := 42) rfl (fun T12 X12 e12 => ?_)
    refine g_icmpge X12 hx hby d9_42 (pt := 137) (pf := 45) (by decide) (by decide) rfl (fun (h42 : zs.toInt ≤ ch.toInt) => ?_) (fun (h42 : ch.toInt < zs.toInt) => ?_)
    · refine g_aloadN X12 hx hby d9_137 (pc' := 138) rfl rfl rfl ?_
      refine g_getF X12 hx hby hZ hown e12 (hw _ (List.mem_of_getElem? (i := 12) rfl)) Fj1 d9_138 (pc' := 141) rfl (fun T13 X13 e13 => ?_)
      refine g_iload X13 hx hby d9_141 (pc' := 143) rfl rfl ?_
      refine g_lloadN X13 hx hby d9_143 (pc' := 144) rfl rfl ?_
      refine a_lastore X13 hx hby hZ e13 Aj1 (by omega) (by omega) d9_144 (pc' := 145) rfl (fun T14 h14 X14 e14 W14 => ?_)
      replace Ej := Ej.wr W14
      replace Fj1 := Fj1.other W14 (Or.inl ne1)
      replace Fj2 := Fj2.other W14 (Or.inl ne1)
      replace Fj3 := Fj3.other W14 (Or.inl ne1)
      replace Fj4 := Fj4.other W14 (Or.inl ne1)
      replace Aj2 := Aj2.other W14 (Ne.symm ne3)
      have Z15 : n0 ≤ h14.size := by rw [W14.size]; exact Zj
      have K16 := Kpj.wr W14 (Or.inl (List.mem_of_getElem? (i := 1) rfl))
      have N17 := Fr.snoc X14 N11 g_tk
      replace Aj1 : Ara Z h14 tk .long 64 (fun jz => .long ((own_ul Kj ix.toInt.toNat ky) jz)) := Aj1.setL W14
      refine g_aloadN X14 hx hby d9_145 (pc' := 146) rfl rfl rfl ?_
      refine g_getF X14 hx hby hZ hown e14 (hw _ (List.mem_of_getElem? (i := 14) rfl)) Fj2 d9_146 (pc' := 149) rfl (fun T18 X18 e18 => ?_)
      refine g_iload X18 hx hby d9_149 (pc' := 151) rfl rfl ?_
      refine g_iloadN X18 hx hby d9_151 (pc' := 152) rfl rfl ?_
      refine a_iastore X18 hx hby hZ e18 Aj2 (by omega) (by omega) d9_152 (pc' := 153) rfl (fun T19 h19 X19 e19 W19 => ?_)
      replace Ej := Ej.wr W19
      replace Fj1 := Fj1.other W19 (Or.inl ne2)
      replace Fj2 := Fj2.other W19 (Or.inl ne2)
      replace Fj3 := Fj3.other W19 (Or.inl ne2)
      replace Fj4 := Fj4.other W19 (Or.inl ne2)
      replace Aj1 := Aj1.other W19 ne3
      have Z20 : n0 ≤ h19.size := by rw [W19.size]; exact Z15
      have K21 := K16.wr W19 (Or.inl (List.mem_of_getElem? (i := 2) rfl))
      have N22 := Fr.snoc X19 N17 g_tn
      replace Aj2 : Ara Z h19 tn .int 64 (fun jz => .int ((own_ui Gj ix.toInt.toNat nt) jz)) := Aj2.setI W19
      exact g_retV X19 hx hby hlk hret d9_153 (by decide) (by decide) (by rw [e19]; exact ⟨_, _, _, _, rfl, N22, Ej, Fj1, Fj2, Fj3, Fj4, Aj1, Aj2, K21, h_zs, rfl, τj, by rw [← e_zs]; exact own_dn_end hdn (fun i q1 q2 q3 => by omega) hky hnt⟩)
    · suffices J79_23 : ∀ (T24 : State) (X24 : Stand p l e ({ frames := 0, cells := 0, slots := 0, locals := 0 } : Room) s m #[(.ref o)] below meth c T24 locs11 0 0) (e24 : T24.heap = hp11) (cx : Int32) (hcx : (cx.toInt = 2 * ix.toInt + 1 ∨ cx.toInt = 2 * ix.toInt + 2) ∧ cx.toInt < zs.toInt) (hmin : ∀ i, 0 < i → i < zs.toInt.toNat → (i - 1) / 2 = ix.toInt.toNat → (Kj cx.toInt.toNat).toInt ≤ (Kj i).toInt), Go p e below s (QCq Z n0 o tk tn none (fun h => Keep h0 h [o, tk, tn]) (fun sz' ad' K' G' => sz' = sz - 1 ∧ ad' = ad ∧ ∃ τ', own_hp key ub (sz.toInt.toNat - 1) K' G' τ' (fun t => Lv t ∧ t ≠ τ 0))) ({ frames := 0, cells := 0, slots := 0, locals := 0 } : Room).cells ({ frames := 0, cells := 0, slots := 0, locals := 0 } : Room).slots m T24 79 #[.val (.ref o), .val (.long ky), .second, .val (.int nt), .val (.int ix), .val (.int cx)] [] by
        refine g_iload X12 hx hby d9_45 (pc' := 47) rfl rfl ?_
        refine g_iconst X12 hx hby d9_47 (pc' := 48) rfl (n := (1 : Int32)) (by first | rfl | decide) ?_
        refine g_iadd X12 hx hby d9_48 (pc' := 49) rfl ?_
        refine g_nameI (fun c1 h_c1 => ?_)
        have f_c1 := own_inc ch (by omega)
        rw [← h_c1] at f_c1
        refine g_aloadN X12 hx hby d9_49 (pc' := 50) rfl rfl rfl ?_
        refine g_getF X12 hx hby hZ hown e12 (hw _ (List.mem_of_getElem? (i := 21) rfl)) Fj3 d9_50 (pc' := 53) rfl (fun T25 X25 e25 => ?_)
        refine g_icmpge X25 hx hby d9_53 (pt := 79) (pf := 56) (by decide) (by decide) rfl (fun (h53 : zs.toInt ≤ c1.toInt) => ?_) (fun (h53 : c1.toInt < zs.toInt) => ?_)
        · exact J79_23 _ X25 e25 ch (by omega) (own_ch (ch := ch.toInt.toNat) (by omega) (Or.inl ⟨rfl, Or.inl (by omega)⟩))
        · refine g_aloadN X25 hx hby d9_56 (pc' := 57) rfl rfl rfl ?_
          refine g_getF X25 hx hby hZ hown e25 (hw _ (List.mem_of_getElem? (i := 12) rfl)) Fj1 d9_57 (pc' := 60) rfl (fun T26 X26 e26 => ?_)
          refine g_iload X26 hx hby d9_60 (pc' := 62) rfl rfl ?_
          refine g_iconst X26 hx hby d9_62 (pc' := 63) rfl (n := (1 : Int32)) (by first | rfl | decide) ?_
          refine g_iadd X26 hx hby d9_63 (pc' := 64) rfl ?_
          refine g_nameI (fun c2 h_c2 => ?_)
          have f_c2 := own_inc ch (by omega)
          rw [← h_c2] at f_c2
          refine a_laload X26 hx hby hZ e26 Aj1 (by omega) (by omega) (v := (.long (Kj c2.toInt.toNat))) (rfl) d9_64 (pc' := 65) rfl ?_
          refine g_aloadN X26 hx hby d9_65 (pc' := 66) rfl rfl rfl ?_
          refine g_getF X26 hx hby hZ hown e26 (hw _ (List.mem_of_getElem? (i := 12) rfl)) Fj1 d9_66 (pc' := 69) rfl (fun T27 X27 e27 => ?_)
          refine g_iload X27 hx hby d9_69 (pc' := 71) rfl rfl ?_
          refine a_laload X27 hx hby hZ e27 Aj1 (by omega) (by omega) (v := (.long (Kj ch.toInt.toNat))) (rfl) d9_71 (pc' := 72) rfl ?_
          refine g_lcmpge X27 hx hby d9_72 (pc' := 73) rfl d9_73 (pt := 79) (pf := 76) (by decide) (by decide) rfl (fun (h73 : (Kj ch.toInt.toNat).toInt ≤ (Kj c2.toInt.toNat).toInt) => ?_) (fun (h73 : (Kj c2.toInt.toNat).toInt < (Kj ch.toInt.toNat).toInt) => ?_)
          · exact J79_23 _ X27 e27 ch (by omega) (own_ch (ch := ch.toInt.toNat) (by omega) (Or.inl ⟨rfl, Or.inr (by rw [show ch.toInt.toNat + 1 = c2.toInt.toNat by omega]; exact h73)⟩))
          · refine g_iinc X27 hx hby d9_76 (pc' := 79) rfl rfl (Ls' := #[.val (.ref o), .val (.long ky), .second, .val (.int nt), .val (.int ix), .val (.int (ch + (1 : Int32)))]) rfl ?_
            exact J79_23 _ X27 e27 _ (by rw [← h_c2]; omega) (own_ch (ch := ch.toInt.toNat) (by omega) (Or.inr ⟨by rw [← h_c2]; omega, by rw [show ch.toInt.toNat + 1 = c2.toInt.toNat by omega]; exact h73⟩))
      intro T24 X24 e24 cx hcx hmin
      refine g_aloadN X24 hx hby d9_79 (pc' := 80) rfl rfl rfl ?_
      refine g_getF X24 hx hby hZ hown e24 (hw _ (List.mem_of_getElem? (i := 12) rfl)) Fj1 d9_80 (pc' := 83) rfl (fun T28 X28 e28 => ?_)
      refine g_iload X28 hx hby d9_83 (pc' := 85) rfl rfl ?_
      refine a_laload X28 hx hby hZ e28 Aj1 (by omega) (by omega) (v := (.long (Kj cx.toInt.toNat))) (rfl) d9_85 (pc' := 86) rfl ?_
      refine g_lloadN X28 hx hby d9_86 (pc' := 87) rfl rfl ?_
      refine g_lcmplt X28 hx hby d9_87 (pc' := 88) rfl d9_88 (pt := 94) (pf := 91) (by decide) (by decide) rfl (fun (h88 : (Kj cx.toInt.toNat).toInt < ky.toInt) => ?_) (fun (h88 : ky.toInt ≤ (Kj cx.toInt.toNat).toInt) => ?_)
      · refine g_aloadN X28 hx hby d9_94 (pc' := 95) rfl rfl rfl ?_
        refine g_getF X28 hx hby hZ hown e28 (hw _ (List.mem_of_getElem? (i := 12) rfl)) Fj1 d9_95 (pc' := 98) rfl (fun T29 X29 e29 => ?_)
        refine g_iload X29 hx hby d9_98 (pc' := 100) rfl rfl ?_
        refine g_aloadN X29 hx hby d9_100 (pc' := 101) rfl rfl rfl ?_
        refine g_getF X29 hx hby hZ hown e29 (hw _ (List.mem_of_getElem? (i := 12) rfl)) Fj1 d9_101 (pc' := 104) rfl (fun T30 X30 e30 => ?_)
        refine g_iload X30 hx hby d9_104 (pc' := 106) rfl rfl ?_
        refine a_laload X30 hx hby hZ e30 Aj1 (by omega) (by omega) (v := (.long (Kj cx.toInt.toNat))) (rfl) d9_106 (pc' := 107) rfl ?_
        refine a_lastore X30 hx hby hZ e30 Aj1 (by omega) (by omega) d9_107 (pc' := 108) rfl (fun T31 h31 X31 e31 W31 => ?_)
        replace Ej := Ej.wr W31
        replace Fj1 := Fj1.other W31 (Or.inl ne1)
        replace Fj2 := Fj2.other W31 (Or.inl ne1)
        replace Fj3 := Fj3.other W31 (Or.inl ne1)
        replace Fj4 := Fj4.other W31 (Or.inl ne1)
        replace Aj2 := Aj2.other W31 (Ne.symm ne3)
        have Z32 : n0 ≤ h31.size := by rw [W31.size]; exact Zj
        have K33 := Kpj.wr W31 (Or.inl (List.mem_of_getElem? (i := 1) rfl))
        have N34 := Fr.snoc X31 N11 g_tk
        replace Aj1 : Ara Z h31 tk .long 64 (fun jz => .long ((own_ul Kj ix.toInt.toNat (Kj cx.toInt.toNat)) jz)) := Aj1.setL W31
        refine g_aloadN X31 hx hby d9_108 (pc' := 109) rfl rfl rfl ?_
        refine g_getF X31 hx hby hZ hown e31 (hw _ (List.mem_of_getElem? (i := 14) rfl)) Fj2 d9_109 (pc' := 112) rfl (fun T35 X35 e35 => ?_)
        refine g_iload X35 hx hby d9_112 (pc' := 114) rfl rfl ?_
        refine g_aloadN X35 hx hby d9_114 (pc' := 115) rfl rfl rfl ?_
        refine g_getF X35 hx hby hZ hown e35 (hw _ (List.mem_of_getElem? (i := 14) rfl)) Fj2 d9_115 (pc' := 118) rfl (fun T36 X36 e36 => ?_)
        refine g_iload X36 hx hby d9_118 (pc' := 120) rfl rfl ?_
        refine a_iaload X36 hx hby hZ e36 Aj2 (by omega) (by omega) (v := (.int (Gj cx.toInt.toNat))) (rfl) d9_120 (pc' := 121) rfl ?_
        refine a_iastore X36 hx hby hZ e36 Aj2 (by omega) (by omega) d9_121 (pc' := 122) rfl (fun T37 h37 X37 e37 W37 => ?_)
        replace Ej := Ej.wr W37
        replace Fj1 := Fj1.other W37 (Or.inl ne2)
        replace Fj2 := Fj2.other W37 (Or.inl ne2)
        replace Fj3 := Fj3.other W37 (Or.inl ne2)
        replace Fj4 := Fj4.other W37 (Or.inl ne2)
        replace Aj1 := Aj1.other W37 ne3
        have Z38 : n0 ≤ h37.size := by rw [W37.size]; exact Z32
        have K39 := K33.wr W37 (Or.inl (List.mem_of_getElem? (i := 2) rfl))
        have N40 := Fr.snoc X37 N34 g_tn
        replace Aj2 : Ara Z h37 tn .int 64 (fun jz => .int ((own_ui Gj ix.toInt.toNat (Gj cx.toInt.toNat)) jz)) := Aj2.setI W37
        refine g_iload X37 hx hby d9_122 (pc' := 124) rfl rfl ?_
        refine g_istore X37 hx hby d9_124 (pc' := 126) rfl (Ls' := #[.val (.ref o), .val (.long ky), .second, .val (.int nt), .val (.int cx), .val (.int cx)]) rfl ?_
        refine g_iconst X37 hx hby d9_126 (pc' := 127) rfl (n := (2 : Int32)) (by first | rfl | decide) ?_
        refine g_iload X37 hx hby d9_127 (pc' := 129) rfl rfl ?_
        refine g_imul X37 hx hby d9_129 (pc' := 130) rfl ?_
        refine g_iconst X37 hx hby d9_130 (pc' := 131) rfl (n := (1 : Int32)) (by first | rfl | decide) ?_
        refine g_iadd X37 hx hby d9_131 (pc' := 132) rfl ?_
        refine g_nameI (fun c3 h_c3 => ?_)
        have f_c3 := own_dbl cx c3 (by omega) h_c3
        refine g_istore X37 hx hby d9_132 (pc' := 134) rfl (Ls' := #[.val (.ref o), .val (.long ky), .second, .val (.int nt), .val (.int cx), .val (.int c3)]) rfl ?_
        refine g_goto X37 hx hby d9_134 (pc' := 36) (by decide) (by decide) ?_
        exact ih _ (by omega) _ _ X37 _ e37 N40 cx c3 _ _ _ Ej Fj1 Fj2 Fj3 Fj4 Aj1 Aj2 Z38 K39 (by omega) (by omega) (own_dn_step hdn (by omega) (by omega) hmin (by rw [← hky]; exact h88)) rfl
      · refine g_goto X28 hx hby d9_91 (pc' := 137) (by decide) (by decide) ?_
        refine g_aloadN X28 hx hby d9_137 (pc' := 138) rfl rfl rfl ?_
        refine g_getF X28 hx hby hZ hown e28 (hw _ (List.mem_of_getElem? (i := 12) rfl)) Fj1 d9_138 (pc' := 141) rfl (fun T41 X41 e41 => ?_)
        refine g_iload X41 hx hby d9_141 (pc' := 143) rfl rfl ?_
        refine g_lloadN X41 hx hby d9_143 (pc' := 144) rfl rfl ?_
        refine a_lastore X41 hx hby hZ e41 Aj1 (by omega) (by omega) d9_144 (pc' := 145) rfl (fun T42 h42 X42 e42 W42 => ?_)
        replace Ej := Ej.wr W42
        replace Fj1 := Fj1.other W42 (Or.inl ne1)
        replace Fj2 := Fj2.other W42 (Or.inl ne1)
        replace Fj3 := Fj3.other W42 (Or.inl ne1)
        replace Fj4 := Fj4.other W42 (Or.inl ne1)
        replace Aj2 := Aj2.other W42 (Ne.symm ne3)
        have Z43 : n0 ≤ h42.size := by rw [W42.size]; exact Zj
        have K44 := Kpj.wr W42 (Or.inl (List.mem_of_getElem? (i := 1) rfl))
        have N45 := Fr.snoc X42 N11 g_tk
        replace Aj1 : Ara Z h42 tk .long 64 (fun jz => .long ((own_ul Kj ix.toInt.toNat ky) jz)) := Aj1.setL W42
        refine g_aloadN X42 hx hby d9_145 (pc' := 146) rfl rfl rfl ?_
        refine g_getF X42 hx hby hZ hown e42 (hw _ (List.mem_of_getElem? (i := 14) rfl)) Fj2 d9_146 (pc' := 149) rfl (fun T46 X46 e46 => ?_)
        refine g_iload X46 hx hby d9_149 (pc' := 151) rfl rfl ?_
        refine g_iloadN X46 hx hby d9_151 (pc' := 152) rfl rfl ?_
        refine a_iastore X46 hx hby hZ e46 Aj2 (by omega) (by omega) d9_152 (pc' := 153) rfl (fun T47 h47 X47 e47 W47 => ?_)
        replace Ej := Ej.wr W47
        replace Fj1 := Fj1.other W47 (Or.inl ne2)
        replace Fj2 := Fj2.other W47 (Or.inl ne2)
        replace Fj3 := Fj3.other W47 (Or.inl ne2)
        replace Fj4 := Fj4.other W47 (Or.inl ne2)
        replace Aj1 := Aj1.other W47 ne3
        have Z48 : n0 ≤ h47.size := by rw [W47.size]; exact Z43
        have K49 := K44.wr W47 (Or.inl (List.mem_of_getElem? (i := 2) rfl))
        have N50 := Fr.snoc X47 N45 g_tn
        replace Aj2 : Ara Z h47 tn .int 64 (fun jz => .int ((own_ui Gj ix.toInt.toNat nt) jz)) := Aj2.setI W47
        exact g_retV X47 hx hby hlk hret d9_153 (by decide) (by decide) (by rw [e47]; exact ⟨_, _, _, _, rfl, N50, Ej, Fj1, Fj2, Fj3, Fj4, Aj1, Aj2, K49, h_zs, rfl, τj, by rw [← e_zs]; exact own_dn_end hdn (fun i q1 q2 q3 => Int.le_trans (by rw [← hky]; exact h88) (hmin i q1 q2 q3)) hky hnt⟩)
theorem own_iv_stay {key : Nat → Int64} {ub : Int32} {n : Int} {sz : Nat} {K : Nat → Int64} {G : Nat → Int32} {τ : Nat → Nat} {D : Nat → Bool} {k : Int} (h : own_iv key ub n sz K G τ D k) (hk : n ≤ k) : own_iv key ub n sz K G τ D (k + 1) := by
  obtain ⟨h1, h2, h3, h4, h5⟩ := h
  exact ⟨h1, h2, h3, by omega, by omega⟩
theorem own_hp_lv {key : Nat → Int64} {ub : Int32} {sz : Nat} {K : Nat → Int64} {G : Nat → Int32} {τ : Nat → Nat} {Lv Lv' : Nat → Prop} (h : own_hp key ub sz K G τ Lv) (q : ∀ t, Lv t ↔ Lv' t) : own_hp key ub sz K G τ Lv' := ⟨h.1, h.2.1, h.2.2.1, fun t => (q t).symm.trans (h.2.2.2 t)⟩
theorem own_iv_init {key : Nat → Int64} {ub : Int32} {n : Int} {sz : Nat} {K : Nat → Int64} {G : Nat → Int32} {τ : Nat → Nat} (h : own_hp key ub sz K G τ (fun t => t < sz)) (hs : (sz : Int) = n) : own_iv key ub n sz K G τ (fun _ => false) 0 := by
  refine ⟨own_hp_lv h (fun t => ⟨fun q => ⟨by omega, rfl⟩, fun q => by omega⟩), fun j t q => absurd q Bool.false_ne_true, fun j q => absurd q Bool.false_ne_true, ?_, by omega⟩
  show (0 : Int) = _
  omega
theorem own_nd {ub r nd : Int32} {t : Nat} (h : nd = r - ub) (hr : r = ub + Int32.ofNat t) (ht : t < 6) : nd.toInt = t := by
  rw [h, hr, own_net, own_ofNat (by omega)]
theorem ef_4 (m : MethodId) (o : Addr) (ca : Addr) (un : Int32) (ub : Int32) (uk : Int32) : entryFrame m #[(.ref o), (.ref ca), (.int un), (.int ub), (.int uk)] 6 = mkF m 0 #[.val (.ref o), .val (.ref ca), .val (.int un), .val (.int ub), .val (.int uk), .unset] [] := by first | (simp [entryFrame, mkF, argsToLocals, Value.category]; done) | rfl
theorem pn_4 : plainName "com/example/switchbox/switchbox/CostQueueRemovePinLaw" = true := by first | (simp [plainName, overriddenIn]; done) | decide +kernel
theorem d4_0 : decode method_3_code 0 = .ok (.iload 4, 2) := by decide +kernel
theorem d4_2 : decode method_3_code 2 = .ok (.iload_n 2, 1) := by decide +kernel
theorem d4_3 : decode method_3_code 3 = .ok (.if_icmp .lt 5, 3) := by decide +kernel
theorem d4_8 : decode method_3_code 8 = .ok (.aload_n 0, 1) := by decide +kernel
theorem d4_9 : decode method_3_code 9 = .ok (.invokevirtual 21, 3) := by decide +kernel
theorem pd___Z_171 : parseMethodDescriptor "()Z" = some ⟨[], some .boolean⟩ := by decide +kernel
theorem d4_12 : decode method_3_code 12 = .ok (.ifCond .eq 5, 3) := by decide +kernel
theorem d4_17 : decode method_3_code 17 = .ok (.aload_n 1, 1) := by decide +kernel
theorem d4_18 : decode method_3_code 18 = .ok (.iload_n 2, 1) := by decide +kernel
theorem d4_19 : decode method_3_code 19 = .ok (.aload_n 0, 1) := by decide +kernel
theorem d4_20 : decode method_3_code 20 = .ok (.invokevirtual 25, 3) := by decide +kernel
theorem pd___I_154 : parseMethodDescriptor "()I" = some ⟨[], some .int⟩ := by decide +kernel
theorem d4_23 : decode method_3_code 23 = .ok (.iload_n 3, 1) := by decide +kernel
theorem d4_24 : decode method_3_code 24 = .ok (.isub, 1) := by decide +kernel
theorem d4_25 : decode method_3_code 25 = .ok (.invokestatic 29, 3) := by decide +kernel
theorem pd___III_I_464 : parseMethodDescriptor "([III)I" = some ⟨[(.array .int), .int, .int], some .int⟩ := by decide +kernel
theorem d4_28 : decode method_3_code 28 = .ok (.iload 4, 2) := by decide +kernel
theorem d4_30 : decode method_3_code 30 = .ok (.if_icmp .ne 7, 3) := by decide +kernel
theorem d4_33 : decode method_3_code 33 = .ok (.iconst 1, 1) := by decide +kernel
theorem d4_34 : decode method_3_code 34 = .ok (.goto 4, 3) := by decide +kernel
theorem d4_38 : decode method_3_code 38 = .ok (.istore 5, 2) := by decide +kernel
theorem d4_40 : decode method_3_code 40 = .ok (.aload_n 0, 1) := by decide +kernel
theorem d4_41 : decode method_3_code 41 = .ok (.invokevirtual 33, 3) := by decide +kernel
theorem pd___V_167 : parseMethodDescriptor "()V" = some ⟨[], none⟩ := by decide +kernel
theorem d4_44 : decode method_3_code 44 = .ok (.iload 5, 2) := by decide +kernel
theorem d4_46 : decode method_3_code 46 = .ok (.ireturn, 1) := by decide +kernel
theorem d4_6 : decode method_3_code 6 = .ok (.iconst 1, 1) := by decide +kernel
theorem d4_7 : decode method_3_code 7 = .ok (.ireturn, 1) := by decide +kernel
set_option maxRecDepth 65536 in
set_option maxHeartbeats 40000000 in
theorem rm4 (l : Launch) (Z : State) (a0 : Array Value) (hw : ∀ d ∈ tables_1, d.before a0 Z = true) (o : Addr) (ca : Addr) (un : Int32) (ub : Int32) (uk : Int32) (n0 : Nat) (tk tn : Addr) (K : Nat → Int64) (G : Nat → Int32) (sz ad : Int32) (cf : Nat → Int32) (τ : Nat → Nat) (D : Nat → Bool) (h0 : Heap) (Z0 : n0 ≤ h0.size) (g_o : n0 ≤ o) (g_tk : n0 ≤ tk) (g_tn : n0 ≤ tn) (ne1 : o ≠ tk) (ne2 : o ≠ tn) (ne3 : tk ≠ tn) (E_o : Exa Z h0 o "com/example/switchbox/switchbox/CostQueue") (F1 : Fld Z h0 o "com/example/switchbox/switchbox/CostQueue" "keys" "[J" (.ref tk)) (F2 : Fld Z h0 o "com/example/switchbox/switchbox/CostQueue" "nets" "[I" (.ref tn)) (F3 : Fld Z h0 o "com/example/switchbox/switchbox/CostQueue" "size" "I" (.int sz)) (F4 : Fld Z h0 o "com/example/switchbox/switchbox/CostQueue" "added" "I" (.int ad)) (A1 : Ara Z h0 tk .long 64 (fun jz => .long (K jz))) (A2 : Ara Z h0 tn .int 64 (fun jz => .int (G jz))) (A_ca : Ara Z h0 ca .int 6 (fun jz => .int (cf jz))) (nc1 : ca ≠ o) (nc2 : ca ≠ tk) (nc3 : ca ≠ tn) (hn : 1 ≤ un.toInt ∧ un.toInt ≤ 6) (hk : 0 ≤ uk.toInt ∧ uk.toInt < 6) (hs0 : 0 ≤ sz.toInt) (hko : own_ko (own_key cf) cf) (hiv : own_iv (own_key cf) ub un.toInt sz.toInt.toNat K G τ D uk.toInt) :
    Ct l Z (⟨"com/example/switchbox/switchbox/CostQueueRemovePinLaw", "step", "(Lcom/example/switchbox/switchbox/CostQueue;[IIII)Z"⟩ : MethodName) method_3_code 6 (some .boolean) ({ frames := 2, cells := 0, slots := 0, locals := 48 } : Room) #[(.ref o), (.ref ca), (.int un), (.int ub), (.int uk)] h0 (QCq Z n0 o tk tn (some (.int 1)) (fun h => Keep h0 h [o, tk, tn]) (fun sz' ad' K' G' => 0 ≤ sz'.toInt ∧ ∃ τ' D', own_iv (own_key cf) ub un.toInt sz'.toInt.toNat K' G' τ' D' (uk.toInt + 1))) := by
  refine own_met (plainFor_of_name pn_4) (fun m => ef_4 m o ca un ub uk) ?_
  intro p e s m below meth c T0 X0 hx hby hml hown hnm hret hlk hZ e0
  have N0 := Fr.nil n0
  have hsn := hiv.2.2.2.2
  refine g_iload X0 hx hby d4_0 (pc' := 2) rfl rfl ?_
  refine g_iloadN X0 hx hby d4_2 (pc' := 3) rfl rfl ?_
  refine g_icmplt X0 hx hby d4_3 (pt := 8) (pf := 6) (by decide) (by decide) rfl (fun (h3 : uk.toInt < un.toInt) => ?_) (fun (h3 : un.toInt ≤ uk.toInt) => ?_)
  · obtain ⟨rk1, rk2, rk3, -⟩ := own_iv_rank hko hn.2 hiv hk.1 h3
    have f_sz1 := own_dec sz (by omega)
    refine g_aloadN X0 hx hby d4_8 (pc' := 9) rfl rfl rfl ?_
    refine g_virtual X0 hx hby hZ hown hml rfl (hw _ (List.mem_of_getElem? (i := 33) rfl)) (hw _ (List.mem_of_getElem? (i := 34) rfl)) (hw _ (List.mem_of_getElem? (i := 36) rfl)) (hw _ (List.mem_of_getElem? (i := 35) rfl)) (hw _ (List.mem_of_getElem? (i := 4) rfl)) (hw _ (List.mem_of_getElem? (i := 37) rfl)) (by decide) e0 (rm5 l Z a0 hw o _ h0 F3) pd___Z_171 E_o (argsL := []) (rest := []) rfl rfl rfl d4_9 (pc' := 12) rfl (by decide) (Nat.le_of_ble_eq_true rfl) (by decide) (by decide) ?_
    intro Tp9 vp9 Lp9 Xp9 qp9
    obtain ⟨⟨rp9, rfl, h_rp9⟩, ep9, rfl⟩ := qp9
    rw [List.append_nil] at Xp9
    replace Xp9 : Stand p l e ({ frames := 2, cells := 0, slots := 0, locals := 48 } : Room) s m _ below meth c Tp9 _ 0 0 := Xp9
    show Go p e below s (QCq Z n0 o tk tn (some (.int 1)) (fun h => Keep h0 h [o, tk, tn]) (fun sz' ad' K' G' => 0 ≤ sz'.toInt ∧ ∃ τ' D', own_iv (own_key cf) ub un.toInt sz'.toInt.toNat K' G' τ' D' (uk.toInt + 1))) ({ frames := 2, cells := 0, slots := 0, locals := 48 } : Room).cells ({ frames := 2, cells := 0, slots := 0, locals := 48 } : Room).slots m Tp9 12 #[.val (.ref o), .val (.ref ca), .val (.int un), .val (.int ub), .val (.int uk), .unset] [(.int rp9)]
    refine g_ifeq Xp9 hx hby d4_12 (pt := 17) (pf := 15) (by decide) (by decide) rfl (fun (h12 : rp9 = (0 : Int32)) => ?_) (fun (h12 : ¬ rp9 = (0 : Int32)) => (by exfalso; exact h12 ((own_bool_zero h_rp9).mpr (by omega))))
    have h12i : rp9.toInt = 0 := congrArg Int32.toInt h12
    refine g_aloadN Xp9 hx hby d4_17 (pc' := 18) rfl rfl rfl ?_
    refine g_iloadN Xp9 hx hby d4_18 (pc' := 19) rfl rfl ?_
    refine g_aloadN Xp9 hx hby d4_19 (pc' := 20) rfl rfl rfl ?_
    refine g_virtual Xp9 hx hby hZ hown hml rfl (hw _ (List.mem_of_getElem? (i := 38) rfl)) (hw _ (List.mem_of_getElem? (i := 39) rfl)) (hw _ (List.mem_of_getElem? (i := 41) rfl)) (hw _ (List.mem_of_getElem? (i := 40) rfl)) (hw _ (List.mem_of_getElem? (i := 4) rfl)) (hw _ (List.mem_of_getElem? (i := 42) rfl)) (by decide) ep9 (rm6 l Z a0 hw o tn _ h0 F2 A2) pd___I_154 E_o (argsL := []) (rest := [(.int un), (.ref ca)]) rfl rfl rfl d4_20 (pc' := 23) rfl (by decide) (Nat.le_of_ble_eq_true rfl) (by decide) (by decide) ?_
    intro Tp20 vp20 Lp20 Xp20 qp20
    obtain ⟨⟨rp20, rfl, h_rp20⟩, ep20, rfl⟩ := qp20
    rw [List.append_nil] at Xp20
    replace Xp20 : Stand p l e ({ frames := 2, cells := 0, slots := 0, locals := 48 } : Room) s m _ below meth c Tp20 _ 0 0 := Xp20
    show Go p e below s (QCq Z n0 o tk tn (some (.int 1)) (fun h => Keep h0 h [o, tk, tn]) (fun sz' ad' K' G' => 0 ≤ sz'.toInt ∧ ∃ τ' D', own_iv (own_key cf) ub un.toInt sz'.toInt.toNat K' G' τ' D' (uk.toInt + 1))) ({ frames := 2, cells := 0, slots := 0, locals := 48 } : Room).cells ({ frames := 2, cells := 0, slots := 0, locals := 48 } : Room).slots m Tp20 23 #[.val (.ref o), .val (.ref ca), .val (.int un), .val (.int ub), .val (.int uk), .unset] [(.int rp20), (.int un), (.ref ca)]
    refine g_iloadN Xp20 hx hby d4_23 (pc' := 24) rfl rfl ?_
    refine g_isub Xp20 hx hby d4_24 (pc' := 25) rfl ?_
    refine g_nameI (fun nd h_nd => ?_)
    have f_nd := own_nd h_nd (h_rp20.trans rk2) (by omega)
    refine g_static Xp20 hx hby hZ hown hml rfl (hw _ (List.mem_of_getElem? (i := 43) rfl)) (hw _ (List.mem_of_getElem? (i := 44) rfl)) (hw _ (List.mem_of_getElem? (i := 31) rfl)) (hw _ (List.mem_of_getElem? (i := 45) rfl)) (by decide) ep20 (rm7 l Z a0 hw ca un nd cf h0 A_ca (by omega) (by omega)) pd___III_I_464 (argsL := [(.ref ca), (.int un), (.int nd)]) (rest := []) rfl rfl rfl d4_25 (pc' := 28) rfl (by decide) (Nat.le_of_ble_eq_true rfl) (by decide) (by decide) ?_
    intro Tp25 vp25 Lp25 Xp25 qp25
    obtain ⟨⟨rp25, rfl, h_rp25⟩, ep25, rfl⟩ := qp25
    rw [List.append_nil] at Xp25
    replace Xp25 : Stand p l e ({ frames := 2, cells := 0, slots := 0, locals := 48 } : Room) s m _ below meth c Tp25 _ 0 0 := Xp25
    show Go p e below s (QCq Z n0 o tk tn (some (.int 1)) (fun h => Keep h0 h [o, tk, tn]) (fun sz' ad' K' G' => 0 ≤ sz'.toInt ∧ ∃ τ' D', own_iv (own_key cf) ub un.toInt sz'.toInt.toNat K' G' τ' D' (uk.toInt + 1))) ({ frames := 2, cells := 0, slots := 0, locals := 48 } : Room).cells ({ frames := 2, cells := 0, slots := 0, locals := 48 } : Room).slots m Tp25 28 #[.val (.ref o), .val (.ref ca), .val (.int un), .val (.int ub), .val (.int uk), .unset] [(.int rp25)]
    refine g_iload Xp25 hx hby d4_28 (pc' := 30) rfl rfl ?_
    refine g_icmpne Xp25 hx hby d4_30 (pt := 37) (pf := 33) (by decide) (by decide) rfl (fun (h30 : ¬ rp25 = uk) => (by exfalso; exact h30 (Int32.toInt_inj.mp (by rw [h_rp25, show nd.toInt.toNat = τ 0 by omega]; exact rk3)))) (fun (h30 : rp25 = uk) => ?_)
    have h30i : rp25.toInt = uk.toInt := congrArg Int32.toInt h30
    refine g_iconst Xp25 hx hby d4_33 (pc' := 34) rfl (n := (1 : Int32)) (by first | rfl | decide) ?_
    refine g_goto Xp25 hx hby d4_34 (pc' := 38) (by decide) (by decide) ?_
    refine g_istore Xp25 hx hby d4_38 (pc' := 40) rfl (Ls' := #[.val (.ref o), .val (.ref ca), .val (.int un), .val (.int ub), .val (.int uk), .val (.int (1 : Int32))]) rfl ?_
    refine g_aloadN Xp25 hx hby d4_40 (pc' := 41) rfl rfl rfl ?_
    refine g_virtual Xp25 hx hby hZ hown hml rfl (hw _ (List.mem_of_getElem? (i := 49) rfl)) (hw _ (List.mem_of_getElem? (i := 50) rfl)) (hw _ (List.mem_of_getElem? (i := 52) rfl)) (hw _ (List.mem_of_getElem? (i := 51) rfl)) (hw _ (List.mem_of_getElem? (i := 4) rfl)) (hw _ (List.mem_of_getElem? (i := 53) rfl)) (by decide) ep25 (rm9 l Z a0 hw o n0 tk tn K G sz ad (own_key cf) ub τ _ h0 Z0 g_o g_tk g_tn ne1 ne2 ne3 E_o F1 F2 F3 F4 A1 A2 (by omega) hiv.1) pd___V_167 E_o (argsL := []) (rest := []) rfl rfl rfl d4_41 (pc' := 44) rfl (by decide) (Nat.le_of_ble_eq_true rfl) (by decide) (by decide) ?_
    intro Tp41 vp41 Lp41 Xp41 qp41
    obtain ⟨K_p41, G_p41, szp41, adp41, rfl, Nqp41, E_op41, Fap41, Fbp41, Fcp41, Fdp41, Aap41, Abp41, Kqp41, rfl, rfl, τp41, hhp41⟩ := qp41
    replace Xp41 : Stand p l e ({ frames := 2, cells := 0, slots := 0, locals := 48 } : Room) s m _ below meth c Tp41 _ 0 0 := Xp41
    replace E_o := E_o.keep Kqp41
    replace A_ca := A_ca.keep Kqp41 (ninS nc1 (ninS nc2 (ninS nc3 nin0)))
    have Z1 : n0 ≤ Tp41.heap.size := Nat.le_trans Z0 Kqp41.1
    have K2 := (Keep.refl h0 [o, tk, tn]).trans Kqp41 (allS (Or.inl (List.mem_of_getElem? (i := 0) rfl)) (allS (Or.inl (List.mem_of_getElem? (i := 1) rfl)) (allS (Or.inl (List.mem_of_getElem? (i := 2) rfl)) all0)))
    have Np41 := Fr.app N0 Nqp41
    show Go p e below s (QCq Z n0 o tk tn (some (.int 1)) (fun h => Keep h0 h [o, tk, tn]) (fun sz' ad' K' G' => 0 ≤ sz'.toInt ∧ ∃ τ' D', own_iv (own_key cf) ub un.toInt sz'.toInt.toNat K' G' τ' D' (uk.toInt + 1))) ({ frames := 2, cells := 0, slots := 0, locals := 48 } : Room).cells ({ frames := 2, cells := 0, slots := 0, locals := 48 } : Room).slots m Tp41 44 #[.val (.ref o), .val (.ref ca), .val (.int un), .val (.int ub), .val (.int uk), .val (.int (1 : Int32))] []
    refine g_iload Xp41 hx hby d4_44 (pc' := 46) rfl rfl ?_
    exact g_retZ Xp41 hx hby hlk (Or.inr rfl) hret d4_46 (by decide) (by decide) (by exact ⟨_, _, _, _, rfl, Np41, E_op41, Fap41, Fbp41, Fcp41, Fdp41, Aap41, Abp41, K2, by omega, τp41, _, own_iv_next hko hn.2 hiv hk.1 (by omega) (by omega) (by rw [show (sz - 1).toInt.toNat = sz.toInt.toNat - 1 by omega]; exact hhp41)⟩)
  · refine g_iconst X0 hx hby d4_6 (pc' := 7) rfl (n := (1 : Int32)) (by first | rfl | decide) ?_
    exact g_retZ X0 hx hby hlk (Or.inr rfl) hret d4_7 (by decide) (by decide) (by rw [e0]; exact ⟨_, _, _, _, rfl, N0, E_o, F1, F2, F3, F4, A1, A2, (Keep.refl h0 [o, tk, tn]), hs0, τ, D, own_iv_stay hiv (by omega)⟩)
theorem ef_0 (m : MethodId) (uc : Int32) (uv : Int32) (ub : Int32) : entryFrame m #[(.int uc), (.int uv), (.int ub)] maxLocals = mkF m 0 #[.val (.int uc), .val (.int uv), .val (.int ub), .unset, .unset, .unset, .unset] [] := by first | (simp [entryFrame, mkF, argsToLocals, Value.category, maxLocals]; done) | rfl
theorem pn_0 : plainName "com/example/switchbox/switchbox/CostQueueRemovePinLaw" = true := by first | (simp [plainName, overriddenIn]; done) | decide +kernel
theorem pd__ID_V_308 : parseMethodDescriptor "(ID)V" = some ⟨[.int, .double], none⟩ := by decide +kernel
theorem pd__Lcom_example_switchbox_switchbox_CostQueue__IIII_Z_844 : parseMethodDescriptor "(Lcom/example/switchbox/switchbox/CostQueue;[IIII)Z" = some ⟨[(.object "com/example/switchbox/switchbox/CostQueue"), (.array .int), .int, .int, .int], some .boolean⟩ := by decide +kernel
set_option maxRecDepth 65536 in
set_option maxHeartbeats 40000000 in
theorem law0 (l : Launch) (Z : State) (a0 : Array Value) (hw : ∀ d ∈ tables_1, d.before a0 Z = true) (ws : List Jvm.Cond) (uc : Int32) (uv : Int32) (ub : Int32) (n0 : Nat) (h0 : Heap) (Z0 : n0 ≤ h0.size) :
    MetFree l x (head1 (Jvm.Cond.code x code maxLocals ret :: ws) room_1) (fun a U => a = #[(.int uc), (.int uv), (.int ub)] ∧ Z.Warmed39 U.vm ∧ U.heap = h0) (fun _ _ _ _ _ => True) (fun _ U o U' => ∃ v L, o = .returned v ∧ (Q0 n0) v U'.heap L ∧ FrameEnd U o U' L room_1.cells room_1.slots) := by
  refine own_met (plainFor_of_name pn_0) (fun m => ef_0 m uc uv ub) ?_
  intro p e s m below meth c T0 X0 hx hby hml hown hnm hret hlk hZ e0
  have N0 := Fr.nil n0
  refine g_iloadN X0 hx hby at_0 (pc' := 1) rfl rfl ?_
  refine g_ldcI X0 hx hby hZ hown (hw _ (List.mem_of_getElem? (i := 0) rfl)) at_1 (pc' := 3) rfl ?_
  refine g_iand X0 hx hby at_3 (pc' := 4) rfl ?_
  refine g_bipush X0 hx hby at_4 (pc' := 6) rfl (n := (6 : Int32)) (by first | rfl | decide) ?_
  refine g_irem X0 hx hby at_6 (pc' := 7) rfl (by decide) ?_
  refine g_iconst X0 hx hby at_7 (pc' := 8) rfl (n := (1 : Int32)) (by first | rfl | decide) ?_
  refine g_iadd X0 hx hby at_8 (pc' := 9) rfl ?_
  refine g_nameI (fun un h_un => ?_)
  have hmo := own_modr uc 6 (by decide)
  replace hmo : 0 ≤ ((uc &&& 2147483647) % 6).toInt ∧ ((uc &&& 2147483647) % 6).toInt < 6 := hmo
  have f_un := own_inc ((uc &&& 2147483647) % 6) (by omega)
  rw [← h_un] at f_un
  have hun : 1 ≤ un.toInt ∧ un.toInt ≤ 6 := by omega
  refine g_istoreN X0 hx hby at_9 (pc' := 10) rfl (Ls' := #[.val (.int uc), .val (.int uv), .val (.int ub), .val (.int un), .unset, .unset, .unset]) rfl ?_
  refine g_bipush X0 hx hby at_10 (pc' := 12) rfl (n := (6 : Int32)) (by first | rfl | decide) ?_
  refine g_newA X0 hx hby hZ e0 (N := 6) (hw _ (List.mem_of_getElem? (i := 1) rfl)) at_12 (pc' := 14) rfl rfl (cap := 6) (Nat.le_refl _) (by decide) (by decide) (by decide) (fun T1 h1 ca g1 X1 e1 E1 A_ca => ?_)
  have g2 : n0 ≤ ca := by rw [g1]; exact Z0
  have Z3 : n0 ≤ h1.size := Nat.le_trans Z0 E1.1
  replace X1 : Stand p l e room_1 s m _ below meth c T1 _ 1 6 := X1
  replace A_ca : Ara Z h1 ca .int 6 (fun jz => .int ((fun _ => (0 : Int32)) jz)) := A_ca
  refine g_astore X1 hx hby at_14 (pc' := 16) rfl rfl (Ls' := #[.val (.int uc), .val (.int uv), .val (.int ub), .val (.int un), .val (.ref ca), .unset, .unset]) rfl ?_
  refine g_aload X1 hx hby at_16 (pc' := 18) rfl rfl rfl ?_
  refine g_iconst X1 hx hby at_18 (pc' := 19) rfl (n := (0 : Int32)) (by first | rfl | decide) ?_
  refine g_iloadN X1 hx hby at_19 (pc' := 20) rfl rfl ?_
  refine g_iconst X1 hx hby at_20 (pc' := 21) rfl (n := (3 : Int32)) (by first | rfl | decide) ?_
  refine g_iand X1 hx hby at_21 (pc' := 22) rfl ?_
  refine g_nameI (fun v0 h_v0 => ?_)
  have r_v0 := own_c2 _ v0 h_v0
  refine a_iastore X1 hx hby hZ e1 A_ca (by decide) (by decide) at_22 (pc' := 23) rfl (fun T4 h4 X4 e4 W4 => ?_)
  have Z5 : n0 ≤ h4.size := by rw [W4.size]; exact Z3
  have N6 := Fr.snoc X4 N0 g2
  replace A_ca : Ara Z h4 ca .int 6 (fun jz => .int ((own_ui (fun _ => (0 : Int32)) 0 v0) jz)) := A_ca.setI W4
  refine g_aload X4 hx hby at_23 (pc' := 25) rfl rfl rfl ?_
  refine g_iconst X4 hx hby at_25 (pc' := 26) rfl (n := (1 : Int32)) (by first | rfl | decide) ?_
  refine g_iloadN X4 hx hby at_26 (pc' := 27) rfl rfl ?_
  refine g_iconst X4 hx hby at_27 (pc' := 28) rfl (n := (2 : Int32)) (by first | rfl | decide) ?_
  refine g_iushr X4 hx hby at_28 (pc' := 29) rfl ?_
  refine g_iconst X4 hx hby at_29 (pc' := 30) rfl (n := (3 : Int32)) (by first | rfl | decide) ?_
  refine g_iand X4 hx hby at_30 (pc' := 31) rfl ?_
  refine g_nameI (fun v1 h_v1 => ?_)
  have r_v1 := own_c2 _ v1 h_v1
  refine a_iastore X4 hx hby hZ e4 A_ca (by decide) (by decide) at_31 (pc' := 32) rfl (fun T7 h7 X7 e7 W7 => ?_)
  have Z8 : n0 ≤ h7.size := by rw [W7.size]; exact Z5
  have N9 := Fr.snoc X7 N6 g2
  replace A_ca : Ara Z h7 ca .int 6 (fun jz => .int ((own_ui (own_ui (fun _ => (0 : Int32)) 0 v0) 1 v1) jz)) := A_ca.setI W7
  refine g_aload X7 hx hby at_32 (pc' := 34) rfl rfl rfl ?_
  refine g_iconst X7 hx hby at_34 (pc' := 35) rfl (n := (2 : Int32)) (by first | rfl | decide) ?_
  refine g_iloadN X7 hx hby at_35 (pc' := 36) rfl rfl ?_
  refine g_iconst X7 hx hby at_36 (pc' := 37) rfl (n := (4 : Int32)) (by first | rfl | decide) ?_
  refine g_iushr X7 hx hby at_37 (pc' := 38) rfl ?_
  refine g_iconst X7 hx hby at_38 (pc' := 39) rfl (n := (3 : Int32)) (by first | rfl | decide) ?_
  refine g_iand X7 hx hby at_39 (pc' := 40) rfl ?_
  refine g_nameI (fun v2 h_v2 => ?_)
  have r_v2 := own_c2 _ v2 h_v2
  refine a_iastore X7 hx hby hZ e7 A_ca (by decide) (by decide) at_40 (pc' := 41) rfl (fun T10 h10 X10 e10 W10 => ?_)
  have Z11 : n0 ≤ h10.size := by rw [W10.size]; exact Z8
  have N12 := Fr.snoc X10 N9 g2
  replace A_ca : Ara Z h10 ca .int 6 (fun jz => .int ((own_ui (own_ui (own_ui (fun _ => (0 : Int32)) 0 v0) 1 v1) 2 v2) jz)) := A_ca.setI W10
  refine g_aload X10 hx hby at_41 (pc' := 43) rfl rfl rfl ?_
  refine g_iconst X10 hx hby at_43 (pc' := 44) rfl (n := (3 : Int32)) (by first | rfl | decide) ?_
  refine g_iloadN X10 hx hby at_44 (pc' := 45) rfl rfl ?_
  refine g_bipush X10 hx hby at_45 (pc' := 47) rfl (n := (6 : Int32)) (by first | rfl | decide) ?_
  refine g_iushr X10 hx hby at_47 (pc' := 48) rfl ?_
  refine g_iconst X10 hx hby at_48 (pc' := 49) rfl (n := (3 : Int32)) (by first | rfl | decide) ?_
  refine g_iand X10 hx hby at_49 (pc' := 50) rfl ?_
  refine g_nameI (fun v3 h_v3 => ?_)
  have r_v3 := own_c2 _ v3 h_v3
  refine a_iastore X10 hx hby hZ e10 A_ca (by decide) (by decide) at_50 (pc' := 51) rfl (fun T13 h13 X13 e13 W13 => ?_)
  have Z14 : n0 ≤ h13.size := by rw [W13.size]; exact Z11
  have N15 := Fr.snoc X13 N12 g2
  replace A_ca : Ara Z h13 ca .int 6 (fun jz => .int ((own_ui (own_ui (own_ui (own_ui (fun _ => (0 : Int32)) 0 v0) 1 v1) 2 v2) 3 v3) jz)) := A_ca.setI W13
  refine g_aload X13 hx hby at_51 (pc' := 53) rfl rfl rfl ?_
  refine g_iconst X13 hx hby at_53 (pc' := 54) rfl (n := (4 : Int32)) (by first | rfl | decide) ?_
  refine g_iloadN X13 hx hby at_54 (pc' := 55) rfl rfl ?_
  refine g_bipush X13 hx hby at_55 (pc' := 57) rfl (n := (8 : Int32)) (by first | rfl | decide) ?_
  refine g_iushr X13 hx hby at_57 (pc' := 58) rfl ?_
  refine g_iconst X13 hx hby at_58 (pc' := 59) rfl (n := (3 : Int32)) (by first | rfl | decide) ?_
  refine g_iand X13 hx hby at_59 (pc' := 60) rfl ?_
  refine g_nameI (fun v4 h_v4 => ?_)
  have r_v4 := own_c2 _ v4 h_v4
  refine a_iastore X13 hx hby hZ e13 A_ca (by decide) (by decide) at_60 (pc' := 61) rfl (fun T16 h16 X16 e16 W16 => ?_)
  have Z17 : n0 ≤ h16.size := by rw [W16.size]; exact Z14
  have N18 := Fr.snoc X16 N15 g2
  replace A_ca : Ara Z h16 ca .int 6 (fun jz => .int ((own_ui (own_ui (own_ui (own_ui (own_ui (fun _ => (0 : Int32)) 0 v0) 1 v1) 2 v2) 3 v3) 4 v4) jz)) := A_ca.setI W16
  refine g_aload X16 hx hby at_61 (pc' := 63) rfl rfl rfl ?_
  refine g_iconst X16 hx hby at_63 (pc' := 64) rfl (n := (5 : Int32)) (by first | rfl | decide) ?_
  refine g_iloadN X16 hx hby at_64 (pc' := 65) rfl rfl ?_
  refine g_bipush X16 hx hby at_65 (pc' := 67) rfl (n := (10 : Int32)) (by first | rfl | decide) ?_
  refine g_iushr X16 hx hby at_67 (pc' := 68) rfl ?_
  refine g_iconst X16 hx hby at_68 (pc' := 69) rfl (n := (3 : Int32)) (by first | rfl | decide) ?_
  refine g_iand X16 hx hby at_69 (pc' := 70) rfl ?_
  refine g_nameI (fun v5 h_v5 => ?_)
  have r_v5 := own_c2 _ v5 h_v5
  refine a_iastore X16 hx hby hZ e16 A_ca (by decide) (by decide) at_70 (pc' := 71) rfl (fun T19 h19 X19 e19 W19 => ?_)
  have Z20 : n0 ≤ h19.size := by rw [W19.size]; exact Z17
  have N21 := Fr.snoc X19 N18 g2
  replace A_ca : Ara Z h19 ca .int 6 (fun jz => .int ((own_ui (own_ui (own_ui (own_ui (own_ui (own_ui (fun _ => (0 : Int32)) 0 v0) 1 v1) 2 v2) 3 v3) 4 v4) 5 v5) jz)) := A_ca.setI W19
  obtain ⟨cf, hcf⟩ : ∃ cf : Nat → Int32, cf = (own_ui (own_ui (own_ui (own_ui (own_ui (own_ui (fun _ => (0 : Int32)) 0 v0) 1 v1) 2 v2) 3 v3) 4 v4) 5 v5) := ⟨_, rfl⟩
  replace A_ca : Ara Z h19 ca .int 6 (fun jz => .int (cf jz)) := by rw [hcf]; exact A_ca
  have hcr : ∀ t, t < 6 → 0 ≤ (cf t).toInt ∧ (cf t).toInt < 4 := fun t ht => by
    have q : t = 0 ∨ t = 1 ∨ t = 2 ∨ t = 3 ∨ t = 4 ∨ t = 5 := by omega
    rw [hcf]
    rcases q with rfl | rfl | rfl | rfl | rfl | rfl
    · exact r_v0
    · exact r_v1
    · exact r_v2
    · exact r_v3
    · exact r_v4
    · exact r_v5
  have hko := own_ko_at cf hcr
  refine g_new X19 hx hby hZ hown e19 (hw _ (List.mem_of_getElem? (i := 2) rfl)) (hw _ (List.mem_of_getElem? (i := 3) rfl)) (hw _ (List.mem_of_getElem? (i := 4) rfl)) at_71 (pc' := 74) rfl (by decide) (by decide) (fun T22 h22 o g22 X22 e22 E22 A22 D22 => ?_)
  have ne23 : ca ≠ o := by rw [g22]; exact Nat.ne_of_lt A_ca.lt
  have g24 : n0 ≤ o := by rw [g22]; exact Z20
  replace A_ca := A_ca.ext E22
  have Z25 : n0 ≤ h22.size := Nat.le_trans Z20 E22.1
  replace X22 : Stand p l e room_1 s m _ below meth c T22 _ 2 10 := X22
  have E_o : Exa Z h22 o "com/example/switchbox/switchbox/CostQueue" := A22
  have F_keys_o : Fld Z h22 o "com/example/switchbox/switchbox/CostQueue" "keys" "[J" .null := D22 (Or.inl (hw _ (List.mem_of_getElem? (i := 13) rfl))) (ty := (.array .long)) (by decide)
  have F_nets_o : Fld Z h22 o "com/example/switchbox/switchbox/CostQueue" "nets" "[I" .null := D22 (Or.inl (hw _ (List.mem_of_getElem? (i := 15) rfl))) (ty := (.array .int)) (by decide)
  have F_size_o : Fld Z h22 o "com/example/switchbox/switchbox/CostQueue" "size" "I" (.int (0 : Int32)) := D22 (Or.inl (hw _ (List.mem_of_getElem? (i := 22) rfl))) (ty := .int) (by decide)
  have F_added_o : Fld Z h22 o "com/example/switchbox/switchbox/CostQueue" "added" "I" (.int (0 : Int32)) := D22 (Or.inl (hw _ (List.mem_of_getElem? (i := 28) rfl))) (ty := .int) (by decide)
  refine g_dup X22 hx hby at_74 (pc' := 75) rfl rfl ?_
  refine g_special X22 hx hby hZ hown rfl hml rfl (hw _ (List.mem_of_getElem? (i := 5) rfl)) (hw _ (List.mem_of_getElem? (i := 6) rfl)) (hw _ (List.mem_of_getElem? (i := 4) rfl)) rfl (hw _ (List.mem_of_getElem? (i := 7) rfl)) (by decide) e22 (rm1 l Z a0 hw o n0 h22 Z25 g24 E_o F_keys_o F_nets_o F_size_o F_added_o) pd___V_167 (a := o) (argsL := []) (rest := [(.ref o)]) rfl rfl rfl at_75 (pc' := 78) rfl (by decide) (Nat.le_of_ble_eq_true rfl) (by decide) (by decide) ?_
  intro Tp75 vp75 Lp75 Xp75 qp75
  obtain ⟨tk, tn, Kp75, Gp75, rfl, Nqp75, g_tk, g_tn, ne1, ne2, ne3, okp75, onp75, E_op75, Fap75, Fbp75, Fcp75, Fdp75, Aap75, Abp75, Kqp75⟩ := qp75
  have nca1 : ca ≠ tk := Nat.ne_of_lt (Nat.lt_of_lt_of_le A_ca.lt okp75)
  have nca2 : ca ≠ tn := Nat.ne_of_lt (Nat.lt_of_lt_of_le A_ca.lt onp75)
  replace Xp75 : Stand p l e room_1 s m _ below meth c Tp75 _ 4 138 := Xp75
  replace A_ca := A_ca.keep Kqp75 (ninS ne23 nin0)
  replace E_o := E_o.keep Kqp75
  have Z26 : n0 ≤ Tp75.heap.size := Nat.le_trans Z25 Kqp75.1
  have Np75 := Fr.app N21 Nqp75
  show Go p e below s (Q0 n0) room_1.cells room_1.slots m Tp75 78 #[.val (.int uc), .val (.int uv), .val (.int ub), .val (.int un), .val (.ref ca), .unset, .unset] [(.ref o)]
  refine g_astore Xp75 hx hby at_78 (pc' := 80) rfl rfl (Ls' := #[.val (.int uc), .val (.int uv), .val (.int ub), .val (.int un), .val (.ref ca), .val (.ref o), .unset]) rfl ?_
  refine g_aload Xp75 hx hby at_80 (pc' := 82) rfl rfl rfl ?_
  refine g_iloadN Xp75 hx hby at_82 (pc' := 83) rfl rfl ?_
  refine g_aload Xp75 hx hby at_83 (pc' := 85) rfl rfl rfl ?_
  refine g_iconst Xp75 hx hby at_85 (pc' := 86) rfl (n := (0 : Int32)) (by first | rfl | decide) ?_
  refine a_iaload Xp75 hx hby hZ rfl A_ca (by decide) (by decide) (v := (.int (cf 0))) (rfl) at_86 (pc' := 87) rfl ?_
  refine g_i2d Xp75 hx hby at_87 (pc' := 88) rfl ?_
  refine g_virtual Xp75 hx hby hZ hown hml rfl (hw _ (List.mem_of_getElem? (i := 16) rfl)) (hw _ (List.mem_of_getElem? (i := 17) rfl)) (hw _ (List.mem_of_getElem? (i := 19) rfl)) (hw _ (List.mem_of_getElem? (i := 18) rfl)) (hw _ (List.mem_of_getElem? (i := 4) rfl)) (hw _ (List.mem_of_getElem? (i := 20) rfl)) (by decide) rfl (rm3 l Z a0 hw o ub (FP.i2d (cf 0)) n0 tk tn Kp75 Gp75 (0 : Int32) (0 : Int32) (own_key cf) ub (fun _ => 0) (fun _ => False) Tp75.heap Z26 g24 g_tk g_tn ne1 ne2 ne3 E_op75 Fap75 Fbp75 Fcp75 Fdp75 Aap75 Abp75 (own_nn _ (hcr 0 (by decide))) rfl (by rw [show Int32.ofNat (0 : Int32).toInt.toNat = 0 from rfl, Int32.add_zero]) (by decide) ⟨fun i q => absurd q (Nat.not_lt_zero i), fun i q q2 => absurd q2 (Nat.not_lt_zero i), fun i k q => absurd q (Nat.not_lt_zero i), fun t => ⟨fun z => z.elim, fun ⟨i, q, _⟩ => absurd q (Nat.not_lt_zero i)⟩⟩ (fun z => z)) pd__ID_V_308 E_op75 (argsL := [(.int ub), (.double (FP.i2d (cf 0)))]) (rest := []) rfl rfl rfl at_88 (pc' := 91) rfl (by decide) (Nat.le_of_ble_eq_true rfl) (by decide) (by decide) ?_
  intro Tp88 vp88 Lp88 Xp88 qp88
  obtain ⟨K_p88, G_p88, szp88, adp88, rfl, Nqp88, E_op88, Fap88, Fbp88, Fcp88, Fdp88, Aap88, Abp88, Kqp88, rfl, rfl, τp88, hhp88⟩ := qp88
  replace Xp88 : Stand p l e room_1 s m _ below meth c Tp88 _ 4 138 := Xp88
  replace A_ca := A_ca.keep Kqp88 (ninS ne23 (ninS nca1 (ninS nca2 nin0)))
  replace E_op75 := E_op75.keep Kqp88
  have Z27 : n0 ≤ Tp88.heap.size := Nat.le_trans Z26 Kqp88.1
  have Np88 := Fr.app Np75 Nqp88
  show Go p e below s (Q0 n0) room_1.cells room_1.slots m Tp88 91 #[.val (.int uc), .val (.int uv), .val (.int ub), .val (.int un), .val (.ref ca), .val (.ref o), .unset] []
  suffices J91_28 : ∀ (locs29 : List Loc) (T29 : State) (X29 : Stand p l e room_1 s m #[(.int uc), (.int uv), (.int ub)] below meth c T29 locs29 4 138) (hp29 : Heap) (e29 : T29.heap = hp29) (N29 : Fr n0 locs29) (szj91 : Int32) (Kj91 : Nat → Int64) (Gj91 : Nat → Int32) (τj91 : Nat → Nat) (Ej91 : Exa Z hp29 o "com/example/switchbox/switchbox/CostQueue") (Faj91 : Fld Z hp29 o "com/example/switchbox/switchbox/CostQueue" "keys" "[J" (.ref tk)) (Fbj91 : Fld Z hp29 o "com/example/switchbox/switchbox/CostQueue" "nets" "[I" (.ref tn)) (Fcj91 : Fld Z hp29 o "com/example/switchbox/switchbox/CostQueue" "size" "I" (.int szj91)) (Fdj91 : Fld Z hp29 o "com/example/switchbox/switchbox/CostQueue" "added" "I" (.int szj91)) (Aaj91 : Ara Z hp29 tk .long 64 (fun jz => .long (Kj91 jz))) (Abj91 : Ara Z hp29 tn .int 64 (fun jz => .int (Gj91 jz))) (A_ca : Ara Z hp29 ca .int 6 (fun jz => .int (cf jz))) (Zj91 : n0 ≤ hp29.size) (hzj91 : szj91.toInt = min un.toInt 1) (hhj91 : own_hp (own_key cf) ub szj91.toInt.toNat Kj91 Gj91 τj91 (fun t => t < szj91.toInt.toNat)), Go p e below s (Q0 n0) room_1.cells room_1.slots m T29 91 #[.val (.int uc), .val (.int uv), .val (.int ub), .val (.int un), .val (.ref ca), .val (.ref o), .unset] [] by
    exact J91_28 _ _ Xp88 _ rfl Np88 _ _ _ _ E_op88 Fap88 Fbp88 Fcp88 Fdp88 Aap88 Abp88 A_ca Z27 (by show (1 : Int) = _; omega) (own_hp_lv hhp88 (fun t => ⟨fun q => (show False ∨ t = 0 from q).elim (fun z => z.elim) (fun z => by show t < 1; omega), fun q => Or.inr (by have : t < 1 := q; show t = 0; omega)⟩))
  intro locs29 T29 X29 hp29 e29 N29 szj91 Kj91 Gj91 τj91 Ej91 Faj91 Fbj91 Fcj91 Fdj91 Aaj91 Abj91 A_ca Zj91 hzj91 hhj91
  refine g_iloadN X29 hx hby at_91 (pc' := 92) rfl rfl ?_
  suffices J109_30 : ∀ (locs31 : List Loc) (T31 : State) (X31 : Stand p l e room_1 s m #[(.int uc), (.int uv), (.int ub)] below meth c T31 locs31 4 138) (hp31 : Heap) (e31 : T31.heap = hp31) (N31 : Fr n0 locs31) (szj109 : Int32) (Kj109 : Nat → Int64) (Gj109 : Nat → Int32) (τj109 : Nat → Nat) (Ej109 : Exa Z hp31 o "com/example/switchbox/switchbox/CostQueue") (Faj109 : Fld Z hp31 o "com/example/switchbox/switchbox/CostQueue" "keys" "[J" (.ref tk)) (Fbj109 : Fld Z hp31 o "com/example/switchbox/switchbox/CostQueue" "nets" "[I" (.ref tn)) (Fcj109 : Fld Z hp31 o "com/example/switchbox/switchbox/CostQueue" "size" "I" (.int szj109)) (Fdj109 : Fld Z hp31 o "com/example/switchbox/switchbox/CostQueue" "added" "I" (.int szj109)) (Aaj109 : Ara Z hp31 tk .long 64 (fun jz => .long (Kj109 jz))) (Abj109 : Ara Z hp31 tn .int 64 (fun jz => .int (Gj109 jz))) (A_ca : Ara Z hp31 ca .int 6 (fun jz => .int (cf jz))) (Zj109 : n0 ≤ hp31.size) (hzj109 : szj109.toInt = min un.toInt 2) (hhj109 : own_hp (own_key cf) ub szj109.toInt.toNat Kj109 Gj109 τj109 (fun t => t < szj109.toInt.toNat)), Go p e below s (Q0 n0) room_1.cells room_1.slots m T31 109 #[.val (.int uc), .val (.int uv), .val (.int ub), .val (.int un), .val (.ref ca), .val (.ref o), .unset] [] by
    refine g_iconst X29 hx hby at_92 (pc' := 93) rfl (n := (1 : Int32)) (by first | rfl | decide) ?_
    refine g_icmple X29 hx hby at_93 (pt := 109) (pf := 96) (by decide) (by decide) rfl (fun (h93 : un.toInt ≤ 1) => ?_) (fun (h93 : 1 < un.toInt) => ?_)
    · exact J109_30 _ _ X29 _ e29 N29 _ _ _ _ Ej91 Faj91 Fbj91 Fcj91 Fdj91 Aaj91 Abj91 A_ca Zj91 (by omega) hhj91
    · have ezj91 : szj91 = (1 : Int32) := Int32.toInt_inj.mp (by rw [hzj91]; show _ = (1 : Int); omega)
      refine g_aload X29 hx hby at_96 (pc' := 98) rfl rfl rfl ?_
      refine g_iloadN X29 hx hby at_98 (pc' := 99) rfl rfl ?_
      refine g_iconst X29 hx hby at_99 (pc' := 100) rfl (n := (1 : Int32)) (by first | rfl | decide) ?_
      refine g_iadd X29 hx hby at_100 (pc' := 101) rfl ?_
      refine g_aload X29 hx hby at_101 (pc' := 103) rfl rfl rfl ?_
      refine g_iconst X29 hx hby at_103 (pc' := 104) rfl (n := (1 : Int32)) (by first | rfl | decide) ?_
      refine a_iaload X29 hx hby hZ e29 A_ca (by decide) (by decide) (v := (.int (cf 1))) (rfl) at_104 (pc' := 105) rfl ?_
      refine g_i2d X29 hx hby at_105 (pc' := 106) rfl ?_
      refine g_virtual X29 hx hby hZ hown hml rfl (hw _ (List.mem_of_getElem? (i := 16) rfl)) (hw _ (List.mem_of_getElem? (i := 17) rfl)) (hw _ (List.mem_of_getElem? (i := 19) rfl)) (hw _ (List.mem_of_getElem? (i := 18) rfl)) (hw _ (List.mem_of_getElem? (i := 4) rfl)) (hw _ (List.mem_of_getElem? (i := 20) rfl)) (by decide) e29 (rm3 l Z a0 hw o (ub + (1 : Int32)) (FP.i2d (cf 1)) n0 tk tn Kj91 Gj91 szj91 szj91 (own_key cf) ub τj91 _ hp29 Zj91 g24 g_tk g_tn ne1 ne2 ne3 Ej91 Faj91 Fbj91 Fcj91 Fdj91 Aaj91 Abj91 (own_nn _ (hcr 1 (by decide))) (by rw [ezj91]; rfl) (by rw [ezj91]; rfl) (by rw [ezj91]; decide) hhj91 (Nat.lt_irrefl _)) pd__ID_V_308 Ej91 (argsL := [(.int (ub + (1 : Int32))), (.double (FP.i2d (cf 1)))]) (rest := []) rfl rfl rfl at_106 (pc' := 109) rfl (by decide) (Nat.le_of_ble_eq_true rfl) (by decide) (by decide) ?_
      intro Tp106 vp106 Lp106 Xp106 qp106
      obtain ⟨K_p106, G_p106, szp106, adp106, rfl, Nqp106, E_op106, Fap106, Fbp106, Fcp106, Fdp106, Aap106, Abp106, Kqp106, rfl, rfl, τp106, hhp106⟩ := qp106
      replace Xp106 : Stand p l e room_1 s m _ below meth c Tp106 _ 4 138 := Xp106
      replace Ej91 := Ej91.keep Kqp106
      replace A_ca := A_ca.keep Kqp106 (ninS ne23 (ninS nca1 (ninS nca2 nin0)))
      have Z32 : n0 ≤ Tp106.heap.size := Nat.le_trans Zj91 Kqp106.1
      have Np106 := Fr.app N29 Nqp106
      show Go p e below s (Q0 n0) room_1.cells room_1.slots m Tp106 109 #[.val (.int uc), .val (.int uv), .val (.int ub), .val (.int un), .val (.ref ca), .val (.ref o), .unset] []
      exact J109_30 _ _ Xp106 _ rfl Np106 _ _ _ _ E_op106 Fap106 Fbp106 Fcp106 Fdp106 Aap106 Abp106 A_ca Z32 (by rw [ezj91]; show (2 : Int) = _; omega) (by rw [ezj91] at hhp106 ⊢; exact own_hp_lv hhp106 (fun t => ⟨fun q => by show t < 2; have : t < 1 ∨ t = 1 := q; omega, fun q => by have : t < 2 := q; show t < 1 ∨ t = 1; omega⟩))
  intro locs31 T31 X31 hp31 e31 N31 szj109 Kj109 Gj109 τj109 Ej109 Faj109 Fbj109 Fcj109 Fdj109 Aaj109 Abj109 A_ca Zj109 hzj109 hhj109
  refine g_iloadN X31 hx hby at_109 (pc' := 110) rfl rfl ?_
  suffices J127_33 : ∀ (locs34 : List Loc) (T34 : State) (X34 : Stand p l e room_1 s m #[(.int uc), (.int uv), (.int ub)] below meth c T34 locs34 4 138) (hp34 : Heap) (e34 : T34.heap = hp34) (N34 : Fr n0 locs34) (szj127 : Int32) (Kj127 : Nat → Int64) (Gj127 : Nat → Int32) (τj127 : Nat → Nat) (Ej127 : Exa Z hp34 o "com/example/switchbox/switchbox/CostQueue") (Faj127 : Fld Z hp34 o "com/example/switchbox/switchbox/CostQueue" "keys" "[J" (.ref tk)) (Fbj127 : Fld Z hp34 o "com/example/switchbox/switchbox/CostQueue" "nets" "[I" (.ref tn)) (Fcj127 : Fld Z hp34 o "com/example/switchbox/switchbox/CostQueue" "size" "I" (.int szj127)) (Fdj127 : Fld Z hp34 o "com/example/switchbox/switchbox/CostQueue" "added" "I" (.int szj127)) (Aaj127 : Ara Z hp34 tk .long 64 (fun jz => .long (Kj127 jz))) (Abj127 : Ara Z hp34 tn .int 64 (fun jz => .int (Gj127 jz))) (A_ca : Ara Z hp34 ca .int 6 (fun jz => .int (cf jz))) (Zj127 : n0 ≤ hp34.size) (hzj127 : szj127.toInt = min un.toInt 3) (hhj127 : own_hp (own_key cf) ub szj127.toInt.toNat Kj127 Gj127 τj127 (fun t => t < szj127.toInt.toNat)), Go p e below s (Q0 n0) room_1.cells room_1.slots m T34 127 #[.val (.int uc), .val (.int uv), .val (.int ub), .val (.int un), .val (.ref ca), .val (.ref o), .unset] [] by
    refine g_iconst X31 hx hby at_110 (pc' := 111) rfl (n := (2 : Int32)) (by first | rfl | decide) ?_
    refine g_icmple X31 hx hby at_111 (pt := 127) (pf := 114) (by decide) (by decide) rfl (fun (h111 : un.toInt ≤ 2) => ?_) (fun (h111 : 2 < un.toInt) => ?_)
    · exact J127_33 _ _ X31 _ e31 N31 _ _ _ _ Ej109 Faj109 Fbj109 Fcj109 Fdj109 Aaj109 Abj109 A_ca Zj109 (by omega) hhj109
    · have ezj109 : szj109 = (2 : Int32) := Int32.toInt_inj.mp (by rw [hzj109]; show _ = (2 : Int); omega)
      refine g_aload X31 hx hby at_114 (pc' := 116) rfl rfl rfl ?_
      refine g_iloadN X31 hx hby at_116 (pc' := 117) rfl rfl ?_
      refine g_iconst X31 hx hby at_117 (pc' := 118) rfl (n := (2 : Int32)) (by first | rfl | decide) ?_
      refine g_iadd X31 hx hby at_118 (pc' := 119) rfl ?_
      refine g_aload X31 hx hby at_119 (pc' := 121) rfl rfl rfl ?_
      refine g_iconst X31 hx hby at_121 (pc' := 122) rfl (n := (2 : Int32)) (by first | rfl | decide) ?_
      refine a_iaload X31 hx hby hZ e31 A_ca (by decide) (by decide) (v := (.int (cf 2))) (rfl) at_122 (pc' := 123) rfl ?_
      refine g_i2d X31 hx hby at_123 (pc' := 124) rfl ?_
      refine g_virtual X31 hx hby hZ hown hml rfl (hw _ (List.mem_of_getElem? (i := 16) rfl)) (hw _ (List.mem_of_getElem? (i := 17) rfl)) (hw _ (List.mem_of_getElem? (i := 19) rfl)) (hw _ (List.mem_of_getElem? (i := 18) rfl)) (hw _ (List.mem_of_getElem? (i := 4) rfl)) (hw _ (List.mem_of_getElem? (i := 20) rfl)) (by decide) e31 (rm3 l Z a0 hw o (ub + (2 : Int32)) (FP.i2d (cf 2)) n0 tk tn Kj109 Gj109 szj109 szj109 (own_key cf) ub τj109 _ hp31 Zj109 g24 g_tk g_tn ne1 ne2 ne3 Ej109 Faj109 Fbj109 Fcj109 Fdj109 Aaj109 Abj109 (own_nn _ (hcr 2 (by decide))) (by rw [ezj109]; rfl) (by rw [ezj109]; rfl) (by rw [ezj109]; decide) hhj109 (Nat.lt_irrefl _)) pd__ID_V_308 Ej109 (argsL := [(.int (ub + (2 : Int32))), (.double (FP.i2d (cf 2)))]) (rest := []) rfl rfl rfl at_124 (pc' := 127) rfl (by decide) (Nat.le_of_ble_eq_true rfl) (by decide) (by decide) ?_
      intro Tp124 vp124 Lp124 Xp124 qp124
      obtain ⟨K_p124, G_p124, szp124, adp124, rfl, Nqp124, E_op124, Fap124, Fbp124, Fcp124, Fdp124, Aap124, Abp124, Kqp124, rfl, rfl, τp124, hhp124⟩ := qp124
      replace Xp124 : Stand p l e room_1 s m _ below meth c Tp124 _ 4 138 := Xp124
      replace Ej109 := Ej109.keep Kqp124
      replace A_ca := A_ca.keep Kqp124 (ninS ne23 (ninS nca1 (ninS nca2 nin0)))
      have Z35 : n0 ≤ Tp124.heap.size := Nat.le_trans Zj109 Kqp124.1
      have Np124 := Fr.app N31 Nqp124
      show Go p e below s (Q0 n0) room_1.cells room_1.slots m Tp124 127 #[.val (.int uc), .val (.int uv), .val (.int ub), .val (.int un), .val (.ref ca), .val (.ref o), .unset] []
      exact J127_33 _ _ Xp124 _ rfl Np124 _ _ _ _ E_op124 Fap124 Fbp124 Fcp124 Fdp124 Aap124 Abp124 A_ca Z35 (by rw [ezj109]; show (3 : Int) = _; omega) (by rw [ezj109] at hhp124 ⊢; exact own_hp_lv hhp124 (fun t => ⟨fun q => by show t < 3; have : t < 2 ∨ t = 2 := q; omega, fun q => by have : t < 3 := q; show t < 2 ∨ t = 2; omega⟩))
  intro locs34 T34 X34 hp34 e34 N34 szj127 Kj127 Gj127 τj127 Ej127 Faj127 Fbj127 Fcj127 Fdj127 Aaj127 Abj127 A_ca Zj127 hzj127 hhj127
  refine g_iloadN X34 hx hby at_127 (pc' := 128) rfl rfl ?_
  suffices J145_36 : ∀ (locs37 : List Loc) (T37 : State) (X37 : Stand p l e room_1 s m #[(.int uc), (.int uv), (.int ub)] below meth c T37 locs37 4 138) (hp37 : Heap) (e37 : T37.heap = hp37) (N37 : Fr n0 locs37) (szj145 : Int32) (Kj145 : Nat → Int64) (Gj145 : Nat → Int32) (τj145 : Nat → Nat) (Ej145 : Exa Z hp37 o "com/example/switchbox/switchbox/CostQueue") (Faj145 : Fld Z hp37 o "com/example/switchbox/switchbox/CostQueue" "keys" "[J" (.ref tk)) (Fbj145 : Fld Z hp37 o "com/example/switchbox/switchbox/CostQueue" "nets" "[I" (.ref tn)) (Fcj145 : Fld Z hp37 o "com/example/switchbox/switchbox/CostQueue" "size" "I" (.int szj145)) (Fdj145 : Fld Z hp37 o "com/example/switchbox/switchbox/CostQueue" "added" "I" (.int szj145)) (Aaj145 : Ara Z hp37 tk .long 64 (fun jz => .long (Kj145 jz))) (Abj145 : Ara Z hp37 tn .int 64 (fun jz => .int (Gj145 jz))) (A_ca : Ara Z hp37 ca .int 6 (fun jz => .int (cf jz))) (Zj145 : n0 ≤ hp37.size) (hzj145 : szj145.toInt = min un.toInt 4) (hhj145 : own_hp (own_key cf) ub szj145.toInt.toNat Kj145 Gj145 τj145 (fun t => t < szj145.toInt.toNat)), Go p e below s (Q0 n0) room_1.cells room_1.slots m T37 145 #[.val (.int uc), .val (.int uv), .val (.int ub), .val (.int un), .val (.ref ca), .val (.ref o), .unset] [] by
    refine g_iconst X34 hx hby at_128 (pc' := 129) rfl (n := (3 : Int32)) (by first | rfl | decide) ?_
    refine g_icmple X34 hx hby at_129 (pt := 145) (pf := 132) (by decide) (by decide) rfl (fun (h129 : un.toInt ≤ 3) => ?_) (fun (h129 : 3 < un.toInt) => ?_)
    · exact J145_36 _ _ X34 _ e34 N34 _ _ _ _ Ej127 Faj127 Fbj127 Fcj127 Fdj127 Aaj127 Abj127 A_ca Zj127 (by omega) hhj127
    · have ezj127 : szj127 = (3 : Int32) := Int32.toInt_inj.mp (by rw [hzj127]; show _ = (3 : Int); omega)
      refine g_aload X34 hx hby at_132 (pc' := 134) rfl rfl rfl ?_
      refine g_iloadN X34 hx hby at_134 (pc' := 135) rfl rfl ?_
      refine g_iconst X34 hx hby at_135 (pc' := 136) rfl (n := (3 : Int32)) (by first | rfl | decide) ?_
      refine g_iadd X34 hx hby at_136 (pc' := 137) rfl ?_
      refine g_aload X34 hx hby at_137 (pc' := 139) rfl rfl rfl ?_
      refine g_iconst X34 hx hby at_139 (pc' := 140) rfl (n := (3 : Int32)) (by first | rfl | decide) ?_
      refine a_iaload X34 hx hby hZ e34 A_ca (by decide) (by decide) (v := (.int (cf 3))) (rfl) at_140 (pc' := 141) rfl ?_
      refine g_i2d X34 hx hby at_141 (pc' := 142) rfl ?_
      refine g_virtual X34 hx hby hZ hown hml rfl (hw _ (List.mem_of_getElem? (i := 16) rfl)) (hw _ (List.mem_of_getElem? (i := 17) rfl)) (hw _ (List.mem_of_getElem? (i := 19) rfl)) (hw _ (List.mem_of_getElem? (i := 18) rfl)) (hw _ (List.mem_of_getElem? (i := 4) rfl)) (hw _ (List.mem_of_getElem? (i := 20) rfl)) (by decide) e34 (rm3 l Z a0 hw o (ub + (3 : Int32)) (FP.i2d (cf 3)) n0 tk tn Kj127 Gj127 szj127 szj127 (own_key cf) ub τj127 _ hp34 Zj127 g24 g_tk g_tn ne1 ne2 ne3 Ej127 Faj127 Fbj127 Fcj127 Fdj127 Aaj127 Abj127 (own_nn _ (hcr 3 (by decide))) (by rw [ezj127]; rfl) (by rw [ezj127]; rfl) (by rw [ezj127]; decide) hhj127 (Nat.lt_irrefl _)) pd__ID_V_308 Ej127 (argsL := [(.int (ub + (3 : Int32))), (.double (FP.i2d (cf 3)))]) (rest := []) rfl rfl rfl at_142 (pc' := 145) rfl (by decide) (Nat.le_of_ble_eq_true rfl) (by decide) (by decide) ?_
      intro Tp142 vp142 Lp142 Xp142 qp142
      obtain ⟨K_p142, G_p142, szp142, adp142, rfl, Nqp142, E_op142, Fap142, Fbp142, Fcp142, Fdp142, Aap142, Abp142, Kqp142, rfl, rfl, τp142, hhp142⟩ := qp142
      replace Xp142 : Stand p l e room_1 s m _ below meth c Tp142 _ 4 138 := Xp142
      replace Ej127 := Ej127.keep Kqp142
      replace A_ca := A_ca.keep Kqp142 (ninS ne23 (ninS nca1 (ninS nca2 nin0)))
      have Z38 : n0 ≤ Tp142.heap.size := Nat.le_trans Zj127 Kqp142.1
      have Np142 := Fr.app N34 Nqp142
      show Go p e below s (Q0 n0) room_1.cells room_1.slots m Tp142 145 #[.val (.int uc), .val (.int uv), .val (.int ub), .val (.int un), .val (.ref ca), .val (.ref o), .unset] []
      exact J145_36 _ _ Xp142 _ rfl Np142 _ _ _ _ E_op142 Fap142 Fbp142 Fcp142 Fdp142 Aap142 Abp142 A_ca Z38 (by rw [ezj127]; show (4 : Int) = _; omega) (by rw [ezj127] at hhp142 ⊢; exact own_hp_lv hhp142 (fun t => ⟨fun q => by show t < 4; have : t < 3 ∨ t = 3 := q; omega, fun q => by have : t < 4 := q; show t < 3 ∨ t = 3; omega⟩))
  intro locs37 T37 X37 hp37 e37 N37 szj145 Kj145 Gj145 τj145 Ej145 Faj145 Fbj145 Fcj145 Fdj145 Aaj145 Abj145 A_ca Zj145 hzj145 hhj145
  refine g_iloadN X37 hx hby at_145 (pc' := 146) rfl rfl ?_
  suffices J163_39 : ∀ (locs40 : List Loc) (T40 : State) (X40 : Stand p l e room_1 s m #[(.int uc), (.int uv), (.int ub)] below meth c T40 locs40 4 138) (hp40 : Heap) (e40 : T40.heap = hp40) (N40 : Fr n0 locs40) (szj163 : Int32) (Kj163 : Nat → Int64) (Gj163 : Nat → Int32) (τj163 : Nat → Nat) (Ej163 : Exa Z hp40 o "com/example/switchbox/switchbox/CostQueue") (Faj163 : Fld Z hp40 o "com/example/switchbox/switchbox/CostQueue" "keys" "[J" (.ref tk)) (Fbj163 : Fld Z hp40 o "com/example/switchbox/switchbox/CostQueue" "nets" "[I" (.ref tn)) (Fcj163 : Fld Z hp40 o "com/example/switchbox/switchbox/CostQueue" "size" "I" (.int szj163)) (Fdj163 : Fld Z hp40 o "com/example/switchbox/switchbox/CostQueue" "added" "I" (.int szj163)) (Aaj163 : Ara Z hp40 tk .long 64 (fun jz => .long (Kj163 jz))) (Abj163 : Ara Z hp40 tn .int 64 (fun jz => .int (Gj163 jz))) (A_ca : Ara Z hp40 ca .int 6 (fun jz => .int (cf jz))) (Zj163 : n0 ≤ hp40.size) (hzj163 : szj163.toInt = min un.toInt 5) (hhj163 : own_hp (own_key cf) ub szj163.toInt.toNat Kj163 Gj163 τj163 (fun t => t < szj163.toInt.toNat)), Go p e below s (Q0 n0) room_1.cells room_1.slots m T40 163 #[.val (.int uc), .val (.int uv), .val (.int ub), .val (.int un), .val (.ref ca), .val (.ref o), .unset] [] by
    refine g_iconst X37 hx hby at_146 (pc' := 147) rfl (n := (4 : Int32)) (by first | rfl | decide) ?_
    refine g_icmple X37 hx hby at_147 (pt := 163) (pf := 150) (by decide) (by decide) rfl (fun (h147 : un.toInt ≤ 4) => ?_) (fun (h147 : 4 < un.toInt) => ?_)
    · exact J163_39 _ _ X37 _ e37 N37 _ _ _ _ Ej145 Faj145 Fbj145 Fcj145 Fdj145 Aaj145 Abj145 A_ca Zj145 (by omega) hhj145
    · have ezj145 : szj145 = (4 : Int32) := Int32.toInt_inj.mp (by rw [hzj145]; show _ = (4 : Int); omega)
      refine g_aload X37 hx hby at_150 (pc' := 152) rfl rfl rfl ?_
      refine g_iloadN X37 hx hby at_152 (pc' := 153) rfl rfl ?_
      refine g_iconst X37 hx hby at_153 (pc' := 154) rfl (n := (4 : Int32)) (by first | rfl | decide) ?_
      refine g_iadd X37 hx hby at_154 (pc' := 155) rfl ?_
      refine g_aload X37 hx hby at_155 (pc' := 157) rfl rfl rfl ?_
      refine g_iconst X37 hx hby at_157 (pc' := 158) rfl (n := (4 : Int32)) (by first | rfl | decide) ?_
      refine a_iaload X37 hx hby hZ e37 A_ca (by decide) (by decide) (v := (.int (cf 4))) (rfl) at_158 (pc' := 159) rfl ?_
      refine g_i2d X37 hx hby at_159 (pc' := 160) rfl ?_
      refine g_virtual X37 hx hby hZ hown hml rfl (hw _ (List.mem_of_getElem? (i := 16) rfl)) (hw _ (List.mem_of_getElem? (i := 17) rfl)) (hw _ (List.mem_of_getElem? (i := 19) rfl)) (hw _ (List.mem_of_getElem? (i := 18) rfl)) (hw _ (List.mem_of_getElem? (i := 4) rfl)) (hw _ (List.mem_of_getElem? (i := 20) rfl)) (by decide) e37 (rm3 l Z a0 hw o (ub + (4 : Int32)) (FP.i2d (cf 4)) n0 tk tn Kj145 Gj145 szj145 szj145 (own_key cf) ub τj145 _ hp37 Zj145 g24 g_tk g_tn ne1 ne2 ne3 Ej145 Faj145 Fbj145 Fcj145 Fdj145 Aaj145 Abj145 (own_nn _ (hcr 4 (by decide))) (by rw [ezj145]; rfl) (by rw [ezj145]; rfl) (by rw [ezj145]; decide) hhj145 (Nat.lt_irrefl _)) pd__ID_V_308 Ej145 (argsL := [(.int (ub + (4 : Int32))), (.double (FP.i2d (cf 4)))]) (rest := []) rfl rfl rfl at_160 (pc' := 163) rfl (by decide) (Nat.le_of_ble_eq_true rfl) (by decide) (by decide) ?_
      intro Tp160 vp160 Lp160 Xp160 qp160
      obtain ⟨K_p160, G_p160, szp160, adp160, rfl, Nqp160, E_op160, Fap160, Fbp160, Fcp160, Fdp160, Aap160, Abp160, Kqp160, rfl, rfl, τp160, hhp160⟩ := qp160
      replace Xp160 : Stand p l e room_1 s m _ below meth c Tp160 _ 4 138 := Xp160
      replace Ej145 := Ej145.keep Kqp160
      replace A_ca := A_ca.keep Kqp160 (ninS ne23 (ninS nca1 (ninS nca2 nin0)))
      have Z41 : n0 ≤ Tp160.heap.size := Nat.le_trans Zj145 Kqp160.1
      have Np160 := Fr.app N37 Nqp160
      show Go p e below s (Q0 n0) room_1.cells room_1.slots m Tp160 163 #[.val (.int uc), .val (.int uv), .val (.int ub), .val (.int un), .val (.ref ca), .val (.ref o), .unset] []
      exact J163_39 _ _ Xp160 _ rfl Np160 _ _ _ _ E_op160 Fap160 Fbp160 Fcp160 Fdp160 Aap160 Abp160 A_ca Z41 (by rw [ezj145]; show (5 : Int) = _; omega) (by rw [ezj145] at hhp160 ⊢; exact own_hp_lv hhp160 (fun t => ⟨fun q => by show t < 5; have : t < 4 ∨ t = 4 := q; omega, fun q => by have : t < 5 := q; show t < 4 ∨ t = 4; omega⟩))
  intro locs40 T40 X40 hp40 e40 N40 szj163 Kj163 Gj163 τj163 Ej163 Faj163 Fbj163 Fcj163 Fdj163 Aaj163 Abj163 A_ca Zj163 hzj163 hhj163
  refine g_iloadN X40 hx hby at_163 (pc' := 164) rfl rfl ?_
  suffices J181_42 : ∀ (locs43 : List Loc) (T43 : State) (X43 : Stand p l e room_1 s m #[(.int uc), (.int uv), (.int ub)] below meth c T43 locs43 4 138) (hp43 : Heap) (e43 : T43.heap = hp43) (N43 : Fr n0 locs43) (szj181 : Int32) (Kj181 : Nat → Int64) (Gj181 : Nat → Int32) (τj181 : Nat → Nat) (Ej181 : Exa Z hp43 o "com/example/switchbox/switchbox/CostQueue") (Faj181 : Fld Z hp43 o "com/example/switchbox/switchbox/CostQueue" "keys" "[J" (.ref tk)) (Fbj181 : Fld Z hp43 o "com/example/switchbox/switchbox/CostQueue" "nets" "[I" (.ref tn)) (Fcj181 : Fld Z hp43 o "com/example/switchbox/switchbox/CostQueue" "size" "I" (.int szj181)) (Fdj181 : Fld Z hp43 o "com/example/switchbox/switchbox/CostQueue" "added" "I" (.int szj181)) (Aaj181 : Ara Z hp43 tk .long 64 (fun jz => .long (Kj181 jz))) (Abj181 : Ara Z hp43 tn .int 64 (fun jz => .int (Gj181 jz))) (A_ca : Ara Z hp43 ca .int 6 (fun jz => .int (cf jz))) (Zj181 : n0 ≤ hp43.size) (hzj181 : szj181.toInt = min un.toInt 6) (hhj181 : own_hp (own_key cf) ub szj181.toInt.toNat Kj181 Gj181 τj181 (fun t => t < szj181.toInt.toNat)), Go p e below s (Q0 n0) room_1.cells room_1.slots m T43 181 #[.val (.int uc), .val (.int uv), .val (.int ub), .val (.int un), .val (.ref ca), .val (.ref o), .unset] [] by
    refine g_iconst X40 hx hby at_164 (pc' := 165) rfl (n := (5 : Int32)) (by first | rfl | decide) ?_
    refine g_icmple X40 hx hby at_165 (pt := 181) (pf := 168) (by decide) (by decide) rfl (fun (h165 : un.toInt ≤ 5) => ?_) (fun (h165 : 5 < un.toInt) => ?_)
    · exact J181_42 _ _ X40 _ e40 N40 _ _ _ _ Ej163 Faj163 Fbj163 Fcj163 Fdj163 Aaj163 Abj163 A_ca Zj163 (by omega) hhj163
    · have ezj163 : szj163 = (5 : Int32) := Int32.toInt_inj.mp (by rw [hzj163]; show _ = (5 : Int); omega)
      refine g_aload X40 hx hby at_168 (pc' := 170) rfl rfl rfl ?_
      refine g_iloadN X40 hx hby at_170 (pc' := 171) rfl rfl ?_
      refine g_iconst X40 hx hby at_171 (pc' := 172) rfl (n := (5 : Int32)) (by first | rfl | decide) ?_
      refine g_iadd X40 hx hby at_172 (pc' := 173) rfl ?_
      refine g_aload X40 hx hby at_173 (pc' := 175) rfl rfl rfl ?_
      refine g_iconst X40 hx hby at_175 (pc' := 176) rfl (n := (5 : Int32)) (by first | rfl | decide) ?_
      refine a_iaload X40 hx hby hZ e40 A_ca (by decide) (by decide) (v := (.int (cf 5))) (rfl) at_176 (pc' := 177) rfl ?_
      refine g_i2d X40 hx hby at_177 (pc' := 178) rfl ?_
      refine g_virtual X40 hx hby hZ hown hml rfl (hw _ (List.mem_of_getElem? (i := 16) rfl)) (hw _ (List.mem_of_getElem? (i := 17) rfl)) (hw _ (List.mem_of_getElem? (i := 19) rfl)) (hw _ (List.mem_of_getElem? (i := 18) rfl)) (hw _ (List.mem_of_getElem? (i := 4) rfl)) (hw _ (List.mem_of_getElem? (i := 20) rfl)) (by decide) e40 (rm3 l Z a0 hw o (ub + (5 : Int32)) (FP.i2d (cf 5)) n0 tk tn Kj163 Gj163 szj163 szj163 (own_key cf) ub τj163 _ hp40 Zj163 g24 g_tk g_tn ne1 ne2 ne3 Ej163 Faj163 Fbj163 Fcj163 Fdj163 Aaj163 Abj163 (own_nn _ (hcr 5 (by decide))) (by rw [ezj163]; rfl) (by rw [ezj163]; rfl) (by rw [ezj163]; decide) hhj163 (Nat.lt_irrefl _)) pd__ID_V_308 Ej163 (argsL := [(.int (ub + (5 : Int32))), (.double (FP.i2d (cf 5)))]) (rest := []) rfl rfl rfl at_178 (pc' := 181) rfl (by decide) (Nat.le_of_ble_eq_true rfl) (by decide) (by decide) ?_
      intro Tp178 vp178 Lp178 Xp178 qp178
      obtain ⟨K_p178, G_p178, szp178, adp178, rfl, Nqp178, E_op178, Fap178, Fbp178, Fcp178, Fdp178, Aap178, Abp178, Kqp178, rfl, rfl, τp178, hhp178⟩ := qp178
      replace Xp178 : Stand p l e room_1 s m _ below meth c Tp178 _ 4 138 := Xp178
      replace Ej163 := Ej163.keep Kqp178
      replace A_ca := A_ca.keep Kqp178 (ninS ne23 (ninS nca1 (ninS nca2 nin0)))
      have Z44 : n0 ≤ Tp178.heap.size := Nat.le_trans Zj163 Kqp178.1
      have Np178 := Fr.app N40 Nqp178
      show Go p e below s (Q0 n0) room_1.cells room_1.slots m Tp178 181 #[.val (.int uc), .val (.int uv), .val (.int ub), .val (.int un), .val (.ref ca), .val (.ref o), .unset] []
      exact J181_42 _ _ Xp178 _ rfl Np178 _ _ _ _ E_op178 Fap178 Fbp178 Fcp178 Fdp178 Aap178 Abp178 A_ca Z44 (by rw [ezj163]; show (6 : Int) = _; omega) (by rw [ezj163] at hhp178 ⊢; exact own_hp_lv hhp178 (fun t => ⟨fun q => by show t < 6; have : t < 5 ∨ t = 5 := q; omega, fun q => by have : t < 6 := q; show t < 5 ∨ t = 5; omega⟩))
  intro locs43 T43 X43 hp43 e43 N43 szj181 Kj181 Gj181 τj181 Ej181 Faj181 Fbj181 Fcj181 Fdj181 Aaj181 Abj181 A_ca Zj181 hzj181 hhj181
  have hiv0 := own_iv_init (n := un.toInt) hhj181 (by omega)
  refine g_aload X43 hx hby at_181 (pc' := 183) rfl rfl rfl ?_
  refine g_aload X43 hx hby at_183 (pc' := 185) rfl rfl rfl ?_
  refine g_iloadN X43 hx hby at_185 (pc' := 186) rfl rfl ?_
  refine g_iloadN X43 hx hby at_186 (pc' := 187) rfl rfl ?_
  refine g_iconst X43 hx hby at_187 (pc' := 188) rfl (n := (0 : Int32)) (by first | rfl | decide) ?_
  refine g_static X43 hx hby hZ hown hml rfl (hw _ (List.mem_of_getElem? (i := 29) rfl)) (hw _ (List.mem_of_getElem? (i := 30) rfl)) (hw _ (List.mem_of_getElem? (i := 31) rfl)) (hw _ (List.mem_of_getElem? (i := 32) rfl)) (by decide) e43 (rm4 l Z a0 hw o ca un ub (0 : Int32) n0 tk tn Kj181 Gj181 szj181 szj181 cf τj181 (fun _ => false) hp43 Zj181 g24 g_tk g_tn ne1 ne2 ne3 Ej181 Faj181 Fbj181 Fcj181 Fdj181 Aaj181 Abj181 A_ca ne23 nca1 nca2 hun (by decide) (by omega) hko hiv0) pd__Lcom_example_switchbox_switchbox_CostQueue__IIII_Z_844 (argsL := [(.ref o), (.ref ca), (.int un), (.int ub), (.int (0 : Int32))]) (rest := []) rfl rfl rfl at_188 (pc' := 191) rfl (by decide) (Nat.le_of_ble_eq_true rfl) (by decide) (by decide) ?_
  intro Tp188 vp188 Lp188 Xp188 qp188
  obtain ⟨K_p188, G_p188, szp188, adp188, rfl, Nqp188, E_op188, Fap188, Fbp188, Fcp188, Fdp188, Aap188, Abp188, Kqp188, hsp188, τp188, Dp188, hip188⟩ := qp188
  replace Xp188 : Stand p l e room_1 s m _ below meth c Tp188 _ 4 138 := Xp188
  replace Ej181 := Ej181.keep Kqp188
  replace A_ca := A_ca.keep Kqp188 (ninS ne23 (ninS nca1 (ninS nca2 nin0)))
  have Z45 : n0 ≤ Tp188.heap.size := Nat.le_trans Zj181 Kqp188.1
  have Np188 := Fr.app N43 Nqp188
  show Go p e below s (Q0 n0) room_1.cells room_1.slots m Tp188 191 #[.val (.int uc), .val (.int uv), .val (.int ub), .val (.int un), .val (.ref ca), .val (.ref o), .unset] [(.int (1 : Int32))]
  refine g_istore Xp188 hx hby at_191 (pc' := 193) rfl (Ls' := #[.val (.int uc), .val (.int uv), .val (.int ub), .val (.int un), .val (.ref ca), .val (.ref o), .val (.int (1 : Int32))]) rfl ?_
  refine g_aload Xp188 hx hby at_193 (pc' := 195) rfl rfl rfl ?_
  refine g_aload Xp188 hx hby at_195 (pc' := 197) rfl rfl rfl ?_
  refine g_iloadN Xp188 hx hby at_197 (pc' := 198) rfl rfl ?_
  refine g_iloadN Xp188 hx hby at_198 (pc' := 199) rfl rfl ?_
  refine g_iconst Xp188 hx hby at_199 (pc' := 200) rfl (n := (1 : Int32)) (by first | rfl | decide) ?_
  refine g_static Xp188 hx hby hZ hown hml rfl (hw _ (List.mem_of_getElem? (i := 29) rfl)) (hw _ (List.mem_of_getElem? (i := 30) rfl)) (hw _ (List.mem_of_getElem? (i := 31) rfl)) (hw _ (List.mem_of_getElem? (i := 32) rfl)) (by decide) rfl (rm4 l Z a0 hw o ca un ub (1 : Int32) n0 tk tn K_p188 G_p188 szp188 adp188 cf τp188 Dp188 Tp188.heap Z45 g24 g_tk g_tn ne1 ne2 ne3 E_op188 Fap188 Fbp188 Fcp188 Fdp188 Aap188 Abp188 A_ca ne23 nca1 nca2 hun (by decide) hsp188 hko hip188) pd__Lcom_example_switchbox_switchbox_CostQueue__IIII_Z_844 (argsL := [(.ref o), (.ref ca), (.int un), (.int ub), (.int (1 : Int32))]) (rest := []) rfl rfl rfl at_200 (pc' := 203) rfl (by decide) (Nat.le_of_ble_eq_true rfl) (by decide) (by decide) ?_
  intro Tp200 vp200 Lp200 Xp200 qp200
  obtain ⟨K_p200, G_p200, szp200, adp200, rfl, Nqp200, E_op200, Fap200, Fbp200, Fcp200, Fdp200, Aap200, Abp200, Kqp200, hsp200, τp200, Dp200, hip200⟩ := qp200
  replace Xp200 : Stand p l e room_1 s m _ below meth c Tp200 _ 4 138 := Xp200
  replace E_op188 := E_op188.keep Kqp200
  replace A_ca := A_ca.keep Kqp200 (ninS ne23 (ninS nca1 (ninS nca2 nin0)))
  have Z46 : n0 ≤ Tp200.heap.size := Nat.le_trans Z45 Kqp200.1
  have Np200 := Fr.app Np188 Nqp200
  show Go p e below s (Q0 n0) room_1.cells room_1.slots m Tp200 203 #[.val (.int uc), .val (.int uv), .val (.int ub), .val (.int un), .val (.ref ca), .val (.ref o), .val (.int (1 : Int32))] [(.int (1 : Int32))]
  refine g_ifeq Xp200 hx hby at_203 (pt := 215) (pf := 206) (by decide) (by decide) rfl (fun (h203 : (1 : Int32) = (0 : Int32)) => (by exfalso; revert h203; decide)) (fun (h203 : ¬ (1 : Int32) = (0 : Int32)) => ?_)
  refine g_iload Xp200 hx hby at_206 (pc' := 208) rfl rfl ?_
  refine g_ifeq Xp200 hx hby at_208 (pt := 215) (pf := 211) (by decide) (by decide) rfl (fun (h208 : (1 : Int32) = (0 : Int32)) => (by exfalso; revert h208; decide)) (fun (h208 : ¬ (1 : Int32) = (0 : Int32)) => ?_)
  refine g_iconst Xp200 hx hby at_211 (pc' := 212) rfl (n := (1 : Int32)) (by first | rfl | decide) ?_
  refine g_goto Xp200 hx hby at_212 (pc' := 216) (by decide) (by decide) ?_
  refine g_istore Xp200 hx hby at_216 (pc' := 218) rfl (Ls' := #[.val (.int uc), .val (.int uv), .val (.int ub), .val (.int un), .val (.ref ca), .val (.ref o), .val (.int (1 : Int32))]) rfl ?_
  refine g_aload Xp200 hx hby at_218 (pc' := 220) rfl rfl rfl ?_
  refine g_aload Xp200 hx hby at_220 (pc' := 222) rfl rfl rfl ?_
  refine g_iloadN Xp200 hx hby at_222 (pc' := 223) rfl rfl ?_
  refine g_iloadN Xp200 hx hby at_223 (pc' := 224) rfl rfl ?_
  refine g_iconst Xp200 hx hby at_224 (pc' := 225) rfl (n := (2 : Int32)) (by first | rfl | decide) ?_
  refine g_static Xp200 hx hby hZ hown hml rfl (hw _ (List.mem_of_getElem? (i := 29) rfl)) (hw _ (List.mem_of_getElem? (i := 30) rfl)) (hw _ (List.mem_of_getElem? (i := 31) rfl)) (hw _ (List.mem_of_getElem? (i := 32) rfl)) (by decide) rfl (rm4 l Z a0 hw o ca un ub (2 : Int32) n0 tk tn K_p200 G_p200 szp200 adp200 cf τp200 Dp200 Tp200.heap Z46 g24 g_tk g_tn ne1 ne2 ne3 E_op200 Fap200 Fbp200 Fcp200 Fdp200 Aap200 Abp200 A_ca ne23 nca1 nca2 hun (by decide) hsp200 hko hip200) pd__Lcom_example_switchbox_switchbox_CostQueue__IIII_Z_844 (argsL := [(.ref o), (.ref ca), (.int un), (.int ub), (.int (2 : Int32))]) (rest := []) rfl rfl rfl at_225 (pc' := 228) rfl (by decide) (Nat.le_of_ble_eq_true rfl) (by decide) (by decide) ?_
  intro Tp225 vp225 Lp225 Xp225 qp225
  obtain ⟨K_p225, G_p225, szp225, adp225, rfl, Nqp225, E_op225, Fap225, Fbp225, Fcp225, Fdp225, Aap225, Abp225, Kqp225, hsp225, τp225, Dp225, hip225⟩ := qp225
  replace Xp225 : Stand p l e room_1 s m _ below meth c Tp225 _ 4 138 := Xp225
  replace E_op200 := E_op200.keep Kqp225
  replace A_ca := A_ca.keep Kqp225 (ninS ne23 (ninS nca1 (ninS nca2 nin0)))
  have Z47 : n0 ≤ Tp225.heap.size := Nat.le_trans Z46 Kqp225.1
  have Np225 := Fr.app Np200 Nqp225
  show Go p e below s (Q0 n0) room_1.cells room_1.slots m Tp225 228 #[.val (.int uc), .val (.int uv), .val (.int ub), .val (.int un), .val (.ref ca), .val (.ref o), .val (.int (1 : Int32))] [(.int (1 : Int32))]
  refine g_ifeq Xp225 hx hby at_228 (pt := 240) (pf := 231) (by decide) (by decide) rfl (fun (h228 : (1 : Int32) = (0 : Int32)) => (by exfalso; revert h228; decide)) (fun (h228 : ¬ (1 : Int32) = (0 : Int32)) => ?_)
  refine g_iload Xp225 hx hby at_231 (pc' := 233) rfl rfl ?_
  refine g_ifeq Xp225 hx hby at_233 (pt := 240) (pf := 236) (by decide) (by decide) rfl (fun (h233 : (1 : Int32) = (0 : Int32)) => (by exfalso; revert h233; decide)) (fun (h233 : ¬ (1 : Int32) = (0 : Int32)) => ?_)
  refine g_iconst Xp225 hx hby at_236 (pc' := 237) rfl (n := (1 : Int32)) (by first | rfl | decide) ?_
  refine g_goto Xp225 hx hby at_237 (pc' := 241) (by decide) (by decide) ?_
  refine g_istore Xp225 hx hby at_241 (pc' := 243) rfl (Ls' := #[.val (.int uc), .val (.int uv), .val (.int ub), .val (.int un), .val (.ref ca), .val (.ref o), .val (.int (1 : Int32))]) rfl ?_
  refine g_aload Xp225 hx hby at_243 (pc' := 245) rfl rfl rfl ?_
  refine g_aload Xp225 hx hby at_245 (pc' := 247) rfl rfl rfl ?_
  refine g_iloadN Xp225 hx hby at_247 (pc' := 248) rfl rfl ?_
  refine g_iloadN Xp225 hx hby at_248 (pc' := 249) rfl rfl ?_
  refine g_iconst Xp225 hx hby at_249 (pc' := 250) rfl (n := (3 : Int32)) (by first | rfl | decide) ?_
  refine g_static Xp225 hx hby hZ hown hml rfl (hw _ (List.mem_of_getElem? (i := 29) rfl)) (hw _ (List.mem_of_getElem? (i := 30) rfl)) (hw _ (List.mem_of_getElem? (i := 31) rfl)) (hw _ (List.mem_of_getElem? (i := 32) rfl)) (by decide) rfl (rm4 l Z a0 hw o ca un ub (3 : Int32) n0 tk tn K_p225 G_p225 szp225 adp225 cf τp225 Dp225 Tp225.heap Z47 g24 g_tk g_tn ne1 ne2 ne3 E_op225 Fap225 Fbp225 Fcp225 Fdp225 Aap225 Abp225 A_ca ne23 nca1 nca2 hun (by decide) hsp225 hko hip225) pd__Lcom_example_switchbox_switchbox_CostQueue__IIII_Z_844 (argsL := [(.ref o), (.ref ca), (.int un), (.int ub), (.int (3 : Int32))]) (rest := []) rfl rfl rfl at_250 (pc' := 253) rfl (by decide) (Nat.le_of_ble_eq_true rfl) (by decide) (by decide) ?_
  intro Tp250 vp250 Lp250 Xp250 qp250
  obtain ⟨K_p250, G_p250, szp250, adp250, rfl, Nqp250, E_op250, Fap250, Fbp250, Fcp250, Fdp250, Aap250, Abp250, Kqp250, hsp250, τp250, Dp250, hip250⟩ := qp250
  replace Xp250 : Stand p l e room_1 s m _ below meth c Tp250 _ 4 138 := Xp250
  replace E_op225 := E_op225.keep Kqp250
  replace A_ca := A_ca.keep Kqp250 (ninS ne23 (ninS nca1 (ninS nca2 nin0)))
  have Z48 : n0 ≤ Tp250.heap.size := Nat.le_trans Z47 Kqp250.1
  have Np250 := Fr.app Np225 Nqp250
  show Go p e below s (Q0 n0) room_1.cells room_1.slots m Tp250 253 #[.val (.int uc), .val (.int uv), .val (.int ub), .val (.int un), .val (.ref ca), .val (.ref o), .val (.int (1 : Int32))] [(.int (1 : Int32))]
  refine g_ifeq Xp250 hx hby at_253 (pt := 265) (pf := 256) (by decide) (by decide) rfl (fun (h253 : (1 : Int32) = (0 : Int32)) => (by exfalso; revert h253; decide)) (fun (h253 : ¬ (1 : Int32) = (0 : Int32)) => ?_)
  refine g_iload Xp250 hx hby at_256 (pc' := 258) rfl rfl ?_
  refine g_ifeq Xp250 hx hby at_258 (pt := 265) (pf := 261) (by decide) (by decide) rfl (fun (h258 : (1 : Int32) = (0 : Int32)) => (by exfalso; revert h258; decide)) (fun (h258 : ¬ (1 : Int32) = (0 : Int32)) => ?_)
  refine g_iconst Xp250 hx hby at_261 (pc' := 262) rfl (n := (1 : Int32)) (by first | rfl | decide) ?_
  refine g_goto Xp250 hx hby at_262 (pc' := 266) (by decide) (by decide) ?_
  refine g_istore Xp250 hx hby at_266 (pc' := 268) rfl (Ls' := #[.val (.int uc), .val (.int uv), .val (.int ub), .val (.int un), .val (.ref ca), .val (.ref o), .val (.int (1 : Int32))]) rfl ?_
  refine g_aload Xp250 hx hby at_268 (pc' := 270) rfl rfl rfl ?_
  refine g_aload Xp250 hx hby at_270 (pc' := 272) rfl rfl rfl ?_
  refine g_iloadN Xp250 hx hby at_272 (pc' := 273) rfl rfl ?_
  refine g_iloadN Xp250 hx hby at_273 (pc' := 274) rfl rfl ?_
  refine g_iconst Xp250 hx hby at_274 (pc' := 275) rfl (n := (4 : Int32)) (by first | rfl | decide) ?_
  refine g_static Xp250 hx hby hZ hown hml rfl (hw _ (List.mem_of_getElem? (i := 29) rfl)) (hw _ (List.mem_of_getElem? (i := 30) rfl)) (hw _ (List.mem_of_getElem? (i := 31) rfl)) (hw _ (List.mem_of_getElem? (i := 32) rfl)) (by decide) rfl (rm4 l Z a0 hw o ca un ub (4 : Int32) n0 tk tn K_p250 G_p250 szp250 adp250 cf τp250 Dp250 Tp250.heap Z48 g24 g_tk g_tn ne1 ne2 ne3 E_op250 Fap250 Fbp250 Fcp250 Fdp250 Aap250 Abp250 A_ca ne23 nca1 nca2 hun (by decide) hsp250 hko hip250) pd__Lcom_example_switchbox_switchbox_CostQueue__IIII_Z_844 (argsL := [(.ref o), (.ref ca), (.int un), (.int ub), (.int (4 : Int32))]) (rest := []) rfl rfl rfl at_275 (pc' := 278) rfl (by decide) (Nat.le_of_ble_eq_true rfl) (by decide) (by decide) ?_
  intro Tp275 vp275 Lp275 Xp275 qp275
  obtain ⟨K_p275, G_p275, szp275, adp275, rfl, Nqp275, E_op275, Fap275, Fbp275, Fcp275, Fdp275, Aap275, Abp275, Kqp275, hsp275, τp275, Dp275, hip275⟩ := qp275
  replace Xp275 : Stand p l e room_1 s m _ below meth c Tp275 _ 4 138 := Xp275
  replace E_op250 := E_op250.keep Kqp275
  replace A_ca := A_ca.keep Kqp275 (ninS ne23 (ninS nca1 (ninS nca2 nin0)))
  have Z49 : n0 ≤ Tp275.heap.size := Nat.le_trans Z48 Kqp275.1
  have Np275 := Fr.app Np250 Nqp275
  show Go p e below s (Q0 n0) room_1.cells room_1.slots m Tp275 278 #[.val (.int uc), .val (.int uv), .val (.int ub), .val (.int un), .val (.ref ca), .val (.ref o), .val (.int (1 : Int32))] [(.int (1 : Int32))]
  refine g_ifeq Xp275 hx hby at_278 (pt := 290) (pf := 281) (by decide) (by decide) rfl (fun (h278 : (1 : Int32) = (0 : Int32)) => (by exfalso; revert h278; decide)) (fun (h278 : ¬ (1 : Int32) = (0 : Int32)) => ?_)
  refine g_iload Xp275 hx hby at_281 (pc' := 283) rfl rfl ?_
  refine g_ifeq Xp275 hx hby at_283 (pt := 290) (pf := 286) (by decide) (by decide) rfl (fun (h283 : (1 : Int32) = (0 : Int32)) => (by exfalso; revert h283; decide)) (fun (h283 : ¬ (1 : Int32) = (0 : Int32)) => ?_)
  refine g_iconst Xp275 hx hby at_286 (pc' := 287) rfl (n := (1 : Int32)) (by first | rfl | decide) ?_
  refine g_goto Xp275 hx hby at_287 (pc' := 291) (by decide) (by decide) ?_
  refine g_istore Xp275 hx hby at_291 (pc' := 293) rfl (Ls' := #[.val (.int uc), .val (.int uv), .val (.int ub), .val (.int un), .val (.ref ca), .val (.ref o), .val (.int (1 : Int32))]) rfl ?_
  refine g_aload Xp275 hx hby at_293 (pc' := 295) rfl rfl rfl ?_
  refine g_aload Xp275 hx hby at_295 (pc' := 297) rfl rfl rfl ?_
  refine g_iloadN Xp275 hx hby at_297 (pc' := 298) rfl rfl ?_
  refine g_iloadN Xp275 hx hby at_298 (pc' := 299) rfl rfl ?_
  refine g_iconst Xp275 hx hby at_299 (pc' := 300) rfl (n := (5 : Int32)) (by first | rfl | decide) ?_
  refine g_static Xp275 hx hby hZ hown hml rfl (hw _ (List.mem_of_getElem? (i := 29) rfl)) (hw _ (List.mem_of_getElem? (i := 30) rfl)) (hw _ (List.mem_of_getElem? (i := 31) rfl)) (hw _ (List.mem_of_getElem? (i := 32) rfl)) (by decide) rfl (rm4 l Z a0 hw o ca un ub (5 : Int32) n0 tk tn K_p275 G_p275 szp275 adp275 cf τp275 Dp275 Tp275.heap Z49 g24 g_tk g_tn ne1 ne2 ne3 E_op275 Fap275 Fbp275 Fcp275 Fdp275 Aap275 Abp275 A_ca ne23 nca1 nca2 hun (by decide) hsp275 hko hip275) pd__Lcom_example_switchbox_switchbox_CostQueue__IIII_Z_844 (argsL := [(.ref o), (.ref ca), (.int un), (.int ub), (.int (5 : Int32))]) (rest := []) rfl rfl rfl at_300 (pc' := 303) rfl (by decide) (Nat.le_of_ble_eq_true rfl) (by decide) (by decide) ?_
  intro Tp300 vp300 Lp300 Xp300 qp300
  obtain ⟨K_p300, G_p300, szp300, adp300, rfl, Nqp300, E_op300, Fap300, Fbp300, Fcp300, Fdp300, Aap300, Abp300, Kqp300, hsp300, τp300, Dp300, hip300⟩ := qp300
  replace Xp300 : Stand p l e room_1 s m _ below meth c Tp300 _ 4 138 := Xp300
  replace E_op275 := E_op275.keep Kqp300
  replace A_ca := A_ca.keep Kqp300 (ninS ne23 (ninS nca1 (ninS nca2 nin0)))
  have Z50 : n0 ≤ Tp300.heap.size := Nat.le_trans Z49 Kqp300.1
  have Np300 := Fr.app Np275 Nqp300
  show Go p e below s (Q0 n0) room_1.cells room_1.slots m Tp300 303 #[.val (.int uc), .val (.int uv), .val (.int ub), .val (.int un), .val (.ref ca), .val (.ref o), .val (.int (1 : Int32))] [(.int (1 : Int32))]
  refine g_ifeq Xp300 hx hby at_303 (pt := 315) (pf := 306) (by decide) (by decide) rfl (fun (h303 : (1 : Int32) = (0 : Int32)) => (by exfalso; revert h303; decide)) (fun (h303 : ¬ (1 : Int32) = (0 : Int32)) => ?_)
  refine g_iload Xp300 hx hby at_306 (pc' := 308) rfl rfl ?_
  refine g_ifeq Xp300 hx hby at_308 (pt := 315) (pf := 311) (by decide) (by decide) rfl (fun (h308 : (1 : Int32) = (0 : Int32)) => (by exfalso; revert h308; decide)) (fun (h308 : ¬ (1 : Int32) = (0 : Int32)) => ?_)
  refine g_iconst Xp300 hx hby at_311 (pc' := 312) rfl (n := (1 : Int32)) (by first | rfl | decide) ?_
  refine g_goto Xp300 hx hby at_312 (pc' := 316) (by decide) (by decide) ?_
  refine g_istore Xp300 hx hby at_316 (pc' := 318) rfl (Ls' := #[.val (.int uc), .val (.int uv), .val (.int ub), .val (.int un), .val (.ref ca), .val (.ref o), .val (.int (1 : Int32))]) rfl ?_
  refine g_iload Xp300 hx hby at_318 (pc' := 320) rfl rfl ?_
  refine g_ifeq Xp300 hx hby at_320 (pt := 335) (pf := 323) (by decide) (by decide) rfl (fun (h320 : (1 : Int32) = (0 : Int32)) => (by exfalso; revert h320; decide)) (fun (h320 : ¬ (1 : Int32) = (0 : Int32)) => ?_)
  refine g_aload Xp300 hx hby at_323 (pc' := 325) rfl rfl rfl ?_
  refine g_virtual Xp300 hx hby hZ hown hml rfl (hw _ (List.mem_of_getElem? (i := 33) rfl)) (hw _ (List.mem_of_getElem? (i := 34) rfl)) (hw _ (List.mem_of_getElem? (i := 36) rfl)) (hw _ (List.mem_of_getElem? (i := 35) rfl)) (hw _ (List.mem_of_getElem? (i := 4) rfl)) (hw _ (List.mem_of_getElem? (i := 37) rfl)) (by decide) rfl (rm5 l Z a0 hw o _ Tp300.heap Fcp300) pd___Z_171 E_op300 (argsL := []) (rest := []) rfl rfl rfl at_325 (pc' := 328) rfl (by decide) (Nat.le_of_ble_eq_true rfl) (by decide) (by decide) ?_
  intro Tp325 vp325 Lp325 Xp325 qp325
  obtain ⟨⟨rp325, rfl, h_rp325⟩, ep325, rfl⟩ := qp325
  rw [List.append_nil] at Xp325
  replace Xp325 : Stand p l e room_1 s m _ below meth c Tp325 _ 4 138 := Xp325
  show Go p e below s (Q0 n0) room_1.cells room_1.slots m Tp325 328 #[.val (.int uc), .val (.int uv), .val (.int ub), .val (.int un), .val (.ref ca), .val (.ref o), .val (.int (1 : Int32))] [(.int rp325)]
  refine g_ifeq Xp325 hx hby at_328 (pt := 335) (pf := 331) (by decide) (by decide) rfl (fun (h328 : rp325 = (0 : Int32)) => (by exfalso; have qz := hip300.2.2.2.2; have e5 : (5 : Int32).toInt = 5 := rfl; exact (own_bool_zero h_rp325).mp h328 (by omega))) (fun (h328 : ¬ rp325 = (0 : Int32)) => ?_)
  have h328i : ¬ rp325.toInt = 0 := fun q => h328 (Int32.toInt_inj.mp q)
  refine g_iconst Xp325 hx hby at_331 (pc' := 332) rfl (n := (1 : Int32)) (by first | rfl | decide) ?_
  refine g_goto Xp325 hx hby at_332 (pc' := 336) (by decide) (by decide) ?_
  exact g_retZ Xp325 hx hby hlk (Or.inr rfl) hret at_336 (by decide) (by decide) (⟨rfl, Np300⟩)
set_option maxRecDepth 65536 in
set_option maxHeartbeats 40000000 in
theorem comes_1 {Post : Tables → Env → Array Value → State → Outcome → State → Prop} (hpost : ∀ tb e args s v u, (limb_1_1.after args s (.returned v) u = true ∧ limb_1_2.after args s (.returned v) u = true ∧ True) → FrameEnd s (.returned v) u (Jvm.fieldLocs frame_1_writes args s ++ Jvm.arrayLocs frame_1_arrays args s ++ Jvm.staticLocs frame_1_statics s) 16 384 → Post tb e args s (.returned v) u) :
    ArmFor flags0 classFile x code maxLocals ret World_1 tables_1 room_1 Calls_1 rest_1 Pre_1 Post := by
  intro l hfl _ _ p e ha hc hk s m args below hf hA hF happ hP
  obtain ⟨hcalls, hrest, hpre⟩ := hP
  obtain ⟨-, -, -, hnamed, -, -, -, hat⟩ := (Spec.applies_iff hf).mp happ
  obtain ⟨hg, hn⟩ := and_e (Cond.before_iff.mp (show (Jvm.Cond.and given_1 narrow_1).before args s = true from hpre))
  obtain ⟨g1, g2⟩ := and_e hg
  obtain ⟨g3, g4⟩ := and_e g2
  obtain ⟨g5, g6⟩ := and_e g4
  obtain ⟨w0, w1, w2, rfl⟩ : ∃ w0 w1 w2 : Value, args = #[w0, w1, w2] := by
    have hs : args.size = 3 := by simpa [Cond.value, given_1] using g1
    obtain ⟨L⟩ := args
    match L, hs with
    | [w0, w1, w2], _ => exact ⟨w0, w1, w2, rfl⟩
  have hw := fun d (hd : d ∈ tables_1) => atoms_spec (ws := Jvm.Cond.code x code maxLocals ret :: tables_1) hat d (List.mem_cons_of_mem _ hd)
  have hfit : Fit s := fun {y c} hc i hi => by
    obtain ⟨ha, rfl⟩ := Array.getElem?_eq_some_iff.mp hc
    have q := List.all_eq_true.mp ((Array.all_eq_true_iff_forall_mem.mp hF) _ (Array.getElem_mem ha)) i (List.mem_range.mpr hi)
    simpa [Array.getElem?_eq_getElem hi] using q
  obtain ⟨i0, ei0⟩ := is_v g3
  obtain rfl : w0 = (.int i0) := Option.some.inj ei0
  obtain ⟨i1, ei1⟩ := is_v g5
  obtain rfl : w1 = (.int i1) := Option.some.inj ei1
  obtain ⟨i2, ei2⟩ := is_v g6
  obtain rfl : w2 = (.int i2) := Option.some.inj ei2
  obtain ⟨n, o, h1, h2, h3, _, L, rfl, ⟨rfl, N⟩, hq⟩ := law0 l s _ hw tables_1 i0 i1 i2 s.heap.size s.heap (Nat.le_refl _) p e ha hc hk s m _ below hf ((Spec.applies_iff_loose hf).mp happ).1 ⟨rfl, State.Warmed39.refl s, rfl⟩ trivial
  refine ⟨n, _, h1, h2, h3, hpost _ _ _ _ _ _ ⟨Cond.after_iff.mpr rfl, Cond.after_iff.mpr (eq_i res_at (Term.int_eval (1)) rfl), trivial⟩ ⟨hq.1, hq.2.1, (hq.2.2.sift fun y hy => Or.inr (N y hy)).mono (by decide) (by decide)⟩⟩
theorem main_1_1 : Claimed_1_1 := comes_1 fun _ _ _ _ _ _ h hF => ⟨h.1, hF⟩
theorem main_1_2 : Claimed_1_2 := comes_1 fun _ _ _ _ _ _ h hF => ⟨h.2.1, hF⟩
end Jvm.Pilot.@@N@@
namespace Jvm.Pilot.@@N@@
open Jvm Jvm.ClassFile Sem Op Lib Jvm.Free Jvm.Stand Jvm.Pilot.@@N@@.Jvm.D
/-! MADE BY PROGRAM (witnessworld.py) out of the Statement's table words and the real class files: 16 classes; the members and pool entries that the words name. The judged class is class 1, her method 1. -/
namespace start1
open Jvm.ClassFile
def u (s : String) : CpInfo := .utf8 (stringToUtf16 s)
/-- a pool by its gaps: so many unusable entries, then the entry; so many at the end -/
def gap : Nat → List CpInfo → List CpInfo
  | 0, r => r
  | n + 1, r => .unusable :: gap n r
def poolList (es : List (Nat × CpInfo)) (last : Nat) : List CpInfo := es.foldr (fun e r => gap e.1 (e.2 :: r)) (gap last [])
def pool (es : List (Nat × CpInfo)) (last : Nat) : Array CpInfo := ⟨poolList es last⟩
def fileOf (pool : Array CpInfo) (this : Nat) (attrs : Array Attribute := #[]) (ms : Array MethodInfo := #[]) (fl : Nat := 33) (sup : Nat := 0) (ifs : Array Nat := #[]) (fds : Array FieldInfo := #[]) : ClassFile where
  minorVersion := 0
  majorVersion := 65
  constantPool := pool
  accessFlags := fl
  thisClass := this
  superClass := sup
  interfaces := ifs
  fields := fds
  methods := ms
  attributes := attrs
def plain (name : String) (sup : Option ClassId) : Class where
  name := name
  kind := .ordinary
  loader := none
  accessFlags := 33
  super := sup
  interfaces := #[]
  cf := none
  fields := #[]
  methods := #[]
  instanceTypes := #[]
  staticTypes := #[]
  resolved := #[]
  callSites := []
  init := .initialized
  statics := none
  mirror := none

def pool0 : Array CpInfo := pool [(5, u "<init>"), (0, u "()V"), (1, .class_ 10), (1, u "java/lang/Object")] 113

def k0c0 : Code := { maxStack := 0, maxLocals := 1, code := object_method_1_code, exceptionTable := #[], attributes := #[] }
def k0m0 : Method := { name := "<init>", desc := "()V", sig := { parameters := [], returnType := none }, accessFlags := 1, code := some k0c0 }
/-- java/lang/Object -/
def k0 : Class := { plain "java/lang/Object" none with
  accessFlags := 33
  interfaces := #[]
  cf := some (fileOf pool0 8 #[] #[{ accessFlags := 1, nameIndex := 5, descriptorIndex := 6, attributes := #[] }] 33 0 #[] #[])
  fields := #[]
  methods := #[k0m0]
  instanceTypes := #[]
  staticTypes := #[]
  resolved := Array.replicate 124 none
  statics := none }

def pool1 : Array CpInfo := pool [(2, .class_ 4), (0, .nameAndType 5 6), (0, u "java/lang/Object"), (0, u "<init>"), (0, u "()V"), (0, .integer 2147483647), (0, .class_ 9), (0, u "com/example/switchbox/switchbox/CostQueue"), (0, .methodref 8 3), (0, .methodref 8 12), (0, .nameAndType 13 14), (0, u "add"), (0, u "(ID)V"), (0, .methodref 16 17), (0, .class_ 18), (0, .nameAndType 19 20), (0, u "com/example/switchbox/switchbox/CostQueueRemovePinLaw"), (0, u "step"), (0, u "(Lcom/example/switchbox/switchbox/CostQueue;[IIII)Z"), (0, .methodref 8 22), (0, .nameAndType 23 24), (0, u "isEmpty"), (0, u "()Z"), (0, .methodref 8 26), (0, .nameAndType 27 28), (0, u "net"), (0, u "()I"), (0, .methodref 16 30), (0, .nameAndType 31 32), (0, u "rank"), (0, u "([III)I"), (0, .methodref 8 34), (0, .nameAndType 35 6), (0, u "remove"), (0, .methodref 16 37), (0, .nameAndType 38 39), (0, u "before"), (0, u "([IIII)I"), (2, u "law"), (0, u "(III)Z")] 5

def k1m0 : Method := { name := "<init>", desc := "()V", sig := { parameters := [], returnType := none }, accessFlags := 1, code := none }
def k1c1 : Code := { maxStack := 5, maxLocals := 7, code := code, exceptionTable := #[], attributes := #[] }
def k1m1 : Method := { name := "law", desc := "(III)Z", sig := { parameters := [.int, .int, .int], returnType := some .boolean }, accessFlags := 9, code := some k1c1 }
def k1c2 : Code := { maxStack := 4, maxLocals := 6, code := method_3_code, exceptionTable := #[], attributes := #[] }
def k1m2 : Method := { name := "step", desc := "(Lcom/example/switchbox/switchbox/CostQueue;[IIII)Z", sig := { parameters := [(.object "com/example/switchbox/switchbox/CostQueue"), (.array .int), .int, .int, .int], returnType := some .boolean }, accessFlags := 10, code := some k1c2 }
def k1c3 : Code := { maxStack := 5, maxLocals := 3, code := method_4_code, exceptionTable := #[], attributes := #[] }
def k1m3 : Method := { name := "rank", desc := "([III)I", sig := { parameters := [(.array .int), .int, .int], returnType := some .int }, accessFlags := 10, code := some k1c3 }
def k1c4 : Code := { maxStack := 3, maxLocals := 4, code := method_5_code, exceptionTable := #[], attributes := #[] }
def k1m4 : Method := { name := "before", desc := "([IIII)I", sig := { parameters := [(.array .int), .int, .int, .int], returnType := some .int }, accessFlags := 10, code := some k1c4 }
/-- com/example/switchbox/switchbox/CostQueueRemovePinLaw -/
def k1 : Class := { plain "com/example/switchbox/switchbox/CostQueueRemovePinLaw" (some 0) with
  accessFlags := 49
  interfaces := #[]
  cf := some (fileOf pool1 16 #[] #[{ accessFlags := 1, nameIndex := 5, descriptorIndex := 6, attributes := #[] }, { accessFlags := 9, nameIndex := 42, descriptorIndex := 43, attributes := #[] }, { accessFlags := 10, nameIndex := 19, descriptorIndex := 20, attributes := #[] }, { accessFlags := 10, nameIndex := 31, descriptorIndex := 32, attributes := #[] }, { accessFlags := 10, nameIndex := 38, descriptorIndex := 39, attributes := #[] }] 49 2 #[] #[])
  fields := #[]
  methods := #[k1m0, k1m1, k1m2, k1m3, k1m4]
  instanceTypes := #[]
  staticTypes := #[]
  resolved := Array.replicate 49 none
  statics := none }

def pool2 : Array CpInfo := pool [(1, .methodref 2 3), (0, .class_ 4), (0, .nameAndType 5 6), (0, u "java/lang/Object"), (0, u "<init>"), (0, u "()V"), (0, .fieldref 8 9), (0, .class_ 10), (0, .nameAndType 11 12), (0, u "com/example/switchbox/switchbox/CostQueue"), (0, u "keys"), (0, u "[J"), (0, .fieldref 8 14), (0, .nameAndType 15 16), (0, u "nets"), (0, u "[I"), (0, .fieldref 8 18), (0, .nameAndType 19 20), (0, u "size"), (0, u "I"), (0, .fieldref 8 22), (0, .nameAndType 23 20), (0, u "added"), (9, .methodref 34 35), (0, .class_ 36), (0, .nameAndType 37 38), (0, u "java/lang/Float"), (0, u "floatToRawIntBits"), (0, u "(F)I"), (5, u "isEmpty"), (0, u "()Z"), (1, u "add"), (0, u "(ID)V"), (0, u "net"), (0, u "()I"), (0, u "remove")] 2

def k2c0 : Code := { maxStack := 2, maxLocals := 1, code := prog_10_method_1_code, exceptionTable := #[], attributes := #[] }
def k2m0 : Method := { name := "<init>", desc := "()V", sig := { parameters := [], returnType := none }, accessFlags := 0, code := some k2c0 }
def k2c1 : Code := { maxStack := 1, maxLocals := 1, code := prog_10_method_3_code, exceptionTable := #[], attributes := #[] }
def k2m1 : Method := { name := "isEmpty", desc := "()Z", sig := { parameters := [], returnType := some .boolean }, accessFlags := 0, code := some k2c1 }
def k2c2 : Code := { maxStack := 6, maxLocals := 8, code := prog_10_method_4_code, exceptionTable := #[], attributes := #[] }
def k2m2 : Method := { name := "add", desc := "(ID)V", sig := { parameters := [.int, .double], returnType := none }, accessFlags := 0, code := some k2c2 }
def k2c3 : Code := { maxStack := 2, maxLocals := 1, code := prog_10_method_5_code, exceptionTable := #[], attributes := #[] }
def k2m3 : Method := { name := "net", desc := "()I", sig := { parameters := [], returnType := some .int }, accessFlags := 0, code := some k2c3 }
def k2c4 : Code := { maxStack := 4, maxLocals := 6, code := prog_10_method_6_code, exceptionTable := #[], attributes := #[] }
def k2m4 : Method := { name := "remove", desc := "()V", sig := { parameters := [], returnType := none }, accessFlags := 0, code := some k2c4 }
/-- com/example/switchbox/switchbox/CostQueue -/
def k2 : Class := { plain "com/example/switchbox/switchbox/CostQueue" (some 0) with
  accessFlags := 48
  interfaces := #[]
  cf := some (fileOf pool2 8 #[] #[{ accessFlags := 0, nameIndex := 5, descriptorIndex := 6, attributes := #[] }, { accessFlags := 0, nameIndex := 44, descriptorIndex := 45, attributes := #[] }, { accessFlags := 0, nameIndex := 47, descriptorIndex := 48, attributes := #[] }, { accessFlags := 0, nameIndex := 49, descriptorIndex := 50, attributes := #[] }, { accessFlags := 0, nameIndex := 51, descriptorIndex := 6, attributes := #[] }] 48 2 #[] #[{ accessFlags := 2, nameIndex := 11, descriptorIndex := 12, attributes := #[] }, { accessFlags := 2, nameIndex := 15, descriptorIndex := 16, attributes := #[] }, { accessFlags := 2, nameIndex := 19, descriptorIndex := 20, attributes := #[] }, { accessFlags := 2, nameIndex := 23, descriptorIndex := 20, attributes := #[] }])
  fields := #[{ name := "keys", type := (.array .long), accessFlags := 2, slot := 0, constantValue := 0 }, { name := "nets", type := (.array .int), accessFlags := 2, slot := 1, constantValue := 0 }, { name := "size", type := .int, accessFlags := 2, slot := 2, constantValue := 0 }, { name := "added", type := .int, accessFlags := 2, slot := 3, constantValue := 0 }]
  methods := #[k2m0, k2m1, k2m2, k2m3, k2m4]
  instanceTypes := #[(.array .long), (.array .int), .int, .int]
  staticTypes := #[]
  resolved := Array.replicate 54 none
  statics := none }

def pool3 : Array CpInfo := pool [(1, .class_ 2), (0, u "java/io/Serializable"), (0, .class_ 4), (0, u "java/lang/Object")] 2

/-- java/io/Serializable -/
def k3 : Class := { plain "java/io/Serializable" (some 0) with
  accessFlags := 1537
  interfaces := #[]
  cf := some (fileOf pool3 1 #[] #[] 1537 3 #[] #[])
  fields := #[]
  methods := #[]
  instanceTypes := #[]
  staticTypes := #[]
  resolved := Array.replicate 7 none
  statics := none }

def pool4 : Array CpInfo := pool [(2, .class_ 4), (1, u "java/lang/Object"), (0, u "<init>"), (0, u "()V"), (1, .class_ 10), (1, u "java/lang/Number"), (2, .class_ 14), (0, u "java/io/Serializable"), (0, u "serialVersionUID"), (0, u "J")] 20

def k4m0 : Method := { name := "<init>", desc := "()V", sig := { parameters := [], returnType := none }, accessFlags := 1, code := none }
/-- java/lang/Number -/
def k4 : Class := { plain "java/lang/Number" (some 0) with
  accessFlags := 1057
  interfaces := #[3]
  cf := some (fileOf pool4 8 #[] #[{ accessFlags := 1, nameIndex := 5, descriptorIndex := 6, attributes := #[] }] 1057 2 #[13] #[{ accessFlags := 26, nameIndex := 15, descriptorIndex := 16, attributes := #[] }])
  fields := #[{ name := "serialVersionUID", type := .long, accessFlags := 26, slot := 0, constantValue := 0 }]
  methods := #[k4m0]
  instanceTypes := #[]
  staticTypes := #[.long]
  resolved := Array.replicate 37 none
  statics := none }

def pool5 : Array CpInfo := pool [(1, .class_ 2), (0, u "java/lang/Comparable"), (0, .class_ 4), (0, u "java/lang/Object")] 7

/-- java/lang/Comparable -/
def k5 : Class := { plain "java/lang/Comparable" (some 0) with
  accessFlags := 1537
  interfaces := #[]
  cf := some (fileOf pool5 1 #[] #[] 1537 3 #[] #[])
  fields := #[]
  methods := #[]
  instanceTypes := #[]
  staticTypes := #[]
  resolved := Array.replicate 12 none
  statics := none }

def pool6 : Array CpInfo := pool [(1, .class_ 2), (0, u "java/lang/constant/Constable"), (0, .class_ 4), (0, u "java/lang/Object")] 6

/-- java/lang/constant/Constable -/
def k6 : Class := { plain "java/lang/constant/Constable" (some 0) with
  accessFlags := 1537
  interfaces := #[]
  cf := some (fileOf pool6 1 #[] #[] 1537 3 #[] #[])
  fields := #[]
  methods := #[]
  instanceTypes := #[]
  staticTypes := #[]
  resolved := Array.replicate 11 none
  statics := none }

def pool7 : Array CpInfo := pool [(1, .class_ 2), (0, u "java/lang/constant/ConstantDesc"), (0, .class_ 4), (0, u "java/lang/Object")] 32

/-- java/lang/constant/ConstantDesc -/
def k7 : Class := { plain "java/lang/constant/ConstantDesc" (some 0) with
  accessFlags := 1537
  interfaces := #[]
  cf := some (fileOf pool7 1 #[] #[] 1537 3 #[] #[])
  fields := #[]
  methods := #[]
  instanceTypes := #[]
  staticTypes := #[]
  resolved := Array.replicate 37 none
  statics := none }

def pool8 : Array CpInfo := pool [(1, .class_ 2), (0, u "java/lang/Float"), (48, .class_ 53), (1, u "java/lang/Number"), (3, u "value"), (0, u "F"), (11, u "(F)I"), (5, u "floatToRawIntBits"), (14, u "$assertionsDisabled"), (0, u "Z"), (52, u "TYPE"), (0, u "Ljava/lang/Class;"), (0, .class_ 148), (0, u "java/lang/Comparable"), (0, .class_ 150), (0, u "java/lang/constant/Constable"), (0, .class_ 152), (0, u "java/lang/constant/ConstantDesc"), (0, u "POSITIVE_INFINITY"), (1, u "NEGATIVE_INFINITY"), (1, u "NaN"), (1, u "MAX_VALUE"), (0, u "MIN_NORMAL"), (0, u "MIN_VALUE"), (1, u "SIZE"), (0, u "I"), (1, u "PRECISION"), (1, u "MAX_EXPONENT"), (1, u "MIN_EXPONENT"), (1, u "BYTES"), (3, u "serialVersionUID"), (0, u "J")] 101

def k8m0 : Method := { name := "floatToRawIntBits", desc := "(F)I", sig := { parameters := [.float], returnType := some .int }, accessFlags := 265, code := none }
/-- java/lang/Float -/
def k8 : Class := { plain "java/lang/Float" (some 4) with
  accessFlags := 49
  interfaces := #[5, 6, 7]
  cf := some (fileOf pool8 1 #[] #[{ accessFlags := 265, nameIndex := 76, descriptorIndex := 70, attributes := #[] }] 49 51 #[147, 149, 151] #[{ accessFlags := 25, nameIndex := 153, descriptorIndex := 58, attributes := #[] }, { accessFlags := 25, nameIndex := 155, descriptorIndex := 58, attributes := #[] }, { accessFlags := 25, nameIndex := 157, descriptorIndex := 58, attributes := #[] }, { accessFlags := 25, nameIndex := 159, descriptorIndex := 58, attributes := #[] }, { accessFlags := 25, nameIndex := 160, descriptorIndex := 58, attributes := #[] }, { accessFlags := 25, nameIndex := 161, descriptorIndex := 58, attributes := #[] }, { accessFlags := 25, nameIndex := 163, descriptorIndex := 164, attributes := #[] }, { accessFlags := 25, nameIndex := 166, descriptorIndex := 164, attributes := #[] }, { accessFlags := 25, nameIndex := 168, descriptorIndex := 164, attributes := #[] }, { accessFlags := 25, nameIndex := 170, descriptorIndex := 164, attributes := #[] }, { accessFlags := 25, nameIndex := 172, descriptorIndex := 164, attributes := #[] }, { accessFlags := 25, nameIndex := 145, descriptorIndex := 146, attributes := #[] }, { accessFlags := 18, nameIndex := 57, descriptorIndex := 58, attributes := #[] }, { accessFlags := 26, nameIndex := 176, descriptorIndex := 177, attributes := #[] }, { accessFlags := 4120, nameIndex := 91, descriptorIndex := 92, attributes := #[] }])
  fields := #[{ name := "POSITIVE_INFINITY", type := .float, accessFlags := 25, slot := 0, constantValue := 0 }, { name := "NEGATIVE_INFINITY", type := .float, accessFlags := 25, slot := 1, constantValue := 0 }, { name := "NaN", type := .float, accessFlags := 25, slot := 2, constantValue := 0 }, { name := "MAX_VALUE", type := .float, accessFlags := 25, slot := 3, constantValue := 0 }, { name := "MIN_NORMAL", type := .float, accessFlags := 25, slot := 4, constantValue := 0 }, { name := "MIN_VALUE", type := .float, accessFlags := 25, slot := 5, constantValue := 0 }, { name := "SIZE", type := .int, accessFlags := 25, slot := 6, constantValue := 0 }, { name := "PRECISION", type := .int, accessFlags := 25, slot := 7, constantValue := 0 }, { name := "MAX_EXPONENT", type := .int, accessFlags := 25, slot := 8, constantValue := 0 }, { name := "MIN_EXPONENT", type := .int, accessFlags := 25, slot := 9, constantValue := 0 }, { name := "BYTES", type := .int, accessFlags := 25, slot := 10, constantValue := 0 }, { name := "TYPE", type := (.object "java/lang/Class"), accessFlags := 25, slot := 11, constantValue := 0 }, { name := "value", type := .float, accessFlags := 18, slot := 0, constantValue := 0 }, { name := "serialVersionUID", type := .long, accessFlags := 26, slot := 12, constantValue := 0 }, { name := "$assertionsDisabled", type := .boolean, accessFlags := 4120, slot := 13, constantValue := 0 }]
  methods := #[k8m0]
  instanceTypes := #[.float]
  staticTypes := #[.float, .float, .float, .float, .float, .float, .int, .int, .int, .int, .int, (.object "java/lang/Class"), .long, .boolean]
  resolved := Array.replicate 279 none
  statics := none }

def pool9 : Array CpInfo := pool [(1, u "java/lang/Cloneable"), (0, .class_ 1), (0, u "java/lang/Object"), (0, .class_ 3)] 3

/-- java/lang/Cloneable -/
def k9 : Class := { plain "java/lang/Cloneable" (some 0) with
  accessFlags := 1537
  interfaces := #[]
  cf := some (fileOf pool9 2 #[] #[] 1537 4 #[] #[])
  fields := #[]
  methods := #[]
  instanceTypes := #[]
  staticTypes := #[]
  resolved := Array.replicate 8 none
  statics := none }

/-- the primitive byte -/
def k10 : Class := { plain "byte" none with kind := .primitive 'B', accessFlags := 0x411 }
/-- [B -/
def k11 : Class := { plain "[B" (some 0) with kind := .array 10 .byte, interfaces := #[9, 3], accessFlags := 1041 }

/-- the primitive int -/
def k12 : Class := { plain "int" none with kind := .primitive 'I', accessFlags := 0x411 }
/-- [I -/
def k13 : Class := { plain "[I" (some 0) with kind := .array 12 .int, interfaces := #[9, 3], accessFlags := 1041 }

/-- the primitive long -/
def k14 : Class := { plain "long" none with kind := .primitive 'J', accessFlags := 0x411 }
/-- [J -/
def k15 : Class := { plain "[J" (some 0) with kind := .array 14 .long, interfaces := #[9, 3], accessFlags := 1041 }

def heap : Heap := #[]
def classes : Array Class := #[k0, k1, k2, k3, k4, k5, k6, k7, k8, k9, k10, k11, k12, k13, k14, k15]
def interned : List (Array UInt16 × Addr) := []
def slotsUsed : Nat := 0
def theMethod : MethodId := ⟨1, 1⟩
def args0 : Array Value := #[.int 5, .int 777, .int 9]
def aboutOver (below : List Frame) : State where
  vm := { classes := classes, interned := interned.toArray }
  heap := heap
  slotsUsed := slotsUsed
  threads := #[{ frames := .invoking theMethod args0 :: below }]
def below0 : List Frame := [.native { method := ⟨0, 0⟩, args := #[] }]
def about1 : State := aboutOver below0
def p0 : Program := .bare "" "" ""
def e0 : Env := launch0.env 0 0 0
theorem w_frames : about1.frames = Frame.invoking theMethod args0 :: below0 := rfl
set_option maxRecDepth 65536 in
theorem w_args : argsFit about1.vm theMethod args0 = true := by decide +kernel
set_option maxRecDepth 65536 in
theorem w_heap : heapFits about1 = true := by decide +kernel
set_option maxRecDepth 65536 in
theorem w_runnable : about1.curStatus? = some .runnable := by decide +kernel
set_option maxRecDepth 65536 in
theorem w_alone : about1.alone = true := by decide +kernel
set_option maxRecDepth 65536 in
theorem w_named : about1.methodNamed? x = some theMethod := by decide +kernel
set_option maxRecDepth 65536 in
theorem w_hears : about1.hears theMethod below0 = true := by decide +kernel
set_option maxRecDepth 65536 in
theorem w_ripe : about1.ripe theMethod args0 below0 = true := by decide +kernel
theorem w_running : about1.status = .running := rfl
set_option maxRecDepth 65536 in
theorem w_room : about1.hasRoom e0.platform room_1 = true :=
  launch0.hasRoom_least _ room_1 (by decide +kernel) (by decide +kernel) (by decide +kernel) (by decide +kernel) (by decide +kernel) (by decide +kernel)
theorem allAtoms_all (ts : List Jvm.Cond) (a : Array Jvm.Value) (st : Jvm.State) : (allAtoms ts).before a st = ts.all (fun c => c.before a st) := by
  induction ts with
  | nil => rfl
  | cons c t ih =>
    show (Jvm.Cond.and c (allAtoms t)).before a st = _
    rw [Jvm.Cond.before_and, ih, List.all_cons]
def words1 : List Jvm.Cond := Jvm.Cond.code x code maxLocals ret :: tables_1
/-- a 'code' word, met by the world's own term for the bytes: nothing is compared byte by byte -/
theorem code_word {y : MethodName} {bytes : ByteArray} {mx : Nat} {rt : Option FieldType} {a : Array Value} {s : State} {m : MethodId} {meth : Method} {c : Code} (h1 : s.methodNamed? y = some m) (h2 : s.vm.method? m = some meth) (h3 : meth.code = some c) (h4 : c.code = bytes)
    (h5 : (c.maxLocals == mx && c.exceptionTable.isEmpty && decide (c.maxStack ≤ mostOperands) && decide (meth.sig.returnType = rt) && !meth.locks && decide (parseMethodDescriptor y.desc = some meth.sig)) = true) : (Jvm.Cond.code y bytes mx rt).before a s = true := by
  simp only [Bool.and_eq_true, beq_iff_eq, Bool.not_eq_true', decide_eq_true_eq] at h5
  obtain ⟨⟨⟨⟨⟨g1, g2⟩, g3⟩, g4⟩, g5⟩, g6⟩ := h5
  simp [Cond.before, Cond.holds, Cond.value, h1, h2, h3, h4, g1, g2, g3, g4, g5, g6]
def isCode : Jvm.Cond → Bool
  | .code _ _ _ _ => true
  | _ => false
theorem all_split {L : List Jvm.Cond} {P : Jvm.Cond → Bool} (h1 : L.all (fun c => isCode c || P c) = true) (h2 : ∀ c ∈ L.filter isCode, P c = true) : L.all P = true := by
  refine List.all_eq_true.mpr fun c hc => ?_
  have h := List.all_eq_true.mp h1 c hc
  rcases Bool.eq_false_or_eq_true (isCode c) with hi | hi
  · exact h2 c (List.mem_filter.mpr ⟨hc, hi⟩)
  · simpa [hi] using h
set_option maxRecDepth 65536 in
theorem w_c0 : (Jvm.Cond.code x code maxLocals ret).before args0 about1 = true := code_word (m := ⟨1, 1⟩) (meth := k1m1) (c := k1c1) (by decide +kernel) rfl rfl rfl (by decide +kernel)
set_option maxRecDepth 65536 in
theorem w_c1 : (Jvm.Cond.code ({ cls := "com/example/switchbox/switchbox/CostQueue", name := "<init>", desc := "()V" } : Jvm.MethodName) prog_10_method_1_code (1 : Nat) (Option.none : Option Jvm.ClassFile.FieldType)).before args0 about1 = true := code_word (m := ⟨2, 0⟩) (meth := k2m0) (c := k2c0) (by decide +kernel) rfl rfl rfl (by decide +kernel)
set_option maxRecDepth 65536 in
theorem w_c2 : (Jvm.Cond.code ({ cls := "java/lang/Object", name := "<init>", desc := "()V" } : Jvm.MethodName) object_method_1_code (1 : Nat) (Option.none : Option Jvm.ClassFile.FieldType)).before args0 about1 = true := code_word (m := ⟨0, 0⟩) (meth := k0m0) (c := k0c0) (by decide +kernel) rfl rfl rfl (by decide +kernel)
set_option maxRecDepth 65536 in
theorem w_c3 : (Jvm.Cond.code ({ cls := "com/example/switchbox/switchbox/CostQueue", name := "add", desc := "(ID)V" } : Jvm.MethodName) prog_10_method_4_code (8 : Nat) (Option.none : Option Jvm.ClassFile.FieldType)).before args0 about1 = true := code_word (m := ⟨2, 2⟩) (meth := k2m2) (c := k2c2) (by decide +kernel) rfl rfl rfl (by decide +kernel)
set_option maxRecDepth 65536 in
theorem w_c4 : (Jvm.Cond.code ({ cls := "com/example/switchbox/switchbox/CostQueueRemovePinLaw", name := "step", desc := "(Lcom/example/switchbox/switchbox/CostQueue;[IIII)Z" } : Jvm.MethodName) method_3_code (6 : Nat) (Option.some Jvm.ClassFile.FieldType.boolean)).before args0 about1 = true := code_word (m := ⟨1, 2⟩) (meth := k1m2) (c := k1c2) (by decide +kernel) rfl rfl rfl (by decide +kernel)
set_option maxRecDepth 65536 in
theorem w_c5 : (Jvm.Cond.code ({ cls := "com/example/switchbox/switchbox/CostQueue", name := "isEmpty", desc := "()Z" } : Jvm.MethodName) prog_10_method_3_code (1 : Nat) (Option.some Jvm.ClassFile.FieldType.boolean)).before args0 about1 = true := code_word (m := ⟨2, 1⟩) (meth := k2m1) (c := k2c1) (by decide +kernel) rfl rfl rfl (by decide +kernel)
set_option maxRecDepth 65536 in
theorem w_c6 : (Jvm.Cond.code ({ cls := "com/example/switchbox/switchbox/CostQueue", name := "net", desc := "()I" } : Jvm.MethodName) prog_10_method_5_code (1 : Nat) (Option.some Jvm.ClassFile.FieldType.int)).before args0 about1 = true := code_word (m := ⟨2, 3⟩) (meth := k2m3) (c := k2c3) (by decide +kernel) rfl rfl rfl (by decide +kernel)
set_option maxRecDepth 65536 in
theorem w_c7 : (Jvm.Cond.code ({ cls := "com/example/switchbox/switchbox/CostQueueRemovePinLaw", name := "rank", desc := "([III)I" } : Jvm.MethodName) method_4_code (3 : Nat) (Option.some Jvm.ClassFile.FieldType.int)).before args0 about1 = true := code_word (m := ⟨1, 3⟩) (meth := k1m3) (c := k1c3) (by decide +kernel) rfl rfl rfl (by decide +kernel)
set_option maxRecDepth 65536 in
theorem w_c8 : (Jvm.Cond.code ({ cls := "com/example/switchbox/switchbox/CostQueueRemovePinLaw", name := "before", desc := "([IIII)I" } : Jvm.MethodName) method_5_code (4 : Nat) (Option.some Jvm.ClassFile.FieldType.int)).before args0 about1 = true := code_word (m := ⟨1, 4⟩) (meth := k1m4) (c := k1c4) (by decide +kernel) rfl rfl rfl (by decide +kernel)
set_option maxRecDepth 65536 in
theorem w_c9 : (Jvm.Cond.code ({ cls := "com/example/switchbox/switchbox/CostQueue", name := "remove", desc := "()V" } : Jvm.MethodName) prog_10_method_6_code (6 : Nat) (Option.none : Option Jvm.ClassFile.FieldType)).before args0 about1 = true := code_word (m := ⟨2, 4⟩) (meth := k2m4) (c := k2c4) (by decide +kernel) rfl rfl rfl (by decide +kernel)
def codes1 : List Jvm.Cond := [Jvm.Cond.code x code maxLocals ret, Jvm.Cond.code ({ cls := "com/example/switchbox/switchbox/CostQueue", name := "<init>", desc := "()V" } : Jvm.MethodName) prog_10_method_1_code (1 : Nat) (Option.none : Option Jvm.ClassFile.FieldType), Jvm.Cond.code ({ cls := "java/lang/Object", name := "<init>", desc := "()V" } : Jvm.MethodName) object_method_1_code (1 : Nat) (Option.none : Option Jvm.ClassFile.FieldType), Jvm.Cond.code ({ cls := "com/example/switchbox/switchbox/CostQueue", name := "add", desc := "(ID)V" } : Jvm.MethodName) prog_10_method_4_code (8 : Nat) (Option.none : Option Jvm.ClassFile.FieldType), Jvm.Cond.code ({ cls := "com/example/switchbox/switchbox/CostQueueRemovePinLaw", name := "step", desc := "(Lcom/example/switchbox/switchbox/CostQueue;[IIII)Z" } : Jvm.MethodName) method_3_code (6 : Nat) (Option.some Jvm.ClassFile.FieldType.boolean), Jvm.Cond.code ({ cls := "com/example/switchbox/switchbox/CostQueue", name := "isEmpty", desc := "()Z" } : Jvm.MethodName) prog_10_method_3_code (1 : Nat) (Option.some Jvm.ClassFile.FieldType.boolean), Jvm.Cond.code ({ cls := "com/example/switchbox/switchbox/CostQueue", name := "net", desc := "()I" } : Jvm.MethodName) prog_10_method_5_code (1 : Nat) (Option.some Jvm.ClassFile.FieldType.int), Jvm.Cond.code ({ cls := "com/example/switchbox/switchbox/CostQueueRemovePinLaw", name := "rank", desc := "([III)I" } : Jvm.MethodName) method_4_code (3 : Nat) (Option.some Jvm.ClassFile.FieldType.int), Jvm.Cond.code ({ cls := "com/example/switchbox/switchbox/CostQueueRemovePinLaw", name := "before", desc := "([IIII)I" } : Jvm.MethodName) method_5_code (4 : Nat) (Option.some Jvm.ClassFile.FieldType.int), Jvm.Cond.code ({ cls := "com/example/switchbox/switchbox/CostQueue", name := "remove", desc := "()V" } : Jvm.MethodName) prog_10_method_6_code (6 : Nat) (Option.none : Option Jvm.ClassFile.FieldType)]
set_option maxRecDepth 65536 in
theorem codes_eq : words1.filter isCode = codes1 := rfl
theorem w_codes : ∀ c ∈ words1.filter isCode, c.before args0 about1 = true := by
  rw [codes_eq]
  intro c hc
  simp only [codes1, List.mem_cons, List.not_mem_nil, or_false] at hc
  rcases hc with rfl | rfl | rfl | rfl | rfl | rfl | rfl | rfl | rfl | rfl
  · exact w_c0
  · exact w_c1
  · exact w_c2
  · exact w_c3
  · exact w_c4
  · exact w_c5
  · exact w_c6
  · exact w_c7
  · exact w_c8
  · exact w_c9
set_option maxRecDepth 65536 in
theorem w_t1 : (words1.take 24).all (fun c => isCode c || c.before args0 about1) = true := by decide +kernel
set_option maxRecDepth 65536 in
theorem w_t2 : ((words1.drop 24).take 24).all (fun c => isCode c || c.before args0 about1) = true := by decide +kernel
set_option maxRecDepth 65536 in
theorem w_t3 : ((words1.drop 24).drop 24).all (fun c => isCode c || c.before args0 about1) = true := by decide +kernel
theorem w_tables : (allAtoms (Jvm.Cond.code x code maxLocals ret :: tables_1)).before args0 about1 = true := by
  rw [allAtoms_all]
  show words1.all (fun c => c.before args0 about1) = true
  refine all_split ?_ w_codes
  rw [← List.take_append_drop 24 words1, List.all_append, w_t1, ← List.take_append_drop 24 (words1.drop 24), List.all_append, w_t2, w_t3]
  rfl
set_option maxRecDepth 65536 in
theorem w_case : (Jvm.Cond.and given_1 narrow_1).before args0 about1 = true := by decide +kernel
theorem w_applies : (headSpec (Jvm.Cond.code x code maxLocals ret :: tables_1) room_1).applies x e0.platform about1 = true :=
  (Spec.applies_iff w_frames).mpr ⟨w_running, w_runnable, w_alone, w_named, w_hears, w_ripe, w_room, w_tables⟩
theorem atStart : AtStart classFile x code maxLocals ret World_1 tables_1 room_1 Calls_1 rest_1 Pre_1 launch0 p0 e0 about1 theMethod args0 below0 :=
  ⟨lists_1, trivial, launch0.admits_env _ _ _, launch0.least_env, fairChoices_fair.cas, fairChoices_fair.clock, w_frames, w_args, w_heap, w_applies, trivial, trivial, w_case⟩
end start1
theorem witness_1 : WitnessClaimed_1 := ⟨start1.p0, start1.e0, start1.about1, start1.theMethod, start1.args0, start1.below0, start1.atStart⟩
end Jvm.Pilot.@@N@@
