import JvmDerived
import JvmDerived.Pilot.@@N@@Statement
import JvmDerived.Pilot.@@N@@Code
set_option linter.unusedVariables false
set_option linter.unusedSimpArgs false
namespace Jvm.Pilot.@@N@@
open Jvm Jvm.ClassFile Sem Op Lib Jvm.Free Jvm.Stand Jvm.LawKit Jvm.RoadKit Bundle Jvm.Pilot.@@N@@.Jvm.D
section OwnKit
variable {p : Program} {l : Launch} {e : Env} {R : Room} {s : State} {m : MethodId} {args : Array Value} {below : List Frame} {meth : Method} {c : Code} {T : State} {locs : List Loc} {cells slots : Nat} {bc : ByteArray} {Q : Option Value → Heap → List Loc → Prop} {mc ms : Nat} {Z : State} {a0 : Array Value} {h : Heap} {pc pc' pt pf : Nat} {Ls : Array Slot} {st rest : List Value}
/-- from this frame over T the invocation comes to its end by returning, and Q holds there -/
def Go (p : Program) (e : Env) (below : List Frame) (s : State) (Q : Option Value → Heap → List Loc → Prop) (mc ms : Nat) (m : MethodId) (T : State) (pc : Nat) (Ls : Array Slot) (st : List Value) : Prop :=
  ∃ s₂ o, Steps p.tables e below (T.setTop (mkF m pc Ls st)) s₂ ∧ s₂.status = .running ∧ Ended s₂ below o ∧ ∃ v L, o = .returned v ∧ Q v s₂.heap L ∧ FrameEnd s o s₂ L mc ms
theorem Go.of {T' : State} {Ls' : Array Slot} {st' : List Value} (k : ∀ t, Steps p.tables e below (T'.setTop (mkF m pc' Ls' st')) t → Steps p.tables e below (T.setTop (mkF m pc Ls st)) t) (g : Go p e below s Q mc ms m T' pc' Ls' st') : Go p e below s Q mc ms m T pc Ls st := by
  obtain ⟨s₂, o, h1, h2⟩ := g
  exact ⟨s₂, o, k _ h1, h2⟩
/-- a method's contract, as a caller takes it -/
def Ct (l : Launch) (Z : State) (y : MethodName) (bytes : ByteArray) (maxL : Nat) (ret : Option FieldType) (rm : Room) (as' : Array Value) (h : Heap) (Q : Option Value → Heap → List Loc → Prop) : Prop :=
  MetFree l y (head1 [Jvm.Cond.code y bytes maxL ret] rm) (fun a U => a = as' ∧ Z.Warmed39 U.vm ∧ U.heap = h) (fun _ _ _ _ _ => True) (fun _ U o U' => ∃ v L, o = .returned v ∧ Q v U'.heap L ∧ FrameEnd U o U' L rm.cells rm.slots)
theorem own_met {y : MethodName} {bytes : ByteArray} {maxL : Nat} {ret : Option FieldType} {ws : List Jvm.Cond} {rm : Room} {as' : Array Value}
    (hpl : plainFor y = true) (hef : ∀ m, entryFrame m as' maxL = mkF m 0 Ls [])
    (body : ∀ (p : Program) (e : Env) (s : State) (m : MethodId) (below : List Frame) (meth : Method) (c : Code) (T : State), Stand p l e rm s m as' below meth c T [] 0 0 → p.tables.exec = Jvm.exec → c.code = bytes → c.maxLocals = maxL →
      s.vm.findClass y.cls = some m.cls → meth.name = y.name → meth.sig.returnType = ret → meth.locks = false → Z.Warmed39 s.vm → T.heap = h → Go p e below s Q mc ms m T 0 Ls []) :
    MetFree l y (head1 (Jvm.Cond.code y bytes maxL ret :: ws) rm) (fun a U => a = as' ∧ Z.Warmed39 U.vm ∧ U.heap = h) (fun _ _ _ _ _ => True) (fun _ U o U' => ∃ v L, o = .returned v ∧ Q v U'.heap L ∧ FrameEnd U o U' L mc ms) := by
  refine MetFree.of_bodySF hpl hisR ?_
  intro p e s m args below meth c s₁ Bd hml0 hP hK
  obtain ⟨rfl, hZ, hh⟩ := hP
  obtain ⟨s₂, o, h1, h2, h3, v, L, h4, h5, h6⟩ := body p e s m below meth c s₁ (Stand.of_body Bd) Bd.exec Bd.bytes hml0 (findClass_of_methodNamed Bd.named) (name_of_methodNamed Bd.named Bd.method).1 Bd.returns Bd.notSynchronized hZ (by rw [← hh, Bd.state]; rfl)
  exact ⟨s₂, o, castTop (hef m) h1, h2, h3, v, L, h4, h5, h6⟩
theorem g_nameI {x : Int32} (k : ∀ z : Int32, z = x → Go p e below s Q mc ms m T pc Ls (.int z :: rest)) : Go p e below s Q mc ms m T pc Ls (.int x :: rest) := k x rfl
theorem g_iloadN (X : Stand p l e R s m args below meth c T locs cells slots) (hx : p.tables.exec = Jvm.exec) (hby : c.code = bc) {n : Fin 4} {v : Int32} (hd : decode bc pc = .ok (.iload_n n, 1)) (hp : pc + 1 = pc') (hl : Ls[n.val]? = some (.val (.int v))) (k : Go p e below s Q mc ms m T pc' Ls (.int v :: st)) : Go p e below s Q mc ms m T pc Ls st := by
  subst hp; exact Go.of (fun _ q => XS.iloadN X.here hx rfl (hb hby hd) hl q) k
theorem g_iload (X : Stand p l e R s m args below meth c T locs cells slots) (hx : p.tables.exec = Jvm.exec) (hby : c.code = bc) {n : Nat} {v : Int32} (hd : decode bc pc = .ok (.iload n, 2)) (hp : pc + 2 = pc') (hl : Ls[n]? = some (.val (.int v))) (k : Go p e below s Q mc ms m T pc' Ls (.int v :: st)) : Go p e below s Q mc ms m T pc Ls st := by
  subst hp; exact Go.of (fun _ q => XS.iload X.here hx rfl (hb hby hd) hl q) k
theorem g_istore (X : Stand p l e R s m args below meth c T locs cells slots) (hx : p.tables.exec = Jvm.exec) (hby : c.code = bc) {n : Nat} {v : Int32} {Ls' : Array Slot} (hd : decode bc pc = .ok (.istore n, 2)) (hp : pc + 2 = pc') (hl : storeLocals Ls n (.int v) = some Ls') (k : Go p e below s Q mc ms m T pc' Ls' rest) : Go p e below s Q mc ms m T pc Ls (.int v :: rest) := by
  subst hp; exact Go.of (fun _ q => XS.istore X.here hx rfl (hb hby hd) rfl hl q) k
theorem g_aloadN (X : Stand p l e R s m args below meth c T locs cells slots) (hx : p.tables.exec = Jvm.exec) (hby : c.code = bc) {n : Fin 4} {v : Value} (hd : decode bc pc = .ok (.aload_n n, 1)) (hp : pc + 1 = pc') (hl : Ls[n.val]? = some (.val v)) (hv : v.isRef = true) (k : Go p e below s Q mc ms m T pc' Ls (v :: st)) : Go p e below s Q mc ms m T pc Ls st := by
  subst hp; exact Go.of (fun _ q => XS.aloadN X.here hx rfl (hb hby hd) hl hv q) k
theorem g_aload (X : Stand p l e R s m args below meth c T locs cells slots) (hx : p.tables.exec = Jvm.exec) (hby : c.code = bc) {n : Nat} {v : Value} (hd : decode bc pc = .ok (.aload n, 2)) (hp : pc + 2 = pc') (hl : Ls[n]? = some (.val v)) (hv : v.isRef = true) (k : Go p e below s Q mc ms m T pc' Ls (v :: st)) : Go p e below s Q mc ms m T pc Ls st := by
  subst hp; exact Go.of (fun _ q => XS.aload X.here hx rfl (hb hby hd) hl hv q) k
theorem g_astoreN (X : Stand p l e R s m args below meth c T locs cells slots) (hx : p.tables.exec = Jvm.exec) (hby : c.code = bc) {n : Fin 4} {v : Value} {Ls' : Array Slot} (hd : decode bc pc = .ok (.astore_n n, 1)) (hp : pc + 1 = pc') (hv : v.isRef = true) (hl : storeLocals Ls n.val v = some Ls') (k : Go p e below s Q mc ms m T pc' Ls' rest) : Go p e below s Q mc ms m T pc Ls (v :: rest) := by
  subst hp; exact Go.of (fun _ q => XS.astoreN X.here hx rfl (hb hby hd) rfl hv hl q) k
theorem g_astore (X : Stand p l e R s m args below meth c T locs cells slots) (hx : p.tables.exec = Jvm.exec) (hby : c.code = bc) {n : Nat} {v : Value} {Ls' : Array Slot} (hd : decode bc pc = .ok (.astore n, 2)) (hp : pc + 2 = pc') (hv : v.isRef = true) (hl : storeLocals Ls n v = some Ls') (k : Go p e below s Q mc ms m T pc' Ls' rest) : Go p e below s Q mc ms m T pc Ls (v :: rest) := by
  subst hp; exact Go.of (fun _ q => XS.astore X.here hx rfl (hb hby hd) rfl hv hl q) k
theorem g_iconst (X : Stand p l e R s m args below meth c T locs cells slots) (hx : p.tables.exec = Jvm.exec) (hby : c.code = bc) {i : Int} {n : Int32} (hd : decode bc pc = .ok (.iconst i, 1)) (hp : pc + 1 = pc') (hn : Int32.ofInt i = n) (k : Go p e below s Q mc ms m T pc' Ls (.int n :: st)) : Go p e below s Q mc ms m T pc Ls st := by
  subst hp; exact Go.of (fun _ q => XS.iconst X.here hx rfl (hb hby hd) (by rw [hn]; exact q)) k
theorem g_bipush (X : Stand p l e R s m args below meth c T locs cells slots) (hx : p.tables.exec = Jvm.exec) (hby : c.code = bc) {i : Int} {n : Int32} (hd : decode bc pc = .ok (.bipush i, 2)) (hp : pc + 2 = pc') (hn : (Int8.ofInt i).toInt32 = n) (k : Go p e below s Q mc ms m T pc' Ls (.int n :: st)) : Go p e below s Q mc ms m T pc Ls st := by
  subst hp; exact Go.of (fun _ q => XS.bipush X.here hx rfl (hb hby hd) (by rw [hn]; exact q)) k
theorem g_iadd (X : Stand p l e R s m args below meth c T locs cells slots) (hx : p.tables.exec = Jvm.exec) (hby : c.code = bc) {x y : Int32} (hd : decode bc pc = .ok (.iadd, 1)) (hp : pc + 1 = pc')  (k : Go p e below s Q mc ms m T pc' Ls (.int (x + y) :: rest)) : Go p e below s Q mc ms m T pc Ls (.int y :: .int x :: rest) := by
  subst hp; exact Go.of (fun _ q => XS.iadd X.here hx rfl (hb hby hd) rfl q) k
theorem g_isub (X : Stand p l e R s m args below meth c T locs cells slots) (hx : p.tables.exec = Jvm.exec) (hby : c.code = bc) {x y : Int32} (hd : decode bc pc = .ok (.isub, 1)) (hp : pc + 1 = pc')  (k : Go p e below s Q mc ms m T pc' Ls (.int (x - y) :: rest)) : Go p e below s Q mc ms m T pc Ls (.int y :: .int x :: rest) := by
  subst hp; exact Go.of (fun _ q => XS.isub X.here hx rfl (hb hby hd) rfl q) k
theorem g_imul (X : Stand p l e R s m args below meth c T locs cells slots) (hx : p.tables.exec = Jvm.exec) (hby : c.code = bc) {x y : Int32} (hd : decode bc pc = .ok (.imul, 1)) (hp : pc + 1 = pc')  (k : Go p e below s Q mc ms m T pc' Ls (.int (x * y) :: rest)) : Go p e below s Q mc ms m T pc Ls (.int y :: .int x :: rest) := by
  subst hp; exact Go.of (fun _ q => XS.imul X.here hx rfl (hb hby hd) rfl q) k
theorem g_iand (X : Stand p l e R s m args below meth c T locs cells slots) (hx : p.tables.exec = Jvm.exec) (hby : c.code = bc) {x y : Int32} (hd : decode bc pc = .ok (.iand, 1)) (hp : pc + 1 = pc')  (k : Go p e below s Q mc ms m T pc' Ls (.int (x &&& y) :: rest)) : Go p e below s Q mc ms m T pc Ls (.int y :: .int x :: rest) := by
  subst hp; exact Go.of (fun _ q => XS.iand X.here hx rfl (hb hby hd) rfl q) k
theorem g_ixor (X : Stand p l e R s m args below meth c T locs cells slots) (hx : p.tables.exec = Jvm.exec) (hby : c.code = bc) {x y : Int32} (hd : decode bc pc = .ok (.ixor, 1)) (hp : pc + 1 = pc')  (k : Go p e below s Q mc ms m T pc' Ls (.int (x ^^^ y) :: rest)) : Go p e below s Q mc ms m T pc Ls (.int y :: .int x :: rest) := by
  subst hp; exact Go.of (fun _ q => XS.ixor X.here hx rfl (hb hby hd) rfl q) k
theorem g_irem (X : Stand p l e R s m args below meth c T locs cells slots) (hx : p.tables.exec = Jvm.exec) (hby : c.code = bc) {x y : Int32} (hd : decode bc pc = .ok (.irem, 1)) (hp : pc + 1 = pc') (hy : y ≠ 0) (k : Go p e below s Q mc ms m T pc' Ls (.int (x % y) :: rest)) : Go p e below s Q mc ms m T pc Ls (.int y :: .int x :: rest) := by
  subst hp; exact Go.of (fun _ q => iremM X hx rfl (hb hby hd) rfl hy q) k
theorem g_dup (X : Stand p l e R s m args below meth c T locs cells slots) (hx : p.tables.exec = Jvm.exec) (hby : c.code = bc) {x : Value} (hd : decode bc pc = .ok (.dup, 1)) (hp : pc + 1 = pc') (hc : x.category = 1) (k : Go p e below s Q mc ms m T pc' Ls (x :: x :: rest)) : Go p e below s Q mc ms m T pc Ls (x :: rest) := by
  subst hp; exact Go.of (fun _ q => XS.dup X.here hx rfl (hb hby hd) rfl hc q) k
theorem g_goto (X : Stand p l e R s m args below meth c T locs cells slots) (hx : p.tables.exec = Jvm.exec) (hby : c.code = bc) {i : Int} (hd : decode bc pc = .ok (.goto i, 3)) (ho : 0 ≤ (pc : Int) + i) (hp : ((pc : Int) + i).toNat = pc') (k : Go p e below s Q mc ms m T pc' Ls st) : Go p e below s Q mc ms m T pc Ls st := Go.of (fun _ q => XS.goto X.here hx rfl rfl (hb hby hd) ho hp q) k
theorem own_hlt (x y : Int32) : if_icmp.holds .lt x y = decide (x.toInt < y.toInt) := by simp [if_icmp.holds, Int32.lt_iff_toInt_lt]
theorem own_hgt (x y : Int32) : if_icmp.holds .gt x y = decide (y.toInt < x.toInt) := by simp [if_icmp.holds, Int32.lt_iff_toInt_lt]
theorem own_hle (x y : Int32) : if_icmp.holds .le x y = decide (x.toInt ≤ y.toInt) := by simp [if_icmp.holds, Int32.le_iff_toInt_le]
theorem own_hne (x y : Int32) : if_icmp.holds .ne x y = decide (¬ x = y) := by by_cases q : x = y <;> simp [if_icmp.holds, q]
theorem g_icmp (X : Stand p l e R s m args below meth c T locs cells slots) (hx : p.tables.exec = Jvm.exec) (hby : c.code = bc) {cd : ClassFile.Cond} {i : Int} {x y : Int32} {P : Prop} [Decidable P] (hP : if_icmp.holds cd x y = decide P) (hd : decode bc pc = .ok (.if_icmp cd i, 3)) (ho : 0 ≤ (pc : Int) + i) (hp : ((pc : Int) + i).toNat = pt) (hf : pc + 3 = pf) (ky : P → Go p e below s Q mc ms m T pt Ls rest) (kn : ¬ P → Go p e below s Q mc ms m T pf Ls rest) : Go p e below s Q mc ms m T pc Ls (.int y :: .int x :: rest) := by
  subst hf
  by_cases q : P
  · exact Go.of (fun _ z => XS.icmpYes X.here hx rfl rfl (hb hby hd) rfl (by rw [hP]; exact decide_eq_true q) ho hp z) (ky q)
  · exact Go.of (fun _ z => XS.icmpNo X.here hx rfl (hb hby hd) rfl (by rw [hP]; exact decide_eq_false q) z) (kn q)
theorem g_ifc (X : Stand p l e R s m args below meth c T locs cells slots) (hx : p.tables.exec = Jvm.exec) (hby : c.code = bc) {cd : ClassFile.Cond} {i : Int} {x : Int32} {P : Prop} [Decidable P] (hP : if_icmp.holds cd x 0 = decide P) (hd : decode bc pc = .ok (.ifCond cd i, 3)) (ho : 0 ≤ (pc : Int) + i) (hp : ((pc : Int) + i).toNat = pt) (hf : pc + 3 = pf) (ky : P → Go p e below s Q mc ms m T pt Ls rest) (kn : ¬ P → Go p e below s Q mc ms m T pf Ls rest) : Go p e below s Q mc ms m T pc Ls (.int x :: rest) := by
  subst hf
  by_cases q : P
  · exact Go.of (fun _ z => XS.ifYes X.here hx rfl rfl (hb hby hd) rfl (by rw [if0, hP]; exact decide_eq_true q) ho hp z) (ky q)
  · exact Go.of (fun _ z => XS.ifNo X.here hx rfl (hb hby hd) rfl (by rw [if0, hP]; exact decide_eq_false q) z) (kn q)
theorem g_icmplt (X : Stand p l e R s m args below meth c T locs cells slots) (hx : p.tables.exec = Jvm.exec) (hby : c.code = bc) {i : Int} {x y : Int32} (hd : decode bc pc = .ok (.if_icmp .lt i, 3)) (ho : 0 ≤ (pc : Int) + i) (hp : ((pc : Int) + i).toNat = pt) (hf : pc + 3 = pf) (ky : x.toInt < y.toInt → Go p e below s Q mc ms m T pt Ls rest) (kn : y.toInt ≤ x.toInt → Go p e below s Q mc ms m T pf Ls rest) : Go p e below s Q mc ms m T pc Ls (.int y :: .int x :: rest) :=
  g_icmp X hx hby (own_hlt x y) hd ho hp hf ky (fun q => kn (Int.not_lt.mp q))
theorem g_icmpgt (X : Stand p l e R s m args below meth c T locs cells slots) (hx : p.tables.exec = Jvm.exec) (hby : c.code = bc) {i : Int} {x y : Int32} (hd : decode bc pc = .ok (.if_icmp .gt i, 3)) (ho : 0 ≤ (pc : Int) + i) (hp : ((pc : Int) + i).toNat = pt) (hf : pc + 3 = pf) (ky : y.toInt < x.toInt → Go p e below s Q mc ms m T pt Ls rest) (kn : x.toInt ≤ y.toInt → Go p e below s Q mc ms m T pf Ls rest) : Go p e below s Q mc ms m T pc Ls (.int y :: .int x :: rest) :=
  g_icmp X hx hby (own_hgt x y) hd ho hp hf ky (fun q => kn (Int.not_lt.mp q))
theorem g_icmple (X : Stand p l e R s m args below meth c T locs cells slots) (hx : p.tables.exec = Jvm.exec) (hby : c.code = bc) {i : Int} {x y : Int32} (hd : decode bc pc = .ok (.if_icmp .le i, 3)) (ho : 0 ≤ (pc : Int) + i) (hp : ((pc : Int) + i).toNat = pt) (hf : pc + 3 = pf) (ky : x.toInt ≤ y.toInt → Go p e below s Q mc ms m T pt Ls rest) (kn : y.toInt < x.toInt → Go p e below s Q mc ms m T pf Ls rest) : Go p e below s Q mc ms m T pc Ls (.int y :: .int x :: rest) :=
  g_icmp X hx hby (own_hle x y) hd ho hp hf ky (fun q => kn (Int.not_le.mp q))
theorem g_ifle (X : Stand p l e R s m args below meth c T locs cells slots) (hx : p.tables.exec = Jvm.exec) (hby : c.code = bc) {i : Int} {x : Int32} (hd : decode bc pc = .ok (.ifCond .le i, 3)) (ho : 0 ≤ (pc : Int) + i) (hp : ((pc : Int) + i).toNat = pt) (hf : pc + 3 = pf) (ky : x.toInt ≤ 0 → Go p e below s Q mc ms m T pt Ls rest) (kn : 0 < x.toInt → Go p e below s Q mc ms m T pf Ls rest) : Go p e below s Q mc ms m T pc Ls (.int x :: rest) :=
  g_ifc X hx hby (own_hle x 0) hd ho hp hf ky (fun q => kn (Int.not_le.mp q))
theorem g_icmpne (X : Stand p l e R s m args below meth c T locs cells slots) (hx : p.tables.exec = Jvm.exec) (hby : c.code = bc) {i : Int} {x y : Int32} (hd : decode bc pc = .ok (.if_icmp .ne i, 3)) (ho : 0 ≤ (pc : Int) + i) (hp : ((pc : Int) + i).toNat = pt) (hf : pc + 3 = pf) (ky : ¬ x = y → Go p e below s Q mc ms m T pt Ls rest) (kn : x = y → Go p e below s Q mc ms m T pf Ls rest) : Go p e below s Q mc ms m T pc Ls (.int y :: .int x :: rest) :=
  g_icmp X hx hby (own_hne x y) hd ho hp hf ky (fun q => kn (Decidable.not_not.mp q))
theorem g_ifne (X : Stand p l e R s m args below meth c T locs cells slots) (hx : p.tables.exec = Jvm.exec) (hby : c.code = bc) {i : Int} {x : Int32} (hd : decode bc pc = .ok (.ifCond .ne i, 3)) (ho : 0 ≤ (pc : Int) + i) (hp : ((pc : Int) + i).toNat = pt) (hf : pc + 3 = pf) (ky : ¬ x = 0 → Go p e below s Q mc ms m T pt Ls rest) (kn : x = 0 → Go p e below s Q mc ms m T pf Ls rest) : Go p e below s Q mc ms m T pc Ls (.int x :: rest) :=
  g_ifc X hx hby (own_hne x 0) hd ho hp hf ky (fun q => kn (Decidable.not_not.mp q))
theorem g_ret (X : Stand p l e R s m args below meth c T locs cells slots) (hx : p.tables.exec = Jvm.exec) (hby : c.code = bc) (hlk : meth.locks = false) {t : FieldType} {w : Value} {i : Instr} (hret : meth.sig.returnType = some t) (hn : narrow t w = w) (hi : (i = .ireturn ∧ (t = .int ∨ t = .boolean ∨ t = .byte ∨ t = .char ∨ t = .short) ∧ ∃ z, w = .int z) ∨ (i = .lreturn ∧ t = .long ∧ ∃ z, w = .long z) ∨ (i = .dreturn ∧ t = .double ∧ ∃ z, w = .double z) ∨ (i = .freturn ∧ t = .float ∧ ∃ z, w = .float z) ∨ (i = .areturn ∧ t.isReference = true ∧ w.isRef = true)) (hd : decode bc pc = .ok (i, 1)) (hc : cells ≤ mc) (hs : slots ≤ ms) (hq : Q (some w) T.heap locs) : Go p e below s Q mc ms m T pc Ls (w :: rest) := by
  obtain ⟨fs, hr, hrun, hended, hW, hsame⟩ := X.leave (v := some w) (fun h => by rw [hret] at h; cases h) hlk
  exact ⟨_, _, retOut X hx hret hn hi (hb hby hd) hr, hrun, hended, _, _, rfl, hq, ⟨_, rfl⟩, hW, hsame.mono hc hs⟩
theorem g_retI (X : Stand p l e R s m args below meth c T locs cells slots) (hx : p.tables.exec = Jvm.exec) (hby : c.code = bc) (hlk : meth.locks = false) {z : Int32} (hret : meth.sig.returnType = some .int) (hd : decode bc pc = .ok (.ireturn, 1)) (hc : cells ≤ mc) (hs : slots ≤ ms) (hq : Q (some (.int z)) T.heap locs) : Go p e below s Q mc ms m T pc Ls (.int z :: rest) := g_ret X hx hby hlk hret rfl (Or.inl ⟨rfl, Or.inl rfl, _, rfl⟩) hd hc hs hq
theorem g_retZ (X : Stand p l e R s m args below meth c T locs cells slots) (hx : p.tables.exec = Jvm.exec) (hby : c.code = bc) (hlk : meth.locks = false) {z : Int32} (hz : z = 0 ∨ z = 1) (hret : meth.sig.returnType = some .boolean) (hd : decode bc pc = .ok (.ireturn, 1)) (hc : cells ≤ mc) (hs : slots ≤ ms) (hq : Q (some (.int z)) T.heap locs) : Go p e below s Q mc ms m T pc Ls (.int z :: rest) := g_ret X hx hby hlk hret (by rcases hz with rfl | rfl <;> rfl) (Or.inl ⟨rfl, Or.inr (Or.inl rfl), _, rfl⟩) hd hc hs hq
theorem g_retA (X : Stand p l e R s m args below meth c T locs cells slots) (hx : p.tables.exec = Jvm.exec) (hby : c.code = bc) (hlk : meth.locks = false) {t : FieldType} {w : Value} (ht : t.isReference = true) (hw : w.isRef = true) (hret : meth.sig.returnType = some t) (hd : decode bc pc = .ok (.areturn, 1)) (hc : cells ≤ mc) (hs : slots ≤ ms) (hq : Q (some w) T.heap locs) : Go p e below s Q mc ms m T pc Ls (w :: rest) := g_ret X hx hby hlk hret (by rcases ref_cases hw with rfl | ⟨b, rfl⟩ <;> cases t <;> first | rfl | cases ht) (Or.inr (Or.inr (Or.inr (Or.inr ⟨rfl, ht, hw⟩)))) hd hc hs hq
theorem g_retV (X : Stand p l e R s m args below meth c T locs cells slots) (hx : p.tables.exec = Jvm.exec) (hby : c.code = bc) (hlk : meth.locks = false) (hret : meth.sig.returnType = none) (hd : decode bc pc = .ok (.return_, 1)) (hc : cells ≤ mc) (hs : slots ≤ ms) (hq : Q none T.heap locs) : Go p e below s Q mc ms m T pc Ls [] := by
  obtain ⟨fs, hr, hrun, hended, hW, hsame⟩ := X.leave (v := none) (fun _ => rfl) hlk
  exact ⟨_, _, X.returnOut hx hret (hb hby hd) hr, hrun, hended, _, _, rfl, hq, ⟨_, rfl⟩, hW, hsame.mono hc hs⟩
theorem g_ldcI (X : Stand p l e R s m args below meth c T locs cells slots) (hx : p.tables.exec = Jvm.exec) (hby : c.code = bc) (hZ : Z.Warmed39 s.vm) {own : String} (hown : s.vm.findClass own = some m.cls) {n : Nat} {v : Int32} (w : (Jvm.Cond.constant own n v).before a0 Z = true) (hd : decode bc pc = .ok (.ldc n, 2)) (hp : pc + 2 = pc') (k : Go p e below s Q mc ms m T pc' Ls (.int v :: st)) : Go p e below s Q mc ms m T pc Ls st := by
  subst hp; exact Go.of (X.ldcInt hx hown (mvT hZ w) (g := mkF m pc Ls st) rfl (hb hby hd)) k
theorem g_getF (X : Stand p l e R s m args below meth c T locs cells slots) (hx : p.tables.exec = Jvm.exec) (hby : c.code = bc) (hZ : Z.Warmed39 s.vm) {own : String} (hown : s.vm.findClass own = some m.cls) (eT : T.heap = h) {i : Nat} {O n d : String} {a : Addr} {v : Value} (w : (Jvm.Cond.fieldLink own i O n d).before a0 Z = true) (F : Fld Z h a O n d v) (hd : decode bc pc = .ok (.getfield i, 3)) (hp : pc + 3 = pc') (k : ∀ T', Stand p l e R s m args below meth c T' locs cells slots → T'.heap = h → Go p e below s Q mc ms m T' pc' Ls (v :: rest)) : Go p e below s Q mc ms m T pc Ls (.ref a :: rest) := by
  subst hp
  obtain ⟨T', X', e', st'⟩ := getF X hx hZ hown (host := "") (Or.inl w) Via.refl eT F (g := mkF m pc Ls (.ref a :: rest)) rfl rfl (hb hby hd)
  exact Go.of st' (k T' X' e')
theorem g_putF (X : Stand p l e R s m args below meth c T locs cells slots) (hx : p.tables.exec = Jvm.exec) (hby : c.code = bc) (hZ : Z.Warmed39 s.vm) {own : String} (hown : s.vm.findClass own = some m.cls) (eT : T.heap = h) {i kk : Nat} {O n d C : String} {a : Addr} {v old : Value} {ty : FieldType} (w : (Jvm.Cond.fieldLink own i O n d).before a0 Z = true) (F : Fld Z h a O n d old) (E : Exa Z h a C) (L : (Jvm.Cond.lays C O n d).before a0 Z = true ∨ ((Jvm.Cond.laysFinal C O n d).before a0 Z = true ∧ own = O ∧ meth.name = "<init>")) (wi : (Jvm.Cond.instantiable C kk).before a0 Z = true) (hty : parseFieldDescriptor d = some ty) (hn : narrow ty v = v) (hf : fits ty v = true) (hd : decode bc pc = .ok (.putfield i, 3)) (hp : pc + 3 = pc') (k : ∀ T' h', Stand p l e R s m args below meth c T' (locs ++ [⟨a, Jvm.RoadKit.slotOf Z O n d⟩]) cells slots → T'.heap = h' → Wr h h' a (Jvm.RoadKit.slotOf Z O n d) v → Go p e below s Q mc ms m T' pc' Ls rest) : Go p e below s Q mc ms m T pc Ls (v :: .ref a :: rest) := by
  subst hp
  obtain ⟨T', h', X', e', W', st'⟩ := putF X hx hZ hown (host := "") (Or.inl w) Via.refl eT F E L wi hty hn hf (g := mkF m pc Ls (v :: .ref a :: rest)) rfl rfl (hb hby hd)
  exact Go.of st' (k T' h' X' e' W')
theorem g_new (X : Stand p l e R s m args below meth c T locs cells slots) (hx : p.tables.exec = Jvm.exec) (hby : c.code = bc) (hZ : Z.Warmed39 s.vm) {own : String} (hown : s.vm.findClass own = some m.cls) (eT : T.heap = h) {i n : Nat} {C : String} (w : (Jvm.Cond.classLink own i C).before a0 Z = true) (wi : (Jvm.Cond.instantiable C n).before a0 Z = true) (wz : (Jvm.Cond.initialized C).before a0 Z = true) (hd : decode bc pc = .ok (.new i, 3)) (hp : pc + 3 = pc') (hc : cells + 1 ≤ R.cells) (hl : slots + n ≤ R.slots) (k : ∀ T' h' b, b = h.size → Stand p l e R s m args below meth c T' locs (cells + 1) (slots + n) → T'.heap = h' → Ext h h' → Exa Z h' b C → (∀ {O nm d : String} {ty : FieldType}, Laid Z a0 C O nm d → parseFieldDescriptor d = some ty → Fld Z h' b O nm d (defaultValue ty)) → Go p e below s Q mc ms m T' pc' Ls (.ref b :: st)) : Go p e below s Q mc ms m T pc Ls st := by
  subst hp
  obtain ⟨T', h', X', e', E', A', D', -, st'⟩ := newO X hx hZ hown w wi wz eT (g := mkF m pc Ls st) rfl (hb hby hd) hc hl
  exact Go.of st' (k T' h' _ rfl X' e' E' A' D')
theorem g_initO (X : Stand p l e R s m args below meth c T locs cells slots) (hx : p.tables.exec = Jvm.exec) (hby : c.code = bc) (hZ : Z.Warmed39 s.vm) {own : String} (hown : s.vm.findClass own = some m.cls) (eT : T.heap = h) {i ML : Nat} {a : Addr} (w1 : (Jvm.Cond.methodLink own i Lib.objectInit).before a0 Z = true) (w2 : (Jvm.Cond.instanceMethod Lib.objectInit).before a0 Z = true) (w3 : (Jvm.Cond.code Lib.objectInit ⟨#[0xb1]⟩ 1 none).before a0 Z = true) (hml : c.maxLocals = ML) (hls : Ls.size = ML) (hd : decode bc pc = .ok (.invokespecial i, 3)) (hp : pc + 3 = pc') (hf : 1 ≤ R.frames) (hl : (rest.map fun v => v.category).sum + 12 ≤ R.locals) (k : ∀ T', Stand p l e R s m args below meth c T' locs cells slots → T'.heap = h → Go p e below s Q mc ms m T' pc' Ls rest) : Go p e below s Q mc ms m T pc Ls (.ref a :: rest) := by
  subst hp
  obtain ⟨T', X', e', st'⟩ := initO X hx hZ hown w1 w2 w3 eT (g := mkF m pc Ls (.ref a :: rest)) rfl (by rw [hml]; exact hls) rfl (hb hby hd) hf (W := (rest.map fun v => v.category).sum) (by show 2 * 0 + _ ≤ _; omega) hl
  exact Go.of st' (k T' X' e')
theorem g_newP (X : Stand p l e R s m args below meth c T locs cells slots) (hx : p.tables.exec = Jvm.exec) (hby : c.code = bc) (hZ : Z.Warmed39 s.vm) (eT : T.heap = h) {aty : ArrayType} {n : Int32} (w : (Jvm.Cond.arrayClass (newarray.typeOf aty)).before a0 Z = true) (hd : decode bc pc = .ok (.newarray aty, 2)) (hp : pc + 2 = pc') (hn : ¬ n < 0) {cap : Nat} (hcap : n.toNatClampNeg ≤ cap) (hbig : cap * 8 ≤ 536870912) (hc : cells + 1 ≤ R.cells) (hl : slots + cap ≤ R.slots) (k : ∀ T' h' b cA, b = h.size → Stand p l e R s m args below meth c T' locs (cells + 1) (slots + cap) → T'.heap = h' → Ext h h' → Arv Z h' b cA (newarray.typeOf aty) n [] (defaultValue (newarray.typeOf aty)) → Go p e below s Q mc ms m T' pc' Ls (.ref b :: rest)) : Go p e below s Q mc ms m T pc Ls (.int n :: rest) := by
  subst hp
  obtain ⟨T', h', cA, X', e', E', A', st'⟩ := newP X hx hZ w eT (g := mkF m pc Ls (.int n :: rest)) rfl (hb hby hd) rfl hn hcap hbig hc hl
  exact Go.of st' (k T' h' _ cA rfl X' e' E' (Arv.new A' hn))
theorem g_iastore (X : Stand p l e R s m args below meth c T locs cells slots) (hx : p.tables.exec = Jvm.exec) (hby : c.code = bc) (hZ : Z.Warmed39 s.vm) (eT : T.heap = h) {a : Addr} {cl : Cell} (A : Arr Z h a cl .int) {j : Int32} {x : Int32} (hj : ¬ (j < 0 ∨ cl.slots.size ≤ j.toNatClampNeg)) (hd : decode bc pc = .ok (.iastore, 1)) (hp : pc + 1 = pc') (k : ∀ T' h', Stand p l e R s m args below meth c T' (locs ++ [⟨a, j.toNatClampNeg⟩]) cells slots → T'.heap = h' → Wr h h' a j.toNatClampNeg (.int x) → Go p e below s Q mc ms m T' pc' Ls rest) : Go p e below s Q mc ms m T pc Ls (.int x :: .int j :: .ref a :: rest) := by
  subst hp
  obtain ⟨T', h', X', e', W', st'⟩ := stI X hx hZ eT A (j := j) hj (g := mkF m pc Ls (.int x :: .int j :: .ref a :: rest)) rfl rfl (hb hby hd)
  exact Go.of st' (k T' h' X' e' W')
theorem g_iaload (X : Stand p l e R s m args below meth c T locs cells slots) (hx : p.tables.exec = Jvm.exec) (hby : c.code = bc) (hZ : Z.Warmed39 s.vm) (eT : T.heap = h) {a : Addr} {cl : Cell} (A : Arr Z h a cl .int) {j : Int32} {v : Value} (hj : ¬ (j < 0 ∨ cl.slots.size ≤ j.toNatClampNeg)) (hv : cl.slots[j.toNatClampNeg]? = some v) (hd : decode bc pc = .ok (.iaload, 1)) (hp : pc + 1 = pc') (k : Go p e below s Q mc ms m T pc' Ls (v :: rest)) : Go p e below s Q mc ms m T pc Ls (.int j :: .ref a :: rest) := by
  subst hp
  exact Go.of (fun _ q => X.iaload hx (j := j) (v := v) (by rw [eT]; exact A.1) (State.isArrayOf_alike hZ.alike A.2.1) A.2.2 hj hv (g := mkF m pc Ls (.int j :: .ref a :: rest)) rfl rfl (hb hby hd) _ q) k
theorem g_arraylength (X : Stand p l e R s m args below meth c T locs cells slots) (hx : p.tables.exec = Jvm.exec) (hby : c.code = bc) (hZ : Z.Warmed39 s.vm) (eT : T.heap = h) {a : Addr} {cl : Cell} {ty : FieldType} (A : Arr Z h a cl ty) {n : Int32} (S : cl.slots.size = n.toNatClampNeg) (hn : ¬ n < 0) (hd : decode bc pc = .ok (.arraylength, 1)) (hp : pc + 1 = pc') (k : Go p e below s Q mc ms m T pc' Ls (.int n :: rest)) : Go p e below s Q mc ms m T pc Ls (.ref a :: rest) := by
  subst hp
  exact Go.of (fun _ q => X.arraylength hx (by rw [eT]; exact A.1) (State.isArrayOf_alike hZ.alike A.2.1) (g := mkF m pc Ls (.ref a :: rest)) rfl rfl (hb hby hd) _ (by rw [len_of S hn]; exact q)) k
/-- in heap h the array at a (of kind ty) has n places; place j holds f j -/
def Ara (Z : State) (h : Heap) (a : Addr) (ty : FieldType) (n : Nat) (f : Nat → Value) : Prop := ∃ cl : Cell, Arr Z h a cl ty ∧ cl.slots.size = n ∧ n < 2147483648 ∧ ∀ j, j < n → cl.slots[j]? = some (f j)
def own_up (f : Nat → Value) (k : Nat) (v : Value) : Nat → Value := fun j => if j = k then v else f j
theorem own_up_self (f : Nat → Value) (k : Nat) (v : Value) : own_up f k v k = v := if_pos rfl
theorem own_up_ne (f : Nat → Value) {k j : Nat} (v : Value) (q : j ≠ k) : own_up f k v j = f j := if_neg q
theorem Ara.lt {h : Heap} {a : Addr} {ty : FieldType} {n : Nat} {f : Nat → Value} (V : Ara Z h a ty n f) : a < h.size := by obtain ⟨_, A, _⟩ := V; exact A.lt
theorem Ara.ext {h h' : Heap} {a : Addr} {ty : FieldType} {n : Nat} {f : Nat → Value} (V : Ara Z h a ty n f) (E : Ext h h') : Ara Z h' a ty n f := by obtain ⟨c, A, r⟩ := V; exact ⟨c, A.ext E, r⟩
theorem Ara.other {h h' : Heap} {a b : Addr} {ty : FieldType} {n : Nat} {f : Nat → Value} {sl : Nat} {v : Value} (V : Ara Z h a ty n f) (W : Wr h h' b sl v) (q : a ≠ b) : Ara Z h' a ty n f := by obtain ⟨c, A, r⟩ := V; exact ⟨c, A.other W q, r⟩
theorem Ara.keep {h h' : Heap} {a : Addr} {ty : FieldType} {n : Nat} {f : Nat → Value} {ws : List Addr} (V : Ara Z h a ty n f) (K : Keep h h' ws) (q : a ∉ ws) : Ara Z h' a ty n f := by obtain ⟨c, A, r⟩ := V; exact ⟨c, ⟨K.2.1 a c A.1 q, A.2⟩, r⟩
theorem Ara.set {h h' : Heap} {a : Addr} {ty : FieldType} {n k : Nat} {f : Nat → Value} {v : Value} (V : Ara Z h a ty n f) (W : Wr h h' a k v) : Ara Z h' a ty n (own_up f k v) := by
  obtain ⟨c, A, hs, hn, hf⟩ := V
  refine ⟨_, A.same W, by rw [sz_set]; exact hs, hn, fun j hj => ?_⟩
  by_cases q : k = j
  · subst q; rw [own_up_self]; simp [Cell.setSlot, hs, hj]
  · rw [own_up_ne f v (Ne.symm q), ← hf j hj]; exact Array.getElem?_setIfInBounds_ne q
theorem Ara.eq {h : Heap} {a : Addr} {ty : FieldType} {n : Nat} {f f' : Nat → Value} (V : Ara Z h a ty n f) (q : ∀ j, j < n → f j = f' j) : Ara Z h a ty n f' := by obtain ⟨c, A, hs, hn, hf⟩ := V; exact ⟨c, A, hs, hn, fun j hj => by rw [← q j hj]; exact hf j hj⟩
def own_ui (g : Nat → Int32) (k : Nat) (x : Int32) : Nat → Int32 := fun j => if j = k then x else g j
theorem Ara.setI {h h' : Heap} {a : Addr} {ty : FieldType} {n k : Nat} {g : Nat → Int32} {x : Int32} (V : Ara Z h a ty n (fun j => .int (g j))) (W : Wr h h' a k (.int x)) : Ara Z h' a ty n (fun j => .int (own_ui g k x j)) := (V.set W).eq fun j _ => by
  by_cases q : j = k <;> simp [own_up, own_ui, q]
theorem own_in {cl : Cell} {j : Int32} {n : Nat} (hs : cl.slots.size = n) (h0 : 0 ≤ j.toInt) (h1 : j.toInt < n) : ¬ (j < 0 ∨ cl.slots.size ≤ j.toNatClampNeg) := by
  rw [Int32.lt_iff_toInt_lt, hs]
  show ¬ (j.toInt < 0 ∨ n ≤ j.toInt.toNat)
  omega
theorem own_ofNat {n : Nat} (hn : n < 2147483648) : (Int32.ofNat n).toInt = n := by rw [Int32.toInt_ofNat_of_lt (by omega)]
theorem own_clamp {n : Nat} (hn : n < 2147483648) : (Int32.ofNat n).toNatClampNeg = n := by show (Int32.ofNat n).toInt.toNat = n; rw [own_ofNat hn]; rfl
theorem g_newA (X : Stand p l e R s m args below meth c T locs cells slots) (hx : p.tables.exec = Jvm.exec) (hby : c.code = bc) (hZ : Z.Warmed39 s.vm) (eT : T.heap = h) {aty : ArrayType} {n : Int32} {N : Nat} (w : (Jvm.Cond.arrayClass (newarray.typeOf aty)).before a0 Z = true) (hd : decode bc pc = .ok (.newarray aty, 2)) (hp : pc + 2 = pc') (hn : n.toInt = N) {cap : Nat} (hcap : N ≤ cap) (hbig : cap * 8 ≤ 536870912) (hc : cells + 1 ≤ R.cells) (hl : slots + cap ≤ R.slots) (k : ∀ T' h' b, b = h.size → Stand p l e R s m args below meth c T' locs (cells + 1) (slots + cap) → T'.heap = h' → Ext h h' → Ara Z h' b (newarray.typeOf aty) N (fun _ => defaultValue (newarray.typeOf aty)) → Go p e below s Q mc ms m T' pc' Ls (.ref b :: rest)) : Go p e below s Q mc ms m T pc Ls (.int n :: rest) := by
  have h1 : n.toNatClampNeg = N := by show n.toInt.toNat = N; omega
  have h2 : ¬ n < 0 := by rw [Int32.lt_iff_toInt_lt]; show ¬ n.toInt < 0; omega
  have h3 := rng32 n
  refine g_newP X hx hby hZ eT w hd hp h2 (cap := cap) (by omega) hbig hc hl (fun T' h' b cA hb' X' e' E' V => k T' h' b hb' X' e' E' ?_)
  obtain ⟨cl, A, -, hs, -, hH, -⟩ := V
  exact ⟨cl, A, by rw [hs, h1], by omega, fun j hj => by rw [hH j (by rw [hs, h1]; exact hj)]; simp⟩
theorem a_iastore (X : Stand p l e R s m args below meth c T locs cells slots) (hx : p.tables.exec = Jvm.exec) (hby : c.code = bc) (hZ : Z.Warmed39 s.vm) (eT : T.heap = h) {a : Addr} {n : Nat} {f : Nat → Value} (A : Ara Z h a .int n f) {j : Int32} {x : Int32} (h0 : 0 ≤ j.toInt) (h1 : j.toInt < n) (hd : decode bc pc = .ok (.iastore, 1)) (hp : pc + 1 = pc') (k : ∀ T' h', Stand p l e R s m args below meth c T' (locs ++ [⟨a, j.toInt.toNat⟩]) cells slots → T'.heap = h' → Wr h h' a j.toInt.toNat (.int x) → Go p e below s Q mc ms m T' pc' Ls rest) : Go p e below s Q mc ms m T pc Ls (.int x :: .int j :: .ref a :: rest) := by
  obtain ⟨cl, A, hs, hn, hf⟩ := A
  exact g_iastore X hx hby hZ eT A (own_in hs h0 h1) hd hp k
theorem a_iaload (X : Stand p l e R s m args below meth c T locs cells slots) (hx : p.tables.exec = Jvm.exec) (hby : c.code = bc) (hZ : Z.Warmed39 s.vm) (eT : T.heap = h) {a : Addr} {n : Nat} {f : Nat → Value} (A : Ara Z h a .int n f) {j : Int32} {v : Value} (h0 : 0 ≤ j.toInt) (h1 : j.toInt < n) (hv : f j.toInt.toNat = v) (hd : decode bc pc = .ok (.iaload, 1)) (hp : pc + 1 = pc') (k : Go p e below s Q mc ms m T pc' Ls (v :: rest)) : Go p e below s Q mc ms m T pc Ls (.int j :: .ref a :: rest) := by
  obtain ⟨cl, A, hs, hn, hf⟩ := A
  exact g_iaload X hx hby hZ eT A (own_in hs h0 h1) (by show cl.slots[j.toInt.toNat]? = some v; rw [hf _ (by omega), hv]) hd hp k
theorem a_arraylength (X : Stand p l e R s m args below meth c T locs cells slots) (hx : p.tables.exec = Jvm.exec) (hby : c.code = bc) (hZ : Z.Warmed39 s.vm) (eT : T.heap = h) {a : Addr} {n : Nat} {f : Nat → Value} {ty : FieldType} (A : Ara Z h a ty n f) {N : Int32} (hN : N.toInt = n) (hd : decode bc pc = .ok (.arraylength, 1)) (hp : pc + 1 = pc') (k : Go p e below s Q mc ms m T pc' Ls (.int N :: rest)) : Go p e below s Q mc ms m T pc Ls (.ref a :: rest) := by
  obtain ⟨cl, A, hs, hn, hf⟩ := A
  exact g_arraylength X hx hby hZ eT A (n := N) (by rw [hs]; show n = N.toInt.toNat; omega) (by rw [Int32.lt_iff_toInt_lt]; show ¬ N.toInt < 0; omega) hd hp k
/-- the array at a takes arrays of ints -/
def Ovi (Z : State) (h : Heap) (a : Addr) : Prop := ∃ cl : Cell, h[a]? = some cl ∧ OvrA Z cl.cls .int "[I"
theorem Ovi.ext {h h' : Heap} {a : Addr} (V : Ovi Z h a) (E : Ext h h') : Ovi Z h' a := by obtain ⟨c, q, r⟩ := V; exact ⟨c, E.2 _ _ q, r⟩
theorem Ovi.wr {h h' : Heap} {a b : Addr} {sl : Nat} {v : Value} (V : Ovi Z h a) (W : Wr h h' b sl v) : Ovi Z h' a := by obtain ⟨c, q, r⟩ := V; obtain ⟨c', q', e, -⟩ := wr_at W q; exact ⟨c', q', e ▸ r⟩
theorem Ovi.keep {h h' : Heap} {a : Addr} {ws : List Addr} (V : Ovi Z h a) (K : Keep h h' ws) : Ovi Z h' a := by obtain ⟨c, q, r⟩ := V; obtain ⟨c', q', e, -⟩ := K.2.2 _ _ q; exact ⟨c', q', e ▸ r⟩
theorem Ara.arv {h : Heap} {a : Addr} {n : Nat} {g : Nat → Int32} (V : Ara Z h a .int n (fun j => .int (g j))) : ∃ (k : ClassId) (z : Int32), z.toInt = n ∧ Arv Z h a k .int z ((List.range n).map fun j => .int (g j)) (.int 0) := by
  obtain ⟨c, A, hs, hn, hf⟩ := V
  refine ⟨c.cls, Int32.ofNat n, own_ofNat hn, c, A, rfl, by rw [hs, own_clamp hn], ?_, fun j hj => ?_, fun j hj => ?_⟩
  · rw [Int32.lt_iff_toInt_lt, own_ofNat hn]; show ¬ ((n : Int) < 0); omega
  · rw [hs] at hj; rw [hf j hj]; simp [List.getD_eq_getElem?_getD, hj]
  · rw [hs] at hj; simp [List.getD_eq_getElem?_getD, hj, fits]
theorem own_cat (n k n' : Nat) (g g2 : Nat → Int32) (h1 : k ≤ n) (h2 : k ≤ n') (j : Nat) (hj : j < n') : ((((List.range n').map fun j => Value.int (g2 j)).take 0 ++ ((List.range k).map fun i => ((List.range n).map fun j => Value.int (g j)).getD (0 + i) (.int 0))) ++ ((List.range n').map fun j => Value.int (g2 j)).drop (0 + k)).getD j (.int 0) = .int (if j < k then g j else g2 j) := by
  simp only [List.take_zero, List.nil_append, Nat.zero_add, List.getD_eq_getElem?_getD]
  by_cases q : j < k
  · rw [List.getElem?_append_left (by simpa using q)]
    simp [q, show j < n by omega]
  · rw [List.getElem?_append_right (by simpa using Nat.le_of_not_lt q)]
    simp [q, show k + (j - k) = j by omega, hj]
theorem g_cpI (X : Stand p l e R s m args below meth c T locs cells slots) (hx : p.tables.exec = Jvm.exec) (hby : c.code = bc) (hZ : Z.Warmed39 s.vm) {own : String} (hown : s.vm.findClass own = some m.cls) (eT : T.heap = h) {i ML : Nat} (hml : c.maxLocals = ML) (hls : Ls.size = ML) (w1 : (Jvm.Cond.methodLink own i Jvm.Stand.acN).before a0 Z = true) (w2 : (Jvm.Cond.native Jvm.Stand.acN).before a0 Z = true) (w3 : (Jvm.Cond.static Jvm.Stand.acN).before a0 Z = true) (w4 : (Jvm.Cond.initialized "java/lang/System").before a0 Z = true) {a b : Addr} {n n' k : Nat} {g g2 : Nat → Int32} (A : Ara Z h a .int n (fun j => .int (g j))) (B : Ara Z h b .int n' (fun j => .int (g2 j))) {nn : Int32} (hk : nn.toInt = k) (h1 : k ≤ n) (h2 : k ≤ n') {n0 : Nat} (N : Fr n0 locs) (ge : n0 ≤ b) (hd : decode bc pc = .ok (.invokestatic i, 3)) (hp : pc + 3 = pc') (hf : 1 ≤ R.frames) (hlo : (rest.map fun v => v.category).sum + (nativeFrameWords "java/lang/System" "arraycopy" 5 + 11) ≤ R.locals) (kk : ∀ T' h' L, Stand p l e R s m args below meth c T' L cells slots → T'.heap = h' → Fr n0 L → Keep h h' [b] → Ara Z h' b .int n' (fun j => .int (if j < k then g j else g2 j)) → Go p e below s Q mc ms m T' pc' Ls rest) : Go p e below s Q mc ms m T pc Ls (.int nn :: .int 0 :: .ref b :: .int 0 :: .ref a :: rest) := by
  subst hp
  obtain ⟨k1, z1, hz1, V1⟩ := A.arv
  obtain ⟨k2, z2, hz2, V2⟩ := B.arv
  have e0 : (0 : Int32).toNatClampNeg = 0 := rfl
  have en : nn.toNatClampNeg = k := by show nn.toInt.toNat = k; omega
  have ez1 : z1.toNatClampNeg = n := by show z1.toInt.toNat = n; omega
  have ez2 : z2.toNatClampNeg = n' := by show z2.toInt.toNat = n'; omega
  obtain ⟨T', h', L, X', e', N', K', V', st'⟩ := cpA X hx hZ hown w1 w2 w3 w4 eT V1 V2 (us := (List.range k).map fun i => ((List.range n).map fun j => Value.int (g j)).getD (0 + i) (.int 0)) (Or.inl ⟨rfl, rfl⟩) (sp := 0) (dp := 0) (nn := nn) (by decide) (by decide) (by rw [Int32.lt_iff_toInt_lt]; show ¬ nn.toInt < 0; omega) (by rw [e0, en, ez1]; omega) (by rw [e0, en, ez2]; omega) (by rw [e0, en]) (by rw [e0, en]; simp; omega) N ge (g := mkF m pc Ls (.int nn :: .int 0 :: .ref b :: .int 0 :: .ref a :: rest)) rfl (by rw [hml]; exact hls) (rest := rest) rfl (hb hby hd) hf (W := (rest.map fun v => v.category).sum) (by show 2 * 0 + _ ≤ _; omega) hlo
  refine Go.of st' (kk T' h' L X' e' N' K' ?_)
  obtain ⟨cl, A', -, hs, -, hH, -⟩ := V'
  refine ⟨cl, A', by rw [hs, ez2], by have := rng32 z2; omega, fun j hj => ?_⟩
  rw [hH j (by rw [hs, ez2]; exact hj), e0, en]
  exact congrArg some (own_cat n k n' g g2 h1 h2 j hj)
theorem g_static (X : Stand p l e R s m args below meth c T locs cells slots) (hx : p.tables.exec = Jvm.exec) (hby : c.code = bc) (hZ : Z.Warmed39 s.vm) {own : String} (hown : s.vm.findClass own = some m.cls) {i ML : Nat} {y : MethodName} {bytes : ByteArray} {maxL : Nat} {ret : Option FieldType} {rm : Room} {as' : Array Value} {QC : Option Value → Heap → List Loc → Prop} (hml : c.maxLocals = ML) (hls : Ls.size = ML) (w1 : (Jvm.Cond.methodLink own i y).before a0 Z = true) (w2 : (Jvm.Cond.static y).before a0 Z = true) (w3 : (Jvm.Cond.initialized y.cls).before a0 Z = true) (w4 : (Jvm.Cond.code y bytes maxL ret).before a0 Z = true) (hy : y.cls ≠ "java/lang/invoke/MethodHandle" ∧ y.cls ≠ "java/lang/invoke/VarHandle") (eT : T.heap = h) (M : Ct l Z y bytes maxL ret rm as' h QC) {ps : List FieldType} {r : Option FieldType} (pd : parseMethodDescriptor y.desc = some ⟨ps, r⟩) {argsL : List Value} (hl : argsL.length = ps.length) (has : argsL.toArray = as') (hst : st = argsL.reverse ++ rest) (hd : decode bc pc = .ok (.invokestatic i, 3)) (hp : pc + 3 = pc') (hf : rm.frames + 1 ≤ R.frames) (hlo : (rest.map fun v => v.category).sum + (maxL + 11) + rm.locals ≤ R.locals) (hc : cells + rm.cells ≤ R.cells) (hs : slots + rm.slots ≤ R.slots)
    (k : ∀ (T' : State) (v : Option Value) (L : List Loc), Stand p l e R s m args below meth c T' (locs ++ L) (cells + rm.cells) (slots + rm.slots) → QC v T'.heap L → Go p e below s Q mc ms m T' pc' Ls (v.toList ++ rest)) : Go p e below s Q mc ms m T pc Ls st := by
  subst hp has hst
  obtain ⟨v, vm₁, ⟨U, L', c', s'⟩, -, X', ⟨L, hQ, l1, l2, l3⟩, st⟩ := Jvm.LawKit.callS X hx (y := y) hown (mvT hZ w1) (mvT hZ w2) (mvT hZ w3) (mvT hZ w4) hy (backOf (W := (rest.map fun v => v.category).sum) M hZ w4 w3 hf hlo) (g := mkF m pc Ls (argsL.reverse ++ rest)) rfl (by rw [hml]; exact hls) (argsL := argsL) (rest := rest) (lenOf pd hl) rfl (by show 2 * 0 + _ ≤ _; omega) (hb hby hd) (fun _ _ => ⟨rfl, eT, hc, hs⟩)
  dsimp only at X' l1 l2 l3 st hQ
  subst l1 l2 l3
  exact Go.of st (k _ _ _ X' hQ)
theorem g_special (X : Stand p l e R s m args below meth c T locs cells slots) (hx : p.tables.exec = Jvm.exec) (hby : c.code = bc) (hZ : Z.Warmed39 s.vm) {own : String} (hown : s.vm.findClass own = some m.cls) {i ML : Nat} {y : MethodName} {bytes : ByteArray} {maxL : Nat} {ret : Option FieldType} {rm : Room} {as' : Array Value} {QC : Option Value → Heap → List Loc → Prop} (hy1 : y.name = "<init>") (hml : c.maxLocals = ML) (hls : Ls.size = ML) (w1 : (Jvm.Cond.methodLink own i y).before a0 Z = true) (w2 : (Jvm.Cond.instanceMethod y).before a0 Z = true) (w3 : (Jvm.Cond.initialized y.cls).before a0 Z = true) (hrt : ret = none) (w4 : (Jvm.Cond.code y bytes maxL ret).before a0 Z = true) (hy : y.cls ≠ "java/lang/invoke/MethodHandle" ∧ y.cls ≠ "java/lang/invoke/VarHandle") (eT : T.heap = h) (M : Ct l Z y bytes maxL ret rm as' h QC) {ps : List FieldType} {r : Option FieldType} (pd : parseMethodDescriptor y.desc = some ⟨ps, r⟩) {a : Addr} {argsL : List Value} (hl : argsL.length = ps.length) (has : (.ref a :: argsL).toArray = as') (hst : st = argsL.reverse ++ .ref a :: rest) (hd : decode bc pc = .ok (.invokespecial i, 3)) (hp : pc + 3 = pc') (hf : rm.frames + 1 ≤ R.frames) (hlo : (rest.map fun v => v.category).sum + (maxL + 11) + rm.locals ≤ R.locals) (hc : cells + rm.cells ≤ R.cells) (hs : slots + rm.slots ≤ R.slots)
    (k : ∀ (T' : State) (v : Option Value) (L : List Loc), Stand p l e R s m args below meth c T' (locs ++ L) (cells + rm.cells) (slots + rm.slots) → QC v T'.heap L → Go p e below s Q mc ms m T' pc' Ls (v.toList ++ rest)) : Go p e below s Q mc ms m T pc Ls st := by
  subst hp has hst hrt
  obtain ⟨v, vm₁, ⟨U, L', c', s'⟩, -, X', ⟨L, hQ, l1, l2, l3⟩, st⟩ := X.specialBack hx (y := y) hy1 hown (mvT hZ w1) (mvT hZ w2) (mvT hZ w4) hy (backOf (W := (rest.map fun v => v.category).sum) M hZ w4 w3 hf hlo) (g := mkF m pc Ls (argsL.reverse ++ .ref a :: rest)) rfl (by rw [hml]; exact hls) (Steps.refl _) (a := a) (argsL := argsL) (rest := rest) (lenOf pd hl) rfl (by show 2 * 0 + _ ≤ _; omega) (hb hby hd) (fun _ _ => ⟨rfl, eT, hc, hs⟩)
  dsimp only at X' l1 l2 l3 st hQ
  subst l1 l2 l3
  exact Go.of (fun _ q => st.trans q) (k _ _ _ X' hQ)
theorem g_virtual (X : Stand p l e R s m args below meth c T locs cells slots) (hx : p.tables.exec = Jvm.exec) (hby : c.code = bc) (hZ : Z.Warmed39 s.vm) {own : String} (hown : s.vm.findClass own = some m.cls) {i ML : Nat} {y : MethodName} {bytes : ByteArray} {maxL : Nat} {ret : Option FieldType} {rm : Room} {as' : Array Value} {QC : Option Value → Heap → List Loc → Prop} (hml : c.maxLocals = ML) (hls : Ls.size = ML) {C : String} (w1 : (Jvm.Cond.methodLink own i y).before a0 Z = true) (w2 : (Jvm.Cond.declares y).before a0 Z = true) (w5 : (Jvm.Cond.selects C y y).before a0 Z = true) (w6 : (Jvm.Cond.instanceMethod y).before a0 Z = true) (w3 : (Jvm.Cond.initialized y.cls).before a0 Z = true) (w4 : (Jvm.Cond.code y bytes maxL ret).before a0 Z = true) (hy : y.cls ≠ "java/lang/invoke/MethodHandle" ∧ y.cls ≠ "java/lang/invoke/VarHandle") (eT : T.heap = h) (M : Ct l Z y bytes maxL ret rm as' h QC) {ps : List FieldType} {r : Option FieldType} (pd : parseMethodDescriptor y.desc = some ⟨ps, r⟩) {a : Addr} (E : Exa Z h a C) {argsL : List Value} (hl : argsL.length = ps.length) (has : (.ref a :: argsL).toArray = as') (hst : st = argsL.reverse ++ .ref a :: rest) (hd : decode bc pc = .ok (.invokevirtual i, 3)) (hp : pc + 3 = pc') (hf : rm.frames + 1 ≤ R.frames) (hlo : (rest.map fun v => v.category).sum + (maxL + 11) + rm.locals ≤ R.locals) (hc : cells + rm.cells ≤ R.cells) (hs : slots + rm.slots ≤ R.slots)
    (k : ∀ (T' : State) (v : Option Value) (L : List Loc), Stand p l e R s m args below meth c T' (locs ++ L) (cells + rm.cells) (slots + rm.slots) → QC v T'.heap L → Go p e below s Q mc ms m T' pc' Ls (v.toList ++ rest)) : Go p e below s Q mc ms m T pc Ls st := by
  subst hp has hst
  obtain ⟨cB, kB, qa, qb, qc⟩ := isOf hZ eT E
  obtain ⟨v, vm₁, ⟨U, L', c', s'⟩, -, X', ⟨L, hQ, l1, l2, l3⟩, st⟩ := X.virtualBack hx (y := y) (z := y) hown (mvT hZ w1) (mvT hZ w2) (notFace_of_selects (args := #[]) (mvT hZ w5)) (mvT hZ w5) (mvT hZ w6) hy (backOf (W := (rest.map fun v => v.category).sum) M hZ w4 w3 hf hlo) qa qc (g := mkF m pc Ls (argsL.reverse ++ .ref a :: rest)) rfl (by rw [hml]; exact hls) (Steps.refl _) (argsL := argsL) (rest := rest) (lenOf pd hl) rfl (by show 2 * 0 + _ ≤ _; omega) (hb hby hd) (fun _ _ => ⟨rfl, eT, hc, hs⟩)
  dsimp only at X' l1 l2 l3 st hQ
  subst l1 l2 l3
  exact Go.of (fun _ q => st.trans q) (k _ _ _ X' hQ)
end OwnKit
section OwnLib
/-- b is 1 where P holds, 0 where it doesn't -/
def own_bool (b : Int32) (P : Prop) : Prop := (b = 1 ∧ P) ∨ (b = 0 ∧ ¬ P)
theorem own_bool_01 {b : Int32} {P : Prop} (h : own_bool b P) : b = 0 ∨ b = 1 := h.elim (fun q => Or.inr q.1) (fun q => Or.inl q.1)
theorem own_bool_iff {b : Int32} {P : Prop} (h : own_bool b P) : b = 1 ↔ P := h.elim (fun q => ⟨fun _ => q.2, fun _ => q.1⟩) (fun q => ⟨fun z => absurd (q.1.symm.trans z) (by decide), fun z => absurd z q.2⟩)
theorem own_bool_zero {b : Int32} {P : Prop} (h : own_bool b P) : b = 0 ↔ ¬ P := h.elim (fun q => ⟨fun z => absurd (q.1.symm.trans z) (by decide), fun z => absurd q.2 z⟩) (fun q => ⟨fun _ => q.2, fun _ => q.1⟩)
theorem own_bool_eq {a b : Int32} {P P' : Prop} (h : own_bool a P) (h' : own_bool b P') (i : P ↔ P') : a = b := by
  rcases h with ⟨rfl, q⟩ | ⟨rfl, q⟩ <;> rcases h' with ⟨rfl, q'⟩ | ⟨rfl, q'⟩ <;> first | rfl | exact absurd (i.mp q) q' | exact absurd (i.mpr q') q
theorem own_inc (i : Int32) (h : i.toInt < 2147483647) : (i + 1).toInt = i.toInt + 1 := by
  have a := c_iadd i 1
  have e : (1 : Int32).toInt = 1 := rfl
  rw [e] at a
  have b := rng32 i
  have b' := rng32 (i + 1)
  omega
theorem own_dec (i : Int32) (h : -2147483648 < i.toInt) : (i - 1).toInt = i.toInt - 1 := by
  have a := c_isub i 1
  have e : (1 : Int32).toInt = 1 := rfl
  rw [e] at a
  have b := rng32 i
  have b' := rng32 (i - 1)
  omega
theorem own_add (x y : Int32) (h1 : -2147483648 ≤ x.toInt + y.toInt) (h2 : x.toInt + y.toInt < 2147483648) : (x + y).toInt = x.toInt + y.toInt := by
  have a := c_iadd x y
  have b := rng32 (x + y)
  omega
theorem own_sub (x y : Int32) (h1 : -2147483648 ≤ x.toInt - y.toInt) (h2 : x.toInt - y.toInt < 2147483648) : (x - y).toInt = x.toInt - y.toInt := by
  have a := c_isub x y
  have b := rng32 (x - y)
  omega
/-- (u & 0x7fffffff) % n lies from 0 up to n - 1 -/
theorem own_modr (u n : Int32) (hn : 0 < n.toInt) : 0 ≤ ((u &&& 2147483647) % n).toInt ∧ ((u &&& 2147483647) % n).toInt < n.toInt := by
  have a1 := c_mask u 2147483647 31 (by decide) (by decide)
  have a2 := (c_iremV (u &&& 2147483647) n).1 (by omega) hn
  omega
def QI (h0 : Heap) (P : Int32 → Prop) : Option Value → Heap → List Loc → Prop := fun v h L => (∃ r, v = some (.int r) ∧ P r) ∧ h = h0 ∧ L = []
def QL (h0 : Heap) (P : Int64 → Prop) : Option Value → Heap → List Loc → Prop := fun v h L => (∃ r, v = some (.long r) ∧ P r) ∧ h = h0 ∧ L = []
def QV (h0 : Heap) : Option Value → Heap → List Loc → Prop := fun v h L => v = none ∧ h = h0 ∧ L = []
/-- what the law leaves -/
def Q0 (n0 : Nat) : Option Value → Heap → List Loc → Prop := fun v h L => v = some (.int 1) ∧ Fr n0 L
end OwnLib
theorem ef_6 (m : MethodId) (u : Int32) (w : Int32) : entryFrame m #[(.int u), (.int w)] 2 = mkF m 0 #[.val (.int u), .val (.int w)] [] := by first | (simp [entryFrame, mkF, argsToLocals, Value.category]; done) | rfl
theorem d6_0 : decode jdk_29_method_69_code 0 = .ok (.iload_n 0, 1) := by decide +kernel
theorem d6_1 : decode jdk_29_method_69_code 1 = .ok (.iload_n 1, 1) := by decide +kernel
theorem d6_2 : decode jdk_29_method_69_code 2 = .ok (.if_icmp .gt 7, 3) := by decide +kernel
theorem d6_9 : decode jdk_29_method_69_code 9 = .ok (.iload_n 1, 1) := by decide +kernel
theorem d6_10 : decode jdk_29_method_69_code 10 = .ok (.ireturn, 1) := by decide +kernel
theorem d6_5 : decode jdk_29_method_69_code 5 = .ok (.iload_n 0, 1) := by decide +kernel
theorem d6_6 : decode jdk_29_method_69_code 6 = .ok (.goto 4, 3) := by decide +kernel
set_option maxRecDepth 65536 in
set_option maxHeartbeats 40000000 in
theorem rm6 (l : Launch) (Z : State) (a0 : Array Value) (hw : ∀ d ∈ tables_1, d.before a0 Z = true) (u : Int32) (w : Int32) (h0 : Heap)  :
    Ct l Z (⟨"java/lang/Math", "min", "(II)I"⟩ : MethodName) jdk_29_method_69_code 2 (some .int) ({ frames := 0, cells := 0, slots := 0, locals := 0 } : Room) #[(.int u), (.int w)] h0 (QI h0 (fun r => r.toInt = min u.toInt w.toInt)) := by
  refine own_met (Jvm.Free.JP.mathPlain rfl (by decide +kernel)) (fun m => ef_6 m u w) ?_
  intro p e s m below meth c T0 X0 hx hby hml hown hnm hret hlk hZ e0
  refine g_iloadN X0 hx hby d6_0 (pc' := 1) rfl rfl ?_
  refine g_iloadN X0 hx hby d6_1 (pc' := 2) rfl rfl ?_
  refine g_icmpgt X0 hx hby d6_2 (pt := 9) (pf := 5) (by decide) (by decide) rfl (fun (h2 : w.toInt < u.toInt) => ?_) (fun (h2 : u.toInt ≤ w.toInt) => ?_)
  · refine g_iloadN X0 hx hby d6_9 (pc' := 10) rfl rfl ?_
    exact g_retI X0 hx hby hlk hret d6_10 (by decide) (by decide) (⟨⟨_, rfl, by omega⟩, e0, rfl⟩)
  · refine g_iloadN X0 hx hby d6_5 (pc' := 6) rfl rfl ?_
    refine g_goto X0 hx hby d6_6 (pc' := 10) (by decide) (by decide) ?_
    exact g_retI X0 hx hby hlk hret d6_10 (by decide) (by decide) (⟨⟨_, rfl, by omega⟩, e0, rfl⟩)
def QCp (Z : State) (n0 : Nat) (h0 : Heap) (g : Nat → Int32) : Option Value → Heap → List Loc → Prop := fun v h L => ∃ b : Addr, v = some (.ref b) ∧ Fr n0 L ∧ Keep h0 h [] ∧ h0.size ≤ b ∧ Ara Z h b .int 8 (fun j => .int (if j < 4 then g j else (0 : Int32)))
theorem ef_5 (m : MethodId) (a : Addr) : entryFrame m #[(.ref a), (.int (8 : Int32))] 3 = mkF m 0 #[.val (.ref a), .val (.int (8 : Int32)), .unset] [] := by first | (simp [entryFrame, mkF, argsToLocals, Value.category]; done) | rfl
theorem pn_5 : plainName "java/util/Arrays" = true := by first | (simp [plainName, overriddenIn]; done) | decide +kernel
theorem d5_0 : decode jdk_65_method_123_code 0 = .ok (.iload_n 1, 1) := by decide +kernel
theorem d5_1 : decode jdk_65_method_123_code 1 = .ok (.aload_n 0, 1) := by decide +kernel
theorem d5_2 : decode jdk_65_method_123_code 2 = .ok (.arraylength, 1) := by decide +kernel
theorem d5_3 : decode jdk_65_method_123_code 3 = .ok (.if_icmp .ne 11, 3) := by decide +kernel
theorem d5_14 : decode jdk_65_method_123_code 14 = .ok (.iload_n 1, 1) := by decide +kernel
theorem d5_15 : decode jdk_65_method_123_code 15 = .ok (.newarray .int, 2) := by decide +kernel
theorem d5_17 : decode jdk_65_method_123_code 17 = .ok (.astore_n 2, 1) := by decide +kernel
theorem d5_18 : decode jdk_65_method_123_code 18 = .ok (.aload_n 0, 1) := by decide +kernel
theorem d5_19 : decode jdk_65_method_123_code 19 = .ok (.iconst 0, 1) := by decide +kernel
theorem d5_20 : decode jdk_65_method_123_code 20 = .ok (.aload_n 2, 1) := by decide +kernel
theorem d5_21 : decode jdk_65_method_123_code 21 = .ok (.iconst 0, 1) := by decide +kernel
theorem d5_22 : decode jdk_65_method_123_code 22 = .ok (.aload_n 0, 1) := by decide +kernel
theorem d5_23 : decode jdk_65_method_123_code 23 = .ok (.arraylength, 1) := by decide +kernel
theorem d5_24 : decode jdk_65_method_123_code 24 = .ok (.iload_n 1, 1) := by decide +kernel
theorem d5_25 : decode jdk_65_method_123_code 25 = .ok (.invokestatic 304, 3) := by decide +kernel
theorem pd__II_I_300 : parseMethodDescriptor "(II)I" = some ⟨[.int, .int], some .int⟩ := by decide +kernel
theorem d5_28 : decode jdk_65_method_123_code 28 = .ok (.invokestatic 150, 3) := by decide +kernel
theorem d5_31 : decode jdk_65_method_123_code 31 = .ok (.aload_n 2, 1) := by decide +kernel
theorem d5_32 : decode jdk_65_method_123_code 32 = .ok (.areturn, 1) := by decide +kernel
set_option maxRecDepth 65536 in
set_option maxHeartbeats 40000000 in
theorem rm5 (l : Launch) (Z : State) (a0 : Array Value) (hw : ∀ d ∈ tables_1, d.before a0 Z = true) (a : Addr) (n0 : Nat) (g : Nat → Int32) (h0 : Heap) (Z0 : n0 ≤ h0.size) (A_a : Ara Z h0 a .int 4 (fun k => .int (g k))) :
    Ct l Z (⟨"java/util/Arrays", "copyOf", "([II)[I"⟩ : MethodName) jdk_65_method_123_code 3 (some (.array .int)) ({ frames := 1, cells := 1, slots := 8, locals := 64 } : Room) #[(.ref a), (.int (8 : Int32))] h0 (QCp Z n0 h0 g) := by
  refine own_met (plainFor_of_name pn_5) (fun m => ef_5 m a) ?_
  intro p e s m below meth c T0 X0 hx hby hml hown hnm hret hlk hZ e0
  have N0 := Fr.nil n0
  refine g_iloadN X0 hx hby d5_0 (pc' := 1) rfl rfl ?_
  refine g_aloadN X0 hx hby d5_1 (pc' := 2) rfl rfl rfl ?_
  refine a_arraylength X0 hx hby hZ e0 A_a (N := (4 : Int32)) rfl d5_2 (pc' := 3) rfl ?_
  refine g_icmpne X0 hx hby d5_3 (pt := 14) (pf := 6) (by decide) (by decide) rfl (fun (h3 : ¬ (8 : Int32) = (4 : Int32)) => ?_) (fun (h3 : (8 : Int32) = (4 : Int32)) => (by exfalso; revert h3; decide))
  refine g_iloadN X0 hx hby d5_14 (pc' := 15) rfl rfl ?_
  refine g_newA X0 hx hby hZ e0 (N := 8) (hw _ (List.mem_of_getElem? (i := 9) rfl)) d5_15 (pc' := 17) rfl rfl (cap := 8) (Nat.le_refl _) (by decide) (by decide) (by decide) (fun T1 h1 b g1 X1 e1 E1 A_b => ?_)
  have ne2 : a ≠ b := by rw [g1]; exact Nat.ne_of_lt A_a.lt
  have g3 : n0 ≤ b := by rw [g1]; exact Z0
  have o4 : h0.size ≤ b := by rw [g1]; exact (Keep.refl h0 []).1
  replace A_a := A_a.ext E1
  have Z5 : n0 ≤ h1.size := Nat.le_trans Z0 E1.1
  have K6 := (Keep.refl h0 []).ext E1
  replace X1 : Stand p l e ({ frames := 1, cells := 1, slots := 8, locals := 64 } : Room) s m _ below meth c T1 _ 1 8 := X1
  replace A_b : Ara Z h1 b .int 8 (fun jz => .int ((fun _ => (0 : Int32)) jz)) := A_b
  refine g_astoreN X1 hx hby d5_17 (pc' := 18) rfl rfl (Ls' := #[.val (.ref a), .val (.int (8 : Int32)), .val (.ref b)]) rfl ?_
  refine g_aloadN X1 hx hby d5_18 (pc' := 19) rfl rfl rfl ?_
  refine g_iconst X1 hx hby d5_19 (pc' := 20) rfl (n := (0 : Int32)) (by first | rfl | decide) ?_
  refine g_aloadN X1 hx hby d5_20 (pc' := 21) rfl rfl rfl ?_
  refine g_iconst X1 hx hby d5_21 (pc' := 22) rfl (n := (0 : Int32)) (by first | rfl | decide) ?_
  refine g_aloadN X1 hx hby d5_22 (pc' := 23) rfl rfl rfl ?_
  refine a_arraylength X1 hx hby hZ e1 A_a (N := (4 : Int32)) rfl d5_23 (pc' := 24) rfl ?_
  refine g_iloadN X1 hx hby d5_24 (pc' := 25) rfl rfl ?_
  refine g_static X1 hx hby hZ hown hml rfl (hw _ (List.mem_of_getElem? (i := 28) rfl)) (hw _ (List.mem_of_getElem? (i := 29) rfl)) (hw _ (List.mem_of_getElem? (i := 30) rfl)) (hw _ (List.mem_of_getElem? (i := 31) rfl)) (by decide) e1 (rm6 l Z a0 hw (4 : Int32) (8 : Int32) h1 ) pd__II_I_300 (argsL := [(.int (4 : Int32)), (.int (8 : Int32))]) (rest := [(.int (0 : Int32)), (.ref b), (.int (0 : Int32)), (.ref a)]) rfl rfl rfl d5_25 (pc' := 28) rfl (by decide) (Nat.le_of_ble_eq_true rfl) (by decide) (by decide) ?_
  intro Tp25 vp25 Lp25 Xp25 qp25
  obtain ⟨⟨rp25, rfl, h_rp25⟩, ep25, rfl⟩ := qp25
  rw [List.append_nil] at Xp25
  replace Xp25 : Stand p l e ({ frames := 1, cells := 1, slots := 8, locals := 64 } : Room) s m _ below meth c Tp25 _ 1 8 := Xp25
  show Go p e below s (QCp Z n0 h0 g) ({ frames := 1, cells := 1, slots := 8, locals := 64 } : Room).cells ({ frames := 1, cells := 1, slots := 8, locals := 64 } : Room).slots m Tp25 28 #[.val (.ref a), .val (.int (8 : Int32)), .val (.ref b)] [(.int rp25), (.int (0 : Int32)), (.ref b), (.int (0 : Int32)), (.ref a)]
  refine g_cpI Xp25 hx hby hZ hown ep25 hml rfl (hw _ (List.mem_of_getElem? (i := 32) rfl)) (hw _ (List.mem_of_getElem? (i := 35) rfl)) (hw _ (List.mem_of_getElem? (i := 33) rfl)) (hw _ (List.mem_of_getElem? (i := 34) rfl)) A_a A_b (k := 4) h_rp25 (by decide) (by decide) N0 g3 (rest := []) d5_28 (pc' := 31) rfl (by decide) (Nat.le_of_ble_eq_true rfl) (fun Tp28 hp28 Lp28 Xp28 ep28 Np28 Kp28 Ap28 => ?_)
  replace A_a := A_a.keep Kp28 (ninS ne2 nin0)
  have Z7 : n0 ≤ hp28.size := Nat.le_trans Z5 Kp28.1
  have K8 := K6.trans Kp28 (allS (Or.inr o4) all0)
  have A_b : Ara Z hp28 b .int 8 (fun jz => .int ((fun jz => if jz < 4 then g jz else (fun _ => (0 : Int32)) jz) jz)) := Ap28
  refine g_aloadN Xp28 hx hby d5_31 (pc' := 32) rfl rfl rfl ?_
  exact g_retA Xp28 hx hby hlk rfl rfl hret d5_32 (by decide) (by decide) (by rw [ep28]; exact ⟨b, rfl, Np28, K8, o4, A_b⟩)
def QIl (Z : State) (n0 : Nat) (o : Addr) (k : Int32) (cap : Nat) (g : Nat → Int32) : Option Value → Heap → List Loc → Prop := fun v h L => ∃ t : Addr, v = none ∧ Fr n0 L ∧ n0 ≤ t ∧ o ≠ t ∧ Exa Z h o "com/example/lucid_recall/lucidrecall/index/IntList" ∧ Fld Z h o "com/example/lucid_recall/lucidrecall/index/IntList" "size" "I" (.int k) ∧ Fld Z h o "com/example/lucid_recall/lucidrecall/index/IntList" "values" "[I" (.ref t) ∧ Ara Z h t .int cap (fun j => .int (g j))
theorem ef_1 (m : MethodId) (o : Addr) : entryFrame m #[(.ref o)] 1 = mkF m 0 #[.val (.ref o)] [] := by first | (simp [entryFrame, mkF, argsToLocals, Value.category]; done) | rfl
theorem pn_1 : plainName "com/example/lucid_recall/lucidrecall/index/IntList" = true := by first | (simp [plainName, overriddenIn]; done) | decide +kernel
theorem d1_0 : decode prog_19_method_1_code 0 = .ok (.aload_n 0, 1) := by decide +kernel
theorem d1_1 : decode prog_19_method_1_code 1 = .ok (.invokespecial 1, 3) := by decide +kernel
theorem d1_4 : decode prog_19_method_1_code 4 = .ok (.aload_n 0, 1) := by decide +kernel
theorem d1_5 : decode prog_19_method_1_code 5 = .ok (.iconst 4, 1) := by decide +kernel
theorem d1_6 : decode prog_19_method_1_code 6 = .ok (.newarray .int, 2) := by decide +kernel
theorem d1_8 : decode prog_19_method_1_code 8 = .ok (.putfield 7, 3) := by decide +kernel
theorem d1_11 : decode prog_19_method_1_code 11 = .ok (.return_, 1) := by decide +kernel
set_option maxRecDepth 65536 in
set_option maxHeartbeats 40000000 in
theorem rm1 (l : Launch) (Z : State) (a0 : Array Value) (hw : ∀ d ∈ tables_1, d.before a0 Z = true) (o : Addr) (n0 : Nat) (h0 : Heap) (Z0 : n0 ≤ h0.size) (g_o : n0 ≤ o) (E_o : Exa Z h0 o "com/example/lucid_recall/lucidrecall/index/IntList") (F1 : Fld Z h0 o "com/example/lucid_recall/lucidrecall/index/IntList" "size" "I" (.int (0 : Int32))) (F2 : Fld Z h0 o "com/example/lucid_recall/lucidrecall/index/IntList" "values" "[I" .null) :
    Ct l Z (⟨"com/example/lucid_recall/lucidrecall/index/IntList", "<init>", "()V"⟩ : MethodName) prog_19_method_1_code 1 none ({ frames := 1, cells := 1, slots := 4, locals := 12 } : Room) #[(.ref o)] h0 (QIl Z n0 o 0 4 (fun _ => (0 : Int32))) := by
  refine own_met (plainFor_of_name pn_1) (fun m => ef_1 m o) ?_
  intro p e s m below meth c T0 X0 hx hby hml hown hnm hret hlk hZ e0
  have N0 := Fr.nil n0
  refine g_aloadN X0 hx hby d1_0 (pc' := 1) rfl rfl rfl ?_
  refine g_initO X0 hx hby hZ hown e0 (hw _ (List.mem_of_getElem? (i := 6) rfl)) (hw _ (List.mem_of_getElem? (i := 7) rfl)) (hw _ (List.mem_of_getElem? (i := 8) rfl)) hml rfl d1_1 (pc' := 4) rfl (by decide) (Nat.le_of_ble_eq_true rfl) (fun Tp1 Xp1 ep1 => ?_)
  refine g_aloadN Xp1 hx hby d1_4 (pc' := 5) rfl rfl rfl ?_
  refine g_iconst Xp1 hx hby d1_5 (pc' := 6) rfl (n := (4 : Int32)) (by first | rfl | decide) ?_
  refine g_newA Xp1 hx hby hZ ep1 (N := 4) (hw _ (List.mem_of_getElem? (i := 9) rfl)) d1_6 (pc' := 8) rfl rfl (cap := 4) (Nat.le_refl _) (by decide) (by decide) (by decide) (fun T1 h1 t g1 X1 e1 E1 A_t => ?_)
  have ne2 : o ≠ t := by rw [g1]; exact Nat.ne_of_lt E_o.lt
  have g3 : n0 ≤ t := by rw [g1]; exact Z0
  replace E_o := E_o.ext E1
  replace F1 := F1.ext E1
  replace F2 := F2.ext E1
  have Z4 : n0 ≤ h1.size := Nat.le_trans Z0 E1.1
  replace X1 : Stand p l e ({ frames := 1, cells := 1, slots := 4, locals := 12 } : Room) s m _ below meth c T1 _ 1 4 := X1
  replace A_t : Ara Z h1 t .int 4 (fun jz => .int ((fun _ => (0 : Int32)) jz)) := A_t
  refine g_putF X1 hx hby hZ hown e1 (hw _ (List.mem_of_getElem? (i := 10) rfl)) F2 E_o (Or.inl (hw _ (List.mem_of_getElem? (i := 11) rfl))) (hw _ (List.mem_of_getElem? (i := 1) rfl)) (ty := (.array .int)) (by decide) rfl rfl d1_8 (pc' := 11) rfl (fun T5 h5 X5 e5 W5 => ?_)
  replace E_o := E_o.wr W5
  replace F1 := F1.other W5 (Or.inr (slot_ne (Or.inl (hw _ (List.mem_of_getElem? (i := 18) rfl))) (Or.inl (hw _ (List.mem_of_getElem? (i := 11) rfl))) (by decide) (t := .int) (t' := (.array .int)) (by decide) (by decide)))
  replace F2 := F2.same W5
  replace A_t := A_t.other W5 (Ne.symm ne2)
  have Z6 : n0 ≤ h5.size := by rw [W5.size]; exact Z4
  have N7 := Fr.snoc X5 N0 g_o
  exact g_retV X5 hx hby hlk hret d1_11 (by decide) (by decide) (by rw [e5]; exact ⟨t, rfl, N7, g3, ne2, E_o, F1, F2, A_t⟩)
theorem ef_4_rm_add (m : MethodId) (o : Addr) (ux : Int32) : entryFrame m #[(.ref o), (.int ux)] 2 = mkF m 0 #[.val (.ref o), .val (.int ux)] [] := by first | (simp [entryFrame, mkF, argsToLocals, Value.category]; done) | rfl
theorem pn_4 : plainName "com/example/lucid_recall/lucidrecall/index/IntList" = true := by first | (simp [plainName, overriddenIn]; done) | decide +kernel
theorem d4_0 : decode prog_19_method_2_code 0 = .ok (.aload_n 0, 1) := by decide +kernel
theorem d4_1 : decode prog_19_method_2_code 1 = .ok (.getfield 13, 3) := by decide +kernel
theorem d4_4 : decode prog_19_method_2_code 4 = .ok (.aload_n 0, 1) := by decide +kernel
theorem d4_5 : decode prog_19_method_2_code 5 = .ok (.getfield 7, 3) := by decide +kernel
theorem d4_8 : decode prog_19_method_2_code 8 = .ok (.arraylength, 1) := by decide +kernel
theorem d4_9 : decode prog_19_method_2_code 9 = .ok (.if_icmp .ne 20, 3) := by decide +kernel
theorem d4_29 : decode prog_19_method_2_code 29 = .ok (.aload_n 0, 1) := by decide +kernel
theorem d4_30 : decode prog_19_method_2_code 30 = .ok (.getfield 7, 3) := by decide +kernel
theorem d4_33 : decode prog_19_method_2_code 33 = .ok (.aload_n 0, 1) := by decide +kernel
theorem d4_34 : decode prog_19_method_2_code 34 = .ok (.getfield 13, 3) := by decide +kernel
theorem d4_37 : decode prog_19_method_2_code 37 = .ok (.iload_n 1, 1) := by decide +kernel
theorem d4_38 : decode prog_19_method_2_code 38 = .ok (.iastore, 1) := by decide +kernel
theorem d4_39 : decode prog_19_method_2_code 39 = .ok (.aload_n 0, 1) := by decide +kernel
theorem d4_40 : decode prog_19_method_2_code 40 = .ok (.dup, 1) := by decide +kernel
theorem d4_41 : decode prog_19_method_2_code 41 = .ok (.getfield 13, 3) := by decide +kernel
theorem d4_44 : decode prog_19_method_2_code 44 = .ok (.iconst 1, 1) := by decide +kernel
theorem d4_45 : decode prog_19_method_2_code 45 = .ok (.iadd, 1) := by decide +kernel
theorem d4_46 : decode prog_19_method_2_code 46 = .ok (.putfield 13, 3) := by decide +kernel
theorem d4_49 : decode prog_19_method_2_code 49 = .ok (.return_, 1) := by decide +kernel
set_option maxRecDepth 65536 in
set_option maxHeartbeats 40000000 in
theorem rm_add (l : Launch) (Z : State) (a0 : Array Value) (hw : ∀ d ∈ tables_1, d.before a0 Z = true) (o : Addr) (ux : Int32) (n0 : Nat) (t : Addr) (k cI : Int32) (cap : Nat) (g : Nat → Int32) (h0 : Heap) (Z0 : n0 ≤ h0.size) (g_o : n0 ≤ o) (g_t : n0 ≤ t) (ne_t : o ≠ t) (E_o : Exa Z h0 o "com/example/lucid_recall/lucidrecall/index/IntList") (F1 : Fld Z h0 o "com/example/lucid_recall/lucidrecall/index/IntList" "size" "I" (.int k)) (F2 : Fld Z h0 o "com/example/lucid_recall/lucidrecall/index/IntList" "values" "[I" (.ref t)) (A_t : Ara Z h0 t .int cap (fun j => .int (g j))) (hcI : cI.toInt = cap) (hk : 0 ≤ k.toInt ∧ k.toInt < cap) :
    Ct l Z (⟨"com/example/lucid_recall/lucidrecall/index/IntList", "add", "(I)V"⟩ : MethodName) prog_19_method_2_code 2 none ({ frames := 0, cells := 0, slots := 0, locals := 0 } : Room) #[(.ref o), (.int ux)] h0 (QIl Z n0 o (k + 1) cap (own_ui g k.toInt.toNat ux)) := by
  refine own_met (plainFor_of_name pn_4) (fun m => ef_4_rm_add m o ux) ?_
  intro p e s m below meth c T0 X0 hx hby hml hown hnm hret hlk hZ e0
  have N0 := Fr.nil n0
  refine g_aloadN X0 hx hby d4_0 (pc' := 1) rfl rfl rfl ?_
  refine g_getF X0 hx hby hZ hown e0 (hw _ (List.mem_of_getElem? (i := 17) rfl)) F1 d4_1 (pc' := 4) rfl (fun T1 X1 e1 => ?_)
  refine g_aloadN X1 hx hby d4_4 (pc' := 5) rfl rfl rfl ?_
  refine g_getF X1 hx hby hZ hown e1 (hw _ (List.mem_of_getElem? (i := 10) rfl)) F2 d4_5 (pc' := 8) rfl (fun T2 X2 e2 => ?_)
  refine a_arraylength X2 hx hby hZ e2 A_t (N := cI) hcI d4_8 (pc' := 9) rfl ?_
  refine g_icmpne X2 hx hby d4_9 (pt := 29) (pf := 12) (by decide) (by decide) rfl (fun (h9 : ¬ k = cI) => ?_) (fun (h9 : k = cI) => (by exfalso; have := congrArg Int32.toInt h9; omega))
  have h9i : ¬ k.toInt = cI.toInt := fun q => h9 (Int32.toInt_inj.mp q)
  refine g_aloadN X2 hx hby d4_29 (pc' := 30) rfl rfl rfl ?_
  refine g_getF X2 hx hby hZ hown e2 (hw _ (List.mem_of_getElem? (i := 10) rfl)) F2 d4_30 (pc' := 33) rfl (fun T3 X3 e3 => ?_)
  refine g_aloadN X3 hx hby d4_33 (pc' := 34) rfl rfl rfl ?_
  refine g_getF X3 hx hby hZ hown e3 (hw _ (List.mem_of_getElem? (i := 17) rfl)) F1 d4_34 (pc' := 37) rfl (fun T4 X4 e4 => ?_)
  refine g_iloadN X4 hx hby d4_37 (pc' := 38) rfl rfl ?_
  refine a_iastore X4 hx hby hZ e4 A_t (by omega) (by omega) d4_38 (pc' := 39) rfl (fun T5 h5 X5 e5 W5 => ?_)
  replace E_o := E_o.wr W5
  replace F1 := F1.other W5 (Or.inl ne_t)
  replace F2 := F2.other W5 (Or.inl ne_t)
  have Z6 : n0 ≤ h5.size := by rw [W5.size]; exact Z0
  have N7 := Fr.snoc X5 N0 g_t
  replace A_t : Ara Z h5 t .int cap (fun jz => .int ((own_ui g k.toInt.toNat ux) jz)) := A_t.setI W5
  refine g_aloadN X5 hx hby d4_39 (pc' := 40) rfl rfl rfl ?_
  refine g_dup X5 hx hby d4_40 (pc' := 41) rfl rfl ?_
  refine g_getF X5 hx hby hZ hown e5 (hw _ (List.mem_of_getElem? (i := 17) rfl)) F1 d4_41 (pc' := 44) rfl (fun T8 X8 e8 => ?_)
  refine g_iconst X8 hx hby d4_44 (pc' := 45) rfl (n := (1 : Int32)) (by first | rfl | decide) ?_
  refine g_iadd X8 hx hby d4_45 (pc' := 46) rfl ?_
  refine g_putF X8 hx hby hZ hown e8 (hw _ (List.mem_of_getElem? (i := 17) rfl)) F1 E_o (Or.inl (hw _ (List.mem_of_getElem? (i := 18) rfl))) (hw _ (List.mem_of_getElem? (i := 1) rfl)) (ty := .int) (by decide) rfl rfl d4_46 (pc' := 49) rfl (fun T9 h9 X9 e9 W9 => ?_)
  replace E_o := E_o.wr W9
  replace F1 := F1.same W9
  replace F2 := F2.other W9 (Or.inr (slot_ne (Or.inl (hw _ (List.mem_of_getElem? (i := 11) rfl))) (Or.inl (hw _ (List.mem_of_getElem? (i := 18) rfl))) (by decide) (t := (.array .int)) (t' := .int) (by decide) (by decide)))
  replace A_t := A_t.other W9 (Ne.symm ne_t)
  have Z10 : n0 ≤ h9.size := by rw [W9.size]; exact Z6
  have N11 := Fr.snoc X9 N7 g_o
  exact g_retV X9 hx hby hlk hret d4_49 (by decide) (by decide) (by rw [e9]; exact ⟨t, rfl, N11, g_t, ne_t, E_o, F1, F2, A_t⟩)
theorem ef_4_rm_grow (m : MethodId) (o : Addr) (ux : Int32) : entryFrame m #[(.ref o), (.int ux)] 2 = mkF m 0 #[.val (.ref o), .val (.int ux)] [] := by first | (simp [entryFrame, mkF, argsToLocals, Value.category]; done) | rfl
theorem d4_12 : decode prog_19_method_2_code 12 = .ok (.aload_n 0, 1) := by decide +kernel
theorem d4_13 : decode prog_19_method_2_code 13 = .ok (.aload_n 0, 1) := by decide +kernel
theorem d4_14 : decode prog_19_method_2_code 14 = .ok (.getfield 7, 3) := by decide +kernel
theorem d4_17 : decode prog_19_method_2_code 17 = .ok (.aload_n 0, 1) := by decide +kernel
theorem d4_18 : decode prog_19_method_2_code 18 = .ok (.getfield 13, 3) := by decide +kernel
theorem d4_21 : decode prog_19_method_2_code 21 = .ok (.iconst 2, 1) := by decide +kernel
theorem d4_22 : decode prog_19_method_2_code 22 = .ok (.imul, 1) := by decide +kernel
theorem d4_23 : decode prog_19_method_2_code 23 = .ok (.invokestatic 17, 3) := by decide +kernel
theorem pd___II__I_482 : parseMethodDescriptor "([II)[I" = some ⟨[(.array .int), .int], some (.array .int)⟩ := by decide +kernel
theorem d4_26 : decode prog_19_method_2_code 26 = .ok (.putfield 7, 3) := by decide +kernel
set_option maxRecDepth 65536 in
set_option maxHeartbeats 40000000 in
theorem rm_grow (l : Launch) (Z : State) (a0 : Array Value) (hw : ∀ d ∈ tables_1, d.before a0 Z = true) (o : Addr) (ux : Int32) (n0 : Nat) (t : Addr) (g : Nat → Int32) (h0 : Heap) (Z0 : n0 ≤ h0.size) (g_o : n0 ≤ o) (g_t : n0 ≤ t) (ne_t : o ≠ t) (E_o : Exa Z h0 o "com/example/lucid_recall/lucidrecall/index/IntList") (F1 : Fld Z h0 o "com/example/lucid_recall/lucidrecall/index/IntList" "size" "I" (.int (4 : Int32))) (F2 : Fld Z h0 o "com/example/lucid_recall/lucidrecall/index/IntList" "values" "[I" (.ref t)) (A_t : Ara Z h0 t .int 4 (fun j => .int (g j))) :
    Ct l Z (⟨"com/example/lucid_recall/lucidrecall/index/IntList", "add", "(I)V"⟩ : MethodName) prog_19_method_2_code 2 none ({ frames := 2, cells := 1, slots := 8, locals := 80 } : Room) #[(.ref o), (.int ux)] h0 (QIl Z n0 o 5 8 (own_ui (fun j => if j < 4 then g j else (0 : Int32)) 4 ux)) := by
  refine own_met (plainFor_of_name pn_4) (fun m => ef_4_rm_grow m o ux) ?_
  intro p e s m below meth c T0 X0 hx hby hml hown hnm hret hlk hZ e0
  have N0 := Fr.nil n0
  refine g_aloadN X0 hx hby d4_0 (pc' := 1) rfl rfl rfl ?_
  refine g_getF X0 hx hby hZ hown e0 (hw _ (List.mem_of_getElem? (i := 17) rfl)) F1 d4_1 (pc' := 4) rfl (fun T1 X1 e1 => ?_)
  refine g_aloadN X1 hx hby d4_4 (pc' := 5) rfl rfl rfl ?_
  refine g_getF X1 hx hby hZ hown e1 (hw _ (List.mem_of_getElem? (i := 10) rfl)) F2 d4_5 (pc' := 8) rfl (fun T2 X2 e2 => ?_)
  refine a_arraylength X2 hx hby hZ e2 A_t (N := (4 : Int32)) rfl d4_8 (pc' := 9) rfl ?_
  refine g_icmpne X2 hx hby d4_9 (pt := 29) (pf := 12) (by decide) (by decide) rfl (fun (h9 : ¬ (4 : Int32) = (4 : Int32)) => (by exfalso; revert h9; decide)) (fun (h9 : (4 : Int32) = (4 : Int32)) => ?_)
  refine g_aloadN X2 hx hby d4_12 (pc' := 13) rfl rfl rfl ?_
  refine g_aloadN X2 hx hby d4_13 (pc' := 14) rfl rfl rfl ?_
  refine g_getF X2 hx hby hZ hown e2 (hw _ (List.mem_of_getElem? (i := 10) rfl)) F2 d4_14 (pc' := 17) rfl (fun T3 X3 e3 => ?_)
  refine g_aloadN X3 hx hby d4_17 (pc' := 18) rfl rfl rfl ?_
  refine g_getF X3 hx hby hZ hown e3 (hw _ (List.mem_of_getElem? (i := 17) rfl)) F1 d4_18 (pc' := 21) rfl (fun T4 X4 e4 => ?_)
  refine g_iconst X4 hx hby d4_21 (pc' := 22) rfl (n := (2 : Int32)) (by first | rfl | decide) ?_
  refine g_imul X4 hx hby d4_22 (pc' := 23) rfl ?_
  show Go p e below s (QIl Z n0 o 5 8 (own_ui (fun j => if j < 4 then g j else (0 : Int32)) 4 ux)) ({ frames := 2, cells := 1, slots := 8, locals := 80 } : Room).cells ({ frames := 2, cells := 1, slots := 8, locals := 80 } : Room).slots m T4 23 #[.val (.ref o), .val (.int ux)] [(.int (8 : Int32)), (.ref t), (.ref o)]
  show Go p e below s (QIl Z n0 o 5 8 (own_ui (fun j => if j < 4 then g j else (0 : Int32)) 4 ux)) ({ frames := 2, cells := 1, slots := 8, locals := 80 } : Room).cells ({ frames := 2, cells := 1, slots := 8, locals := 80 } : Room).slots m T4 23 #[.val (.ref o), .val (.int ux)] [(.int (8 : Int32)), (.ref t), (.ref o)]
  refine g_static X4 hx hby hZ hown hml rfl (hw _ (List.mem_of_getElem? (i := 24) rfl)) (hw _ (List.mem_of_getElem? (i := 25) rfl)) (hw _ (List.mem_of_getElem? (i := 26) rfl)) (hw _ (List.mem_of_getElem? (i := 27) rfl)) (by decide) e4 (rm5 l Z a0 hw t n0 _ h0 Z0 A_t) pd___II__I_482 (argsL := [(.ref t), (.int (8 : Int32))]) (rest := [(.ref o)]) rfl rfl rfl d4_23 (pc' := 26) rfl (by decide) (Nat.le_of_ble_eq_true rfl) (by decide) (by decide) ?_
  intro Tp23 vp23 Lp23 Xp23 qp23
  obtain ⟨tb, rfl, Nqp23, Kp23, oldp23, A_tb⟩ := qp23
  have ne_o_tb : o ≠ tb := Nat.ne_of_lt (Nat.lt_of_lt_of_le E_o.lt oldp23)
  have ne_t_tb : t ≠ tb := Nat.ne_of_lt (Nat.lt_of_lt_of_le A_t.lt oldp23)
  have g_tb : n0 ≤ tb := Nat.le_trans Z0 oldp23
  replace Xp23 : Stand p l e ({ frames := 2, cells := 1, slots := 8, locals := 80 } : Room) s m _ below meth c Tp23 _ 1 8 := Xp23
  replace E_o := E_o.keep Kp23
  replace F1 := F1.keep Kp23 nin0
  replace F2 := F2.keep Kp23 nin0
  replace A_t := A_t.keep Kp23 nin0
  have Z5 : n0 ≤ Tp23.heap.size := Nat.le_trans Z0 Kp23.1
  have Np23 := Fr.app N0 Nqp23
  show Go p e below s (QIl Z n0 o 5 8 (own_ui (fun j => if j < 4 then g j else (0 : Int32)) 4 ux)) ({ frames := 2, cells := 1, slots := 8, locals := 80 } : Room).cells ({ frames := 2, cells := 1, slots := 8, locals := 80 } : Room).slots m Tp23 26 #[.val (.ref o), .val (.int ux)] [(.ref tb), (.ref o)]
  refine g_putF Xp23 hx hby hZ hown rfl (hw _ (List.mem_of_getElem? (i := 10) rfl)) F2 E_o (Or.inl (hw _ (List.mem_of_getElem? (i := 11) rfl))) (hw _ (List.mem_of_getElem? (i := 1) rfl)) (ty := (.array .int)) (by decide) rfl rfl d4_26 (pc' := 29) rfl (fun T6 h6 X6 e6 W6 => ?_)
  replace E_o := E_o.wr W6
  replace F1 := F1.other W6 (Or.inr (slot_ne (Or.inl (hw _ (List.mem_of_getElem? (i := 18) rfl))) (Or.inl (hw _ (List.mem_of_getElem? (i := 11) rfl))) (by decide) (t := .int) (t' := (.array .int)) (by decide) (by decide)))
  replace F2 := F2.same W6
  replace A_t := A_t.other W6 (Ne.symm ne_t)
  replace A_tb := A_tb.other W6 (Ne.symm ne_o_tb)
  have Z7 : n0 ≤ h6.size := by rw [W6.size]; exact Z5
  have N8 := Fr.snoc X6 Np23 g_o
  refine g_aloadN X6 hx hby d4_29 (pc' := 30) rfl rfl rfl ?_
  refine g_getF X6 hx hby hZ hown e6 (hw _ (List.mem_of_getElem? (i := 10) rfl)) F2 d4_30 (pc' := 33) rfl (fun T9 X9 e9 => ?_)
  refine g_aloadN X9 hx hby d4_33 (pc' := 34) rfl rfl rfl ?_
  refine g_getF X9 hx hby hZ hown e9 (hw _ (List.mem_of_getElem? (i := 17) rfl)) F1 d4_34 (pc' := 37) rfl (fun T10 X10 e10 => ?_)
  refine g_iloadN X10 hx hby d4_37 (pc' := 38) rfl rfl ?_
  refine a_iastore X10 hx hby hZ e10 A_tb (by decide) (by decide) d4_38 (pc' := 39) rfl (fun T11 h11 X11 e11 W11 => ?_)
  replace E_o := E_o.wr W11
  replace F1 := F1.other W11 (Or.inl ne_o_tb)
  replace F2 := F2.other W11 (Or.inl ne_o_tb)
  replace A_t := A_t.other W11 ne_t_tb
  have Z12 : n0 ≤ h11.size := by rw [W11.size]; exact Z7
  have N13 := Fr.snoc X11 N8 g_tb
  replace A_tb : Ara Z h11 tb .int 8 (fun jz => .int ((own_ui (fun j => if j < 4 then g j else (0 : Int32)) 4 ux) jz)) := A_tb.setI W11
  refine g_aloadN X11 hx hby d4_39 (pc' := 40) rfl rfl rfl ?_
  refine g_dup X11 hx hby d4_40 (pc' := 41) rfl rfl ?_
  refine g_getF X11 hx hby hZ hown e11 (hw _ (List.mem_of_getElem? (i := 17) rfl)) F1 d4_41 (pc' := 44) rfl (fun T14 X14 e14 => ?_)
  refine g_iconst X14 hx hby d4_44 (pc' := 45) rfl (n := (1 : Int32)) (by first | rfl | decide) ?_
  refine g_iadd X14 hx hby d4_45 (pc' := 46) rfl ?_
  show Go p e below s (QIl Z n0 o 5 8 (own_ui (fun j => if j < 4 then g j else (0 : Int32)) 4 ux)) ({ frames := 2, cells := 1, slots := 8, locals := 80 } : Room).cells ({ frames := 2, cells := 1, slots := 8, locals := 80 } : Room).slots m T14 46 #[.val (.ref o), .val (.int ux)] [(.int (5 : Int32)), (.ref o)]
  refine g_putF X14 hx hby hZ hown e14 (hw _ (List.mem_of_getElem? (i := 17) rfl)) F1 E_o (Or.inl (hw _ (List.mem_of_getElem? (i := 18) rfl))) (hw _ (List.mem_of_getElem? (i := 1) rfl)) (ty := .int) (by decide) rfl rfl d4_46 (pc' := 49) rfl (fun T15 h15 X15 e15 W15 => ?_)
  replace E_o := E_o.wr W15
  replace F1 := F1.same W15
  replace F2 := F2.other W15 (Or.inr (slot_ne (Or.inl (hw _ (List.mem_of_getElem? (i := 11) rfl))) (Or.inl (hw _ (List.mem_of_getElem? (i := 18) rfl))) (by decide) (t := (.array .int)) (t' := .int) (by decide) (by decide)))
  replace A_t := A_t.other W15 (Ne.symm ne_t)
  replace A_tb := A_tb.other W15 (Ne.symm ne_o_tb)
  have Z16 : n0 ≤ h15.size := by rw [W15.size]; exact Z12
  have N17 := Fr.snoc X15 N13 g_o
  exact g_retV X15 hx hby hlk hret d4_49 (by decide) (by decide) (by rw [e15]; exact ⟨tb, rfl, N17, g_tb, ne_o_tb, E_o, F1, F2, A_tb⟩)
theorem ef_3 (m : MethodId) (o : Addr) : entryFrame m #[(.ref o)] 1 = mkF m 0 #[.val (.ref o)] [] := by first | (simp [entryFrame, mkF, argsToLocals, Value.category]; done) | rfl
theorem pn_3 : plainName "com/example/lucid_recall/lucidrecall/index/IntList" = true := by first | (simp [plainName, overriddenIn]; done) | decide +kernel
theorem d3_0 : decode prog_19_method_4_code 0 = .ok (.aload_n 0, 1) := by decide +kernel
theorem d3_1 : decode prog_19_method_4_code 1 = .ok (.getfield 13, 3) := by decide +kernel
theorem d3_4 : decode prog_19_method_4_code 4 = .ok (.ireturn, 1) := by decide +kernel
set_option maxRecDepth 65536 in
set_option maxHeartbeats 40000000 in
theorem rm3 (l : Launch) (Z : State) (a0 : Array Value) (hw : ∀ d ∈ tables_1, d.before a0 Z = true) (o : Addr) (k : Int32) (h0 : Heap) (F1 : Fld Z h0 o "com/example/lucid_recall/lucidrecall/index/IntList" "size" "I" (.int k)) :
    Ct l Z (⟨"com/example/lucid_recall/lucidrecall/index/IntList", "size", "()I"⟩ : MethodName) prog_19_method_4_code 1 (some .int) ({ frames := 0, cells := 0, slots := 0, locals := 0 } : Room) #[(.ref o)] h0 (QI h0 (fun r => r = k)) := by
  refine own_met (plainFor_of_name pn_3) (fun m => ef_3 m o) ?_
  intro p e s m below meth c T0 X0 hx hby hml hown hnm hret hlk hZ e0
  refine g_aloadN X0 hx hby d3_0 (pc' := 1) rfl rfl rfl ?_
  refine g_getF X0 hx hby hZ hown e0 (hw _ (List.mem_of_getElem? (i := 17) rfl)) F1 d3_1 (pc' := 4) rfl (fun T1 X1 e1 => ?_)
  exact g_retI X1 hx hby hlk hret d3_4 (by decide) (by decide) (⟨⟨_, rfl, rfl⟩, e1, rfl⟩)
theorem ef_8 (m : MethodId) (o : Addr) (i : Int32) : entryFrame m #[(.ref o), (.int i)] 2 = mkF m 0 #[.val (.ref o), .val (.int i)] [] := by first | (simp [entryFrame, mkF, argsToLocals, Value.category]; done) | rfl
theorem pn_8 : plainName "com/example/lucid_recall/lucidrecall/index/IntList" = true := by first | (simp [plainName, overriddenIn]; done) | decide +kernel
theorem d8_0 : decode prog_19_method_3_code 0 = .ok (.iload_n 1, 1) := by decide +kernel
theorem d8_1 : decode prog_19_method_3_code 1 = .ok (.aload_n 0, 1) := by decide +kernel
theorem d8_2 : decode prog_19_method_3_code 2 = .ok (.getfield 13, 3) := by decide +kernel
theorem d8_5 : decode prog_19_method_3_code 5 = .ok (.if_icmp .lt 12, 3) := by decide +kernel
theorem d8_17 : decode prog_19_method_3_code 17 = .ok (.aload_n 0, 1) := by decide +kernel
theorem d8_18 : decode prog_19_method_3_code 18 = .ok (.getfield 7, 3) := by decide +kernel
theorem d8_21 : decode prog_19_method_3_code 21 = .ok (.iload_n 1, 1) := by decide +kernel
theorem d8_22 : decode prog_19_method_3_code 22 = .ok (.iaload, 1) := by decide +kernel
theorem d8_23 : decode prog_19_method_3_code 23 = .ok (.ireturn, 1) := by decide +kernel
set_option maxRecDepth 65536 in
set_option maxHeartbeats 40000000 in
theorem rm8 (l : Launch) (Z : State) (a0 : Array Value) (hw : ∀ d ∈ tables_1, d.before a0 Z = true) (o : Addr) (i : Int32) (t : Addr) (k : Int32) (cap : Nat) (g : Nat → Int32) (h0 : Heap) (F1 : Fld Z h0 o "com/example/lucid_recall/lucidrecall/index/IntList" "size" "I" (.int k)) (F2 : Fld Z h0 o "com/example/lucid_recall/lucidrecall/index/IntList" "values" "[I" (.ref t)) (A_t : Ara Z h0 t .int cap (fun j => .int (g j))) (hi : 0 ≤ i.toInt ∧ i.toInt < k.toInt) (hk : k.toInt ≤ cap) :
    Ct l Z (⟨"com/example/lucid_recall/lucidrecall/index/IntList", "get", "(I)I"⟩ : MethodName) prog_19_method_3_code 2 (some .int) ({ frames := 0, cells := 0, slots := 0, locals := 0 } : Room) #[(.ref o), (.int i)] h0 (QI h0 (fun r => r = g i.toInt.toNat)) := by
  refine own_met (plainFor_of_name pn_8) (fun m => ef_8 m o i) ?_
  intro p e s m below meth c T0 X0 hx hby hml hown hnm hret hlk hZ e0
  refine g_iloadN X0 hx hby d8_0 (pc' := 1) rfl rfl ?_
  refine g_aloadN X0 hx hby d8_1 (pc' := 2) rfl rfl rfl ?_
  refine g_getF X0 hx hby hZ hown e0 (hw _ (List.mem_of_getElem? (i := 17) rfl)) F1 d8_2 (pc' := 5) rfl (fun T1 X1 e1 => ?_)
  refine g_icmplt X1 hx hby d8_5 (pt := 17) (pf := 8) (by decide) (by decide) rfl (fun (h5 : i.toInt < k.toInt) => ?_) (fun (h5 : k.toInt ≤ i.toInt) => (by exfalso; omega))
  refine g_aloadN X1 hx hby d8_17 (pc' := 18) rfl rfl rfl ?_
  refine g_getF X1 hx hby hZ hown e1 (hw _ (List.mem_of_getElem? (i := 10) rfl)) F2 d8_18 (pc' := 21) rfl (fun T2 X2 e2 => ?_)
  refine g_iloadN X2 hx hby d8_21 (pc' := 22) rfl rfl ?_
  refine a_iaload X2 hx hby hZ e2 A_t (by omega) (by omega) (v := (.int (g i.toInt.toNat))) (rfl) d8_22 (pc' := 23) rfl ?_
  exact g_retI X2 hx hby hlk hret d8_23 (by decide) (by decide) (⟨⟨_, rfl, rfl⟩, e2, rfl⟩)
theorem own_cases (n : Int32) (m : Nat) (h0 : 0 ≤ n.toInt) (h1 : n.toInt < 7) : n = 0 ∨ n = 1 ∨ n = 2 ∨ n = 3 ∨ n = 4 ∨ n = 5 ∨ n = 6 := by
  have q : n.toInt = 0 ∨ n.toInt = 1 ∨ n.toInt = 2 ∨ n.toInt = 3 ∨ n.toInt = 4 ∨ n.toInt = 5 ∨ n.toInt = 6 := by omega
  rcases q with q | q | q | q | q | q | q
  · exact Or.inl (Int32.toInt_inj.mp q)
  · exact Or.inr (Or.inl (Int32.toInt_inj.mp q))
  · exact Or.inr (Or.inr (Or.inl (Int32.toInt_inj.mp q)))
  · exact Or.inr (Or.inr (Or.inr (Or.inl (Int32.toInt_inj.mp q))))
  · exact Or.inr (Or.inr (Or.inr (Or.inr (Or.inl (Int32.toInt_inj.mp q)))))
  · exact Or.inr (Or.inr (Or.inr (Or.inr (Or.inr (Or.inl (Int32.toInt_inj.mp q))))))
  · exact Or.inr (Or.inr (Or.inr (Or.inr (Or.inr (Or.inr (Int32.toInt_inj.mp q))))))
theorem own_n7 (u n : Int32) (h : n = (u &&& (7 : Int32)) % (7 : Int32)) : n = 0 ∨ n = 1 ∨ n = 2 ∨ n = 3 ∨ n = 4 ∨ n = 5 ∨ n = 6 := by
  have a1 := c_mask u 7 3 (by decide) (by decide)
  have a2 := (c_irem (u &&& 7) 7 7 rfl).1
  rw [← h] at a2
  exact own_cases n 0 (by omega) (by omega)
def own_pk (j a b d q r t : Int32) : Int32 := if j = 0 then a else if j = 1 then b else if j = 2 then d else if j = 3 then q else if j = 4 then r else t
theorem ef_7 (m : MethodId) (j : Int32) (ua : Int32) (ub : Int32) (uc : Int32) (ud : Int32) (ue : Int32) (uf : Int32) : entryFrame m #[(.int j), (.int ua), (.int ub), (.int uc), (.int ud), (.int ue), (.int uf)] 7 = mkF m 0 #[.val (.int j), .val (.int ua), .val (.int ub), .val (.int uc), .val (.int ud), .val (.int ue), .val (.int uf)] [] := by first | (simp [entryFrame, mkF, argsToLocals, Value.category]; done) | rfl
theorem pn_7 : plainName "com/example/lucid_recall/lucidrecall/index/IntListGetPinLaw" = true := by first | (simp [plainName, overriddenIn]; done) | decide +kernel
theorem d7_0 : decode method_2_code 0 = .ok (.iload_n 0, 1) := by decide +kernel
theorem d7_1 : decode method_2_code 1 = .ok (.ifCond .ne 5, 3) := by decide +kernel
theorem d7_6 : decode method_2_code 6 = .ok (.iload_n 0, 1) := by decide +kernel
theorem d7_7 : decode method_2_code 7 = .ok (.iconst 1, 1) := by decide +kernel
theorem d7_8 : decode method_2_code 8 = .ok (.if_icmp .ne 5, 3) := by decide +kernel
theorem d7_13 : decode method_2_code 13 = .ok (.iload_n 0, 1) := by decide +kernel
theorem d7_14 : decode method_2_code 14 = .ok (.iconst 2, 1) := by decide +kernel
theorem d7_15 : decode method_2_code 15 = .ok (.if_icmp .ne 5, 3) := by decide +kernel
theorem d7_20 : decode method_2_code 20 = .ok (.iload_n 0, 1) := by decide +kernel
theorem d7_21 : decode method_2_code 21 = .ok (.iconst 3, 1) := by decide +kernel
theorem d7_22 : decode method_2_code 22 = .ok (.if_icmp .ne 6, 3) := by decide +kernel
theorem d7_28 : decode method_2_code 28 = .ok (.iload_n 0, 1) := by decide +kernel
theorem d7_29 : decode method_2_code 29 = .ok (.iconst 4, 1) := by decide +kernel
theorem d7_30 : decode method_2_code 30 = .ok (.if_icmp .ne 6, 3) := by decide +kernel
theorem d7_36 : decode method_2_code 36 = .ok (.iload 6, 2) := by decide +kernel
theorem d7_38 : decode method_2_code 38 = .ok (.ireturn, 1) := by decide +kernel
theorem d7_33 : decode method_2_code 33 = .ok (.iload 5, 2) := by decide +kernel
theorem d7_35 : decode method_2_code 35 = .ok (.ireturn, 1) := by decide +kernel
theorem d7_25 : decode method_2_code 25 = .ok (.iload 4, 2) := by decide +kernel
theorem d7_27 : decode method_2_code 27 = .ok (.ireturn, 1) := by decide +kernel
theorem d7_18 : decode method_2_code 18 = .ok (.iload_n 3, 1) := by decide +kernel
theorem d7_19 : decode method_2_code 19 = .ok (.ireturn, 1) := by decide +kernel
theorem d7_11 : decode method_2_code 11 = .ok (.iload_n 2, 1) := by decide +kernel
theorem d7_12 : decode method_2_code 12 = .ok (.ireturn, 1) := by decide +kernel
theorem d7_4 : decode method_2_code 4 = .ok (.iload_n 1, 1) := by decide +kernel
theorem d7_5 : decode method_2_code 5 = .ok (.ireturn, 1) := by decide +kernel
set_option maxRecDepth 65536 in
set_option maxHeartbeats 40000000 in
theorem rm7 (l : Launch) (Z : State) (a0 : Array Value) (hw : ∀ d ∈ tables_1, d.before a0 Z = true) (j : Int32) (ua : Int32) (ub : Int32) (uc : Int32) (ud : Int32) (ue : Int32) (uf : Int32) (h0 : Heap)  :
    Ct l Z (⟨"com/example/lucid_recall/lucidrecall/index/IntListGetPinLaw", "pick", "(IIIIIII)I"⟩ : MethodName) method_2_code 7 (some .int) ({ frames := 0, cells := 0, slots := 0, locals := 0 } : Room) #[(.int j), (.int ua), (.int ub), (.int uc), (.int ud), (.int ue), (.int uf)] h0 (QI h0 (fun r => r = own_pk j ua ub uc ud ue uf)) := by
  refine own_met (plainFor_of_name pn_7) (fun m => ef_7 m j ua ub uc ud ue uf) ?_
  intro p e s m below meth c T0 X0 hx hby hml hown hnm hret hlk hZ e0
  refine g_iloadN X0 hx hby d7_0 (pc' := 1) rfl rfl ?_
  refine g_ifne X0 hx hby d7_1 (pt := 6) (pf := 4) (by decide) (by decide) rfl (fun (h1 : ¬ j = (0 : Int32)) => ?_) (fun (h1 : j = (0 : Int32)) => ?_)
  · have h1i : ¬ j.toInt = 0 := fun q => h1 (Int32.toInt_inj.mp q)
    refine g_iloadN X0 hx hby d7_6 (pc' := 7) rfl rfl ?_
    refine g_iconst X0 hx hby d7_7 (pc' := 8) rfl (n := (1 : Int32)) (by first | rfl | decide) ?_
    refine g_icmpne X0 hx hby d7_8 (pt := 13) (pf := 11) (by decide) (by decide) rfl (fun (h8 : ¬ j = (1 : Int32)) => ?_) (fun (h8 : j = (1 : Int32)) => ?_)
    · have h8i : ¬ j.toInt = 1 := fun q => h8 (Int32.toInt_inj.mp q)
      refine g_iloadN X0 hx hby d7_13 (pc' := 14) rfl rfl ?_
      refine g_iconst X0 hx hby d7_14 (pc' := 15) rfl (n := (2 : Int32)) (by first | rfl | decide) ?_
      refine g_icmpne X0 hx hby d7_15 (pt := 20) (pf := 18) (by decide) (by decide) rfl (fun (h15 : ¬ j = (2 : Int32)) => ?_) (fun (h15 : j = (2 : Int32)) => ?_)
      · have h15i : ¬ j.toInt = 2 := fun q => h15 (Int32.toInt_inj.mp q)
        refine g_iloadN X0 hx hby d7_20 (pc' := 21) rfl rfl ?_
        refine g_iconst X0 hx hby d7_21 (pc' := 22) rfl (n := (3 : Int32)) (by first | rfl | decide) ?_
        refine g_icmpne X0 hx hby d7_22 (pt := 28) (pf := 25) (by decide) (by decide) rfl (fun (h22 : ¬ j = (3 : Int32)) => ?_) (fun (h22 : j = (3 : Int32)) => ?_)
        · have h22i : ¬ j.toInt = 3 := fun q => h22 (Int32.toInt_inj.mp q)
          refine g_iloadN X0 hx hby d7_28 (pc' := 29) rfl rfl ?_
          refine g_iconst X0 hx hby d7_29 (pc' := 30) rfl (n := (4 : Int32)) (by first | rfl | decide) ?_
          refine g_icmpne X0 hx hby d7_30 (pt := 36) (pf := 33) (by decide) (by decide) rfl (fun (h30 : ¬ j = (4 : Int32)) => ?_) (fun (h30 : j = (4 : Int32)) => ?_)
          · have h30i : ¬ j.toInt = 4 := fun q => h30 (Int32.toInt_inj.mp q)
            refine g_iload X0 hx hby d7_36 (pc' := 38) rfl rfl ?_
            exact g_retI X0 hx hby hlk hret d7_38 (by decide) (by decide) (⟨⟨_, rfl, by simp [own_pk, *]⟩, e0, rfl⟩)
          · have h30i : j.toInt = 4 := congrArg Int32.toInt h30
            refine g_iload X0 hx hby d7_33 (pc' := 35) rfl rfl ?_
            exact g_retI X0 hx hby hlk hret d7_35 (by decide) (by decide) (⟨⟨_, rfl, by simp [own_pk, *]⟩, e0, rfl⟩)
        · have h22i : j.toInt = 3 := congrArg Int32.toInt h22
          refine g_iload X0 hx hby d7_25 (pc' := 27) rfl rfl ?_
          exact g_retI X0 hx hby hlk hret d7_27 (by decide) (by decide) (⟨⟨_, rfl, by simp [own_pk, *]⟩, e0, rfl⟩)
      · have h15i : j.toInt = 2 := congrArg Int32.toInt h15
        refine g_iloadN X0 hx hby d7_18 (pc' := 19) rfl rfl ?_
        exact g_retI X0 hx hby hlk hret d7_19 (by decide) (by decide) (⟨⟨_, rfl, by simp [own_pk, *]⟩, e0, rfl⟩)
    · have h8i : j.toInt = 1 := congrArg Int32.toInt h8
      refine g_iloadN X0 hx hby d7_11 (pc' := 12) rfl rfl ?_
      exact g_retI X0 hx hby hlk hret d7_12 (by decide) (by decide) (⟨⟨_, rfl, by simp [own_pk, *]⟩, e0, rfl⟩)
  · have h1i : j.toInt = 0 := congrArg Int32.toInt h1
    refine g_iloadN X0 hx hby d7_4 (pc' := 5) rfl rfl ?_
    exact g_retI X0 hx hby hlk hret d7_5 (by decide) (by decide) (⟨⟨_, rfl, by simp [own_pk, *]⟩, e0, rfl⟩)
theorem ef_0 (m : MethodId) (ua : Int32) (ub : Int32) (uc : Int32) (ud : Int32) (un : Int32) (ui : Int32) : entryFrame m #[(.int ua), (.int ub), (.int uc), (.int ud), (.int un), (.int ui)] maxLocals = mkF m 0 #[.val (.int ua), .val (.int ub), .val (.int uc), .val (.int ud), .val (.int un), .val (.int ui), .unset, .unset, .unset, .unset, .unset, .unset, .unset, .unset, .unset, .unset, .unset] [] := by first | (simp [entryFrame, mkF, argsToLocals, Value.category, maxLocals]; done) | rfl
theorem pn_0 : plainName "com/example/lucid_recall/lucidrecall/index/IntListGetPinLaw" = true := by first | (simp [plainName, overriddenIn]; done) | decide +kernel
theorem pd___V_167 : parseMethodDescriptor "()V" = some ⟨[], none⟩ := by decide +kernel
theorem pd___I_154 : parseMethodDescriptor "()I" = some ⟨[], some .int⟩ := by decide +kernel
theorem pd__I_V_240 : parseMethodDescriptor "(I)V" = some ⟨[.int], none⟩ := by decide +kernel
theorem pd__IIIIIII_I_665 : parseMethodDescriptor "(IIIIIII)I" = some ⟨[.int, .int, .int, .int, .int, .int, .int], some .int⟩ := by decide +kernel
theorem pd__I_I_227 : parseMethodDescriptor "(I)I" = some ⟨[.int], some .int⟩ := by decide +kernel
set_option maxRecDepth 65536 in
set_option maxHeartbeats 40000000 in
theorem law0 (l : Launch) (Z : State) (a0 : Array Value) (hw : ∀ d ∈ tables_1, d.before a0 Z = true) (ws : List Jvm.Cond) (ua : Int32) (ub : Int32) (uc : Int32) (ud : Int32) (un : Int32) (ui : Int32) (n0 : Nat) (h0 : Heap) (Z0 : n0 ≤ h0.size) :
    MetFree l x (head1 (Jvm.Cond.code x code maxLocals ret :: ws) room_1) (fun a U => a = #[(.int ua), (.int ub), (.int uc), (.int ud), (.int un), (.int ui)] ∧ Z.Warmed39 U.vm ∧ U.heap = h0) (fun _ _ _ _ _ => True) (fun _ U o U' => ∃ v L, o = .returned v ∧ (Q0 n0) v U'.heap L ∧ FrameEnd U o U' L room_1.cells room_1.slots) := by
  refine own_met (plainFor_of_name pn_0) (fun m => ef_0 m ua ub uc ud un ui) ?_
  intro p e s m below meth c T0 X0 hx hby hml hown hnm hret hlk hZ e0
  have N0 := Fr.nil n0
  refine g_iload X0 hx hby at_0 (pc' := 2) rfl rfl ?_
  refine g_bipush X0 hx hby at_2 (pc' := 4) rfl (n := (7 : Int32)) (by first | rfl | decide) ?_
  refine g_iand X0 hx hby at_4 (pc' := 5) rfl ?_
  refine g_bipush X0 hx hby at_5 (pc' := 7) rfl (n := (7 : Int32)) (by first | rfl | decide) ?_
  refine g_irem X0 hx hby at_7 (pc' := 8) rfl (by decide) ?_
  refine g_nameI (fun n h_n => ?_)
  refine g_istore X0 hx hby at_8 (pc' := 10) rfl (Ls' := #[.val (.int ua), .val (.int ub), .val (.int uc), .val (.int ud), .val (.int un), .val (.int ui), .val (.int n), .unset, .unset, .unset, .unset, .unset, .unset, .unset, .unset, .unset, .unset]) rfl ?_
  refine g_iloadN X0 hx hby at_10 (pc' := 11) rfl rfl ?_
  refine g_istore X0 hx hby at_11 (pc' := 13) rfl (Ls' := #[.val (.int ua), .val (.int ub), .val (.int uc), .val (.int ud), .val (.int un), .val (.int ui), .val (.int n), .val (.int ua), .unset, .unset, .unset, .unset, .unset, .unset, .unset, .unset, .unset]) rfl ?_
  refine g_iloadN X0 hx hby at_13 (pc' := 14) rfl rfl ?_
  refine g_istore X0 hx hby at_14 (pc' := 16) rfl (Ls' := #[.val (.int ua), .val (.int ub), .val (.int uc), .val (.int ud), .val (.int un), .val (.int ui), .val (.int n), .val (.int ua), .val (.int ub), .unset, .unset, .unset, .unset, .unset, .unset, .unset, .unset]) rfl ?_
  refine g_iloadN X0 hx hby at_16 (pc' := 17) rfl rfl ?_
  refine g_istore X0 hx hby at_17 (pc' := 19) rfl (Ls' := #[.val (.int ua), .val (.int ub), .val (.int uc), .val (.int ud), .val (.int un), .val (.int ui), .val (.int n), .val (.int ua), .val (.int ub), .val (.int uc), .unset, .unset, .unset, .unset, .unset, .unset, .unset]) rfl ?_
  refine g_iloadN X0 hx hby at_19 (pc' := 20) rfl rfl ?_
  refine g_istore X0 hx hby at_20 (pc' := 22) rfl (Ls' := #[.val (.int ua), .val (.int ub), .val (.int uc), .val (.int ud), .val (.int un), .val (.int ui), .val (.int n), .val (.int ua), .val (.int ub), .val (.int uc), .val (.int ud), .unset, .unset, .unset, .unset, .unset, .unset]) rfl ?_
  refine g_iloadN X0 hx hby at_22 (pc' := 23) rfl rfl ?_
  refine g_iloadN X0 hx hby at_23 (pc' := 24) rfl rfl ?_
  refine g_ixor X0 hx hby at_24 (pc' := 25) rfl ?_
  refine g_nameI (fun ve h_ve => ?_)
  refine g_istore X0 hx hby at_25 (pc' := 27) rfl (Ls' := #[.val (.int ua), .val (.int ub), .val (.int uc), .val (.int ud), .val (.int un), .val (.int ui), .val (.int n), .val (.int ua), .val (.int ub), .val (.int uc), .val (.int ud), .val (.int ve), .unset, .unset, .unset, .unset, .unset]) rfl ?_
  refine g_iloadN X0 hx hby at_27 (pc' := 28) rfl rfl ?_
  refine g_iloadN X0 hx hby at_28 (pc' := 29) rfl rfl ?_
  refine g_isub X0 hx hby at_29 (pc' := 30) rfl ?_
  refine g_nameI (fun vf h_vf => ?_)
  refine g_istore X0 hx hby at_30 (pc' := 32) rfl (Ls' := #[.val (.int ua), .val (.int ub), .val (.int uc), .val (.int ud), .val (.int un), .val (.int ui), .val (.int n), .val (.int ua), .val (.int ub), .val (.int uc), .val (.int ud), .val (.int ve), .val (.int vf), .unset, .unset, .unset, .unset]) rfl ?_
  refine g_new X0 hx hby hZ hown e0 (hw _ (List.mem_of_getElem? (i := 0) rfl)) (hw _ (List.mem_of_getElem? (i := 1) rfl)) (hw _ (List.mem_of_getElem? (i := 2) rfl)) at_32 (pc' := 35) rfl (by decide) (by decide) (fun T1 h1 o g1 X1 e1 E1 A1 D1 => ?_)
  have g2 : n0 ≤ o := by rw [g1]; exact Z0
  have Z3 : n0 ≤ h1.size := Nat.le_trans Z0 E1.1
  replace X1 : Stand p l e room_1 s m _ below meth c T1 _ 1 2 := X1
  have E_o : Exa Z h1 o "com/example/lucid_recall/lucidrecall/index/IntList" := A1
  have F_values_o : Fld Z h1 o "com/example/lucid_recall/lucidrecall/index/IntList" "values" "[I" .null := D1 (Or.inl (hw _ (List.mem_of_getElem? (i := 11) rfl))) (ty := (.array .int)) (by decide)
  have F_size_o : Fld Z h1 o "com/example/lucid_recall/lucidrecall/index/IntList" "size" "I" (.int (0 : Int32)) := D1 (Or.inl (hw _ (List.mem_of_getElem? (i := 18) rfl))) (ty := .int) (by decide)
  refine g_dup X1 hx hby at_35 (pc' := 36) rfl rfl ?_
  refine g_special X1 hx hby hZ hown rfl hml rfl (hw _ (List.mem_of_getElem? (i := 3) rfl)) (hw _ (List.mem_of_getElem? (i := 4) rfl)) (hw _ (List.mem_of_getElem? (i := 2) rfl)) rfl (hw _ (List.mem_of_getElem? (i := 5) rfl)) (by decide) e1 (rm1 l Z a0 hw o n0 h1 Z3 g2 E_o F_size_o F_values_o) pd___V_167 (a := o) (argsL := []) (rest := [(.ref o)]) rfl rfl rfl at_36 (pc' := 39) rfl (by decide) (Nat.le_of_ble_eq_true rfl) (by decide) (by decide) ?_
  intro Tp36 vp36 Lp36 Xp36 qp36
  obtain ⟨tp36, rfl, Nqp36, g_tp36, ne_tp36, E_o, F_size_o, F_values_o, A_tp36⟩ := qp36
  replace Xp36 : Stand p l e room_1 s m _ below meth c Tp36 _ 2 6 := Xp36
  have Np36 := Fr.app N0 Nqp36
  show Go p e below s (Q0 n0) room_1.cells room_1.slots m Tp36 39 #[.val (.int ua), .val (.int ub), .val (.int uc), .val (.int ud), .val (.int un), .val (.int ui), .val (.int n), .val (.int ua), .val (.int ub), .val (.int uc), .val (.int ud), .val (.int ve), .val (.int vf), .unset, .unset, .unset, .unset] [(.ref o)]
  replace F_size_o : Fld Z Tp36.heap o "com/example/lucid_recall/lucidrecall/index/IntList" "size" "I" (.int (0 : Int32)) := F_size_o
  have Zs : n0 ≤ Tp36.heap.size := Nat.le_of_lt (Nat.lt_of_le_of_lt g_tp36 A_tp36.lt)
  refine g_astore Xp36 hx hby at_39 (pc' := 41) rfl rfl (Ls' := #[.val (.int ua), .val (.int ub), .val (.int uc), .val (.int ud), .val (.int un), .val (.int ui), .val (.int n), .val (.int ua), .val (.int ub), .val (.int uc), .val (.int ud), .val (.int ve), .val (.int vf), .val (.ref o), .unset, .unset, .unset]) rfl ?_
  have hn := own_n7 un n h_n
  rcases hn with rfl | rfl | rfl | rfl | rfl | rfl | rfl
  · refine g_iload Xp36 hx hby at_41 (pc' := 43) rfl rfl ?_
    refine g_ifle Xp36 hx hby at_43 (pt := 53) (pf := 46) (by decide) (by decide) rfl (fun (h43 : 0 ≤ 0) => ?_) (fun (h43 : 0 < 0) => (by exfalso; revert h43; decide))
    refine g_iload Xp36 hx hby at_53 (pc' := 55) rfl rfl ?_
    refine g_iconst Xp36 hx hby at_55 (pc' := 56) rfl (n := (1 : Int32)) (by first | rfl | decide) ?_
    refine g_icmple Xp36 hx hby at_56 (pt := 66) (pf := 59) (by decide) (by decide) rfl (fun (h56 : 0 ≤ 1) => ?_) (fun (h56 : 1 < 0) => (by exfalso; revert h56; decide))
    refine g_iload Xp36 hx hby at_66 (pc' := 68) rfl rfl ?_
    refine g_iconst Xp36 hx hby at_68 (pc' := 69) rfl (n := (2 : Int32)) (by first | rfl | decide) ?_
    refine g_icmple Xp36 hx hby at_69 (pt := 79) (pf := 72) (by decide) (by decide) rfl (fun (h69 : 0 ≤ 2) => ?_) (fun (h69 : 2 < 0) => (by exfalso; revert h69; decide))
    refine g_iload Xp36 hx hby at_79 (pc' := 81) rfl rfl ?_
    refine g_iconst Xp36 hx hby at_81 (pc' := 82) rfl (n := (3 : Int32)) (by first | rfl | decide) ?_
    refine g_icmple Xp36 hx hby at_82 (pt := 92) (pf := 85) (by decide) (by decide) rfl (fun (h82 : 0 ≤ 3) => ?_) (fun (h82 : 3 < 0) => (by exfalso; revert h82; decide))
    refine g_iload Xp36 hx hby at_92 (pc' := 94) rfl rfl ?_
    refine g_iconst Xp36 hx hby at_94 (pc' := 95) rfl (n := (4 : Int32)) (by first | rfl | decide) ?_
    refine g_icmple Xp36 hx hby at_95 (pt := 105) (pf := 98) (by decide) (by decide) rfl (fun (h95 : 0 ≤ 4) => ?_) (fun (h95 : 4 < 0) => (by exfalso; revert h95; decide))
    refine g_iload Xp36 hx hby at_105 (pc' := 107) rfl rfl ?_
    refine g_iconst Xp36 hx hby at_107 (pc' := 108) rfl (n := (5 : Int32)) (by first | rfl | decide) ?_
    refine g_icmple Xp36 hx hby at_108 (pt := 118) (pf := 111) (by decide) (by decide) rfl (fun (h108 : 0 ≤ 5) => ?_) (fun (h108 : 5 < 0) => (by exfalso; revert h108; decide))
    refine g_iload Xp36 hx hby at_118 (pc' := 120) rfl rfl ?_
    refine g_ifne Xp36 hx hby at_120 (pt := 137) (pf := 123) (by decide) (by decide) rfl (fun (h120 : ¬ (0 : Int32) = (0 : Int32)) => (by exfalso; revert h120; decide)) (fun (h120 : (0 : Int32) = (0 : Int32)) => ?_)
    refine g_aload Xp36 hx hby at_123 (pc' := 125) rfl rfl rfl ?_
    refine g_virtual Xp36 hx hby hZ hown hml rfl (hw _ (List.mem_of_getElem? (i := 12) rfl)) (hw _ (List.mem_of_getElem? (i := 13) rfl)) (hw _ (List.mem_of_getElem? (i := 15) rfl)) (hw _ (List.mem_of_getElem? (i := 14) rfl)) (hw _ (List.mem_of_getElem? (i := 2) rfl)) (hw _ (List.mem_of_getElem? (i := 16) rfl)) (by decide) rfl (rm3 l Z a0 hw o _ Tp36.heap F_size_o) pd___I_154 E_o (argsL := []) (rest := []) rfl rfl rfl at_125 (pc' := 128) rfl (by decide) (Nat.le_of_ble_eq_true rfl) (by decide) (by decide) ?_
    intro Tp125 vp125 Lp125 Xp125 qp125
    obtain ⟨⟨rp125, rfl, h_rp125⟩, ep125, rfl⟩ := qp125
    rw [List.append_nil] at Xp125
    replace Xp125 : Stand p l e room_1 s m _ below meth c Tp125 _ 2 6 := Xp125
    show Go p e below s (Q0 n0) room_1.cells room_1.slots m Tp125 128 #[.val (.int ua), .val (.int ub), .val (.int uc), .val (.int ud), .val (.int un), .val (.int ui), .val (.int (0 : Int32)), .val (.int ua), .val (.int ub), .val (.int uc), .val (.int ud), .val (.int ve), .val (.int vf), .val (.ref o), .unset, .unset, .unset] [(.int rp125)]
    refine g_ifne Xp125 hx hby at_128 (pt := 135) (pf := 131) (by decide) (by decide) rfl (fun (h128 : ¬ rp125 = (0 : Int32)) => (by exfalso; exact h128 h_rp125)) (fun (h128 : rp125 = (0 : Int32)) => ?_)
    have h128i : rp125.toInt = 0 := congrArg Int32.toInt h128
    refine g_iconst Xp125 hx hby at_131 (pc' := 132) rfl (n := (1 : Int32)) (by first | rfl | decide) ?_
    refine g_goto Xp125 hx hby at_132 (pc' := 136) (by decide) (by decide) ?_
    exact g_retZ Xp125 hx hby hlk (Or.inr rfl) hret at_136 (by decide) (by decide) (⟨rfl, Np36⟩)
  · refine g_iload Xp36 hx hby at_41 (pc' := 43) rfl rfl ?_
    refine g_ifle Xp36 hx hby at_43 (pt := 53) (pf := 46) (by decide) (by decide) rfl (fun (h43 : 1 ≤ 0) => (by exfalso; revert h43; decide)) (fun (h43 : 0 < 1) => ?_)
    refine g_aload Xp36 hx hby at_46 (pc' := 48) rfl rfl rfl ?_
    refine g_iload Xp36 hx hby at_48 (pc' := 50) rfl rfl ?_
    refine g_virtual Xp36 hx hby hZ hown hml rfl (hw _ (List.mem_of_getElem? (i := 19) rfl)) (hw _ (List.mem_of_getElem? (i := 20) rfl)) (hw _ (List.mem_of_getElem? (i := 22) rfl)) (hw _ (List.mem_of_getElem? (i := 21) rfl)) (hw _ (List.mem_of_getElem? (i := 2) rfl)) (hw _ (List.mem_of_getElem? (i := 23) rfl)) (by decide) rfl (rm_add l Z a0 hw o ua n0 tp36 (0 : Int32) (4 : Int32) 4 _ Tp36.heap Zs g2 g_tp36 ne_tp36 E_o F_size_o F_values_o A_tp36 rfl (by decide)) pd__I_V_240 E_o (argsL := [(.int ua)]) (rest := []) rfl rfl rfl at_50 (pc' := 53) rfl (by decide) (Nat.le_of_ble_eq_true rfl) (by decide) (by decide) ?_
    intro Tp50 vp50 Lp50 Xp50 qp50
    obtain ⟨tp50, rfl, Nqp50, g_tp50, ne_tp50, E_o, F_size_o, F_values_o, A_tp50⟩ := qp50
    replace Xp50 : Stand p l e room_1 s m _ below meth c Tp50 _ 2 6 := Xp50
    have Np50 := Fr.app Np36 Nqp50
    show Go p e below s (Q0 n0) room_1.cells room_1.slots m Tp50 53 #[.val (.int ua), .val (.int ub), .val (.int uc), .val (.int ud), .val (.int un), .val (.int ui), .val (.int (1 : Int32)), .val (.int ua), .val (.int ub), .val (.int uc), .val (.int ud), .val (.int ve), .val (.int vf), .val (.ref o), .unset, .unset, .unset] []
    replace F_size_o : Fld Z Tp50.heap o "com/example/lucid_recall/lucidrecall/index/IntList" "size" "I" (.int (1 : Int32)) := F_size_o
    have Zs : n0 ≤ Tp50.heap.size := Nat.le_of_lt (Nat.lt_of_le_of_lt g_tp50 A_tp50.lt)
    refine g_iload Xp50 hx hby at_53 (pc' := 55) rfl rfl ?_
    refine g_iconst Xp50 hx hby at_55 (pc' := 56) rfl (n := (1 : Int32)) (by first | rfl | decide) ?_
    refine g_icmple Xp50 hx hby at_56 (pt := 66) (pf := 59) (by decide) (by decide) rfl (fun (h56 : 1 ≤ 1) => ?_) (fun (h56 : 1 < 1) => (by exfalso; revert h56; decide))
    refine g_iload Xp50 hx hby at_66 (pc' := 68) rfl rfl ?_
    refine g_iconst Xp50 hx hby at_68 (pc' := 69) rfl (n := (2 : Int32)) (by first | rfl | decide) ?_
    refine g_icmple Xp50 hx hby at_69 (pt := 79) (pf := 72) (by decide) (by decide) rfl (fun (h69 : 1 ≤ 2) => ?_) (fun (h69 : 2 < 1) => (by exfalso; revert h69; decide))
    refine g_iload Xp50 hx hby at_79 (pc' := 81) rfl rfl ?_
    refine g_iconst Xp50 hx hby at_81 (pc' := 82) rfl (n := (3 : Int32)) (by first | rfl | decide) ?_
    refine g_icmple Xp50 hx hby at_82 (pt := 92) (pf := 85) (by decide) (by decide) rfl (fun (h82 : 1 ≤ 3) => ?_) (fun (h82 : 3 < 1) => (by exfalso; revert h82; decide))
    refine g_iload Xp50 hx hby at_92 (pc' := 94) rfl rfl ?_
    refine g_iconst Xp50 hx hby at_94 (pc' := 95) rfl (n := (4 : Int32)) (by first | rfl | decide) ?_
    refine g_icmple Xp50 hx hby at_95 (pt := 105) (pf := 98) (by decide) (by decide) rfl (fun (h95 : 1 ≤ 4) => ?_) (fun (h95 : 4 < 1) => (by exfalso; revert h95; decide))
    refine g_iload Xp50 hx hby at_105 (pc' := 107) rfl rfl ?_
    refine g_iconst Xp50 hx hby at_107 (pc' := 108) rfl (n := (5 : Int32)) (by first | rfl | decide) ?_
    refine g_icmple Xp50 hx hby at_108 (pt := 118) (pf := 111) (by decide) (by decide) rfl (fun (h108 : 1 ≤ 5) => ?_) (fun (h108 : 5 < 1) => (by exfalso; revert h108; decide))
    refine g_iload Xp50 hx hby at_118 (pc' := 120) rfl rfl ?_
    refine g_ifne Xp50 hx hby at_120 (pt := 137) (pf := 123) (by decide) (by decide) rfl (fun (h120 : ¬ (1 : Int32) = (0 : Int32)) => ?_) (fun (h120 : (1 : Int32) = (0 : Int32)) => (by exfalso; revert h120; decide))
    refine g_iload Xp50 hx hby at_137 (pc' := 139) rfl rfl ?_
    refine g_ldcI Xp50 hx hby hZ hown (hw _ (List.mem_of_getElem? (i := 36) rfl)) at_139 (pc' := 141) rfl ?_
    refine g_iand Xp50 hx hby at_141 (pc' := 142) rfl ?_
    refine g_iload Xp50 hx hby at_142 (pc' := 144) rfl rfl ?_
    refine g_irem Xp50 hx hby at_144 (pc' := 145) rfl (by decide) ?_
    refine g_nameI (fun j h_j => ?_)
    have hj : 0 ≤ j.toInt ∧ j.toInt < 1 := by rw [h_j]; exact own_modr ui (1 : Int32) (by decide)
    refine g_istore Xp50 hx hby at_145 (pc' := 147) rfl (Ls' := #[.val (.int ua), .val (.int ub), .val (.int uc), .val (.int ud), .val (.int un), .val (.int ui), .val (.int (1 : Int32)), .val (.int ua), .val (.int ub), .val (.int uc), .val (.int ud), .val (.int ve), .val (.int vf), .val (.ref o), .val (.int j), .unset, .unset]) rfl ?_
    refine g_iload Xp50 hx hby at_147 (pc' := 149) rfl rfl ?_
    refine g_iload Xp50 hx hby at_149 (pc' := 151) rfl rfl ?_
    refine g_iload Xp50 hx hby at_151 (pc' := 153) rfl rfl ?_
    refine g_iload Xp50 hx hby at_153 (pc' := 155) rfl rfl ?_
    refine g_iload Xp50 hx hby at_155 (pc' := 157) rfl rfl ?_
    refine g_iload Xp50 hx hby at_157 (pc' := 159) rfl rfl ?_
    refine g_iload Xp50 hx hby at_159 (pc' := 161) rfl rfl ?_
    refine g_static Xp50 hx hby hZ hown hml rfl (hw _ (List.mem_of_getElem? (i := 37) rfl)) (hw _ (List.mem_of_getElem? (i := 38) rfl)) (hw _ (List.mem_of_getElem? (i := 39) rfl)) (hw _ (List.mem_of_getElem? (i := 40) rfl)) (by decide) rfl (rm7 l Z a0 hw j ua ub uc ud ve vf Tp50.heap ) pd__IIIIIII_I_665 (argsL := [(.int j), (.int ua), (.int ub), (.int uc), (.int ud), (.int ve), (.int vf)]) (rest := []) rfl rfl rfl at_161 (pc' := 164) rfl (by decide) (Nat.le_of_ble_eq_true rfl) (by decide) (by decide) ?_
    intro Tp161 vp161 Lp161 Xp161 qp161
    obtain ⟨⟨rp161, rfl, h_rp161⟩, ep161, rfl⟩ := qp161
    rw [List.append_nil] at Xp161
    replace Xp161 : Stand p l e room_1 s m _ below meth c Tp161 _ 2 6 := Xp161
    show Go p e below s (Q0 n0) room_1.cells room_1.slots m Tp161 164 #[.val (.int ua), .val (.int ub), .val (.int uc), .val (.int ud), .val (.int un), .val (.int ui), .val (.int (1 : Int32)), .val (.int ua), .val (.int ub), .val (.int uc), .val (.int ud), .val (.int ve), .val (.int vf), .val (.ref o), .val (.int j), .unset, .unset] [(.int rp161)]
    refine g_istore Xp161 hx hby at_164 (pc' := 166) rfl (Ls' := #[.val (.int ua), .val (.int ub), .val (.int uc), .val (.int ud), .val (.int un), .val (.int ui), .val (.int (1 : Int32)), .val (.int ua), .val (.int ub), .val (.int uc), .val (.int ud), .val (.int ve), .val (.int vf), .val (.ref o), .val (.int j), .val (.int rp161), .unset]) rfl ?_
    refine g_aload Xp161 hx hby at_166 (pc' := 168) rfl rfl rfl ?_
    refine g_iload Xp161 hx hby at_168 (pc' := 170) rfl rfl ?_
    refine g_virtual Xp161 hx hby hZ hown hml rfl (hw _ (List.mem_of_getElem? (i := 41) rfl)) (hw _ (List.mem_of_getElem? (i := 42) rfl)) (hw _ (List.mem_of_getElem? (i := 44) rfl)) (hw _ (List.mem_of_getElem? (i := 43) rfl)) (hw _ (List.mem_of_getElem? (i := 2) rfl)) (hw _ (List.mem_of_getElem? (i := 45) rfl)) (by decide) ep161 (rm8 l Z a0 hw o j tp50 (1 : Int32) 4 _ Tp50.heap F_size_o F_values_o A_tp50 hj (by decide)) pd__I_I_227 E_o (argsL := [(.int j)]) (rest := []) rfl rfl rfl at_170 (pc' := 173) rfl (by decide) (Nat.le_of_ble_eq_true rfl) (by decide) (by decide) ?_
    intro Tp170 vp170 Lp170 Xp170 qp170
    obtain ⟨⟨rp170, rfl, h_rp170⟩, ep170, rfl⟩ := qp170
    rw [List.append_nil] at Xp170
    replace Xp170 : Stand p l e room_1 s m _ below meth c Tp170 _ 2 6 := Xp170
    show Go p e below s (Q0 n0) room_1.cells room_1.slots m Tp170 173 #[.val (.int ua), .val (.int ub), .val (.int uc), .val (.int ud), .val (.int un), .val (.int ui), .val (.int (1 : Int32)), .val (.int ua), .val (.int ub), .val (.int uc), .val (.int ud), .val (.int ve), .val (.int vf), .val (.ref o), .val (.int j), .val (.int rp161), .unset] [(.int rp170)]
    refine g_istore Xp170 hx hby at_173 (pc' := 175) rfl (Ls' := #[.val (.int ua), .val (.int ub), .val (.int uc), .val (.int ud), .val (.int un), .val (.int ui), .val (.int (1 : Int32)), .val (.int ua), .val (.int ub), .val (.int uc), .val (.int ud), .val (.int ve), .val (.int vf), .val (.ref o), .val (.int j), .val (.int rp161), .val (.int rp170)]) rfl ?_
    refine g_iload Xp170 hx hby at_175 (pc' := 177) rfl rfl ?_
    refine g_iload Xp170 hx hby at_177 (pc' := 179) rfl rfl ?_
    refine g_icmpne Xp170 hx hby at_179 (pt := 196) (pf := 182) (by decide) (by decide) rfl (fun (h179 : ¬ rp170 = rp161) => (by exfalso; exact h179 (by
      rw [h_rp170, h_rp161]
      have hjc := own_cases j 0 hj.1 (by have := hj.2; omega)
      rcases hjc with q | q | q | q | q | q | q <;> (subst q; first | rfl | (exfalso; revert hj; decide))))) (fun (h179 : rp170 = rp161) => ?_)
    have h179i : rp170.toInt = rp161.toInt := congrArg Int32.toInt h179
    refine g_aload Xp170 hx hby at_182 (pc' := 184) rfl rfl rfl ?_
    refine g_virtual Xp170 hx hby hZ hown hml rfl (hw _ (List.mem_of_getElem? (i := 12) rfl)) (hw _ (List.mem_of_getElem? (i := 13) rfl)) (hw _ (List.mem_of_getElem? (i := 15) rfl)) (hw _ (List.mem_of_getElem? (i := 14) rfl)) (hw _ (List.mem_of_getElem? (i := 2) rfl)) (hw _ (List.mem_of_getElem? (i := 16) rfl)) (by decide) ep170 (rm3 l Z a0 hw o _ Tp50.heap F_size_o) pd___I_154 E_o (argsL := []) (rest := []) rfl rfl rfl at_184 (pc' := 187) rfl (by decide) (Nat.le_of_ble_eq_true rfl) (by decide) (by decide) ?_
    intro Tp184 vp184 Lp184 Xp184 qp184
    obtain ⟨⟨rp184, rfl, h_rp184⟩, ep184, rfl⟩ := qp184
    rw [List.append_nil] at Xp184
    replace Xp184 : Stand p l e room_1 s m _ below meth c Tp184 _ 2 6 := Xp184
    show Go p e below s (Q0 n0) room_1.cells room_1.slots m Tp184 187 #[.val (.int ua), .val (.int ub), .val (.int uc), .val (.int ud), .val (.int un), .val (.int ui), .val (.int (1 : Int32)), .val (.int ua), .val (.int ub), .val (.int uc), .val (.int ud), .val (.int ve), .val (.int vf), .val (.ref o), .val (.int j), .val (.int rp161), .val (.int rp170)] [(.int rp184)]
    refine g_iload Xp184 hx hby at_187 (pc' := 189) rfl rfl ?_
    refine g_icmpne Xp184 hx hby at_189 (pt := 196) (pf := 192) (by decide) (by decide) rfl (fun (h189 : ¬ rp184 = (1 : Int32)) => (by exfalso; exact h189 h_rp184)) (fun (h189 : rp184 = (1 : Int32)) => ?_)
    have h189i : rp184.toInt = 1 := congrArg Int32.toInt h189
    refine g_iconst Xp184 hx hby at_192 (pc' := 193) rfl (n := (1 : Int32)) (by first | rfl | decide) ?_
    refine g_goto Xp184 hx hby at_193 (pc' := 197) (by decide) (by decide) ?_
    exact g_retZ Xp184 hx hby hlk (Or.inr rfl) hret at_197 (by decide) (by decide) (⟨rfl, Np50⟩)
  · refine g_iload Xp36 hx hby at_41 (pc' := 43) rfl rfl ?_
    refine g_ifle Xp36 hx hby at_43 (pt := 53) (pf := 46) (by decide) (by decide) rfl (fun (h43 : 2 ≤ 0) => (by exfalso; revert h43; decide)) (fun (h43 : 0 < 2) => ?_)
    refine g_aload Xp36 hx hby at_46 (pc' := 48) rfl rfl rfl ?_
    refine g_iload Xp36 hx hby at_48 (pc' := 50) rfl rfl ?_
    refine g_virtual Xp36 hx hby hZ hown hml rfl (hw _ (List.mem_of_getElem? (i := 19) rfl)) (hw _ (List.mem_of_getElem? (i := 20) rfl)) (hw _ (List.mem_of_getElem? (i := 22) rfl)) (hw _ (List.mem_of_getElem? (i := 21) rfl)) (hw _ (List.mem_of_getElem? (i := 2) rfl)) (hw _ (List.mem_of_getElem? (i := 23) rfl)) (by decide) rfl (rm_add l Z a0 hw o ua n0 tp36 (0 : Int32) (4 : Int32) 4 _ Tp36.heap Zs g2 g_tp36 ne_tp36 E_o F_size_o F_values_o A_tp36 rfl (by decide)) pd__I_V_240 E_o (argsL := [(.int ua)]) (rest := []) rfl rfl rfl at_50 (pc' := 53) rfl (by decide) (Nat.le_of_ble_eq_true rfl) (by decide) (by decide) ?_
    intro Tp50 vp50 Lp50 Xp50 qp50
    obtain ⟨tp50, rfl, Nqp50, g_tp50, ne_tp50, E_o, F_size_o, F_values_o, A_tp50⟩ := qp50
    replace Xp50 : Stand p l e room_1 s m _ below meth c Tp50 _ 2 6 := Xp50
    have Np50 := Fr.app Np36 Nqp50
    show Go p e below s (Q0 n0) room_1.cells room_1.slots m Tp50 53 #[.val (.int ua), .val (.int ub), .val (.int uc), .val (.int ud), .val (.int un), .val (.int ui), .val (.int (2 : Int32)), .val (.int ua), .val (.int ub), .val (.int uc), .val (.int ud), .val (.int ve), .val (.int vf), .val (.ref o), .unset, .unset, .unset] []
    replace F_size_o : Fld Z Tp50.heap o "com/example/lucid_recall/lucidrecall/index/IntList" "size" "I" (.int (1 : Int32)) := F_size_o
    have Zs : n0 ≤ Tp50.heap.size := Nat.le_of_lt (Nat.lt_of_le_of_lt g_tp50 A_tp50.lt)
    refine g_iload Xp50 hx hby at_53 (pc' := 55) rfl rfl ?_
    refine g_iconst Xp50 hx hby at_55 (pc' := 56) rfl (n := (1 : Int32)) (by first | rfl | decide) ?_
    refine g_icmple Xp50 hx hby at_56 (pt := 66) (pf := 59) (by decide) (by decide) rfl (fun (h56 : 2 ≤ 1) => (by exfalso; revert h56; decide)) (fun (h56 : 1 < 2) => ?_)
    refine g_aload Xp50 hx hby at_59 (pc' := 61) rfl rfl rfl ?_
    refine g_iload Xp50 hx hby at_61 (pc' := 63) rfl rfl ?_
    refine g_virtual Xp50 hx hby hZ hown hml rfl (hw _ (List.mem_of_getElem? (i := 19) rfl)) (hw _ (List.mem_of_getElem? (i := 20) rfl)) (hw _ (List.mem_of_getElem? (i := 22) rfl)) (hw _ (List.mem_of_getElem? (i := 21) rfl)) (hw _ (List.mem_of_getElem? (i := 2) rfl)) (hw _ (List.mem_of_getElem? (i := 23) rfl)) (by decide) rfl (rm_add l Z a0 hw o ub n0 tp50 (1 : Int32) (4 : Int32) 4 _ Tp50.heap Zs g2 g_tp50 ne_tp50 E_o F_size_o F_values_o A_tp50 rfl (by decide)) pd__I_V_240 E_o (argsL := [(.int ub)]) (rest := []) rfl rfl rfl at_63 (pc' := 66) rfl (by decide) (Nat.le_of_ble_eq_true rfl) (by decide) (by decide) ?_
    intro Tp63 vp63 Lp63 Xp63 qp63
    obtain ⟨tp63, rfl, Nqp63, g_tp63, ne_tp63, E_o, F_size_o, F_values_o, A_tp63⟩ := qp63
    replace Xp63 : Stand p l e room_1 s m _ below meth c Tp63 _ 2 6 := Xp63
    have Np63 := Fr.app Np50 Nqp63
    show Go p e below s (Q0 n0) room_1.cells room_1.slots m Tp63 66 #[.val (.int ua), .val (.int ub), .val (.int uc), .val (.int ud), .val (.int un), .val (.int ui), .val (.int (2 : Int32)), .val (.int ua), .val (.int ub), .val (.int uc), .val (.int ud), .val (.int ve), .val (.int vf), .val (.ref o), .unset, .unset, .unset] []
    replace F_size_o : Fld Z Tp63.heap o "com/example/lucid_recall/lucidrecall/index/IntList" "size" "I" (.int (2 : Int32)) := F_size_o
    have Zs : n0 ≤ Tp63.heap.size := Nat.le_of_lt (Nat.lt_of_le_of_lt g_tp63 A_tp63.lt)
    refine g_iload Xp63 hx hby at_66 (pc' := 68) rfl rfl ?_
    refine g_iconst Xp63 hx hby at_68 (pc' := 69) rfl (n := (2 : Int32)) (by first | rfl | decide) ?_
    refine g_icmple Xp63 hx hby at_69 (pt := 79) (pf := 72) (by decide) (by decide) rfl (fun (h69 : 2 ≤ 2) => ?_) (fun (h69 : 2 < 2) => (by exfalso; revert h69; decide))
    refine g_iload Xp63 hx hby at_79 (pc' := 81) rfl rfl ?_
    refine g_iconst Xp63 hx hby at_81 (pc' := 82) rfl (n := (3 : Int32)) (by first | rfl | decide) ?_
    refine g_icmple Xp63 hx hby at_82 (pt := 92) (pf := 85) (by decide) (by decide) rfl (fun (h82 : 2 ≤ 3) => ?_) (fun (h82 : 3 < 2) => (by exfalso; revert h82; decide))
    refine g_iload Xp63 hx hby at_92 (pc' := 94) rfl rfl ?_
    refine g_iconst Xp63 hx hby at_94 (pc' := 95) rfl (n := (4 : Int32)) (by first | rfl | decide) ?_
    refine g_icmple Xp63 hx hby at_95 (pt := 105) (pf := 98) (by decide) (by decide) rfl (fun (h95 : 2 ≤ 4) => ?_) (fun (h95 : 4 < 2) => (by exfalso; revert h95; decide))
    refine g_iload Xp63 hx hby at_105 (pc' := 107) rfl rfl ?_
    refine g_iconst Xp63 hx hby at_107 (pc' := 108) rfl (n := (5 : Int32)) (by first | rfl | decide) ?_
    refine g_icmple Xp63 hx hby at_108 (pt := 118) (pf := 111) (by decide) (by decide) rfl (fun (h108 : 2 ≤ 5) => ?_) (fun (h108 : 5 < 2) => (by exfalso; revert h108; decide))
    refine g_iload Xp63 hx hby at_118 (pc' := 120) rfl rfl ?_
    refine g_ifne Xp63 hx hby at_120 (pt := 137) (pf := 123) (by decide) (by decide) rfl (fun (h120 : ¬ (2 : Int32) = (0 : Int32)) => ?_) (fun (h120 : (2 : Int32) = (0 : Int32)) => (by exfalso; revert h120; decide))
    refine g_iload Xp63 hx hby at_137 (pc' := 139) rfl rfl ?_
    refine g_ldcI Xp63 hx hby hZ hown (hw _ (List.mem_of_getElem? (i := 36) rfl)) at_139 (pc' := 141) rfl ?_
    refine g_iand Xp63 hx hby at_141 (pc' := 142) rfl ?_
    refine g_iload Xp63 hx hby at_142 (pc' := 144) rfl rfl ?_
    refine g_irem Xp63 hx hby at_144 (pc' := 145) rfl (by decide) ?_
    refine g_nameI (fun j h_j => ?_)
    have hj : 0 ≤ j.toInt ∧ j.toInt < 2 := by rw [h_j]; exact own_modr ui (2 : Int32) (by decide)
    refine g_istore Xp63 hx hby at_145 (pc' := 147) rfl (Ls' := #[.val (.int ua), .val (.int ub), .val (.int uc), .val (.int ud), .val (.int un), .val (.int ui), .val (.int (2 : Int32)), .val (.int ua), .val (.int ub), .val (.int uc), .val (.int ud), .val (.int ve), .val (.int vf), .val (.ref o), .val (.int j), .unset, .unset]) rfl ?_
    refine g_iload Xp63 hx hby at_147 (pc' := 149) rfl rfl ?_
    refine g_iload Xp63 hx hby at_149 (pc' := 151) rfl rfl ?_
    refine g_iload Xp63 hx hby at_151 (pc' := 153) rfl rfl ?_
    refine g_iload Xp63 hx hby at_153 (pc' := 155) rfl rfl ?_
    refine g_iload Xp63 hx hby at_155 (pc' := 157) rfl rfl ?_
    refine g_iload Xp63 hx hby at_157 (pc' := 159) rfl rfl ?_
    refine g_iload Xp63 hx hby at_159 (pc' := 161) rfl rfl ?_
    refine g_static Xp63 hx hby hZ hown hml rfl (hw _ (List.mem_of_getElem? (i := 37) rfl)) (hw _ (List.mem_of_getElem? (i := 38) rfl)) (hw _ (List.mem_of_getElem? (i := 39) rfl)) (hw _ (List.mem_of_getElem? (i := 40) rfl)) (by decide) rfl (rm7 l Z a0 hw j ua ub uc ud ve vf Tp63.heap ) pd__IIIIIII_I_665 (argsL := [(.int j), (.int ua), (.int ub), (.int uc), (.int ud), (.int ve), (.int vf)]) (rest := []) rfl rfl rfl at_161 (pc' := 164) rfl (by decide) (Nat.le_of_ble_eq_true rfl) (by decide) (by decide) ?_
    intro Tp161 vp161 Lp161 Xp161 qp161
    obtain ⟨⟨rp161, rfl, h_rp161⟩, ep161, rfl⟩ := qp161
    rw [List.append_nil] at Xp161
    replace Xp161 : Stand p l e room_1 s m _ below meth c Tp161 _ 2 6 := Xp161
    show Go p e below s (Q0 n0) room_1.cells room_1.slots m Tp161 164 #[.val (.int ua), .val (.int ub), .val (.int uc), .val (.int ud), .val (.int un), .val (.int ui), .val (.int (2 : Int32)), .val (.int ua), .val (.int ub), .val (.int uc), .val (.int ud), .val (.int ve), .val (.int vf), .val (.ref o), .val (.int j), .unset, .unset] [(.int rp161)]
    refine g_istore Xp161 hx hby at_164 (pc' := 166) rfl (Ls' := #[.val (.int ua), .val (.int ub), .val (.int uc), .val (.int ud), .val (.int un), .val (.int ui), .val (.int (2 : Int32)), .val (.int ua), .val (.int ub), .val (.int uc), .val (.int ud), .val (.int ve), .val (.int vf), .val (.ref o), .val (.int j), .val (.int rp161), .unset]) rfl ?_
    refine g_aload Xp161 hx hby at_166 (pc' := 168) rfl rfl rfl ?_
    refine g_iload Xp161 hx hby at_168 (pc' := 170) rfl rfl ?_
    refine g_virtual Xp161 hx hby hZ hown hml rfl (hw _ (List.mem_of_getElem? (i := 41) rfl)) (hw _ (List.mem_of_getElem? (i := 42) rfl)) (hw _ (List.mem_of_getElem? (i := 44) rfl)) (hw _ (List.mem_of_getElem? (i := 43) rfl)) (hw _ (List.mem_of_getElem? (i := 2) rfl)) (hw _ (List.mem_of_getElem? (i := 45) rfl)) (by decide) ep161 (rm8 l Z a0 hw o j tp63 (2 : Int32) 4 _ Tp63.heap F_size_o F_values_o A_tp63 hj (by decide)) pd__I_I_227 E_o (argsL := [(.int j)]) (rest := []) rfl rfl rfl at_170 (pc' := 173) rfl (by decide) (Nat.le_of_ble_eq_true rfl) (by decide) (by decide) ?_
    intro Tp170 vp170 Lp170 Xp170 qp170
    obtain ⟨⟨rp170, rfl, h_rp170⟩, ep170, rfl⟩ := qp170
    rw [List.append_nil] at Xp170
    replace Xp170 : Stand p l e room_1 s m _ below meth c Tp170 _ 2 6 := Xp170
    show Go p e below s (Q0 n0) room_1.cells room_1.slots m Tp170 173 #[.val (.int ua), .val (.int ub), .val (.int uc), .val (.int ud), .val (.int un), .val (.int ui), .val (.int (2 : Int32)), .val (.int ua), .val (.int ub), .val (.int uc), .val (.int ud), .val (.int ve), .val (.int vf), .val (.ref o), .val (.int j), .val (.int rp161), .unset] [(.int rp170)]
    refine g_istore Xp170 hx hby at_173 (pc' := 175) rfl (Ls' := #[.val (.int ua), .val (.int ub), .val (.int uc), .val (.int ud), .val (.int un), .val (.int ui), .val (.int (2 : Int32)), .val (.int ua), .val (.int ub), .val (.int uc), .val (.int ud), .val (.int ve), .val (.int vf), .val (.ref o), .val (.int j), .val (.int rp161), .val (.int rp170)]) rfl ?_
    refine g_iload Xp170 hx hby at_175 (pc' := 177) rfl rfl ?_
    refine g_iload Xp170 hx hby at_177 (pc' := 179) rfl rfl ?_
    refine g_icmpne Xp170 hx hby at_179 (pt := 196) (pf := 182) (by decide) (by decide) rfl (fun (h179 : ¬ rp170 = rp161) => (by exfalso; exact h179 (by
      rw [h_rp170, h_rp161]
      have hjc := own_cases j 0 hj.1 (by have := hj.2; omega)
      rcases hjc with q | q | q | q | q | q | q <;> (subst q; first | rfl | (exfalso; revert hj; decide))))) (fun (h179 : rp170 = rp161) => ?_)
    have h179i : rp170.toInt = rp161.toInt := congrArg Int32.toInt h179
    refine g_aload Xp170 hx hby at_182 (pc' := 184) rfl rfl rfl ?_
    refine g_virtual Xp170 hx hby hZ hown hml rfl (hw _ (List.mem_of_getElem? (i := 12) rfl)) (hw _ (List.mem_of_getElem? (i := 13) rfl)) (hw _ (List.mem_of_getElem? (i := 15) rfl)) (hw _ (List.mem_of_getElem? (i := 14) rfl)) (hw _ (List.mem_of_getElem? (i := 2) rfl)) (hw _ (List.mem_of_getElem? (i := 16) rfl)) (by decide) ep170 (rm3 l Z a0 hw o _ Tp63.heap F_size_o) pd___I_154 E_o (argsL := []) (rest := []) rfl rfl rfl at_184 (pc' := 187) rfl (by decide) (Nat.le_of_ble_eq_true rfl) (by decide) (by decide) ?_
    intro Tp184 vp184 Lp184 Xp184 qp184
    obtain ⟨⟨rp184, rfl, h_rp184⟩, ep184, rfl⟩ := qp184
    rw [List.append_nil] at Xp184
    replace Xp184 : Stand p l e room_1 s m _ below meth c Tp184 _ 2 6 := Xp184
    show Go p e below s (Q0 n0) room_1.cells room_1.slots m Tp184 187 #[.val (.int ua), .val (.int ub), .val (.int uc), .val (.int ud), .val (.int un), .val (.int ui), .val (.int (2 : Int32)), .val (.int ua), .val (.int ub), .val (.int uc), .val (.int ud), .val (.int ve), .val (.int vf), .val (.ref o), .val (.int j), .val (.int rp161), .val (.int rp170)] [(.int rp184)]
    refine g_iload Xp184 hx hby at_187 (pc' := 189) rfl rfl ?_
    refine g_icmpne Xp184 hx hby at_189 (pt := 196) (pf := 192) (by decide) (by decide) rfl (fun (h189 : ¬ rp184 = (2 : Int32)) => (by exfalso; exact h189 h_rp184)) (fun (h189 : rp184 = (2 : Int32)) => ?_)
    have h189i : rp184.toInt = 2 := congrArg Int32.toInt h189
    refine g_iconst Xp184 hx hby at_192 (pc' := 193) rfl (n := (1 : Int32)) (by first | rfl | decide) ?_
    refine g_goto Xp184 hx hby at_193 (pc' := 197) (by decide) (by decide) ?_
    exact g_retZ Xp184 hx hby hlk (Or.inr rfl) hret at_197 (by decide) (by decide) (⟨rfl, Np63⟩)
  · refine g_iload Xp36 hx hby at_41 (pc' := 43) rfl rfl ?_
    refine g_ifle Xp36 hx hby at_43 (pt := 53) (pf := 46) (by decide) (by decide) rfl (fun (h43 : 3 ≤ 0) => (by exfalso; revert h43; decide)) (fun (h43 : 0 < 3) => ?_)
    refine g_aload Xp36 hx hby at_46 (pc' := 48) rfl rfl rfl ?_
    refine g_iload Xp36 hx hby at_48 (pc' := 50) rfl rfl ?_
    refine g_virtual Xp36 hx hby hZ hown hml rfl (hw _ (List.mem_of_getElem? (i := 19) rfl)) (hw _ (List.mem_of_getElem? (i := 20) rfl)) (hw _ (List.mem_of_getElem? (i := 22) rfl)) (hw _ (List.mem_of_getElem? (i := 21) rfl)) (hw _ (List.mem_of_getElem? (i := 2) rfl)) (hw _ (List.mem_of_getElem? (i := 23) rfl)) (by decide) rfl (rm_add l Z a0 hw o ua n0 tp36 (0 : Int32) (4 : Int32) 4 _ Tp36.heap Zs g2 g_tp36 ne_tp36 E_o F_size_o F_values_o A_tp36 rfl (by decide)) pd__I_V_240 E_o (argsL := [(.int ua)]) (rest := []) rfl rfl rfl at_50 (pc' := 53) rfl (by decide) (Nat.le_of_ble_eq_true rfl) (by decide) (by decide) ?_
    intro Tp50 vp50 Lp50 Xp50 qp50
    obtain ⟨tp50, rfl, Nqp50, g_tp50, ne_tp50, E_o, F_size_o, F_values_o, A_tp50⟩ := qp50
    replace Xp50 : Stand p l e room_1 s m _ below meth c Tp50 _ 2 6 := Xp50
    have Np50 := Fr.app Np36 Nqp50
    show Go p e below s (Q0 n0) room_1.cells room_1.slots m Tp50 53 #[.val (.int ua), .val (.int ub), .val (.int uc), .val (.int ud), .val (.int un), .val (.int ui), .val (.int (3 : Int32)), .val (.int ua), .val (.int ub), .val (.int uc), .val (.int ud), .val (.int ve), .val (.int vf), .val (.ref o), .unset, .unset, .unset] []
    replace F_size_o : Fld Z Tp50.heap o "com/example/lucid_recall/lucidrecall/index/IntList" "size" "I" (.int (1 : Int32)) := F_size_o
    have Zs : n0 ≤ Tp50.heap.size := Nat.le_of_lt (Nat.lt_of_le_of_lt g_tp50 A_tp50.lt)
    refine g_iload Xp50 hx hby at_53 (pc' := 55) rfl rfl ?_
    refine g_iconst Xp50 hx hby at_55 (pc' := 56) rfl (n := (1 : Int32)) (by first | rfl | decide) ?_
    refine g_icmple Xp50 hx hby at_56 (pt := 66) (pf := 59) (by decide) (by decide) rfl (fun (h56 : 3 ≤ 1) => (by exfalso; revert h56; decide)) (fun (h56 : 1 < 3) => ?_)
    refine g_aload Xp50 hx hby at_59 (pc' := 61) rfl rfl rfl ?_
    refine g_iload Xp50 hx hby at_61 (pc' := 63) rfl rfl ?_
    refine g_virtual Xp50 hx hby hZ hown hml rfl (hw _ (List.mem_of_getElem? (i := 19) rfl)) (hw _ (List.mem_of_getElem? (i := 20) rfl)) (hw _ (List.mem_of_getElem? (i := 22) rfl)) (hw _ (List.mem_of_getElem? (i := 21) rfl)) (hw _ (List.mem_of_getElem? (i := 2) rfl)) (hw _ (List.mem_of_getElem? (i := 23) rfl)) (by decide) rfl (rm_add l Z a0 hw o ub n0 tp50 (1 : Int32) (4 : Int32) 4 _ Tp50.heap Zs g2 g_tp50 ne_tp50 E_o F_size_o F_values_o A_tp50 rfl (by decide)) pd__I_V_240 E_o (argsL := [(.int ub)]) (rest := []) rfl rfl rfl at_63 (pc' := 66) rfl (by decide) (Nat.le_of_ble_eq_true rfl) (by decide) (by decide) ?_
    intro Tp63 vp63 Lp63 Xp63 qp63
    obtain ⟨tp63, rfl, Nqp63, g_tp63, ne_tp63, E_o, F_size_o, F_values_o, A_tp63⟩ := qp63
    replace Xp63 : Stand p l e room_1 s m _ below meth c Tp63 _ 2 6 := Xp63
    have Np63 := Fr.app Np50 Nqp63
    show Go p e below s (Q0 n0) room_1.cells room_1.slots m Tp63 66 #[.val (.int ua), .val (.int ub), .val (.int uc), .val (.int ud), .val (.int un), .val (.int ui), .val (.int (3 : Int32)), .val (.int ua), .val (.int ub), .val (.int uc), .val (.int ud), .val (.int ve), .val (.int vf), .val (.ref o), .unset, .unset, .unset] []
    replace F_size_o : Fld Z Tp63.heap o "com/example/lucid_recall/lucidrecall/index/IntList" "size" "I" (.int (2 : Int32)) := F_size_o
    have Zs : n0 ≤ Tp63.heap.size := Nat.le_of_lt (Nat.lt_of_le_of_lt g_tp63 A_tp63.lt)
    refine g_iload Xp63 hx hby at_66 (pc' := 68) rfl rfl ?_
    refine g_iconst Xp63 hx hby at_68 (pc' := 69) rfl (n := (2 : Int32)) (by first | rfl | decide) ?_
    refine g_icmple Xp63 hx hby at_69 (pt := 79) (pf := 72) (by decide) (by decide) rfl (fun (h69 : 3 ≤ 2) => (by exfalso; revert h69; decide)) (fun (h69 : 2 < 3) => ?_)
    refine g_aload Xp63 hx hby at_72 (pc' := 74) rfl rfl rfl ?_
    refine g_iload Xp63 hx hby at_74 (pc' := 76) rfl rfl ?_
    refine g_virtual Xp63 hx hby hZ hown hml rfl (hw _ (List.mem_of_getElem? (i := 19) rfl)) (hw _ (List.mem_of_getElem? (i := 20) rfl)) (hw _ (List.mem_of_getElem? (i := 22) rfl)) (hw _ (List.mem_of_getElem? (i := 21) rfl)) (hw _ (List.mem_of_getElem? (i := 2) rfl)) (hw _ (List.mem_of_getElem? (i := 23) rfl)) (by decide) rfl (rm_add l Z a0 hw o uc n0 tp63 (2 : Int32) (4 : Int32) 4 _ Tp63.heap Zs g2 g_tp63 ne_tp63 E_o F_size_o F_values_o A_tp63 rfl (by decide)) pd__I_V_240 E_o (argsL := [(.int uc)]) (rest := []) rfl rfl rfl at_76 (pc' := 79) rfl (by decide) (Nat.le_of_ble_eq_true rfl) (by decide) (by decide) ?_
    intro Tp76 vp76 Lp76 Xp76 qp76
    obtain ⟨tp76, rfl, Nqp76, g_tp76, ne_tp76, E_o, F_size_o, F_values_o, A_tp76⟩ := qp76
    replace Xp76 : Stand p l e room_1 s m _ below meth c Tp76 _ 2 6 := Xp76
    have Np76 := Fr.app Np63 Nqp76
    show Go p e below s (Q0 n0) room_1.cells room_1.slots m Tp76 79 #[.val (.int ua), .val (.int ub), .val (.int uc), .val (.int ud), .val (.int un), .val (.int ui), .val (.int (3 : Int32)), .val (.int ua), .val (.int ub), .val (.int uc), .val (.int ud), .val (.int ve), .val (.int vf), .val (.ref o), .unset, .unset, .unset] []
    replace F_size_o : Fld Z Tp76.heap o "com/example/lucid_recall/lucidrecall/index/IntList" "size" "I" (.int (3 : Int32)) := F_size_o
    have Zs : n0 ≤ Tp76.heap.size := Nat.le_of_lt (Nat.lt_of_le_of_lt g_tp76 A_tp76.lt)
    refine g_iload Xp76 hx hby at_79 (pc' := 81) rfl rfl ?_
    refine g_iconst Xp76 hx hby at_81 (pc' := 82) rfl (n := (3 : Int32)) (by first | rfl | decide) ?_
    refine g_icmple Xp76 hx hby at_82 (pt := 92) (pf := 85) (by decide) (by decide) rfl (fun (h82 : 3 ≤ 3) => ?_) (fun (h82 : 3 < 3) => (by exfalso; revert h82; decide))
    refine g_iload Xp76 hx hby at_92 (pc' := 94) rfl rfl ?_
    refine g_iconst Xp76 hx hby at_94 (pc' := 95) rfl (n := (4 : Int32)) (by first | rfl | decide) ?_
    refine g_icmple Xp76 hx hby at_95 (pt := 105) (pf := 98) (by decide) (by decide) rfl (fun (h95 : 3 ≤ 4) => ?_) (fun (h95 : 4 < 3) => (by exfalso; revert h95; decide))
    refine g_iload Xp76 hx hby at_105 (pc' := 107) rfl rfl ?_
    refine g_iconst Xp76 hx hby at_107 (pc' := 108) rfl (n := (5 : Int32)) (by first | rfl | decide) ?_
    refine g_icmple Xp76 hx hby at_108 (pt := 118) (pf := 111) (by decide) (by decide) rfl (fun (h108 : 3 ≤ 5) => ?_) (fun (h108 : 5 < 3) => (by exfalso; revert h108; decide))
    refine g_iload Xp76 hx hby at_118 (pc' := 120) rfl rfl ?_
    refine g_ifne Xp76 hx hby at_120 (pt := 137) (pf := 123) (by decide) (by decide) rfl (fun (h120 : ¬ (3 : Int32) = (0 : Int32)) => ?_) (fun (h120 : (3 : Int32) = (0 : Int32)) => (by exfalso; revert h120; decide))
    refine g_iload Xp76 hx hby at_137 (pc' := 139) rfl rfl ?_
    refine g_ldcI Xp76 hx hby hZ hown (hw _ (List.mem_of_getElem? (i := 36) rfl)) at_139 (pc' := 141) rfl ?_
    refine g_iand Xp76 hx hby at_141 (pc' := 142) rfl ?_
    refine g_iload Xp76 hx hby at_142 (pc' := 144) rfl rfl ?_
    refine g_irem Xp76 hx hby at_144 (pc' := 145) rfl (by decide) ?_
    refine g_nameI (fun j h_j => ?_)
    have hj : 0 ≤ j.toInt ∧ j.toInt < 3 := by rw [h_j]; exact own_modr ui (3 : Int32) (by decide)
    refine g_istore Xp76 hx hby at_145 (pc' := 147) rfl (Ls' := #[.val (.int ua), .val (.int ub), .val (.int uc), .val (.int ud), .val (.int un), .val (.int ui), .val (.int (3 : Int32)), .val (.int ua), .val (.int ub), .val (.int uc), .val (.int ud), .val (.int ve), .val (.int vf), .val (.ref o), .val (.int j), .unset, .unset]) rfl ?_
    refine g_iload Xp76 hx hby at_147 (pc' := 149) rfl rfl ?_
    refine g_iload Xp76 hx hby at_149 (pc' := 151) rfl rfl ?_
    refine g_iload Xp76 hx hby at_151 (pc' := 153) rfl rfl ?_
    refine g_iload Xp76 hx hby at_153 (pc' := 155) rfl rfl ?_
    refine g_iload Xp76 hx hby at_155 (pc' := 157) rfl rfl ?_
    refine g_iload Xp76 hx hby at_157 (pc' := 159) rfl rfl ?_
    refine g_iload Xp76 hx hby at_159 (pc' := 161) rfl rfl ?_
    refine g_static Xp76 hx hby hZ hown hml rfl (hw _ (List.mem_of_getElem? (i := 37) rfl)) (hw _ (List.mem_of_getElem? (i := 38) rfl)) (hw _ (List.mem_of_getElem? (i := 39) rfl)) (hw _ (List.mem_of_getElem? (i := 40) rfl)) (by decide) rfl (rm7 l Z a0 hw j ua ub uc ud ve vf Tp76.heap ) pd__IIIIIII_I_665 (argsL := [(.int j), (.int ua), (.int ub), (.int uc), (.int ud), (.int ve), (.int vf)]) (rest := []) rfl rfl rfl at_161 (pc' := 164) rfl (by decide) (Nat.le_of_ble_eq_true rfl) (by decide) (by decide) ?_
    intro Tp161 vp161 Lp161 Xp161 qp161
    obtain ⟨⟨rp161, rfl, h_rp161⟩, ep161, rfl⟩ := qp161
    rw [List.append_nil] at Xp161
    replace Xp161 : Stand p l e room_1 s m _ below meth c Tp161 _ 2 6 := Xp161
    show Go p e below s (Q0 n0) room_1.cells room_1.slots m Tp161 164 #[.val (.int ua), .val (.int ub), .val (.int uc), .val (.int ud), .val (.int un), .val (.int ui), .val (.int (3 : Int32)), .val (.int ua), .val (.int ub), .val (.int uc), .val (.int ud), .val (.int ve), .val (.int vf), .val (.ref o), .val (.int j), .unset, .unset] [(.int rp161)]
    refine g_istore Xp161 hx hby at_164 (pc' := 166) rfl (Ls' := #[.val (.int ua), .val (.int ub), .val (.int uc), .val (.int ud), .val (.int un), .val (.int ui), .val (.int (3 : Int32)), .val (.int ua), .val (.int ub), .val (.int uc), .val (.int ud), .val (.int ve), .val (.int vf), .val (.ref o), .val (.int j), .val (.int rp161), .unset]) rfl ?_
    refine g_aload Xp161 hx hby at_166 (pc' := 168) rfl rfl rfl ?_
    refine g_iload Xp161 hx hby at_168 (pc' := 170) rfl rfl ?_
    refine g_virtual Xp161 hx hby hZ hown hml rfl (hw _ (List.mem_of_getElem? (i := 41) rfl)) (hw _ (List.mem_of_getElem? (i := 42) rfl)) (hw _ (List.mem_of_getElem? (i := 44) rfl)) (hw _ (List.mem_of_getElem? (i := 43) rfl)) (hw _ (List.mem_of_getElem? (i := 2) rfl)) (hw _ (List.mem_of_getElem? (i := 45) rfl)) (by decide) ep161 (rm8 l Z a0 hw o j tp76 (3 : Int32) 4 _ Tp76.heap F_size_o F_values_o A_tp76 hj (by decide)) pd__I_I_227 E_o (argsL := [(.int j)]) (rest := []) rfl rfl rfl at_170 (pc' := 173) rfl (by decide) (Nat.le_of_ble_eq_true rfl) (by decide) (by decide) ?_
    intro Tp170 vp170 Lp170 Xp170 qp170
    obtain ⟨⟨rp170, rfl, h_rp170⟩, ep170, rfl⟩ := qp170
    rw [List.append_nil] at Xp170
    replace Xp170 : Stand p l e room_1 s m _ below meth c Tp170 _ 2 6 := Xp170
    show Go p e below s (Q0 n0) room_1.cells room_1.slots m Tp170 173 #[.val (.int ua), .val (.int ub), .val (.int uc), .val (.int ud), .val (.int un), .val (.int ui), .val (.int (3 : Int32)), .val (.int ua), .val (.int ub), .val (.int uc), .val (.int ud), .val (.int ve), .val (.int vf), .val (.ref o), .val (.int j), .val (.int rp161), .unset] [(.int rp170)]
    refine g_istore Xp170 hx hby at_173 (pc' := 175) rfl (Ls' := #[.val (.int ua), .val (.int ub), .val (.int uc), .val (.int ud), .val (.int un), .val (.int ui), .val (.int (3 : Int32)), .val (.int ua), .val (.int ub), .val (.int uc), .val (.int ud), .val (.int ve), .val (.int vf), .val (.ref o), .val (.int j), .val (.int rp161), .val (.int rp170)]) rfl ?_
    refine g_iload Xp170 hx hby at_175 (pc' := 177) rfl rfl ?_
    refine g_iload Xp170 hx hby at_177 (pc' := 179) rfl rfl ?_
    refine g_icmpne Xp170 hx hby at_179 (pt := 196) (pf := 182) (by decide) (by decide) rfl (fun (h179 : ¬ rp170 = rp161) => (by exfalso; exact h179 (by
      rw [h_rp170, h_rp161]
      have hjc := own_cases j 0 hj.1 (by have := hj.2; omega)
      rcases hjc with q | q | q | q | q | q | q <;> (subst q; first | rfl | (exfalso; revert hj; decide))))) (fun (h179 : rp170 = rp161) => ?_)
    have h179i : rp170.toInt = rp161.toInt := congrArg Int32.toInt h179
    refine g_aload Xp170 hx hby at_182 (pc' := 184) rfl rfl rfl ?_
    refine g_virtual Xp170 hx hby hZ hown hml rfl (hw _ (List.mem_of_getElem? (i := 12) rfl)) (hw _ (List.mem_of_getElem? (i := 13) rfl)) (hw _ (List.mem_of_getElem? (i := 15) rfl)) (hw _ (List.mem_of_getElem? (i := 14) rfl)) (hw _ (List.mem_of_getElem? (i := 2) rfl)) (hw _ (List.mem_of_getElem? (i := 16) rfl)) (by decide) ep170 (rm3 l Z a0 hw o _ Tp76.heap F_size_o) pd___I_154 E_o (argsL := []) (rest := []) rfl rfl rfl at_184 (pc' := 187) rfl (by decide) (Nat.le_of_ble_eq_true rfl) (by decide) (by decide) ?_
    intro Tp184 vp184 Lp184 Xp184 qp184
    obtain ⟨⟨rp184, rfl, h_rp184⟩, ep184, rfl⟩ := qp184
    rw [List.append_nil] at Xp184
    replace Xp184 : Stand p l e room_1 s m _ below meth c Tp184 _ 2 6 := Xp184
    show Go p e below s (Q0 n0) room_1.cells room_1.slots m Tp184 187 #[.val (.int ua), .val (.int ub), .val (.int uc), .val (.int ud), .val (.int un), .val (.int ui), .val (.int (3 : Int32)), .val (.int ua), .val (.int ub), .val (.int uc), .val (.int ud), .val (.int ve), .val (.int vf), .val (.ref o), .val (.int j), .val (.int rp161), .val (.int rp170)] [(.int rp184)]
    refine g_iload Xp184 hx hby at_187 (pc' := 189) rfl rfl ?_
    refine g_icmpne Xp184 hx hby at_189 (pt := 196) (pf := 192) (by decide) (by decide) rfl (fun (h189 : ¬ rp184 = (3 : Int32)) => (by exfalso; exact h189 h_rp184)) (fun (h189 : rp184 = (3 : Int32)) => ?_)
    have h189i : rp184.toInt = 3 := congrArg Int32.toInt h189
    refine g_iconst Xp184 hx hby at_192 (pc' := 193) rfl (n := (1 : Int32)) (by first | rfl | decide) ?_
    refine g_goto Xp184 hx hby at_193 (pc' := 197) (by decide) (by decide) ?_
    exact g_retZ Xp184 hx hby hlk (Or.inr rfl) hret at_197 (by decide) (by decide) (⟨rfl, Np76⟩)
  · refine g_iload Xp36 hx hby at_41 (pc' := 43) rfl rfl ?_
    refine g_ifle Xp36 hx hby at_43 (pt := 53) (pf := 46) (by decide) (by decide) rfl (fun (h43 : 4 ≤ 0) => (by exfalso; revert h43; decide)) (fun (h43 : 0 < 4) => ?_)
    refine g_aload Xp36 hx hby at_46 (pc' := 48) rfl rfl rfl ?_
    refine g_iload Xp36 hx hby at_48 (pc' := 50) rfl rfl ?_
    refine g_virtual Xp36 hx hby hZ hown hml rfl (hw _ (List.mem_of_getElem? (i := 19) rfl)) (hw _ (List.mem_of_getElem? (i := 20) rfl)) (hw _ (List.mem_of_getElem? (i := 22) rfl)) (hw _ (List.mem_of_getElem? (i := 21) rfl)) (hw _ (List.mem_of_getElem? (i := 2) rfl)) (hw _ (List.mem_of_getElem? (i := 23) rfl)) (by decide) rfl (rm_add l Z a0 hw o ua n0 tp36 (0 : Int32) (4 : Int32) 4 _ Tp36.heap Zs g2 g_tp36 ne_tp36 E_o F_size_o F_values_o A_tp36 rfl (by decide)) pd__I_V_240 E_o (argsL := [(.int ua)]) (rest := []) rfl rfl rfl at_50 (pc' := 53) rfl (by decide) (Nat.le_of_ble_eq_true rfl) (by decide) (by decide) ?_
    intro Tp50 vp50 Lp50 Xp50 qp50
    obtain ⟨tp50, rfl, Nqp50, g_tp50, ne_tp50, E_o, F_size_o, F_values_o, A_tp50⟩ := qp50
    replace Xp50 : Stand p l e room_1 s m _ below meth c Tp50 _ 2 6 := Xp50
    have Np50 := Fr.app Np36 Nqp50
    show Go p e below s (Q0 n0) room_1.cells room_1.slots m Tp50 53 #[.val (.int ua), .val (.int ub), .val (.int uc), .val (.int ud), .val (.int un), .val (.int ui), .val (.int (4 : Int32)), .val (.int ua), .val (.int ub), .val (.int uc), .val (.int ud), .val (.int ve), .val (.int vf), .val (.ref o), .unset, .unset, .unset] []
    replace F_size_o : Fld Z Tp50.heap o "com/example/lucid_recall/lucidrecall/index/IntList" "size" "I" (.int (1 : Int32)) := F_size_o
    have Zs : n0 ≤ Tp50.heap.size := Nat.le_of_lt (Nat.lt_of_le_of_lt g_tp50 A_tp50.lt)
    refine g_iload Xp50 hx hby at_53 (pc' := 55) rfl rfl ?_
    refine g_iconst Xp50 hx hby at_55 (pc' := 56) rfl (n := (1 : Int32)) (by first | rfl | decide) ?_
    refine g_icmple Xp50 hx hby at_56 (pt := 66) (pf := 59) (by decide) (by decide) rfl (fun (h56 : 4 ≤ 1) => (by exfalso; revert h56; decide)) (fun (h56 : 1 < 4) => ?_)
    refine g_aload Xp50 hx hby at_59 (pc' := 61) rfl rfl rfl ?_
    refine g_iload Xp50 hx hby at_61 (pc' := 63) rfl rfl ?_
    refine g_virtual Xp50 hx hby hZ hown hml rfl (hw _ (List.mem_of_getElem? (i := 19) rfl)) (hw _ (List.mem_of_getElem? (i := 20) rfl)) (hw _ (List.mem_of_getElem? (i := 22) rfl)) (hw _ (List.mem_of_getElem? (i := 21) rfl)) (hw _ (List.mem_of_getElem? (i := 2) rfl)) (hw _ (List.mem_of_getElem? (i := 23) rfl)) (by decide) rfl (rm_add l Z a0 hw o ub n0 tp50 (1 : Int32) (4 : Int32) 4 _ Tp50.heap Zs g2 g_tp50 ne_tp50 E_o F_size_o F_values_o A_tp50 rfl (by decide)) pd__I_V_240 E_o (argsL := [(.int ub)]) (rest := []) rfl rfl rfl at_63 (pc' := 66) rfl (by decide) (Nat.le_of_ble_eq_true rfl) (by decide) (by decide) ?_
    intro Tp63 vp63 Lp63 Xp63 qp63
    obtain ⟨tp63, rfl, Nqp63, g_tp63, ne_tp63, E_o, F_size_o, F_values_o, A_tp63⟩ := qp63
    replace Xp63 : Stand p l e room_1 s m _ below meth c Tp63 _ 2 6 := Xp63
    have Np63 := Fr.app Np50 Nqp63
    show Go p e below s (Q0 n0) room_1.cells room_1.slots m Tp63 66 #[.val (.int ua), .val (.int ub), .val (.int uc), .val (.int ud), .val (.int un), .val (.int ui), .val (.int (4 : Int32)), .val (.int ua), .val (.int ub), .val (.int uc), .val (.int ud), .val (.int ve), .val (.int vf), .val (.ref o), .unset, .unset, .unset] []
    replace F_size_o : Fld Z Tp63.heap o "com/example/lucid_recall/lucidrecall/index/IntList" "size" "I" (.int (2 : Int32)) := F_size_o
    have Zs : n0 ≤ Tp63.heap.size := Nat.le_of_lt (Nat.lt_of_le_of_lt g_tp63 A_tp63.lt)
    refine g_iload Xp63 hx hby at_66 (pc' := 68) rfl rfl ?_
    refine g_iconst Xp63 hx hby at_68 (pc' := 69) rfl (n := (2 : Int32)) (by first | rfl | decide) ?_
    refine g_icmple Xp63 hx hby at_69 (pt := 79) (pf := 72) (by decide) (by decide) rfl (fun (h69 : 4 ≤ 2) => (by exfalso; revert h69; decide)) (fun (h69 : 2 < 4) => ?_)
    refine g_aload Xp63 hx hby at_72 (pc' := 74) rfl rfl rfl ?_
    refine g_iload Xp63 hx hby at_74 (pc' := 76) rfl rfl ?_
    refine g_virtual Xp63 hx hby hZ hown hml rfl (hw _ (List.mem_of_getElem? (i := 19) rfl)) (hw _ (List.mem_of_getElem? (i := 20) rfl)) (hw _ (List.mem_of_getElem? (i := 22) rfl)) (hw _ (List.mem_of_getElem? (i := 21) rfl)) (hw _ (List.mem_of_getElem? (i := 2) rfl)) (hw _ (List.mem_of_getElem? (i := 23) rfl)) (by decide) rfl (rm_add l Z a0 hw o uc n0 tp63 (2 : Int32) (4 : Int32) 4 _ Tp63.heap Zs g2 g_tp63 ne_tp63 E_o F_size_o F_values_o A_tp63 rfl (by decide)) pd__I_V_240 E_o (argsL := [(.int uc)]) (rest := []) rfl rfl rfl at_76 (pc' := 79) rfl (by decide) (Nat.le_of_ble_eq_true rfl) (by decide) (by decide) ?_
    intro Tp76 vp76 Lp76 Xp76 qp76
    obtain ⟨tp76, rfl, Nqp76, g_tp76, ne_tp76, E_o, F_size_o, F_values_o, A_tp76⟩ := qp76
    replace Xp76 : Stand p l e room_1 s m _ below meth c Tp76 _ 2 6 := Xp76
    have Np76 := Fr.app Np63 Nqp76
    show Go p e below s (Q0 n0) room_1.cells room_1.slots m Tp76 79 #[.val (.int ua), .val (.int ub), .val (.int uc), .val (.int ud), .val (.int un), .val (.int ui), .val (.int (4 : Int32)), .val (.int ua), .val (.int ub), .val (.int uc), .val (.int ud), .val (.int ve), .val (.int vf), .val (.ref o), .unset, .unset, .unset] []
    replace F_size_o : Fld Z Tp76.heap o "com/example/lucid_recall/lucidrecall/index/IntList" "size" "I" (.int (3 : Int32)) := F_size_o
    have Zs : n0 ≤ Tp76.heap.size := Nat.le_of_lt (Nat.lt_of_le_of_lt g_tp76 A_tp76.lt)
    refine g_iload Xp76 hx hby at_79 (pc' := 81) rfl rfl ?_
    refine g_iconst Xp76 hx hby at_81 (pc' := 82) rfl (n := (3 : Int32)) (by first | rfl | decide) ?_
    refine g_icmple Xp76 hx hby at_82 (pt := 92) (pf := 85) (by decide) (by decide) rfl (fun (h82 : 4 ≤ 3) => (by exfalso; revert h82; decide)) (fun (h82 : 3 < 4) => ?_)
    refine g_aload Xp76 hx hby at_85 (pc' := 87) rfl rfl rfl ?_
    refine g_iload Xp76 hx hby at_87 (pc' := 89) rfl rfl ?_
    refine g_virtual Xp76 hx hby hZ hown hml rfl (hw _ (List.mem_of_getElem? (i := 19) rfl)) (hw _ (List.mem_of_getElem? (i := 20) rfl)) (hw _ (List.mem_of_getElem? (i := 22) rfl)) (hw _ (List.mem_of_getElem? (i := 21) rfl)) (hw _ (List.mem_of_getElem? (i := 2) rfl)) (hw _ (List.mem_of_getElem? (i := 23) rfl)) (by decide) rfl (rm_add l Z a0 hw o ud n0 tp76 (3 : Int32) (4 : Int32) 4 _ Tp76.heap Zs g2 g_tp76 ne_tp76 E_o F_size_o F_values_o A_tp76 rfl (by decide)) pd__I_V_240 E_o (argsL := [(.int ud)]) (rest := []) rfl rfl rfl at_89 (pc' := 92) rfl (by decide) (Nat.le_of_ble_eq_true rfl) (by decide) (by decide) ?_
    intro Tp89 vp89 Lp89 Xp89 qp89
    obtain ⟨tp89, rfl, Nqp89, g_tp89, ne_tp89, E_o, F_size_o, F_values_o, A_tp89⟩ := qp89
    replace Xp89 : Stand p l e room_1 s m _ below meth c Tp89 _ 2 6 := Xp89
    have Np89 := Fr.app Np76 Nqp89
    show Go p e below s (Q0 n0) room_1.cells room_1.slots m Tp89 92 #[.val (.int ua), .val (.int ub), .val (.int uc), .val (.int ud), .val (.int un), .val (.int ui), .val (.int (4 : Int32)), .val (.int ua), .val (.int ub), .val (.int uc), .val (.int ud), .val (.int ve), .val (.int vf), .val (.ref o), .unset, .unset, .unset] []
    replace F_size_o : Fld Z Tp89.heap o "com/example/lucid_recall/lucidrecall/index/IntList" "size" "I" (.int (4 : Int32)) := F_size_o
    have Zs : n0 ≤ Tp89.heap.size := Nat.le_of_lt (Nat.lt_of_le_of_lt g_tp89 A_tp89.lt)
    refine g_iload Xp89 hx hby at_92 (pc' := 94) rfl rfl ?_
    refine g_iconst Xp89 hx hby at_94 (pc' := 95) rfl (n := (4 : Int32)) (by first | rfl | decide) ?_
    refine g_icmple Xp89 hx hby at_95 (pt := 105) (pf := 98) (by decide) (by decide) rfl (fun (h95 : 4 ≤ 4) => ?_) (fun (h95 : 4 < 4) => (by exfalso; revert h95; decide))
    refine g_iload Xp89 hx hby at_105 (pc' := 107) rfl rfl ?_
    refine g_iconst Xp89 hx hby at_107 (pc' := 108) rfl (n := (5 : Int32)) (by first | rfl | decide) ?_
    refine g_icmple Xp89 hx hby at_108 (pt := 118) (pf := 111) (by decide) (by decide) rfl (fun (h108 : 4 ≤ 5) => ?_) (fun (h108 : 5 < 4) => (by exfalso; revert h108; decide))
    refine g_iload Xp89 hx hby at_118 (pc' := 120) rfl rfl ?_
    refine g_ifne Xp89 hx hby at_120 (pt := 137) (pf := 123) (by decide) (by decide) rfl (fun (h120 : ¬ (4 : Int32) = (0 : Int32)) => ?_) (fun (h120 : (4 : Int32) = (0 : Int32)) => (by exfalso; revert h120; decide))
    refine g_iload Xp89 hx hby at_137 (pc' := 139) rfl rfl ?_
    refine g_ldcI Xp89 hx hby hZ hown (hw _ (List.mem_of_getElem? (i := 36) rfl)) at_139 (pc' := 141) rfl ?_
    refine g_iand Xp89 hx hby at_141 (pc' := 142) rfl ?_
    refine g_iload Xp89 hx hby at_142 (pc' := 144) rfl rfl ?_
    refine g_irem Xp89 hx hby at_144 (pc' := 145) rfl (by decide) ?_
    refine g_nameI (fun j h_j => ?_)
    have hj : 0 ≤ j.toInt ∧ j.toInt < 4 := by rw [h_j]; exact own_modr ui (4 : Int32) (by decide)
    refine g_istore Xp89 hx hby at_145 (pc' := 147) rfl (Ls' := #[.val (.int ua), .val (.int ub), .val (.int uc), .val (.int ud), .val (.int un), .val (.int ui), .val (.int (4 : Int32)), .val (.int ua), .val (.int ub), .val (.int uc), .val (.int ud), .val (.int ve), .val (.int vf), .val (.ref o), .val (.int j), .unset, .unset]) rfl ?_
    refine g_iload Xp89 hx hby at_147 (pc' := 149) rfl rfl ?_
    refine g_iload Xp89 hx hby at_149 (pc' := 151) rfl rfl ?_
    refine g_iload Xp89 hx hby at_151 (pc' := 153) rfl rfl ?_
    refine g_iload Xp89 hx hby at_153 (pc' := 155) rfl rfl ?_
    refine g_iload Xp89 hx hby at_155 (pc' := 157) rfl rfl ?_
    refine g_iload Xp89 hx hby at_157 (pc' := 159) rfl rfl ?_
    refine g_iload Xp89 hx hby at_159 (pc' := 161) rfl rfl ?_
    refine g_static Xp89 hx hby hZ hown hml rfl (hw _ (List.mem_of_getElem? (i := 37) rfl)) (hw _ (List.mem_of_getElem? (i := 38) rfl)) (hw _ (List.mem_of_getElem? (i := 39) rfl)) (hw _ (List.mem_of_getElem? (i := 40) rfl)) (by decide) rfl (rm7 l Z a0 hw j ua ub uc ud ve vf Tp89.heap ) pd__IIIIIII_I_665 (argsL := [(.int j), (.int ua), (.int ub), (.int uc), (.int ud), (.int ve), (.int vf)]) (rest := []) rfl rfl rfl at_161 (pc' := 164) rfl (by decide) (Nat.le_of_ble_eq_true rfl) (by decide) (by decide) ?_
    intro Tp161 vp161 Lp161 Xp161 qp161
    obtain ⟨⟨rp161, rfl, h_rp161⟩, ep161, rfl⟩ := qp161
    rw [List.append_nil] at Xp161
    replace Xp161 : Stand p l e room_1 s m _ below meth c Tp161 _ 2 6 := Xp161
    show Go p e below s (Q0 n0) room_1.cells room_1.slots m Tp161 164 #[.val (.int ua), .val (.int ub), .val (.int uc), .val (.int ud), .val (.int un), .val (.int ui), .val (.int (4 : Int32)), .val (.int ua), .val (.int ub), .val (.int uc), .val (.int ud), .val (.int ve), .val (.int vf), .val (.ref o), .val (.int j), .unset, .unset] [(.int rp161)]
    refine g_istore Xp161 hx hby at_164 (pc' := 166) rfl (Ls' := #[.val (.int ua), .val (.int ub), .val (.int uc), .val (.int ud), .val (.int un), .val (.int ui), .val (.int (4 : Int32)), .val (.int ua), .val (.int ub), .val (.int uc), .val (.int ud), .val (.int ve), .val (.int vf), .val (.ref o), .val (.int j), .val (.int rp161), .unset]) rfl ?_
    refine g_aload Xp161 hx hby at_166 (pc' := 168) rfl rfl rfl ?_
    refine g_iload Xp161 hx hby at_168 (pc' := 170) rfl rfl ?_
    refine g_virtual Xp161 hx hby hZ hown hml rfl (hw _ (List.mem_of_getElem? (i := 41) rfl)) (hw _ (List.mem_of_getElem? (i := 42) rfl)) (hw _ (List.mem_of_getElem? (i := 44) rfl)) (hw _ (List.mem_of_getElem? (i := 43) rfl)) (hw _ (List.mem_of_getElem? (i := 2) rfl)) (hw _ (List.mem_of_getElem? (i := 45) rfl)) (by decide) ep161 (rm8 l Z a0 hw o j tp89 (4 : Int32) 4 _ Tp89.heap F_size_o F_values_o A_tp89 hj (by decide)) pd__I_I_227 E_o (argsL := [(.int j)]) (rest := []) rfl rfl rfl at_170 (pc' := 173) rfl (by decide) (Nat.le_of_ble_eq_true rfl) (by decide) (by decide) ?_
    intro Tp170 vp170 Lp170 Xp170 qp170
    obtain ⟨⟨rp170, rfl, h_rp170⟩, ep170, rfl⟩ := qp170
    rw [List.append_nil] at Xp170
    replace Xp170 : Stand p l e room_1 s m _ below meth c Tp170 _ 2 6 := Xp170
    show Go p e below s (Q0 n0) room_1.cells room_1.slots m Tp170 173 #[.val (.int ua), .val (.int ub), .val (.int uc), .val (.int ud), .val (.int un), .val (.int ui), .val (.int (4 : Int32)), .val (.int ua), .val (.int ub), .val (.int uc), .val (.int ud), .val (.int ve), .val (.int vf), .val (.ref o), .val (.int j), .val (.int rp161), .unset] [(.int rp170)]
    refine g_istore Xp170 hx hby at_173 (pc' := 175) rfl (Ls' := #[.val (.int ua), .val (.int ub), .val (.int uc), .val (.int ud), .val (.int un), .val (.int ui), .val (.int (4 : Int32)), .val (.int ua), .val (.int ub), .val (.int uc), .val (.int ud), .val (.int ve), .val (.int vf), .val (.ref o), .val (.int j), .val (.int rp161), .val (.int rp170)]) rfl ?_
    refine g_iload Xp170 hx hby at_175 (pc' := 177) rfl rfl ?_
    refine g_iload Xp170 hx hby at_177 (pc' := 179) rfl rfl ?_
    refine g_icmpne Xp170 hx hby at_179 (pt := 196) (pf := 182) (by decide) (by decide) rfl (fun (h179 : ¬ rp170 = rp161) => (by exfalso; exact h179 (by
      rw [h_rp170, h_rp161]
      have hjc := own_cases j 0 hj.1 (by have := hj.2; omega)
      rcases hjc with q | q | q | q | q | q | q <;> (subst q; first | rfl | (exfalso; revert hj; decide))))) (fun (h179 : rp170 = rp161) => ?_)
    have h179i : rp170.toInt = rp161.toInt := congrArg Int32.toInt h179
    refine g_aload Xp170 hx hby at_182 (pc' := 184) rfl rfl rfl ?_
    refine g_virtual Xp170 hx hby hZ hown hml rfl (hw _ (List.mem_of_getElem? (i := 12) rfl)) (hw _ (List.mem_of_getElem? (i := 13) rfl)) (hw _ (List.mem_of_getElem? (i := 15) rfl)) (hw _ (List.mem_of_getElem? (i := 14) rfl)) (hw _ (List.mem_of_getElem? (i := 2) rfl)) (hw _ (List.mem_of_getElem? (i := 16) rfl)) (by decide) ep170 (rm3 l Z a0 hw o _ Tp89.heap F_size_o) pd___I_154 E_o (argsL := []) (rest := []) rfl rfl rfl at_184 (pc' := 187) rfl (by decide) (Nat.le_of_ble_eq_true rfl) (by decide) (by decide) ?_
    intro Tp184 vp184 Lp184 Xp184 qp184
    obtain ⟨⟨rp184, rfl, h_rp184⟩, ep184, rfl⟩ := qp184
    rw [List.append_nil] at Xp184
    replace Xp184 : Stand p l e room_1 s m _ below meth c Tp184 _ 2 6 := Xp184
    show Go p e below s (Q0 n0) room_1.cells room_1.slots m Tp184 187 #[.val (.int ua), .val (.int ub), .val (.int uc), .val (.int ud), .val (.int un), .val (.int ui), .val (.int (4 : Int32)), .val (.int ua), .val (.int ub), .val (.int uc), .val (.int ud), .val (.int ve), .val (.int vf), .val (.ref o), .val (.int j), .val (.int rp161), .val (.int rp170)] [(.int rp184)]
    refine g_iload Xp184 hx hby at_187 (pc' := 189) rfl rfl ?_
    refine g_icmpne Xp184 hx hby at_189 (pt := 196) (pf := 192) (by decide) (by decide) rfl (fun (h189 : ¬ rp184 = (4 : Int32)) => (by exfalso; exact h189 h_rp184)) (fun (h189 : rp184 = (4 : Int32)) => ?_)
    have h189i : rp184.toInt = 4 := congrArg Int32.toInt h189
    refine g_iconst Xp184 hx hby at_192 (pc' := 193) rfl (n := (1 : Int32)) (by first | rfl | decide) ?_
    refine g_goto Xp184 hx hby at_193 (pc' := 197) (by decide) (by decide) ?_
    exact g_retZ Xp184 hx hby hlk (Or.inr rfl) hret at_197 (by decide) (by decide) (⟨rfl, Np89⟩)
  · refine g_iload Xp36 hx hby at_41 (pc' := 43) rfl rfl ?_
    refine g_ifle Xp36 hx hby at_43 (pt := 53) (pf := 46) (by decide) (by decide) rfl (fun (h43 : 5 ≤ 0) => (by exfalso; revert h43; decide)) (fun (h43 : 0 < 5) => ?_)
    refine g_aload Xp36 hx hby at_46 (pc' := 48) rfl rfl rfl ?_
    refine g_iload Xp36 hx hby at_48 (pc' := 50) rfl rfl ?_
    refine g_virtual Xp36 hx hby hZ hown hml rfl (hw _ (List.mem_of_getElem? (i := 19) rfl)) (hw _ (List.mem_of_getElem? (i := 20) rfl)) (hw _ (List.mem_of_getElem? (i := 22) rfl)) (hw _ (List.mem_of_getElem? (i := 21) rfl)) (hw _ (List.mem_of_getElem? (i := 2) rfl)) (hw _ (List.mem_of_getElem? (i := 23) rfl)) (by decide) rfl (rm_add l Z a0 hw o ua n0 tp36 (0 : Int32) (4 : Int32) 4 _ Tp36.heap Zs g2 g_tp36 ne_tp36 E_o F_size_o F_values_o A_tp36 rfl (by decide)) pd__I_V_240 E_o (argsL := [(.int ua)]) (rest := []) rfl rfl rfl at_50 (pc' := 53) rfl (by decide) (Nat.le_of_ble_eq_true rfl) (by decide) (by decide) ?_
    intro Tp50 vp50 Lp50 Xp50 qp50
    obtain ⟨tp50, rfl, Nqp50, g_tp50, ne_tp50, E_o, F_size_o, F_values_o, A_tp50⟩ := qp50
    replace Xp50 : Stand p l e room_1 s m _ below meth c Tp50 _ 2 6 := Xp50
    have Np50 := Fr.app Np36 Nqp50
    show Go p e below s (Q0 n0) room_1.cells room_1.slots m Tp50 53 #[.val (.int ua), .val (.int ub), .val (.int uc), .val (.int ud), .val (.int un), .val (.int ui), .val (.int (5 : Int32)), .val (.int ua), .val (.int ub), .val (.int uc), .val (.int ud), .val (.int ve), .val (.int vf), .val (.ref o), .unset, .unset, .unset] []
    replace F_size_o : Fld Z Tp50.heap o "com/example/lucid_recall/lucidrecall/index/IntList" "size" "I" (.int (1 : Int32)) := F_size_o
    have Zs : n0 ≤ Tp50.heap.size := Nat.le_of_lt (Nat.lt_of_le_of_lt g_tp50 A_tp50.lt)
    refine g_iload Xp50 hx hby at_53 (pc' := 55) rfl rfl ?_
    refine g_iconst Xp50 hx hby at_55 (pc' := 56) rfl (n := (1 : Int32)) (by first | rfl | decide) ?_
    refine g_icmple Xp50 hx hby at_56 (pt := 66) (pf := 59) (by decide) (by decide) rfl (fun (h56 : 5 ≤ 1) => (by exfalso; revert h56; decide)) (fun (h56 : 1 < 5) => ?_)
    refine g_aload Xp50 hx hby at_59 (pc' := 61) rfl rfl rfl ?_
    refine g_iload Xp50 hx hby at_61 (pc' := 63) rfl rfl ?_
    refine g_virtual Xp50 hx hby hZ hown hml rfl (hw _ (List.mem_of_getElem? (i := 19) rfl)) (hw _ (List.mem_of_getElem? (i := 20) rfl)) (hw _ (List.mem_of_getElem? (i := 22) rfl)) (hw _ (List.mem_of_getElem? (i := 21) rfl)) (hw _ (List.mem_of_getElem? (i := 2) rfl)) (hw _ (List.mem_of_getElem? (i := 23) rfl)) (by decide) rfl (rm_add l Z a0 hw o ub n0 tp50 (1 : Int32) (4 : Int32) 4 _ Tp50.heap Zs g2 g_tp50 ne_tp50 E_o F_size_o F_values_o A_tp50 rfl (by decide)) pd__I_V_240 E_o (argsL := [(.int ub)]) (rest := []) rfl rfl rfl at_63 (pc' := 66) rfl (by decide) (Nat.le_of_ble_eq_true rfl) (by decide) (by decide) ?_
    intro Tp63 vp63 Lp63 Xp63 qp63
    obtain ⟨tp63, rfl, Nqp63, g_tp63, ne_tp63, E_o, F_size_o, F_values_o, A_tp63⟩ := qp63
    replace Xp63 : Stand p l e room_1 s m _ below meth c Tp63 _ 2 6 := Xp63
    have Np63 := Fr.app Np50 Nqp63
    show Go p e below s (Q0 n0) room_1.cells room_1.slots m Tp63 66 #[.val (.int ua), .val (.int ub), .val (.int uc), .val (.int ud), .val (.int un), .val (.int ui), .val (.int (5 : Int32)), .val (.int ua), .val (.int ub), .val (.int uc), .val (.int ud), .val (.int ve), .val (.int vf), .val (.ref o), .unset, .unset, .unset] []
    replace F_size_o : Fld Z Tp63.heap o "com/example/lucid_recall/lucidrecall/index/IntList" "size" "I" (.int (2 : Int32)) := F_size_o
    have Zs : n0 ≤ Tp63.heap.size := Nat.le_of_lt (Nat.lt_of_le_of_lt g_tp63 A_tp63.lt)
    refine g_iload Xp63 hx hby at_66 (pc' := 68) rfl rfl ?_
    refine g_iconst Xp63 hx hby at_68 (pc' := 69) rfl (n := (2 : Int32)) (by first | rfl | decide) ?_
    refine g_icmple Xp63 hx hby at_69 (pt := 79) (pf := 72) (by decide) (by decide) rfl (fun (h69 : 5 ≤ 2) => (by exfalso; revert h69; decide)) (fun (h69 : 2 < 5) => ?_)
    refine g_aload Xp63 hx hby at_72 (pc' := 74) rfl rfl rfl ?_
    refine g_iload Xp63 hx hby at_74 (pc' := 76) rfl rfl ?_
    refine g_virtual Xp63 hx hby hZ hown hml rfl (hw _ (List.mem_of_getElem? (i := 19) rfl)) (hw _ (List.mem_of_getElem? (i := 20) rfl)) (hw _ (List.mem_of_getElem? (i := 22) rfl)) (hw _ (List.mem_of_getElem? (i := 21) rfl)) (hw _ (List.mem_of_getElem? (i := 2) rfl)) (hw _ (List.mem_of_getElem? (i := 23) rfl)) (by decide) rfl (rm_add l Z a0 hw o uc n0 tp63 (2 : Int32) (4 : Int32) 4 _ Tp63.heap Zs g2 g_tp63 ne_tp63 E_o F_size_o F_values_o A_tp63 rfl (by decide)) pd__I_V_240 E_o (argsL := [(.int uc)]) (rest := []) rfl rfl rfl at_76 (pc' := 79) rfl (by decide) (Nat.le_of_ble_eq_true rfl) (by decide) (by decide) ?_
    intro Tp76 vp76 Lp76 Xp76 qp76
    obtain ⟨tp76, rfl, Nqp76, g_tp76, ne_tp76, E_o, F_size_o, F_values_o, A_tp76⟩ := qp76
    replace Xp76 : Stand p l e room_1 s m _ below meth c Tp76 _ 2 6 := Xp76
    have Np76 := Fr.app Np63 Nqp76
    show Go p e below s (Q0 n0) room_1.cells room_1.slots m Tp76 79 #[.val (.int ua), .val (.int ub), .val (.int uc), .val (.int ud), .val (.int un), .val (.int ui), .val (.int (5 : Int32)), .val (.int ua), .val (.int ub), .val (.int uc), .val (.int ud), .val (.int ve), .val (.int vf), .val (.ref o), .unset, .unset, .unset] []
    replace F_size_o : Fld Z Tp76.heap o "com/example/lucid_recall/lucidrecall/index/IntList" "size" "I" (.int (3 : Int32)) := F_size_o
    have Zs : n0 ≤ Tp76.heap.size := Nat.le_of_lt (Nat.lt_of_le_of_lt g_tp76 A_tp76.lt)
    refine g_iload Xp76 hx hby at_79 (pc' := 81) rfl rfl ?_
    refine g_iconst Xp76 hx hby at_81 (pc' := 82) rfl (n := (3 : Int32)) (by first | rfl | decide) ?_
    refine g_icmple Xp76 hx hby at_82 (pt := 92) (pf := 85) (by decide) (by decide) rfl (fun (h82 : 5 ≤ 3) => (by exfalso; revert h82; decide)) (fun (h82 : 3 < 5) => ?_)
    refine g_aload Xp76 hx hby at_85 (pc' := 87) rfl rfl rfl ?_
    refine g_iload Xp76 hx hby at_87 (pc' := 89) rfl rfl ?_
    refine g_virtual Xp76 hx hby hZ hown hml rfl (hw _ (List.mem_of_getElem? (i := 19) rfl)) (hw _ (List.mem_of_getElem? (i := 20) rfl)) (hw _ (List.mem_of_getElem? (i := 22) rfl)) (hw _ (List.mem_of_getElem? (i := 21) rfl)) (hw _ (List.mem_of_getElem? (i := 2) rfl)) (hw _ (List.mem_of_getElem? (i := 23) rfl)) (by decide) rfl (rm_add l Z a0 hw o ud n0 tp76 (3 : Int32) (4 : Int32) 4 _ Tp76.heap Zs g2 g_tp76 ne_tp76 E_o F_size_o F_values_o A_tp76 rfl (by decide)) pd__I_V_240 E_o (argsL := [(.int ud)]) (rest := []) rfl rfl rfl at_89 (pc' := 92) rfl (by decide) (Nat.le_of_ble_eq_true rfl) (by decide) (by decide) ?_
    intro Tp89 vp89 Lp89 Xp89 qp89
    obtain ⟨tp89, rfl, Nqp89, g_tp89, ne_tp89, E_o, F_size_o, F_values_o, A_tp89⟩ := qp89
    replace Xp89 : Stand p l e room_1 s m _ below meth c Tp89 _ 2 6 := Xp89
    have Np89 := Fr.app Np76 Nqp89
    show Go p e below s (Q0 n0) room_1.cells room_1.slots m Tp89 92 #[.val (.int ua), .val (.int ub), .val (.int uc), .val (.int ud), .val (.int un), .val (.int ui), .val (.int (5 : Int32)), .val (.int ua), .val (.int ub), .val (.int uc), .val (.int ud), .val (.int ve), .val (.int vf), .val (.ref o), .unset, .unset, .unset] []
    replace F_size_o : Fld Z Tp89.heap o "com/example/lucid_recall/lucidrecall/index/IntList" "size" "I" (.int (4 : Int32)) := F_size_o
    have Zs : n0 ≤ Tp89.heap.size := Nat.le_of_lt (Nat.lt_of_le_of_lt g_tp89 A_tp89.lt)
    refine g_iload Xp89 hx hby at_92 (pc' := 94) rfl rfl ?_
    refine g_iconst Xp89 hx hby at_94 (pc' := 95) rfl (n := (4 : Int32)) (by first | rfl | decide) ?_
    refine g_icmple Xp89 hx hby at_95 (pt := 105) (pf := 98) (by decide) (by decide) rfl (fun (h95 : 5 ≤ 4) => (by exfalso; revert h95; decide)) (fun (h95 : 4 < 5) => ?_)
    refine g_aload Xp89 hx hby at_98 (pc' := 100) rfl rfl rfl ?_
    refine g_iload Xp89 hx hby at_100 (pc' := 102) rfl rfl ?_
    refine g_virtual Xp89 hx hby hZ hown hml rfl (hw _ (List.mem_of_getElem? (i := 19) rfl)) (hw _ (List.mem_of_getElem? (i := 20) rfl)) (hw _ (List.mem_of_getElem? (i := 22) rfl)) (hw _ (List.mem_of_getElem? (i := 21) rfl)) (hw _ (List.mem_of_getElem? (i := 2) rfl)) (hw _ (List.mem_of_getElem? (i := 23) rfl)) (by decide) rfl (rm_grow l Z a0 hw o ve n0 tp89 _ Tp89.heap Zs g2 g_tp89 ne_tp89 E_o F_size_o F_values_o A_tp89) pd__I_V_240 E_o (argsL := [(.int ve)]) (rest := []) rfl rfl rfl at_102 (pc' := 105) rfl (by decide) (Nat.le_of_ble_eq_true rfl) (by decide) (by decide) ?_
    intro Tp102 vp102 Lp102 Xp102 qp102
    obtain ⟨tp102, rfl, Nqp102, g_tp102, ne_tp102, E_o, F_size_o, F_values_o, A_tp102⟩ := qp102
    replace Xp102 : Stand p l e room_1 s m _ below meth c Tp102 _ 3 14 := Xp102
    have Np102 := Fr.app Np89 Nqp102
    show Go p e below s (Q0 n0) room_1.cells room_1.slots m Tp102 105 #[.val (.int ua), .val (.int ub), .val (.int uc), .val (.int ud), .val (.int un), .val (.int ui), .val (.int (5 : Int32)), .val (.int ua), .val (.int ub), .val (.int uc), .val (.int ud), .val (.int ve), .val (.int vf), .val (.ref o), .unset, .unset, .unset] []
    replace F_size_o : Fld Z Tp102.heap o "com/example/lucid_recall/lucidrecall/index/IntList" "size" "I" (.int (5 : Int32)) := F_size_o
    have Zs : n0 ≤ Tp102.heap.size := Nat.le_of_lt (Nat.lt_of_le_of_lt g_tp102 A_tp102.lt)
    refine g_iload Xp102 hx hby at_105 (pc' := 107) rfl rfl ?_
    refine g_iconst Xp102 hx hby at_107 (pc' := 108) rfl (n := (5 : Int32)) (by first | rfl | decide) ?_
    refine g_icmple Xp102 hx hby at_108 (pt := 118) (pf := 111) (by decide) (by decide) rfl (fun (h108 : 5 ≤ 5) => ?_) (fun (h108 : 5 < 5) => (by exfalso; revert h108; decide))
    refine g_iload Xp102 hx hby at_118 (pc' := 120) rfl rfl ?_
    refine g_ifne Xp102 hx hby at_120 (pt := 137) (pf := 123) (by decide) (by decide) rfl (fun (h120 : ¬ (5 : Int32) = (0 : Int32)) => ?_) (fun (h120 : (5 : Int32) = (0 : Int32)) => (by exfalso; revert h120; decide))
    refine g_iload Xp102 hx hby at_137 (pc' := 139) rfl rfl ?_
    refine g_ldcI Xp102 hx hby hZ hown (hw _ (List.mem_of_getElem? (i := 36) rfl)) at_139 (pc' := 141) rfl ?_
    refine g_iand Xp102 hx hby at_141 (pc' := 142) rfl ?_
    refine g_iload Xp102 hx hby at_142 (pc' := 144) rfl rfl ?_
    refine g_irem Xp102 hx hby at_144 (pc' := 145) rfl (by decide) ?_
    refine g_nameI (fun j h_j => ?_)
    have hj : 0 ≤ j.toInt ∧ j.toInt < 5 := by rw [h_j]; exact own_modr ui (5 : Int32) (by decide)
    refine g_istore Xp102 hx hby at_145 (pc' := 147) rfl (Ls' := #[.val (.int ua), .val (.int ub), .val (.int uc), .val (.int ud), .val (.int un), .val (.int ui), .val (.int (5 : Int32)), .val (.int ua), .val (.int ub), .val (.int uc), .val (.int ud), .val (.int ve), .val (.int vf), .val (.ref o), .val (.int j), .unset, .unset]) rfl ?_
    refine g_iload Xp102 hx hby at_147 (pc' := 149) rfl rfl ?_
    refine g_iload Xp102 hx hby at_149 (pc' := 151) rfl rfl ?_
    refine g_iload Xp102 hx hby at_151 (pc' := 153) rfl rfl ?_
    refine g_iload Xp102 hx hby at_153 (pc' := 155) rfl rfl ?_
    refine g_iload Xp102 hx hby at_155 (pc' := 157) rfl rfl ?_
    refine g_iload Xp102 hx hby at_157 (pc' := 159) rfl rfl ?_
    refine g_iload Xp102 hx hby at_159 (pc' := 161) rfl rfl ?_
    refine g_static Xp102 hx hby hZ hown hml rfl (hw _ (List.mem_of_getElem? (i := 37) rfl)) (hw _ (List.mem_of_getElem? (i := 38) rfl)) (hw _ (List.mem_of_getElem? (i := 39) rfl)) (hw _ (List.mem_of_getElem? (i := 40) rfl)) (by decide) rfl (rm7 l Z a0 hw j ua ub uc ud ve vf Tp102.heap ) pd__IIIIIII_I_665 (argsL := [(.int j), (.int ua), (.int ub), (.int uc), (.int ud), (.int ve), (.int vf)]) (rest := []) rfl rfl rfl at_161 (pc' := 164) rfl (by decide) (Nat.le_of_ble_eq_true rfl) (by decide) (by decide) ?_
    intro Tp161 vp161 Lp161 Xp161 qp161
    obtain ⟨⟨rp161, rfl, h_rp161⟩, ep161, rfl⟩ := qp161
    rw [List.append_nil] at Xp161
    replace Xp161 : Stand p l e room_1 s m _ below meth c Tp161 _ 3 14 := Xp161
    show Go p e below s (Q0 n0) room_1.cells room_1.slots m Tp161 164 #[.val (.int ua), .val (.int ub), .val (.int uc), .val (.int ud), .val (.int un), .val (.int ui), .val (.int (5 : Int32)), .val (.int ua), .val (.int ub), .val (.int uc), .val (.int ud), .val (.int ve), .val (.int vf), .val (.ref o), .val (.int j), .unset, .unset] [(.int rp161)]
    refine g_istore Xp161 hx hby at_164 (pc' := 166) rfl (Ls' := #[.val (.int ua), .val (.int ub), .val (.int uc), .val (.int ud), .val (.int un), .val (.int ui), .val (.int (5 : Int32)), .val (.int ua), .val (.int ub), .val (.int uc), .val (.int ud), .val (.int ve), .val (.int vf), .val (.ref o), .val (.int j), .val (.int rp161), .unset]) rfl ?_
    refine g_aload Xp161 hx hby at_166 (pc' := 168) rfl rfl rfl ?_
    refine g_iload Xp161 hx hby at_168 (pc' := 170) rfl rfl ?_
    refine g_virtual Xp161 hx hby hZ hown hml rfl (hw _ (List.mem_of_getElem? (i := 41) rfl)) (hw _ (List.mem_of_getElem? (i := 42) rfl)) (hw _ (List.mem_of_getElem? (i := 44) rfl)) (hw _ (List.mem_of_getElem? (i := 43) rfl)) (hw _ (List.mem_of_getElem? (i := 2) rfl)) (hw _ (List.mem_of_getElem? (i := 45) rfl)) (by decide) ep161 (rm8 l Z a0 hw o j tp102 (5 : Int32) 8 _ Tp102.heap F_size_o F_values_o A_tp102 hj (by decide)) pd__I_I_227 E_o (argsL := [(.int j)]) (rest := []) rfl rfl rfl at_170 (pc' := 173) rfl (by decide) (Nat.le_of_ble_eq_true rfl) (by decide) (by decide) ?_
    intro Tp170 vp170 Lp170 Xp170 qp170
    obtain ⟨⟨rp170, rfl, h_rp170⟩, ep170, rfl⟩ := qp170
    rw [List.append_nil] at Xp170
    replace Xp170 : Stand p l e room_1 s m _ below meth c Tp170 _ 3 14 := Xp170
    show Go p e below s (Q0 n0) room_1.cells room_1.slots m Tp170 173 #[.val (.int ua), .val (.int ub), .val (.int uc), .val (.int ud), .val (.int un), .val (.int ui), .val (.int (5 : Int32)), .val (.int ua), .val (.int ub), .val (.int uc), .val (.int ud), .val (.int ve), .val (.int vf), .val (.ref o), .val (.int j), .val (.int rp161), .unset] [(.int rp170)]
    refine g_istore Xp170 hx hby at_173 (pc' := 175) rfl (Ls' := #[.val (.int ua), .val (.int ub), .val (.int uc), .val (.int ud), .val (.int un), .val (.int ui), .val (.int (5 : Int32)), .val (.int ua), .val (.int ub), .val (.int uc), .val (.int ud), .val (.int ve), .val (.int vf), .val (.ref o), .val (.int j), .val (.int rp161), .val (.int rp170)]) rfl ?_
    refine g_iload Xp170 hx hby at_175 (pc' := 177) rfl rfl ?_
    refine g_iload Xp170 hx hby at_177 (pc' := 179) rfl rfl ?_
    refine g_icmpne Xp170 hx hby at_179 (pt := 196) (pf := 182) (by decide) (by decide) rfl (fun (h179 : ¬ rp170 = rp161) => (by exfalso; exact h179 (by
      rw [h_rp170, h_rp161]
      have hjc := own_cases j 0 hj.1 (by have := hj.2; omega)
      rcases hjc with q | q | q | q | q | q | q <;> (subst q; first | rfl | (exfalso; revert hj; decide))))) (fun (h179 : rp170 = rp161) => ?_)
    have h179i : rp170.toInt = rp161.toInt := congrArg Int32.toInt h179
    refine g_aload Xp170 hx hby at_182 (pc' := 184) rfl rfl rfl ?_
    refine g_virtual Xp170 hx hby hZ hown hml rfl (hw _ (List.mem_of_getElem? (i := 12) rfl)) (hw _ (List.mem_of_getElem? (i := 13) rfl)) (hw _ (List.mem_of_getElem? (i := 15) rfl)) (hw _ (List.mem_of_getElem? (i := 14) rfl)) (hw _ (List.mem_of_getElem? (i := 2) rfl)) (hw _ (List.mem_of_getElem? (i := 16) rfl)) (by decide) ep170 (rm3 l Z a0 hw o _ Tp102.heap F_size_o) pd___I_154 E_o (argsL := []) (rest := []) rfl rfl rfl at_184 (pc' := 187) rfl (by decide) (Nat.le_of_ble_eq_true rfl) (by decide) (by decide) ?_
    intro Tp184 vp184 Lp184 Xp184 qp184
    obtain ⟨⟨rp184, rfl, h_rp184⟩, ep184, rfl⟩ := qp184
    rw [List.append_nil] at Xp184
    replace Xp184 : Stand p l e room_1 s m _ below meth c Tp184 _ 3 14 := Xp184
    show Go p e below s (Q0 n0) room_1.cells room_1.slots m Tp184 187 #[.val (.int ua), .val (.int ub), .val (.int uc), .val (.int ud), .val (.int un), .val (.int ui), .val (.int (5 : Int32)), .val (.int ua), .val (.int ub), .val (.int uc), .val (.int ud), .val (.int ve), .val (.int vf), .val (.ref o), .val (.int j), .val (.int rp161), .val (.int rp170)] [(.int rp184)]
    refine g_iload Xp184 hx hby at_187 (pc' := 189) rfl rfl ?_
    refine g_icmpne Xp184 hx hby at_189 (pt := 196) (pf := 192) (by decide) (by decide) rfl (fun (h189 : ¬ rp184 = (5 : Int32)) => (by exfalso; exact h189 h_rp184)) (fun (h189 : rp184 = (5 : Int32)) => ?_)
    have h189i : rp184.toInt = 5 := congrArg Int32.toInt h189
    refine g_iconst Xp184 hx hby at_192 (pc' := 193) rfl (n := (1 : Int32)) (by first | rfl | decide) ?_
    refine g_goto Xp184 hx hby at_193 (pc' := 197) (by decide) (by decide) ?_
    exact g_retZ Xp184 hx hby hlk (Or.inr rfl) hret at_197 (by decide) (by decide) (⟨rfl, Np102⟩)
  · refine g_iload Xp36 hx hby at_41 (pc' := 43) rfl rfl ?_
    refine g_ifle Xp36 hx hby at_43 (pt := 53) (pf := 46) (by decide) (by decide) rfl (fun (h43 : 6 ≤ 0) => (by exfalso; revert h43; decide)) (fun (h43 : 0 < 6) => ?_)
    refine g_aload Xp36 hx hby at_46 (pc' := 48) rfl rfl rfl ?_
    refine g_iload Xp36 hx hby at_48 (pc' := 50) rfl rfl ?_
    refine g_virtual Xp36 hx hby hZ hown hml rfl (hw _ (List.mem_of_getElem? (i := 19) rfl)) (hw _ (List.mem_of_getElem? (i := 20) rfl)) (hw _ (List.mem_of_getElem? (i := 22) rfl)) (hw _ (List.mem_of_getElem? (i := 21) rfl)) (hw _ (List.mem_of_getElem? (i := 2) rfl)) (hw _ (List.mem_of_getElem? (i := 23) rfl)) (by decide) rfl (rm_add l Z a0 hw o ua n0 tp36 (0 : Int32) (4 : Int32) 4 _ Tp36.heap Zs g2 g_tp36 ne_tp36 E_o F_size_o F_values_o A_tp36 rfl (by decide)) pd__I_V_240 E_o (argsL := [(.int ua)]) (rest := []) rfl rfl rfl at_50 (pc' := 53) rfl (by decide) (Nat.le_of_ble_eq_true rfl) (by decide) (by decide) ?_
    intro Tp50 vp50 Lp50 Xp50 qp50
    obtain ⟨tp50, rfl, Nqp50, g_tp50, ne_tp50, E_o, F_size_o, F_values_o, A_tp50⟩ := qp50
    replace Xp50 : Stand p l e room_1 s m _ below meth c Tp50 _ 2 6 := Xp50
    have Np50 := Fr.app Np36 Nqp50
    show Go p e below s (Q0 n0) room_1.cells room_1.slots m Tp50 53 #[.val (.int ua), .val (.int ub), .val (.int uc), .val (.int ud), .val (.int un), .val (.int ui), .val (.int (6 : Int32)), .val (.int ua), .val (.int ub), .val (.int uc), .val (.int ud), .val (.int ve), .val (.int vf), .val (.ref o), .unset, .unset, .unset] []
    replace F_size_o : Fld Z Tp50.heap o "com/example/lucid_recall/lucidrecall/index/IntList" "size" "I" (.int (1 : Int32)) := F_size_o
    have Zs : n0 ≤ Tp50.heap.size := Nat.le_of_lt (Nat.lt_of_le_of_lt g_tp50 A_tp50.lt)
    refine g_iload Xp50 hx hby at_53 (pc' := 55) rfl rfl ?_
    refine g_iconst Xp50 hx hby at_55 (pc' := 56) rfl (n := (1 : Int32)) (by first | rfl | decide) ?_
    refine g_icmple Xp50 hx hby at_56 (pt := 66) (pf := 59) (by decide) (by decide) rfl (fun (h56 : 6 ≤ 1) => (by exfalso; revert h56; decide)) (fun (h56 : 1 < 6) => ?_)
    refine g_aload Xp50 hx hby at_59 (pc' := 61) rfl rfl rfl ?_
    refine g_iload Xp50 hx hby at_61 (pc' := 63) rfl rfl ?_
    refine g_virtual Xp50 hx hby hZ hown hml rfl (hw _ (List.mem_of_getElem? (i := 19) rfl)) (hw _ (List.mem_of_getElem? (i := 20) rfl)) (hw _ (List.mem_of_getElem? (i := 22) rfl)) (hw _ (List.mem_of_getElem? (i := 21) rfl)) (hw _ (List.mem_of_getElem? (i := 2) rfl)) (hw _ (List.mem_of_getElem? (i := 23) rfl)) (by decide) rfl (rm_add l Z a0 hw o ub n0 tp50 (1 : Int32) (4 : Int32) 4 _ Tp50.heap Zs g2 g_tp50 ne_tp50 E_o F_size_o F_values_o A_tp50 rfl (by decide)) pd__I_V_240 E_o (argsL := [(.int ub)]) (rest := []) rfl rfl rfl at_63 (pc' := 66) rfl (by decide) (Nat.le_of_ble_eq_true rfl) (by decide) (by decide) ?_
    intro Tp63 vp63 Lp63 Xp63 qp63
    obtain ⟨tp63, rfl, Nqp63, g_tp63, ne_tp63, E_o, F_size_o, F_values_o, A_tp63⟩ := qp63
    replace Xp63 : Stand p l e room_1 s m _ below meth c Tp63 _ 2 6 := Xp63
    have Np63 := Fr.app Np50 Nqp63
    show Go p e below s (Q0 n0) room_1.cells room_1.slots m Tp63 66 #[.val (.int ua), .val (.int ub), .val (.int uc), .val (.int ud), .val (.int un), .val (.int ui), .val (.int (6 : Int32)), .val (.int ua), .val (.int ub), .val (.int uc), .val (.int ud), .val (.int ve), .val (.int vf), .val (.ref o), .unset, .unset, .unset] []
    replace F_size_o : Fld Z Tp63.heap o "com/example/lucid_recall/lucidrecall/index/IntList" "size" "I" (.int (2 : Int32)) := F_size_o
    have Zs : n0 ≤ Tp63.heap.size := Nat.le_of_lt (Nat.lt_of_le_of_lt g_tp63 A_tp63.lt)
    refine g_iload Xp63 hx hby at_66 (pc' := 68) rfl rfl ?_
    refine g_iconst Xp63 hx hby at_68 (pc' := 69) rfl (n := (2 : Int32)) (by first | rfl | decide) ?_
    refine g_icmple Xp63 hx hby at_69 (pt := 79) (pf := 72) (by decide) (by decide) rfl (fun (h69 : 6 ≤ 2) => (by exfalso; revert h69; decide)) (fun (h69 : 2 < 6) => ?_)
    refine g_aload Xp63 hx hby at_72 (pc' := 74) rfl rfl rfl ?_
    refine g_iload Xp63 hx hby at_74 (pc' := 76) rfl rfl ?_
    refine g_virtual Xp63 hx hby hZ hown hml rfl (hw _ (List.mem_of_getElem? (i := 19) rfl)) (hw _ (List.mem_of_getElem? (i := 20) rfl)) (hw _ (List.mem_of_getElem? (i := 22) rfl)) (hw _ (List.mem_of_getElem? (i := 21) rfl)) (hw _ (List.mem_of_getElem? (i := 2) rfl)) (hw _ (List.mem_of_getElem? (i := 23) rfl)) (by decide) rfl (rm_add l Z a0 hw o uc n0 tp63 (2 : Int32) (4 : Int32) 4 _ Tp63.heap Zs g2 g_tp63 ne_tp63 E_o F_size_o F_values_o A_tp63 rfl (by decide)) pd__I_V_240 E_o (argsL := [(.int uc)]) (rest := []) rfl rfl rfl at_76 (pc' := 79) rfl (by decide) (Nat.le_of_ble_eq_true rfl) (by decide) (by decide) ?_
    intro Tp76 vp76 Lp76 Xp76 qp76
    obtain ⟨tp76, rfl, Nqp76, g_tp76, ne_tp76, E_o, F_size_o, F_values_o, A_tp76⟩ := qp76
    replace Xp76 : Stand p l e room_1 s m _ below meth c Tp76 _ 2 6 := Xp76
    have Np76 := Fr.app Np63 Nqp76
    show Go p e below s (Q0 n0) room_1.cells room_1.slots m Tp76 79 #[.val (.int ua), .val (.int ub), .val (.int uc), .val (.int ud), .val (.int un), .val (.int ui), .val (.int (6 : Int32)), .val (.int ua), .val (.int ub), .val (.int uc), .val (.int ud), .val (.int ve), .val (.int vf), .val (.ref o), .unset, .unset, .unset] []
    replace F_size_o : Fld Z Tp76.heap o "com/example/lucid_recall/lucidrecall/index/IntList" "size" "I" (.int (3 : Int32)) := F_size_o
    have Zs : n0 ≤ Tp76.heap.size := Nat.le_of_lt (Nat.lt_of_le_of_lt g_tp76 A_tp76.lt)
    refine g_iload Xp76 hx hby at_79 (pc' := 81) rfl rfl ?_
    refine g_iconst Xp76 hx hby at_81 (pc' := 82) rfl (n := (3 : Int32)) (by first | rfl | decide) ?_
    refine g_icmple Xp76 hx hby at_82 (pt := 92) (pf := 85) (by decide) (by decide) rfl (fun (h82 : 6 ≤ 3) => (by exfalso; revert h82; decide)) (fun (h82 : 3 < 6) => ?_)
    refine g_aload Xp76 hx hby at_85 (pc' := 87) rfl rfl rfl ?_
    refine g_iload Xp76 hx hby at_87 (pc' := 89) rfl rfl ?_
    refine g_virtual Xp76 hx hby hZ hown hml rfl (hw _ (List.mem_of_getElem? (i := 19) rfl)) (hw _ (List.mem_of_getElem? (i := 20) rfl)) (hw _ (List.mem_of_getElem? (i := 22) rfl)) (hw _ (List.mem_of_getElem? (i := 21) rfl)) (hw _ (List.mem_of_getElem? (i := 2) rfl)) (hw _ (List.mem_of_getElem? (i := 23) rfl)) (by decide) rfl (rm_add l Z a0 hw o ud n0 tp76 (3 : Int32) (4 : Int32) 4 _ Tp76.heap Zs g2 g_tp76 ne_tp76 E_o F_size_o F_values_o A_tp76 rfl (by decide)) pd__I_V_240 E_o (argsL := [(.int ud)]) (rest := []) rfl rfl rfl at_89 (pc' := 92) rfl (by decide) (Nat.le_of_ble_eq_true rfl) (by decide) (by decide) ?_
    intro Tp89 vp89 Lp89 Xp89 qp89
    obtain ⟨tp89, rfl, Nqp89, g_tp89, ne_tp89, E_o, F_size_o, F_values_o, A_tp89⟩ := qp89
    replace Xp89 : Stand p l e room_1 s m _ below meth c Tp89 _ 2 6 := Xp89
    have Np89 := Fr.app Np76 Nqp89
    show Go p e below s (Q0 n0) room_1.cells room_1.slots m Tp89 92 #[.val (.int ua), .val (.int ub), .val (.int uc), .val (.int ud), .val (.int un), .val (.int ui), .val (.int (6 : Int32)), .val (.int ua), .val (.int ub), .val (.int uc), .val (.int ud), .val (.int ve), .val (.int vf), .val (.ref o), .unset, .unset, .unset] []
    replace F_size_o : Fld Z Tp89.heap o "com/example/lucid_recall/lucidrecall/index/IntList" "size" "I" (.int (4 : Int32)) := F_size_o
    have Zs : n0 ≤ Tp89.heap.size := Nat.le_of_lt (Nat.lt_of_le_of_lt g_tp89 A_tp89.lt)
    refine g_iload Xp89 hx hby at_92 (pc' := 94) rfl rfl ?_
    refine g_iconst Xp89 hx hby at_94 (pc' := 95) rfl (n := (4 : Int32)) (by first | rfl | decide) ?_
    refine g_icmple Xp89 hx hby at_95 (pt := 105) (pf := 98) (by decide) (by decide) rfl (fun (h95 : 6 ≤ 4) => (by exfalso; revert h95; decide)) (fun (h95 : 4 < 6) => ?_)
    refine g_aload Xp89 hx hby at_98 (pc' := 100) rfl rfl rfl ?_
    refine g_iload Xp89 hx hby at_100 (pc' := 102) rfl rfl ?_
    refine g_virtual Xp89 hx hby hZ hown hml rfl (hw _ (List.mem_of_getElem? (i := 19) rfl)) (hw _ (List.mem_of_getElem? (i := 20) rfl)) (hw _ (List.mem_of_getElem? (i := 22) rfl)) (hw _ (List.mem_of_getElem? (i := 21) rfl)) (hw _ (List.mem_of_getElem? (i := 2) rfl)) (hw _ (List.mem_of_getElem? (i := 23) rfl)) (by decide) rfl (rm_grow l Z a0 hw o ve n0 tp89 _ Tp89.heap Zs g2 g_tp89 ne_tp89 E_o F_size_o F_values_o A_tp89) pd__I_V_240 E_o (argsL := [(.int ve)]) (rest := []) rfl rfl rfl at_102 (pc' := 105) rfl (by decide) (Nat.le_of_ble_eq_true rfl) (by decide) (by decide) ?_
    intro Tp102 vp102 Lp102 Xp102 qp102
    obtain ⟨tp102, rfl, Nqp102, g_tp102, ne_tp102, E_o, F_size_o, F_values_o, A_tp102⟩ := qp102
    replace Xp102 : Stand p l e room_1 s m _ below meth c Tp102 _ 3 14 := Xp102
    have Np102 := Fr.app Np89 Nqp102
    show Go p e below s (Q0 n0) room_1.cells room_1.slots m Tp102 105 #[.val (.int ua), .val (.int ub), .val (.int uc), .val (.int ud), .val (.int un), .val (.int ui), .val (.int (6 : Int32)), .val (.int ua), .val (.int ub), .val (.int uc), .val (.int ud), .val (.int ve), .val (.int vf), .val (.ref o), .unset, .unset, .unset] []
    replace F_size_o : Fld Z Tp102.heap o "com/example/lucid_recall/lucidrecall/index/IntList" "size" "I" (.int (5 : Int32)) := F_size_o
    have Zs : n0 ≤ Tp102.heap.size := Nat.le_of_lt (Nat.lt_of_le_of_lt g_tp102 A_tp102.lt)
    refine g_iload Xp102 hx hby at_105 (pc' := 107) rfl rfl ?_
    refine g_iconst Xp102 hx hby at_107 (pc' := 108) rfl (n := (5 : Int32)) (by first | rfl | decide) ?_
    refine g_icmple Xp102 hx hby at_108 (pt := 118) (pf := 111) (by decide) (by decide) rfl (fun (h108 : 6 ≤ 5) => (by exfalso; revert h108; decide)) (fun (h108 : 5 < 6) => ?_)
    refine g_aload Xp102 hx hby at_111 (pc' := 113) rfl rfl rfl ?_
    refine g_iload Xp102 hx hby at_113 (pc' := 115) rfl rfl ?_
    refine g_virtual Xp102 hx hby hZ hown hml rfl (hw _ (List.mem_of_getElem? (i := 19) rfl)) (hw _ (List.mem_of_getElem? (i := 20) rfl)) (hw _ (List.mem_of_getElem? (i := 22) rfl)) (hw _ (List.mem_of_getElem? (i := 21) rfl)) (hw _ (List.mem_of_getElem? (i := 2) rfl)) (hw _ (List.mem_of_getElem? (i := 23) rfl)) (by decide) rfl (rm_add l Z a0 hw o vf n0 tp102 (5 : Int32) (8 : Int32) 8 _ Tp102.heap Zs g2 g_tp102 ne_tp102 E_o F_size_o F_values_o A_tp102 rfl (by decide)) pd__I_V_240 E_o (argsL := [(.int vf)]) (rest := []) rfl rfl rfl at_115 (pc' := 118) rfl (by decide) (Nat.le_of_ble_eq_true rfl) (by decide) (by decide) ?_
    intro Tp115 vp115 Lp115 Xp115 qp115
    obtain ⟨tp115, rfl, Nqp115, g_tp115, ne_tp115, E_o, F_size_o, F_values_o, A_tp115⟩ := qp115
    replace Xp115 : Stand p l e room_1 s m _ below meth c Tp115 _ 3 14 := Xp115
    have Np115 := Fr.app Np102 Nqp115
    show Go p e below s (Q0 n0) room_1.cells room_1.slots m Tp115 118 #[.val (.int ua), .val (.int ub), .val (.int uc), .val (.int ud), .val (.int un), .val (.int ui), .val (.int (6 : Int32)), .val (.int ua), .val (.int ub), .val (.int uc), .val (.int ud), .val (.int ve), .val (.int vf), .val (.ref o), .unset, .unset, .unset] []
    replace F_size_o : Fld Z Tp115.heap o "com/example/lucid_recall/lucidrecall/index/IntList" "size" "I" (.int (6 : Int32)) := F_size_o
    have Zs : n0 ≤ Tp115.heap.size := Nat.le_of_lt (Nat.lt_of_le_of_lt g_tp115 A_tp115.lt)
    refine g_iload Xp115 hx hby at_118 (pc' := 120) rfl rfl ?_
    refine g_ifne Xp115 hx hby at_120 (pt := 137) (pf := 123) (by decide) (by decide) rfl (fun (h120 : ¬ (6 : Int32) = (0 : Int32)) => ?_) (fun (h120 : (6 : Int32) = (0 : Int32)) => (by exfalso; revert h120; decide))
    refine g_iload Xp115 hx hby at_137 (pc' := 139) rfl rfl ?_
    refine g_ldcI Xp115 hx hby hZ hown (hw _ (List.mem_of_getElem? (i := 36) rfl)) at_139 (pc' := 141) rfl ?_
    refine g_iand Xp115 hx hby at_141 (pc' := 142) rfl ?_
    refine g_iload Xp115 hx hby at_142 (pc' := 144) rfl rfl ?_
    refine g_irem Xp115 hx hby at_144 (pc' := 145) rfl (by decide) ?_
    refine g_nameI (fun j h_j => ?_)
    have hj : 0 ≤ j.toInt ∧ j.toInt < 6 := by rw [h_j]; exact own_modr ui (6 : Int32) (by decide)
    refine g_istore Xp115 hx hby at_145 (pc' := 147) rfl (Ls' := #[.val (.int ua), .val (.int ub), .val (.int uc), .val (.int ud), .val (.int un), .val (.int ui), .val (.int (6 : Int32)), .val (.int ua), .val (.int ub), .val (.int uc), .val (.int ud), .val (.int ve), .val (.int vf), .val (.ref o), .val (.int j), .unset, .unset]) rfl ?_
    refine g_iload Xp115 hx hby at_147 (pc' := 149) rfl rfl ?_
    refine g_iload Xp115 hx hby at_149 (pc' := 151) rfl rfl ?_
    refine g_iload Xp115 hx hby at_151 (pc' := 153) rfl rfl ?_
    refine g_iload Xp115 hx hby at_153 (pc' := 155) rfl rfl ?_
    refine g_iload Xp115 hx hby at_155 (pc' := 157) rfl rfl ?_
    refine g_iload Xp115 hx hby at_157 (pc' := 159) rfl rfl ?_
    refine g_iload Xp115 hx hby at_159 (pc' := 161) rfl rfl ?_
    refine g_static Xp115 hx hby hZ hown hml rfl (hw _ (List.mem_of_getElem? (i := 37) rfl)) (hw _ (List.mem_of_getElem? (i := 38) rfl)) (hw _ (List.mem_of_getElem? (i := 39) rfl)) (hw _ (List.mem_of_getElem? (i := 40) rfl)) (by decide) rfl (rm7 l Z a0 hw j ua ub uc ud ve vf Tp115.heap ) pd__IIIIIII_I_665 (argsL := [(.int j), (.int ua), (.int ub), (.int uc), (.int ud), (.int ve), (.int vf)]) (rest := []) rfl rfl rfl at_161 (pc' := 164) rfl (by decide) (Nat.le_of_ble_eq_true rfl) (by decide) (by decide) ?_
    intro Tp161 vp161 Lp161 Xp161 qp161
    obtain ⟨⟨rp161, rfl, h_rp161⟩, ep161, rfl⟩ := qp161
    rw [List.append_nil] at Xp161
    replace Xp161 : Stand p l e room_1 s m _ below meth c Tp161 _ 3 14 := Xp161
    show Go p e below s (Q0 n0) room_1.cells room_1.slots m Tp161 164 #[.val (.int ua), .val (.int ub), .val (.int uc), .val (.int ud), .val (.int un), .val (.int ui), .val (.int (6 : Int32)), .val (.int ua), .val (.int ub), .val (.int uc), .val (.int ud), .val (.int ve), .val (.int vf), .val (.ref o), .val (.int j), .unset, .unset] [(.int rp161)]
    refine g_istore Xp161 hx hby at_164 (pc' := 166) rfl (Ls' := #[.val (.int ua), .val (.int ub), .val (.int uc), .val (.int ud), .val (.int un), .val (.int ui), .val (.int (6 : Int32)), .val (.int ua), .val (.int ub), .val (.int uc), .val (.int ud), .val (.int ve), .val (.int vf), .val (.ref o), .val (.int j), .val (.int rp161), .unset]) rfl ?_
    refine g_aload Xp161 hx hby at_166 (pc' := 168) rfl rfl rfl ?_
    refine g_iload Xp161 hx hby at_168 (pc' := 170) rfl rfl ?_
    refine g_virtual Xp161 hx hby hZ hown hml rfl (hw _ (List.mem_of_getElem? (i := 41) rfl)) (hw _ (List.mem_of_getElem? (i := 42) rfl)) (hw _ (List.mem_of_getElem? (i := 44) rfl)) (hw _ (List.mem_of_getElem? (i := 43) rfl)) (hw _ (List.mem_of_getElem? (i := 2) rfl)) (hw _ (List.mem_of_getElem? (i := 45) rfl)) (by decide) ep161 (rm8 l Z a0 hw o j tp115 (6 : Int32) 8 _ Tp115.heap F_size_o F_values_o A_tp115 hj (by decide)) pd__I_I_227 E_o (argsL := [(.int j)]) (rest := []) rfl rfl rfl at_170 (pc' := 173) rfl (by decide) (Nat.le_of_ble_eq_true rfl) (by decide) (by decide) ?_
    intro Tp170 vp170 Lp170 Xp170 qp170
    obtain ⟨⟨rp170, rfl, h_rp170⟩, ep170, rfl⟩ := qp170
    rw [List.append_nil] at Xp170
    replace Xp170 : Stand p l e room_1 s m _ below meth c Tp170 _ 3 14 := Xp170
    show Go p e below s (Q0 n0) room_1.cells room_1.slots m Tp170 173 #[.val (.int ua), .val (.int ub), .val (.int uc), .val (.int ud), .val (.int un), .val (.int ui), .val (.int (6 : Int32)), .val (.int ua), .val (.int ub), .val (.int uc), .val (.int ud), .val (.int ve), .val (.int vf), .val (.ref o), .val (.int j), .val (.int rp161), .unset] [(.int rp170)]
    refine g_istore Xp170 hx hby at_173 (pc' := 175) rfl (Ls' := #[.val (.int ua), .val (.int ub), .val (.int uc), .val (.int ud), .val (.int un), .val (.int ui), .val (.int (6 : Int32)), .val (.int ua), .val (.int ub), .val (.int uc), .val (.int ud), .val (.int ve), .val (.int vf), .val (.ref o), .val (.int j), .val (.int rp161), .val (.int rp170)]) rfl ?_
    refine g_iload Xp170 hx hby at_175 (pc' := 177) rfl rfl ?_
    refine g_iload Xp170 hx hby at_177 (pc' := 179) rfl rfl ?_
    refine g_icmpne Xp170 hx hby at_179 (pt := 196) (pf := 182) (by decide) (by decide) rfl (fun (h179 : ¬ rp170 = rp161) => (by exfalso; exact h179 (by
      rw [h_rp170, h_rp161]
      have hjc := own_cases j 0 hj.1 (by have := hj.2; omega)
      rcases hjc with q | q | q | q | q | q | q <;> (subst q; first | rfl | (exfalso; revert hj; decide))))) (fun (h179 : rp170 = rp161) => ?_)
    have h179i : rp170.toInt = rp161.toInt := congrArg Int32.toInt h179
    refine g_aload Xp170 hx hby at_182 (pc' := 184) rfl rfl rfl ?_
    refine g_virtual Xp170 hx hby hZ hown hml rfl (hw _ (List.mem_of_getElem? (i := 12) rfl)) (hw _ (List.mem_of_getElem? (i := 13) rfl)) (hw _ (List.mem_of_getElem? (i := 15) rfl)) (hw _ (List.mem_of_getElem? (i := 14) rfl)) (hw _ (List.mem_of_getElem? (i := 2) rfl)) (hw _ (List.mem_of_getElem? (i := 16) rfl)) (by decide) ep170 (rm3 l Z a0 hw o _ Tp115.heap F_size_o) pd___I_154 E_o (argsL := []) (rest := []) rfl rfl rfl at_184 (pc' := 187) rfl (by decide) (Nat.le_of_ble_eq_true rfl) (by decide) (by decide) ?_
    intro Tp184 vp184 Lp184 Xp184 qp184
    obtain ⟨⟨rp184, rfl, h_rp184⟩, ep184, rfl⟩ := qp184
    rw [List.append_nil] at Xp184
    replace Xp184 : Stand p l e room_1 s m _ below meth c Tp184 _ 3 14 := Xp184
    show Go p e below s (Q0 n0) room_1.cells room_1.slots m Tp184 187 #[.val (.int ua), .val (.int ub), .val (.int uc), .val (.int ud), .val (.int un), .val (.int ui), .val (.int (6 : Int32)), .val (.int ua), .val (.int ub), .val (.int uc), .val (.int ud), .val (.int ve), .val (.int vf), .val (.ref o), .val (.int j), .val (.int rp161), .val (.int rp170)] [(.int rp184)]
    refine g_iload Xp184 hx hby at_187 (pc' := 189) rfl rfl ?_
    refine g_icmpne Xp184 hx hby at_189 (pt := 196) (pf := 192) (by decide) (by decide) rfl (fun (h189 : ¬ rp184 = (6 : Int32)) => (by exfalso; exact h189 h_rp184)) (fun (h189 : rp184 = (6 : Int32)) => ?_)
    have h189i : rp184.toInt = 6 := congrArg Int32.toInt h189
    refine g_iconst Xp184 hx hby at_192 (pc' := 193) rfl (n := (1 : Int32)) (by first | rfl | decide) ?_
    refine g_goto Xp184 hx hby at_193 (pc' := 197) (by decide) (by decide) ?_
    exact g_retZ Xp184 hx hby hlk (Or.inr rfl) hret at_197 (by decide) (by decide) (⟨rfl, Np115⟩)
set_option maxRecDepth 65536 in
set_option maxHeartbeats 40000000 in
theorem comes_1 {Post : Tables → Env → Array Value → State → Outcome → State → Prop} (hpost : ∀ tb e args s v u, (limb_1_1.after args s (.returned v) u = true ∧ limb_1_2.after args s (.returned v) u = true ∧ True) → FrameEnd s (.returned v) u (Jvm.fieldLocs frame_1_writes args s ++ Jvm.arrayLocs frame_1_arrays args s ++ Jvm.staticLocs frame_1_statics s) 16 128 → Post tb e args s (.returned v) u) :
    ArmFor flags0 classFile x code maxLocals ret World_1 tables_1 room_1 Calls_1 rest_1 Pre_1 Post := by
  intro l hfl _ _ p e ha hc hk s m args below hf hA hF happ hP
  obtain ⟨hcalls, hrest, hpre⟩ := hP
  obtain ⟨-, -, -, hnamed, -, -, -, hat⟩ := (Spec.applies_iff hf).mp happ
  obtain ⟨hg, hn⟩ := and_e (Cond.before_iff.mp (show (Jvm.Cond.and given_1 narrow_1).before args s = true from hpre))
  obtain ⟨g1, g2⟩ := and_e hg
  obtain ⟨g3, g4⟩ := and_e g2
  obtain ⟨g5, g6⟩ := and_e g4
  obtain ⟨g7, g8⟩ := and_e g6
  obtain ⟨g9, g10⟩ := and_e g8
  obtain ⟨g11, g12⟩ := and_e g10
  obtain ⟨w0, w1, w2, w3, w4, w5, rfl⟩ : ∃ w0 w1 w2 w3 w4 w5 : Value, args = #[w0, w1, w2, w3, w4, w5] := by
    have hs : args.size = 6 := by simpa [Cond.value, given_1] using g1
    obtain ⟨L⟩ := args
    match L, hs with
    | [w0, w1, w2, w3, w4, w5], _ => exact ⟨w0, w1, w2, w3, w4, w5, rfl⟩
  have hw := fun d (hd : d ∈ tables_1) => atoms_spec (ws := Jvm.Cond.code x code maxLocals ret :: tables_1) hat d (List.mem_cons_of_mem _ hd)
  have hfit : Fit s := fun {y c} hc i hi => by
    obtain ⟨ha, rfl⟩ := Array.getElem?_eq_some_iff.mp hc
    have q := List.all_eq_true.mp ((Array.all_eq_true_iff_forall_mem.mp hF) _ (Array.getElem_mem ha)) i (List.mem_range.mpr hi)
    simpa [Array.getElem?_eq_getElem hi] using q
  obtain ⟨i0, ei0⟩ := is_v g3
  obtain rfl : w0 = (.int i0) := Option.some.inj ei0
  obtain ⟨i1, ei1⟩ := is_v g5
  obtain rfl : w1 = (.int i1) := Option.some.inj ei1
  obtain ⟨i2, ei2⟩ := is_v g7
  obtain rfl : w2 = (.int i2) := Option.some.inj ei2
  obtain ⟨i3, ei3⟩ := is_v g9
  obtain rfl : w3 = (.int i3) := Option.some.inj ei3
  obtain ⟨i4, ei4⟩ := is_v g11
  obtain rfl : w4 = (.int i4) := Option.some.inj ei4
  obtain ⟨i5, ei5⟩ := is_v g12
  obtain rfl : w5 = (.int i5) := Option.some.inj ei5
  obtain ⟨n, o, h1, h2, h3, _, L, rfl, ⟨rfl, N⟩, hq⟩ := law0 l s _ hw tables_1 i0 i1 i2 i3 i4 i5 s.heap.size s.heap (Nat.le_refl _) p e ha hc hk s m _ below hf ((Spec.applies_iff_loose hf).mp happ).1 ⟨rfl, State.Warmed39.refl s, rfl⟩ trivial
  refine ⟨n, _, h1, h2, h3, hpost _ _ _ _ _ _ ⟨Cond.after_iff.mpr rfl, Cond.after_iff.mpr (eq_i res_at (Term.int_eval (1)) rfl), trivial⟩ ⟨hq.1, hq.2.1, (hq.2.2.sift fun y hy => Or.inr (N y hy)).mono (by decide) (by decide)⟩⟩
theorem main_1_1 : Claimed_1_1 := comes_1 fun _ _ _ _ _ _ h hF => ⟨h.1, hF⟩
theorem main_1_2 : Claimed_1_2 := comes_1 fun _ _ _ _ _ _ h hF => ⟨h.2.1, hF⟩
end Jvm.Pilot.@@N@@
namespace Jvm.Pilot.@@N@@
open Jvm Jvm.ClassFile Sem Op Lib Jvm.Free Jvm.Stand Jvm.Pilot.@@N@@.Jvm.D
/-! MADE BY PROGRAM (witnessworld.py) out of the Statement's table words and the real class files: 12 classes; the members and pool entries that the words name. The judged class is class 1, her method 2. -/
namespace start1
open Jvm.ClassFile
def u (s : String) : CpInfo := .utf8 (stringToUtf16 s)
/-- a pool by its gaps: so many unusable entries, then the entry; so many at the end -/
def gap : Nat → List CpInfo → List CpInfo
  | 0, r => r
  | n + 1, r => .unusable :: gap n r
def poolList (es : List (Nat × CpInfo)) (last : Nat) : List CpInfo := es.foldr (fun e r => gap e.1 (e.2 :: r)) (gap last [])
def pool (es : List (Nat × CpInfo)) (last : Nat) : Array CpInfo := ⟨poolList es last⟩
def fileOf (pool : Array CpInfo) (this : Nat) (attrs : Array Attribute := #[]) (ms : Array MethodInfo := #[]) (fl : Nat := 33) (sup : Nat := 0) (ifs : Array Nat := #[]) (fds : Array FieldInfo := #[]) : ClassFile where
  minorVersion := 0
  majorVersion := 65
  constantPool := pool
  accessFlags := fl
  thisClass := this
  superClass := sup
  interfaces := ifs
  fields := fds
  methods := ms
  attributes := attrs
def plain (name : String) (sup : Option ClassId) : Class where
  name := name
  kind := .ordinary
  loader := none
  accessFlags := 33
  super := sup
  interfaces := #[]
  cf := none
  fields := #[]
  methods := #[]
  instanceTypes := #[]
  staticTypes := #[]
  resolved := #[]
  callSites := []
  init := .initialized
  statics := none
  mirror := none

def pool0 : Array CpInfo := pool [(5, u "<init>"), (0, u "()V"), (1, .class_ 10), (1, u "java/lang/Object")] 113

def k0c0 : Code := { maxStack := 0, maxLocals := 1, code := object_method_1_code, exceptionTable := #[], attributes := #[] }
def k0m0 : Method := { name := "<init>", desc := "()V", sig := { parameters := [], returnType := none }, accessFlags := 1, code := some k0c0 }
/-- java/lang/Object -/
def k0 : Class := { plain "java/lang/Object" none with
  accessFlags := 33
  interfaces := #[]
  cf := some (fileOf pool0 8 #[] #[{ accessFlags := 1, nameIndex := 5, descriptorIndex := 6, attributes := #[] }] 33 0 #[] #[])
  fields := #[]
  methods := #[k0m0]
  instanceTypes := #[]
  staticTypes := #[]
  resolved := Array.replicate 124 none
  statics := none }

def pool1 : Array CpInfo := pool [(2, .class_ 4), (0, .nameAndType 5 6), (0, u "java/lang/Object"), (0, u "<init>"), (0, u "()V"), (0, .class_ 8), (0, u "com/example/lucid_recall/lucidrecall/index/IntList"), (0, .methodref 7 3), (0, .methodref 7 11), (0, .nameAndType 12 13), (0, u "add"), (0, u "(I)V"), (0, .methodref 7 15), (0, .nameAndType 16 17), (0, u "size"), (0, u "()I"), (0, .integer 2147483647), (0, .methodref 20 21), (0, .class_ 22), (0, .nameAndType 23 24), (0, u "com/example/lucid_recall/lucidrecall/index/IntListGetPinLaw"), (0, u "pick"), (0, u "(IIIIIII)I"), (0, .methodref 7 26), (0, .nameAndType 27 28), (0, u "get"), (0, u "(I)I"), (3, u "law"), (0, u "(IIIIII)Z")] 2

def k1m0 : Method := { name := "<init>", desc := "()V", sig := { parameters := [], returnType := none }, accessFlags := 1, code := none }
def k1c1 : Code := { maxStack := 2, maxLocals := 7, code := method_2_code, exceptionTable := #[], attributes := #[] }
def k1m1 : Method := { name := "pick", desc := "(IIIIIII)I", sig := { parameters := [.int, .int, .int, .int, .int, .int, .int], returnType := some .int }, accessFlags := 10, code := some k1c1 }
def k1c2 : Code := { maxStack := 7, maxLocals := 17, code := code, exceptionTable := #[], attributes := #[] }
def k1m2 : Method := { name := "law", desc := "(IIIIII)Z", sig := { parameters := [.int, .int, .int, .int, .int, .int], returnType := some .boolean }, accessFlags := 9, code := some k1c2 }
/-- com/example/lucid_recall/lucidrecall/index/IntListGetPinLaw -/
def k1 : Class := { plain "com/example/lucid_recall/lucidrecall/index/IntListGetPinLaw" (some 0) with
  accessFlags := 49
  interfaces := #[]
  cf := some (fileOf pool1 20 #[] #[{ accessFlags := 1, nameIndex := 5, descriptorIndex := 6, attributes := #[] }, { accessFlags := 10, nameIndex := 23, descriptorIndex := 24, attributes := #[] }, { accessFlags := 9, nameIndex := 32, descriptorIndex := 33, attributes := #[] }] 49 2 #[] #[])
  fields := #[]
  methods := #[k1m0, k1m1, k1m2]
  instanceTypes := #[]
  staticTypes := #[]
  resolved := Array.replicate 36 none
  statics := none }

def pool2 : Array CpInfo := pool [(1, .methodref 2 3), (0, .class_ 4), (0, .nameAndType 5 6), (0, u "java/lang/Object"), (0, u "<init>"), (0, u "()V"), (0, .fieldref 8 9), (0, .class_ 10), (0, .nameAndType 11 12), (0, u "com/example/lucid_recall/lucidrecall/index/IntList"), (0, u "values"), (0, u "[I"), (0, .fieldref 8 14), (0, .nameAndType 15 16), (0, u "size"), (0, u "I"), (0, .methodref 18 19), (0, .class_ 20), (0, .nameAndType 21 22), (0, u "java/util/Arrays"), (0, u "copyOf"), (0, u "([II)[I"), (4, u "(I)V"), (2, u "add"), (1, u "get"), (0, u "(I)I"), (0, u "()I")] 2

def k2c0 : Code := { maxStack := 2, maxLocals := 1, code := prog_19_method_1_code, exceptionTable := #[], attributes := #[] }
def k2m0 : Method := { name := "<init>", desc := "()V", sig := { parameters := [], returnType := none }, accessFlags := 0, code := some k2c0 }
def k2c1 : Code := { maxStack := 4, maxLocals := 2, code := prog_19_method_2_code, exceptionTable := #[], attributes := #[] }
def k2m1 : Method := { name := "add", desc := "(I)V", sig := { parameters := [.int], returnType := none }, accessFlags := 0, code := some k2c1 }
def k2c2 : Code := { maxStack := 3, maxLocals := 2, code := prog_19_method_3_code, exceptionTable := #[], attributes := #[] }
def k2m2 : Method := { name := "get", desc := "(I)I", sig := { parameters := [.int], returnType := some .int }, accessFlags := 0, code := some k2c2 }
def k2c3 : Code := { maxStack := 1, maxLocals := 1, code := prog_19_method_4_code, exceptionTable := #[], attributes := #[] }
def k2m3 : Method := { name := "size", desc := "()I", sig := { parameters := [], returnType := some .int }, accessFlags := 0, code := some k2c3 }
/-- com/example/lucid_recall/lucidrecall/index/IntList -/
def k2 : Class := { plain "com/example/lucid_recall/lucidrecall/index/IntList" (some 0) with
  accessFlags := 48
  interfaces := #[]
  cf := some (fileOf pool2 8 #[] #[{ accessFlags := 0, nameIndex := 5, descriptorIndex := 6, attributes := #[] }, { accessFlags := 0, nameIndex := 30, descriptorIndex := 27, attributes := #[] }, { accessFlags := 0, nameIndex := 32, descriptorIndex := 33, attributes := #[] }, { accessFlags := 0, nameIndex := 15, descriptorIndex := 34, attributes := #[] }] 48 2 #[] #[{ accessFlags := 2, nameIndex := 11, descriptorIndex := 12, attributes := #[] }, { accessFlags := 2, nameIndex := 15, descriptorIndex := 16, attributes := #[] }])
  fields := #[{ name := "values", type := (.array .int), accessFlags := 2, slot := 0, constantValue := 0 }, { name := "size", type := .int, accessFlags := 2, slot := 1, constantValue := 0 }]
  methods := #[k2m0, k2m1, k2m2, k2m3]
  instanceTypes := #[(.array .int), .int]
  staticTypes := #[]
  resolved := Array.replicate 37 none
  statics := none }

def pool3 : Array CpInfo := pool [(2, .class_ 4), (1, u "java/lang/Object"), (0, u "<init>"), (0, u "()V"), (7, .class_ 16), (1, u "java/util/Arrays"), (57, .class_ 76), (1, u "java/util/Arrays$NaturalOrder"), (36, .class_ 115), (1, u "java/util/Arrays$LegacyMergeSort"), (1, u "Z"), (32, .methodref 151 152), (0, .class_ 153), (0, .nameAndType 154 155), (0, u "java/lang/System"), (0, u "arraycopy"), (0, u "(Ljava/lang/Object;ILjava/lang/Object;II)V"), (146, u "copyOf"), (1, .methodref 305 306), (0, .class_ 307), (0, .nameAndType 308 309), (0, u "java/lang/Math"), (0, u "min"), (0, u "(II)I"), (65, .class_ 376), (0, u "java/util/Arrays$ArrayList"), (68, u "$assertionsDisabled"), (269, u "MIN_ARRAY_SORT_GRAN"), (0, u "I"), (2, u "INSERTIONSORT_THRESHOLD"), (151, u "([II)[I"), (103, .class_ 976), (0, u "java/util/Arrays$ArrayItr")] 52

def k3m0 : Method := { name := "<init>", desc := "()V", sig := { parameters := [], returnType := none }, accessFlags := 2, code := none }
def k3c1 : Code := { maxStack := 6, maxLocals := 3, code := jdk_65_method_123_code, exceptionTable := #[], attributes := #[] }
def k3m1 : Method := { name := "copyOf", desc := "([II)[I", sig := { parameters := [(.array .int), .int], returnType := some (.array .int) }, accessFlags := 9, code := some k3c1 }
/-- java/util/Arrays -/
def k3 : Class := { plain "java/util/Arrays" (some 0) with
  accessFlags := 49
  interfaces := #[]
  cf := some (fileOf pool3 14 #[.nestMembers #[975, 375, 113, 74]] #[{ accessFlags := 2, nameIndex := 5, descriptorIndex := 6, attributes := #[] }, { accessFlags := 9, nameIndex := 302, descriptorIndex := 871, attributes := #[] }] 49 2 #[] #[{ accessFlags := 26, nameIndex := 715, descriptorIndex := 716, attributes := #[] }, { accessFlags := 26, nameIndex := 719, descriptorIndex := 716, attributes := #[] }, { accessFlags := 4120, nameIndex := 445, descriptorIndex := 117, attributes := #[] }])
  fields := #[{ name := "MIN_ARRAY_SORT_GRAN", type := .int, accessFlags := 26, slot := 0, constantValue := 0 }, { name := "INSERTIONSORT_THRESHOLD", type := .int, accessFlags := 26, slot := 1, constantValue := 0 }, { name := "$assertionsDisabled", type := .boolean, accessFlags := 4120, slot := 2, constantValue := 0 }]
  methods := #[k3m0, k3m1]
  instanceTypes := #[]
  staticTypes := #[.int, .int, .boolean]
  resolved := Array.replicate 1029 none
  statics := none }

def pool4 : Array CpInfo := pool [(1, .class_ 2), (0, u "java/lang/Math"), (1, .class_ 6), (1, u "java/lang/Object"), (0, u "<init>"), (0, u "()V"), (89, .class_ 100), (1, u "java/lang/Math$RandomNumberGeneratorHolder"), (71, u "negativeZeroFloatBits"), (0, u "J"), (2, u "negativeZeroDoubleBits"), (24, u "min"), (43, u "$assertionsDisabled"), (0, u "Z"), (88, u "(II)I"), (2, u "twoToTheDoubleScaleDown"), (0, u "D"), (4, u "twoToTheDoubleScaleUp"), (9, u "E"), (3, u "PI"), (2, u "TAU"), (2, u "DEGREES_TO_RADIANS"), (0, u "RADIANS_TO_DEGREES")] 94

def k4m0 : Method := { name := "<init>", desc := "()V", sig := { parameters := [], returnType := none }, accessFlags := 2, code := none }
def k4c1 : Code := { maxStack := 2, maxLocals := 2, code := jdk_29_method_69_code, exceptionTable := #[], attributes := #[] }
def k4m1 : Method := { name := "min", desc := "(II)I", sig := { parameters := [.int, .int], returnType := some .int }, accessFlags := 9, code := some k4c1 }
/-- java/lang/Math -/
def k4 : Class := { plain "java/lang/Math" (some 0) with
  accessFlags := 49
  interfaces := #[]
  cf := some (fileOf pool4 1 #[.nestMembers #[98]] #[{ accessFlags := 2, nameIndex := 7, descriptorIndex := 8, attributes := #[] }, { accessFlags := 9, nameIndex := 201, descriptorIndex := 335, attributes := #[] }] 49 4 #[] #[{ accessFlags := 25, nameIndex := 354, descriptorIndex := 339, attributes := #[] }, { accessFlags := 25, nameIndex := 358, descriptorIndex := 339, attributes := #[] }, { accessFlags := 25, nameIndex := 361, descriptorIndex := 339, attributes := #[] }, { accessFlags := 26, nameIndex := 364, descriptorIndex := 339, attributes := #[] }, { accessFlags := 26, nameIndex := 365, descriptorIndex := 339, attributes := #[] }, { accessFlags := 26, nameIndex := 172, descriptorIndex := 173, attributes := #[] }, { accessFlags := 26, nameIndex := 176, descriptorIndex := 173, attributes := #[] }, { accessFlags := 8, nameIndex := 344, descriptorIndex := 339, attributes := #[] }, { accessFlags := 8, nameIndex := 338, descriptorIndex := 339, attributes := #[] }, { accessFlags := 4120, nameIndex := 245, descriptorIndex := 246, attributes := #[] }])
  fields := #[{ name := "E", type := .double, accessFlags := 25, slot := 0, constantValue := 0 }, { name := "PI", type := .double, accessFlags := 25, slot := 1, constantValue := 0 }, { name := "TAU", type := .double, accessFlags := 25, slot := 2, constantValue := 0 }, { name := "DEGREES_TO_RADIANS", type := .double, accessFlags := 26, slot := 3, constantValue := 0 }, { name := "RADIANS_TO_DEGREES", type := .double, accessFlags := 26, slot := 4, constantValue := 0 }, { name := "negativeZeroFloatBits", type := .long, accessFlags := 26, slot := 5, constantValue := 0 }, { name := "negativeZeroDoubleBits", type := .long, accessFlags := 26, slot := 6, constantValue := 0 }, { name := "twoToTheDoubleScaleUp", type := .double, accessFlags := 8, slot := 7, constantValue := 0 }, { name := "twoToTheDoubleScaleDown", type := .double, accessFlags := 8, slot := 8, constantValue := 0 }, { name := "$assertionsDisabled", type := .boolean, accessFlags := 4120, slot := 9, constantValue := 0 }]
  methods := #[k4m0, k4m1]
  instanceTypes := #[]
  staticTypes := #[.double, .double, .double, .double, .double, .long, .long, .double, .double, .boolean]
  resolved := Array.replicate 460 none
  statics := none }

def pool5 : Array CpInfo := pool [(2, .class_ 4), (1, u "java/lang/Object"), (0, u "<init>"), (0, u "()V"), (1, .class_ 10), (1, u "java/lang/System"), (0, u "allowSecurityManager"), (0, u "I"), (16, u "cons"), (0, u "Ljava/io/Console;"), (77, .class_ 110), (1, u "java/lang/System$CallersHolder"), (43, u "initialErrStream"), (0, u "Ljava/io/PrintStream;"), (19, u "security"), (0, u "Ljava/lang/SecurityManager;"), (31, .class_ 209), (0, u "java/lang/System$1"), (7, u "props"), (0, u "Ljava/util/Properties;"), (2, u "lineSeparator"), (0, u "Ljava/lang/String;"), (96, .class_ 321), (1, u "java/lang/System$LoggerFinder"), (5, .class_ 328), (0, u "java/lang/System$Logger"), (67, u "err"), (2, u "out"), (91, u "notSupportedJnuEncoding"), (15, u "in"), (17, u "initialIn"), (0, u "Ljava/io/InputStream;"), (35, u "bootLayer"), (0, u "Ljava/lang/ModuleLayer;"), (99, .class_ 664), (0, u "java/lang/System$2"), (9, u "NEVER"), (2, u "MAYBE"), (49, u "arraycopy"), (0, u "(Ljava/lang/Object;ILjava/lang/Object;II)V"), (72, .class_ 802), (0, u "java/lang/System$Logger$Level")] 31

def k5m0 : Method := { name := "<init>", desc := "()V", sig := { parameters := [], returnType := none }, accessFlags := 2, code := none }
def k5m1 : Method := { name := "arraycopy", desc := "(Ljava/lang/Object;ILjava/lang/Object;II)V", sig := { parameters := [(.object "java/lang/Object"), .int, (.object "java/lang/Object"), .int, .int], returnType := none }, accessFlags := 265, code := none }
/-- java/lang/System -/
def k5 : Class := { plain "java/lang/System" (some 0) with
  accessFlags := 49
  interfaces := #[]
  cf := some (fileOf pool5 8 #[.nestMembers #[319, 327, 801, 108, 663, 208]] #[{ accessFlags := 2, nameIndex := 5, descriptorIndex := 6, attributes := #[] }, { accessFlags := 265, nameIndex := 727, descriptorIndex := 728, attributes := #[] }] 49 2 #[] #[{ accessFlags := 25, nameIndex := 507, descriptorIndex := 526, attributes := #[] }, { accessFlags := 25, nameIndex := 399, descriptorIndex := 155, attributes := #[] }, { accessFlags := 25, nameIndex := 396, descriptorIndex := 155, attributes := #[] }, { accessFlags := 10, nameIndex := 525, descriptorIndex := 526, attributes := #[] }, { accessFlags := 26, nameIndex := 674, descriptorIndex := 12, attributes := #[] }, { accessFlags := 26, nameIndex := 677, descriptorIndex := 12, attributes := #[] }, { accessFlags := 10, nameIndex := 11, descriptorIndex := 12, attributes := #[] }, { accessFlags := 74, nameIndex := 175, descriptorIndex := 176, attributes := #[] }, { accessFlags := 10, nameIndex := 491, descriptorIndex := 222, attributes := #[] }, { accessFlags := 74, nameIndex := 29, descriptorIndex := 30, attributes := #[] }, { accessFlags := 74, nameIndex := 154, descriptorIndex := 155, attributes := #[] }, { accessFlags := 10, nameIndex := 217, descriptorIndex := 218, attributes := #[] }, { accessFlags := 10, nameIndex := 221, descriptorIndex := 222, attributes := #[] }, { accessFlags := 8, nameIndex := 562, descriptorIndex := 563, attributes := #[] }])
  fields := #[{ name := "in", type := (.object "java/io/InputStream"), accessFlags := 25, slot := 0, constantValue := 0 }, { name := "out", type := (.object "java/io/PrintStream"), accessFlags := 25, slot := 1, constantValue := 0 }, { name := "err", type := (.object "java/io/PrintStream"), accessFlags := 25, slot := 2, constantValue := 0 }, { name := "initialIn", type := (.object "java/io/InputStream"), accessFlags := 10, slot := 3, constantValue := 0 }, { name := "NEVER", type := .int, accessFlags := 26, slot := 4, constantValue := 0 }, { name := "MAYBE", type := .int, accessFlags := 26, slot := 5, constantValue := 0 }, { name := "allowSecurityManager", type := .int, accessFlags := 10, slot := 6, constantValue := 0 }, { name := "security", type := (.object "java/lang/SecurityManager"), accessFlags := 74, slot := 7, constantValue := 0 }, { name := "notSupportedJnuEncoding", type := (.object "java/lang/String"), accessFlags := 10, slot := 8, constantValue := 0 }, { name := "cons", type := (.object "java/io/Console"), accessFlags := 74, slot := 9, constantValue := 0 }, { name := "initialErrStream", type := (.object "java/io/PrintStream"), accessFlags := 74, slot := 10, constantValue := 0 }, { name := "props", type := (.object "java/util/Properties"), accessFlags := 10, slot := 11, constantValue := 0 }, { name := "lineSeparator", type := (.object "java/lang/String"), accessFlags := 10, slot := 12, constantValue := 0 }, { name := "bootLayer", type := (.object "java/lang/ModuleLayer"), accessFlags := 8, slot := 13, constantValue := 0 }]
  methods := #[k5m0, k5m1]
  instanceTypes := #[]
  staticTypes := #[(.object "java/io/InputStream"), (.object "java/io/PrintStream"), (.object "java/io/PrintStream"), (.object "java/io/InputStream"), .int, .int, .int, (.object "java/lang/SecurityManager"), (.object "java/lang/String"), (.object "java/io/Console"), (.object "java/io/PrintStream"), (.object "java/util/Properties"), (.object "java/lang/String"), (.object "java/lang/ModuleLayer")]
  resolved := Array.replicate 834 none
  statics := none }

def pool6 : Array CpInfo := pool [(1, u "java/lang/Cloneable"), (0, .class_ 1), (0, u "java/lang/Object"), (0, .class_ 3)] 3

/-- java/lang/Cloneable -/
def k6 : Class := { plain "java/lang/Cloneable" (some 0) with
  accessFlags := 1537
  interfaces := #[]
  cf := some (fileOf pool6 2 #[] #[] 1537 4 #[] #[])
  fields := #[]
  methods := #[]
  instanceTypes := #[]
  staticTypes := #[]
  resolved := Array.replicate 8 none
  statics := none }

def pool7 : Array CpInfo := pool [(1, u "java/io/Serializable"), (0, .class_ 1), (0, u "java/lang/Object"), (0, .class_ 3)] 3

/-- java/io/Serializable -/
def k7 : Class := { plain "java/io/Serializable" (some 0) with
  accessFlags := 1537
  interfaces := #[]
  cf := some (fileOf pool7 2 #[] #[] 1537 4 #[] #[])
  fields := #[]
  methods := #[]
  instanceTypes := #[]
  staticTypes := #[]
  resolved := Array.replicate 8 none
  statics := none }

/-- the primitive byte -/
def k8 : Class := { plain "byte" none with kind := .primitive 'B', accessFlags := 0x411 }
/-- [B -/
def k9 : Class := { plain "[B" (some 0) with kind := .array 8 .byte, interfaces := #[6, 7], accessFlags := 1041 }

/-- the primitive int -/
def k10 : Class := { plain "int" none with kind := .primitive 'I', accessFlags := 0x411 }
/-- [I -/
def k11 : Class := { plain "[I" (some 0) with kind := .array 10 .int, interfaces := #[6, 7], accessFlags := 1041 }

def heap : Heap := #[]
def classes : Array Class := #[k0, k1, k2, k3, k4, k5, k6, k7, k8, k9, k10, k11]
def interned : List (Array UInt16 × Addr) := []
def slotsUsed : Nat := 0
def theMethod : MethodId := ⟨1, 2⟩
def args0 : Array Value := #[.int 5, .int 7, .int 1, .int 9, .int 3, .int 4]
def aboutOver (below : List Frame) : State where
  vm := { classes := classes, interned := interned.toArray }
  heap := heap
  slotsUsed := slotsUsed
  threads := #[{ frames := .invoking theMethod args0 :: below }]
def below0 : List Frame := [.native { method := ⟨0, 0⟩, args := #[] }]
def about1 : State := aboutOver below0
def p0 : Program := .bare "" "" ""
def e0 : Env := launch0.env 0 0 0
theorem w_frames : about1.frames = Frame.invoking theMethod args0 :: below0 := rfl
set_option maxRecDepth 65536 in
theorem w_args : argsFit about1.vm theMethod args0 = true := by decide +kernel
set_option maxRecDepth 65536 in
theorem w_heap : heapFits about1 = true := by decide +kernel
set_option maxRecDepth 65536 in
theorem w_runnable : about1.curStatus? = some .runnable := by decide +kernel
set_option maxRecDepth 65536 in
theorem w_alone : about1.alone = true := by decide +kernel
set_option maxRecDepth 65536 in
theorem w_named : about1.methodNamed? x = some theMethod := by decide +kernel
set_option maxRecDepth 65536 in
theorem w_hears : about1.hears theMethod below0 = true := by decide +kernel
set_option maxRecDepth 65536 in
theorem w_ripe : about1.ripe theMethod args0 below0 = true := by decide +kernel
theorem w_running : about1.status = .running := rfl
set_option maxRecDepth 65536 in
theorem w_room : about1.hasRoom e0.platform room_1 = true :=
  launch0.hasRoom_least _ room_1 (by decide +kernel) (by decide +kernel) (by decide +kernel) (by decide +kernel) (by decide +kernel) (by decide +kernel)
theorem allAtoms_all (ts : List Jvm.Cond) (a : Array Jvm.Value) (st : Jvm.State) : (allAtoms ts).before a st = ts.all (fun c => c.before a st) := by
  induction ts with
  | nil => rfl
  | cons c t ih =>
    show (Jvm.Cond.and c (allAtoms t)).before a st = _
    rw [Jvm.Cond.before_and, ih, List.all_cons]
def words1 : List Jvm.Cond := Jvm.Cond.code x code maxLocals ret :: tables_1
/-- a 'code' word, met by the world's own term for the bytes: nothing is compared byte by byte -/
theorem code_word {y : MethodName} {bytes : ByteArray} {mx : Nat} {rt : Option FieldType} {a : Array Value} {s : State} {m : MethodId} {meth : Method} {c : Code} (h1 : s.methodNamed? y = some m) (h2 : s.vm.method? m = some meth) (h3 : meth.code = some c) (h4 : c.code = bytes)
    (h5 : (c.maxLocals == mx && c.exceptionTable.isEmpty && decide (c.maxStack ≤ mostOperands) && decide (meth.sig.returnType = rt) && !meth.locks && decide (parseMethodDescriptor y.desc = some meth.sig)) = true) : (Jvm.Cond.code y bytes mx rt).before a s = true := by
  simp only [Bool.and_eq_true, beq_iff_eq, Bool.not_eq_true', decide_eq_true_eq] at h5
  obtain ⟨⟨⟨⟨⟨g1, g2⟩, g3⟩, g4⟩, g5⟩, g6⟩ := h5
  simp [Cond.before, Cond.holds, Cond.value, h1, h2, h3, h4, g1, g2, g3, g4, g5, g6]
def isCode : Jvm.Cond → Bool
  | .code _ _ _ _ => true
  | _ => false
theorem all_split {L : List Jvm.Cond} {P : Jvm.Cond → Bool} (h1 : L.all (fun c => isCode c || P c) = true) (h2 : ∀ c ∈ L.filter isCode, P c = true) : L.all P = true := by
  refine List.all_eq_true.mpr fun c hc => ?_
  have h := List.all_eq_true.mp h1 c hc
  rcases Bool.eq_false_or_eq_true (isCode c) with hi | hi
  · exact h2 c (List.mem_filter.mpr ⟨hc, hi⟩)
  · simpa [hi] using h
set_option maxRecDepth 65536 in
theorem w_c0 : (Jvm.Cond.code x code maxLocals ret).before args0 about1 = true := code_word (m := ⟨1, 2⟩) (meth := k1m2) (c := k1c2) (by decide +kernel) rfl rfl rfl (by decide +kernel)
set_option maxRecDepth 65536 in
theorem w_c1 : (Jvm.Cond.code ({ cls := "com/example/lucid_recall/lucidrecall/index/IntList", name := "<init>", desc := "()V" } : Jvm.MethodName) prog_19_method_1_code (1 : Nat) (Option.none : Option Jvm.ClassFile.FieldType)).before args0 about1 = true := code_word (m := ⟨2, 0⟩) (meth := k2m0) (c := k2c0) (by decide +kernel) rfl rfl rfl (by decide +kernel)
set_option maxRecDepth 65536 in
theorem w_c2 : (Jvm.Cond.code ({ cls := "java/lang/Object", name := "<init>", desc := "()V" } : Jvm.MethodName) object_method_1_code (1 : Nat) (Option.none : Option Jvm.ClassFile.FieldType)).before args0 about1 = true := code_word (m := ⟨0, 0⟩) (meth := k0m0) (c := k0c0) (by decide +kernel) rfl rfl rfl (by decide +kernel)
set_option maxRecDepth 65536 in
theorem w_c3 : (Jvm.Cond.code ({ cls := "com/example/lucid_recall/lucidrecall/index/IntList", name := "size", desc := "()I" } : Jvm.MethodName) prog_19_method_4_code (1 : Nat) (Option.some Jvm.ClassFile.FieldType.int)).before args0 about1 = true := code_word (m := ⟨2, 3⟩) (meth := k2m3) (c := k2c3) (by decide +kernel) rfl rfl rfl (by decide +kernel)
set_option maxRecDepth 65536 in
theorem w_c4 : (Jvm.Cond.code ({ cls := "com/example/lucid_recall/lucidrecall/index/IntList", name := "add", desc := "(I)V" } : Jvm.MethodName) prog_19_method_2_code (2 : Nat) (Option.none : Option Jvm.ClassFile.FieldType)).before args0 about1 = true := code_word (m := ⟨2, 1⟩) (meth := k2m1) (c := k2c1) (by decide +kernel) rfl rfl rfl (by decide +kernel)
set_option maxRecDepth 65536 in
theorem w_c5 : (Jvm.Cond.code ({ cls := "java/util/Arrays", name := "copyOf", desc := "([II)[I" } : Jvm.MethodName) jdk_65_method_123_code (3 : Nat) (Option.some (Jvm.ClassFile.FieldType.array Jvm.ClassFile.FieldType.int))).before args0 about1 = true := code_word (m := ⟨3, 1⟩) (meth := k3m1) (c := k3c1) (by decide +kernel) rfl rfl rfl (by decide +kernel)
set_option maxRecDepth 65536 in
theorem w_c6 : (Jvm.Cond.code ({ cls := "java/lang/Math", name := "min", desc := "(II)I" } : Jvm.MethodName) jdk_29_method_69_code (2 : Nat) (Option.some Jvm.ClassFile.FieldType.int)).before args0 about1 = true := code_word (m := ⟨4, 1⟩) (meth := k4m1) (c := k4c1) (by decide +kernel) rfl rfl rfl (by decide +kernel)
set_option maxRecDepth 65536 in
theorem w_c7 : (Jvm.Cond.code ({ cls := "com/example/lucid_recall/lucidrecall/index/IntListGetPinLaw", name := "pick", desc := "(IIIIIII)I" } : Jvm.MethodName) method_2_code (7 : Nat) (Option.some Jvm.ClassFile.FieldType.int)).before args0 about1 = true := code_word (m := ⟨1, 1⟩) (meth := k1m1) (c := k1c1) (by decide +kernel) rfl rfl rfl (by decide +kernel)
set_option maxRecDepth 65536 in
theorem w_c8 : (Jvm.Cond.code ({ cls := "com/example/lucid_recall/lucidrecall/index/IntList", name := "get", desc := "(I)I" } : Jvm.MethodName) prog_19_method_3_code (2 : Nat) (Option.some Jvm.ClassFile.FieldType.int)).before args0 about1 = true := code_word (m := ⟨2, 2⟩) (meth := k2m2) (c := k2c2) (by decide +kernel) rfl rfl rfl (by decide +kernel)
def codes1 : List Jvm.Cond := [Jvm.Cond.code x code maxLocals ret, Jvm.Cond.code ({ cls := "com/example/lucid_recall/lucidrecall/index/IntList", name := "<init>", desc := "()V" } : Jvm.MethodName) prog_19_method_1_code (1 : Nat) (Option.none : Option Jvm.ClassFile.FieldType), Jvm.Cond.code ({ cls := "java/lang/Object", name := "<init>", desc := "()V" } : Jvm.MethodName) object_method_1_code (1 : Nat) (Option.none : Option Jvm.ClassFile.FieldType), Jvm.Cond.code ({ cls := "com/example/lucid_recall/lucidrecall/index/IntList", name := "size", desc := "()I" } : Jvm.MethodName) prog_19_method_4_code (1 : Nat) (Option.some Jvm.ClassFile.FieldType.int), Jvm.Cond.code ({ cls := "com/example/lucid_recall/lucidrecall/index/IntList", name := "add", desc := "(I)V" } : Jvm.MethodName) prog_19_method_2_code (2 : Nat) (Option.none : Option Jvm.ClassFile.FieldType), Jvm.Cond.code ({ cls := "java/util/Arrays", name := "copyOf", desc := "([II)[I" } : Jvm.MethodName) jdk_65_method_123_code (3 : Nat) (Option.some (Jvm.ClassFile.FieldType.array Jvm.ClassFile.FieldType.int)), Jvm.Cond.code ({ cls := "java/lang/Math", name := "min", desc := "(II)I" } : Jvm.MethodName) jdk_29_method_69_code (2 : Nat) (Option.some Jvm.ClassFile.FieldType.int), Jvm.Cond.code ({ cls := "com/example/lucid_recall/lucidrecall/index/IntListGetPinLaw", name := "pick", desc := "(IIIIIII)I" } : Jvm.MethodName) method_2_code (7 : Nat) (Option.some Jvm.ClassFile.FieldType.int), Jvm.Cond.code ({ cls := "com/example/lucid_recall/lucidrecall/index/IntList", name := "get", desc := "(I)I" } : Jvm.MethodName) prog_19_method_3_code (2 : Nat) (Option.some Jvm.ClassFile.FieldType.int)]
set_option maxRecDepth 65536 in
theorem codes_eq : words1.filter isCode = codes1 := rfl
theorem w_codes : ∀ c ∈ words1.filter isCode, c.before args0 about1 = true := by
  rw [codes_eq]
  intro c hc
  simp only [codes1, List.mem_cons, List.not_mem_nil, or_false] at hc
  rcases hc with rfl | rfl | rfl | rfl | rfl | rfl | rfl | rfl | rfl
  · exact w_c0
  · exact w_c1
  · exact w_c2
  · exact w_c3
  · exact w_c4
  · exact w_c5
  · exact w_c6
  · exact w_c7
  · exact w_c8
set_option maxRecDepth 65536 in
theorem w_t1 : (words1.take 24).all (fun c => isCode c || c.before args0 about1) = true := by decide +kernel
set_option maxRecDepth 65536 in
theorem w_t2 : (words1.drop 24).all (fun c => isCode c || c.before args0 about1) = true := by decide +kernel
theorem w_tables : (allAtoms (Jvm.Cond.code x code maxLocals ret :: tables_1)).before args0 about1 = true := by
  rw [allAtoms_all]
  show words1.all (fun c => c.before args0 about1) = true
  refine all_split ?_ w_codes
  rw [← List.take_append_drop 24 words1, List.all_append, w_t1, w_t2]
  rfl
set_option maxRecDepth 65536 in
theorem w_case : (Jvm.Cond.and given_1 narrow_1).before args0 about1 = true := by decide +kernel
theorem w_applies : (headSpec (Jvm.Cond.code x code maxLocals ret :: tables_1) room_1).applies x e0.platform about1 = true :=
  (Spec.applies_iff w_frames).mpr ⟨w_running, w_runnable, w_alone, w_named, w_hears, w_ripe, w_room, w_tables⟩
theorem atStart : AtStart classFile x code maxLocals ret World_1 tables_1 room_1 Calls_1 rest_1 Pre_1 launch0 p0 e0 about1 theMethod args0 below0 :=
  ⟨lists_1, trivial, launch0.admits_env _ _ _, launch0.least_env, fairChoices_fair.cas, fairChoices_fair.clock, w_frames, w_args, w_heap, w_applies, trivial, trivial, w_case⟩
end start1
theorem witness_1 : WitnessClaimed_1 := ⟨start1.p0, start1.e0, start1.about1, start1.theMethod, start1.args0, start1.below0, start1.atStart⟩
end Jvm.Pilot.@@N@@
