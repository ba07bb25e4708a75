import JvmDerived
import JvmDerived.Pilot.@@N@@Statement
import JvmDerived.Pilot.@@N@@Code
set_option linter.unusedVariables false
set_option linter.unusedSimpArgs false
namespace Jvm.Pilot.@@N@@
open Jvm Jvm.ClassFile Sem Op Lib Jvm.Free Jvm.Stand Jvm.LawKit Jvm.RoadKit Bundle Jvm.Pilot.@@N@@.Jvm.D
section OwnKit
variable {p : Program} {l : Launch} {e : Env} {R : Room} {s : State} {m : MethodId} {args : Array Value} {below : List Frame} {meth : Method} {c : Code} {T : State} {locs : List Loc} {cells slots : Nat} {bc : ByteArray} {Q : Option Value → Heap → List Loc → Prop} {mc ms : Nat} {Z : State} {a0 : Array Value} {h : Heap} {pc pc' pt pf : Nat} {Ls : Array Slot} {st rest : List Value}
/-- from this frame over T the invocation comes to its end by returning, and Q holds there -/
def Go (p : Program) (e : Env) (below : List Frame) (s : State) (Q : Option Value → Heap → List Loc → Prop) (mc ms : Nat) (m : MethodId) (T : State) (pc : Nat) (Ls : Array Slot) (st : List Value) : Prop :=
  ∃ s₂ o, Steps p.tables e below (T.setTop (mkF m pc Ls st)) s₂ ∧ s₂.status = .running ∧ Ended s₂ below o ∧ ∃ v L, o = .returned v ∧ Q v s₂.heap L ∧ FrameEnd s o s₂ L mc ms
theorem Go.of {T' : State} {Ls' : Array Slot} {st' : List Value} (k : ∀ t, Steps p.tables e below (T'.setTop (mkF m pc' Ls' st')) t → Steps p.tables e below (T.setTop (mkF m pc Ls st)) t) (g : Go p e below s Q mc ms m T' pc' Ls' st') : Go p e below s Q mc ms m T pc Ls st := by
  obtain ⟨s₂, o, h1, h2⟩ := g
  exact ⟨s₂, o, k _ h1, h2⟩
/-- a method's contract, as a caller takes it -/
def Ct (l : Launch) (Z : State) (y : MethodName) (bytes : ByteArray) (maxL : Nat) (ret : Option FieldType) (rm : Room) (as' : Array Value) (h : Heap) (Q : Option Value → Heap → List Loc → Prop) : Prop :=
  MetFree l y (head1 [Jvm.Cond.code y bytes maxL ret] rm) (fun a U => a = as' ∧ Z.Warmed39 U.vm ∧ U.heap = h) (fun _ _ _ _ _ => True) (fun _ U o U' => ∃ v L, o = .returned v ∧ Q v U'.heap L ∧ FrameEnd U o U' L rm.cells rm.slots)
theorem own_met {y : MethodName} {bytes : ByteArray} {maxL : Nat} {ret : Option FieldType} {ws : List Jvm.Cond} {rm : Room} {as' : Array Value}
    (hpl : plainFor y = true) (hef : ∀ m, entryFrame m as' maxL = mkF m 0 Ls [])
    (body : ∀ (p : Program) (e : Env) (s : State) (m : MethodId) (below : List Frame) (meth : Method) (c : Code) (T : State), Stand p l e rm s m as' below meth c T [] 0 0 → p.tables.exec = Jvm.exec → c.code = bytes → c.maxLocals = maxL →
      s.vm.findClass y.cls = some m.cls → meth.name = y.name → meth.sig.returnType = ret → meth.locks = false → Z.Warmed39 s.vm → T.heap = h → Go p e below s Q mc ms m T 0 Ls []) :
    MetFree l y (head1 (Jvm.Cond.code y bytes maxL ret :: ws) rm) (fun a U => a = as' ∧ Z.Warmed39 U.vm ∧ U.heap = h) (fun _ _ _ _ _ => True) (fun _ U o U' => ∃ v L, o = .returned v ∧ Q v U'.heap L ∧ FrameEnd U o U' L mc ms) := by
  refine MetFree.of_bodySF hpl hisR ?_
  intro p e s m args below meth c s₁ Bd hml0 hP hK
  obtain ⟨rfl, hZ, hh⟩ := hP
  obtain ⟨s₂, o, h1, h2, h3, v, L, h4, h5, h6⟩ := body p e s m below meth c s₁ (Stand.of_body Bd) Bd.exec Bd.bytes hml0 (findClass_of_methodNamed Bd.named) (name_of_methodNamed Bd.named Bd.method).1 Bd.returns Bd.notSynchronized hZ (by rw [← hh, Bd.state]; rfl)
  exact ⟨s₂, o, castTop (hef m) h1, h2, h3, v, L, h4, h5, h6⟩
theorem g_nameI {x : Int32} (k : ∀ z : Int32, z = x → Go p e below s Q mc ms m T pc Ls (.int z :: rest)) : Go p e below s Q mc ms m T pc Ls (.int x :: rest) := k x rfl
theorem g_iloadN (X : Stand p l e R s m args below meth c T locs cells slots) (hx : p.tables.exec = Jvm.exec) (hby : c.code = bc) {n : Fin 4} {v : Int32} (hd : decode bc pc = .ok (.iload_n n, 1)) (hp : pc + 1 = pc') (hl : Ls[n.val]? = some (.val (.int v))) (k : Go p e below s Q mc ms m T pc' Ls (.int v :: st)) : Go p e below s Q mc ms m T pc Ls st := by
  subst hp; exact Go.of (fun _ q => XS.iloadN X.here hx rfl (hb hby hd) hl q) k
theorem g_iload (X : Stand p l e R s m args below meth c T locs cells slots) (hx : p.tables.exec = Jvm.exec) (hby : c.code = bc) {n : Nat} {v : Int32} (hd : decode bc pc = .ok (.iload n, 2)) (hp : pc + 2 = pc') (hl : Ls[n]? = some (.val (.int v))) (k : Go p e below s Q mc ms m T pc' Ls (.int v :: st)) : Go p e below s Q mc ms m T pc Ls st := by
  subst hp; exact Go.of (fun _ q => XS.iload X.here hx rfl (hb hby hd) hl q) k
theorem g_istoreN (X : Stand p l e R s m args below meth c T locs cells slots) (hx : p.tables.exec = Jvm.exec) (hby : c.code = bc) {n : Fin 4} {v : Int32} {Ls' : Array Slot} (hd : decode bc pc = .ok (.istore_n n, 1)) (hp : pc + 1 = pc') (hl : storeLocals Ls n.val (.int v) = some Ls') (k : Go p e below s Q mc ms m T pc' Ls' rest) : Go p e below s Q mc ms m T pc Ls (.int v :: rest) := by
  subst hp; exact Go.of (fun _ q => XS.istoreN X.here hx rfl (hb hby hd) rfl hl q) k
theorem g_istore (X : Stand p l e R s m args below meth c T locs cells slots) (hx : p.tables.exec = Jvm.exec) (hby : c.code = bc) {n : Nat} {v : Int32} {Ls' : Array Slot} (hd : decode bc pc = .ok (.istore n, 2)) (hp : pc + 2 = pc') (hl : storeLocals Ls n (.int v) = some Ls') (k : Go p e below s Q mc ms m T pc' Ls' rest) : Go p e below s Q mc ms m T pc Ls (.int v :: rest) := by
  subst hp; exact Go.of (fun _ q => XS.istore X.here hx rfl (hb hby hd) rfl hl q) k
theorem g_aloadN (X : Stand p l e R s m args below meth c T locs cells slots) (hx : p.tables.exec = Jvm.exec) (hby : c.code = bc) {n : Fin 4} {v : Value} (hd : decode bc pc = .ok (.aload_n n, 1)) (hp : pc + 1 = pc') (hl : Ls[n.val]? = some (.val v)) (hv : v.isRef = true) (k : Go p e below s Q mc ms m T pc' Ls (v :: st)) : Go p e below s Q mc ms m T pc Ls st := by
  subst hp; exact Go.of (fun _ q => XS.aloadN X.here hx rfl (hb hby hd) hl hv q) k
theorem g_aload (X : Stand p l e R s m args below meth c T locs cells slots) (hx : p.tables.exec = Jvm.exec) (hby : c.code = bc) {n : Nat} {v : Value} (hd : decode bc pc = .ok (.aload n, 2)) (hp : pc + 2 = pc') (hl : Ls[n]? = some (.val v)) (hv : v.isRef = true) (k : Go p e below s Q mc ms m T pc' Ls (v :: st)) : Go p e below s Q mc ms m T pc Ls st := by
  subst hp; exact Go.of (fun _ q => XS.aload X.here hx rfl (hb hby hd) hl hv q) k
theorem g_astore (X : Stand p l e R s m args below meth c T locs cells slots) (hx : p.tables.exec = Jvm.exec) (hby : c.code = bc) {n : Nat} {v : Value} {Ls' : Array Slot} (hd : decode bc pc = .ok (.astore n, 2)) (hp : pc + 2 = pc') (hv : v.isRef = true) (hl : storeLocals Ls n v = some Ls') (k : Go p e below s Q mc ms m T pc' Ls' rest) : Go p e below s Q mc ms m T pc Ls (v :: rest) := by
  subst hp; exact Go.of (fun _ q => XS.astore X.here hx rfl (hb hby hd) rfl hv hl q) k
theorem g_iconst (X : Stand p l e R s m args below meth c T locs cells slots) (hx : p.tables.exec = Jvm.exec) (hby : c.code = bc) {i : Int} {n : Int32} (hd : decode bc pc = .ok (.iconst i, 1)) (hp : pc + 1 = pc') (hn : Int32.ofInt i = n) (k : Go p e below s Q mc ms m T pc' Ls (.int n :: st)) : Go p e below s Q mc ms m T pc Ls st := by
  subst hp; exact Go.of (fun _ q => XS.iconst X.here hx rfl (hb hby hd) (by rw [hn]; exact q)) k
theorem g_bipush (X : Stand p l e R s m args below meth c T locs cells slots) (hx : p.tables.exec = Jvm.exec) (hby : c.code = bc) {i : Int} {n : Int32} (hd : decode bc pc = .ok (.bipush i, 2)) (hp : pc + 2 = pc') (hn : (Int8.ofInt i).toInt32 = n) (k : Go p e below s Q mc ms m T pc' Ls (.int n :: st)) : Go p e below s Q mc ms m T pc Ls st := by
  subst hp; exact Go.of (fun _ q => XS.bipush X.here hx rfl (hb hby hd) (by rw [hn]; exact q)) k
theorem g_sipush (X : Stand p l e R s m args below meth c T locs cells slots) (hx : p.tables.exec = Jvm.exec) (hby : c.code = bc) {i : Int} {n : Int32} (hd : decode bc pc = .ok (.sipush i, 3)) (hp : pc + 3 = pc') (hn : (Int16.ofInt i).toInt32 = n) (k : Go p e below s Q mc ms m T pc' Ls (.int n :: st)) : Go p e below s Q mc ms m T pc Ls st := by
  subst hp; exact Go.of (fun _ q => XS.sipush X.here hx rfl (hb hby hd) (by rw [hn]; exact q)) k
theorem g_iand (X : Stand p l e R s m args below meth c T locs cells slots) (hx : p.tables.exec = Jvm.exec) (hby : c.code = bc) {x y : Int32} (hd : decode bc pc = .ok (.iand, 1)) (hp : pc + 1 = pc')  (k : Go p e below s Q mc ms m T pc' Ls (.int (x &&& y) :: rest)) : Go p e below s Q mc ms m T pc Ls (.int y :: .int x :: rest) := by
  subst hp; exact Go.of (fun _ q => XS.iand X.here hx rfl (hb hby hd) rfl q) k
theorem g_irem (X : Stand p l e R s m args below meth c T locs cells slots) (hx : p.tables.exec = Jvm.exec) (hby : c.code = bc) {x y : Int32} (hd : decode bc pc = .ok (.irem, 1)) (hp : pc + 1 = pc') (hy : y ≠ 0) (k : Go p e below s Q mc ms m T pc' Ls (.int (x % y) :: rest)) : Go p e below s Q mc ms m T pc Ls (.int y :: .int x :: rest) := by
  subst hp; exact Go.of (fun _ q => iremM X hx rfl (hb hby hd) rfl hy q) k
theorem g_ishr (X : Stand p l e R s m args below meth c T locs cells slots) (hx : p.tables.exec = Jvm.exec) (hby : c.code = bc) {x y : Int32} (hd : decode bc pc = .ok (.ishr, 1)) (hp : pc + 1 = pc')  (k : Go p e below s Q mc ms m T pc' Ls (.int (x >>> (y &&& 31)) :: rest)) : Go p e below s Q mc ms m T pc Ls (.int y :: .int x :: rest) := by
  subst hp; exact Go.of (fun _ q => XS.ishr X.here hx rfl (hb hby hd) rfl q) k
theorem g_i2b (X : Stand p l e R s m args below meth c T locs cells slots) (hx : p.tables.exec = Jvm.exec) (hby : c.code = bc) {x : Int32} (hd : decode bc pc = .ok (.i2b, 1)) (hp : pc + 1 = pc')  (k : Go p e below s Q mc ms m T pc' Ls (.int (x.toInt8.toInt32) :: rest)) : Go p e below s Q mc ms m T pc Ls (.int x :: rest) := by
  subst hp; exact Go.of (fun _ q => XS.i2b X.here hx rfl (hb hby hd) rfl q) k
theorem g_iinc (X : Stand p l e R s m args below meth c T locs cells slots) (hx : p.tables.exec = Jvm.exec) (hby : c.code = bc) {n : Nat} {i : Int} {x : Int32} {Ls' : Array Slot} (hd : decode bc pc = .ok (.iinc n i, 3)) (hp : pc + 3 = pc') (hl : Ls[n]? = some (.val (.int x))) (hl' : storeLocals Ls n (.int (x + Int32.ofInt i)) = some Ls') (k : Go p e below s Q mc ms m T pc' Ls' st) : Go p e below s Q mc ms m T pc Ls st := by
  subst hp; exact Go.of (fun _ q => XS.iinc X.here hx rfl (hb hby hd) hl hl' q) k
theorem g_goto (X : Stand p l e R s m args below meth c T locs cells slots) (hx : p.tables.exec = Jvm.exec) (hby : c.code = bc) {i : Int} (hd : decode bc pc = .ok (.goto i, 3)) (ho : 0 ≤ (pc : Int) + i) (hp : ((pc : Int) + i).toNat = pc') (k : Go p e below s Q mc ms m T pc' Ls st) : Go p e below s Q mc ms m T pc Ls st := Go.of (fun _ q => XS.goto X.here hx rfl rfl (hb hby hd) ho hp q) k
theorem own_hlt (x y : Int32) : if_icmp.holds .lt x y = decide (x.toInt < y.toInt) := by simp [if_icmp.holds, Int32.lt_iff_toInt_lt]
theorem own_hge (x y : Int32) : if_icmp.holds .ge x y = decide (y.toInt ≤ x.toInt) := by simp [if_icmp.holds, Int32.le_iff_toInt_le]
theorem own_hgt (x y : Int32) : if_icmp.holds .gt x y = decide (y.toInt < x.toInt) := by simp [if_icmp.holds, Int32.lt_iff_toInt_lt]
theorem own_hle (x y : Int32) : if_icmp.holds .le x y = decide (x.toInt ≤ y.toInt) := by simp [if_icmp.holds, Int32.le_iff_toInt_le]
theorem own_heq (x y : Int32) : if_icmp.holds .eq x y = decide (x = y) := by by_cases q : x = y <;> simp [if_icmp.holds, q]
theorem own_hne (x y : Int32) : if_icmp.holds .ne x y = decide (¬ x = y) := by by_cases q : x = y <;> simp [if_icmp.holds, q]
theorem g_icmp (X : Stand p l e R s m args below meth c T locs cells slots) (hx : p.tables.exec = Jvm.exec) (hby : c.code = bc) {cd : ClassFile.Cond} {i : Int} {x y : Int32} {P : Prop} [Decidable P] (hP : if_icmp.holds cd x y = decide P) (hd : decode bc pc = .ok (.if_icmp cd i, 3)) (ho : 0 ≤ (pc : Int) + i) (hp : ((pc : Int) + i).toNat = pt) (hf : pc + 3 = pf) (ky : P → Go p e below s Q mc ms m T pt Ls rest) (kn : ¬ P → Go p e below s Q mc ms m T pf Ls rest) : Go p e below s Q mc ms m T pc Ls (.int y :: .int x :: rest) := by
  subst hf
  by_cases q : P
  · exact Go.of (fun _ z => XS.icmpYes X.here hx rfl rfl (hb hby hd) rfl (by rw [hP]; exact decide_eq_true q) ho hp z) (ky q)
  · exact Go.of (fun _ z => XS.icmpNo X.here hx rfl (hb hby hd) rfl (by rw [hP]; exact decide_eq_false q) z) (kn q)
theorem g_ifc (X : Stand p l e R s m args below meth c T locs cells slots) (hx : p.tables.exec = Jvm.exec) (hby : c.code = bc) {cd : ClassFile.Cond} {i : Int} {x : Int32} {P : Prop} [Decidable P] (hP : if_icmp.holds cd x 0 = decide P) (hd : decode bc pc = .ok (.ifCond cd i, 3)) (ho : 0 ≤ (pc : Int) + i) (hp : ((pc : Int) + i).toNat = pt) (hf : pc + 3 = pf) (ky : P → Go p e below s Q mc ms m T pt Ls rest) (kn : ¬ P → Go p e below s Q mc ms m T pf Ls rest) : Go p e below s Q mc ms m T pc Ls (.int x :: rest) := by
  subst hf
  by_cases q : P
  · exact Go.of (fun _ z => XS.ifYes X.here hx rfl rfl (hb hby hd) rfl (by rw [if0, hP]; exact decide_eq_true q) ho hp z) (ky q)
  · exact Go.of (fun _ z => XS.ifNo X.here hx rfl (hb hby hd) rfl (by rw [if0, hP]; exact decide_eq_false q) z) (kn q)
theorem g_icmplt (X : Stand p l e R s m args below meth c T locs cells slots) (hx : p.tables.exec = Jvm.exec) (hby : c.code = bc) {i : Int} {x y : Int32} (hd : decode bc pc = .ok (.if_icmp .lt i, 3)) (ho : 0 ≤ (pc : Int) + i) (hp : ((pc : Int) + i).toNat = pt) (hf : pc + 3 = pf) (ky : x.toInt < y.toInt → Go p e below s Q mc ms m T pt Ls rest) (kn : y.toInt ≤ x.toInt → Go p e below s Q mc ms m T pf Ls rest) : Go p e below s Q mc ms m T pc Ls (.int y :: .int x :: rest) :=
  g_icmp X hx hby (own_hlt x y) hd ho hp hf ky (fun q => kn (Int.not_lt.mp q))
theorem g_icmpge (X : Stand p l e R s m args below meth c T locs cells slots) (hx : p.tables.exec = Jvm.exec) (hby : c.code = bc) {i : Int} {x y : Int32} (hd : decode bc pc = .ok (.if_icmp .ge i, 3)) (ho : 0 ≤ (pc : Int) + i) (hp : ((pc : Int) + i).toNat = pt) (hf : pc + 3 = pf) (ky : y.toInt ≤ x.toInt → Go p e below s Q mc ms m T pt Ls rest) (kn : x.toInt < y.toInt → Go p e below s Q mc ms m T pf Ls rest) : Go p e below s Q mc ms m T pc Ls (.int y :: .int x :: rest) :=
  g_icmp X hx hby (own_hge x y) hd ho hp hf ky (fun q => kn (Int.not_le.mp q))
theorem g_icmpgt (X : Stand p l e R s m args below meth c T locs cells slots) (hx : p.tables.exec = Jvm.exec) (hby : c.code = bc) {i : Int} {x y : Int32} (hd : decode bc pc = .ok (.if_icmp .gt i, 3)) (ho : 0 ≤ (pc : Int) + i) (hp : ((pc : Int) + i).toNat = pt) (hf : pc + 3 = pf) (ky : y.toInt < x.toInt → Go p e below s Q mc ms m T pt Ls rest) (kn : x.toInt ≤ y.toInt → Go p e below s Q mc ms m T pf Ls rest) : Go p e below s Q mc ms m T pc Ls (.int y :: .int x :: rest) :=
  g_icmp X hx hby (own_hgt x y) hd ho hp hf ky (fun q => kn (Int.not_lt.mp q))
theorem g_icmple (X : Stand p l e R s m args below meth c T locs cells slots) (hx : p.tables.exec = Jvm.exec) (hby : c.code = bc) {i : Int} {x y : Int32} (hd : decode bc pc = .ok (.if_icmp .le i, 3)) (ho : 0 ≤ (pc : Int) + i) (hp : ((pc : Int) + i).toNat = pt) (hf : pc + 3 = pf) (ky : x.toInt ≤ y.toInt → Go p e below s Q mc ms m T pt Ls rest) (kn : y.toInt < x.toInt → Go p e below s Q mc ms m T pf Ls rest) : Go p e below s Q mc ms m T pc Ls (.int y :: .int x :: rest) :=
  g_icmp X hx hby (own_hle x y) hd ho hp hf ky (fun q => kn (Int.not_le.mp q))
theorem g_ifeq (X : Stand p l e R s m args below meth c T locs cells slots) (hx : p.tables.exec = Jvm.exec) (hby : c.code = bc) {i : Int} {x : Int32} (hd : decode bc pc = .ok (.ifCond .eq i, 3)) (ho : 0 ≤ (pc : Int) + i) (hp : ((pc : Int) + i).toNat = pt) (hf : pc + 3 = pf) (ky : x = 0 → Go p e below s Q mc ms m T pt Ls rest) (kn : ¬ x = 0 → Go p e below s Q mc ms m T pf Ls rest) : Go p e below s Q mc ms m T pc Ls (.int x :: rest) :=
  g_ifc X hx hby (own_heq x 0) hd ho hp hf ky (fun q => kn (id q))
theorem g_icmpne (X : Stand p l e R s m args below meth c T locs cells slots) (hx : p.tables.exec = Jvm.exec) (hby : c.code = bc) {i : Int} {x y : Int32} (hd : decode bc pc = .ok (.if_icmp .ne i, 3)) (ho : 0 ≤ (pc : Int) + i) (hp : ((pc : Int) + i).toNat = pt) (hf : pc + 3 = pf) (ky : ¬ x = y → Go p e below s Q mc ms m T pt Ls rest) (kn : x = y → Go p e below s Q mc ms m T pf Ls rest) : Go p e below s Q mc ms m T pc Ls (.int y :: .int x :: rest) :=
  g_icmp X hx hby (own_hne x y) hd ho hp hf ky (fun q => kn (Decidable.not_not.mp q))
theorem g_ret (X : Stand p l e R s m args below meth c T locs cells slots) (hx : p.tables.exec = Jvm.exec) (hby : c.code = bc) (hlk : meth.locks = false) {t : FieldType} {w : Value} {i : Instr} (hret : meth.sig.returnType = some t) (hn : narrow t w = w) (hi : (i = .ireturn ∧ (t = .int ∨ t = .boolean ∨ t = .byte ∨ t = .char ∨ t = .short) ∧ ∃ z, w = .int z) ∨ (i = .lreturn ∧ t = .long ∧ ∃ z, w = .long z) ∨ (i = .dreturn ∧ t = .double ∧ ∃ z, w = .double z) ∨ (i = .freturn ∧ t = .float ∧ ∃ z, w = .float z) ∨ (i = .areturn ∧ t.isReference = true ∧ w.isRef = true)) (hd : decode bc pc = .ok (i, 1)) (hc : cells ≤ mc) (hs : slots ≤ ms) (hq : Q (some w) T.heap locs) : Go p e below s Q mc ms m T pc Ls (w :: rest) := by
  obtain ⟨fs, hr, hrun, hended, hW, hsame⟩ := X.leave (v := some w) (fun h => by rw [hret] at h; cases h) hlk
  exact ⟨_, _, retOut X hx hret hn hi (hb hby hd) hr, hrun, hended, _, _, rfl, hq, ⟨_, rfl⟩, hW, hsame.mono hc hs⟩
theorem g_retZ (X : Stand p l e R s m args below meth c T locs cells slots) (hx : p.tables.exec = Jvm.exec) (hby : c.code = bc) (hlk : meth.locks = false) {z : Int32} (hz : z = 0 ∨ z = 1) (hret : meth.sig.returnType = some .boolean) (hd : decode bc pc = .ok (.ireturn, 1)) (hc : cells ≤ mc) (hs : slots ≤ ms) (hq : Q (some (.int z)) T.heap locs) : Go p e below s Q mc ms m T pc Ls (.int z :: rest) := g_ret X hx hby hlk hret (by rcases hz with rfl | rfl <;> rfl) (Or.inl ⟨rfl, Or.inr (Or.inl rfl), _, rfl⟩) hd hc hs hq
theorem g_ldcI (X : Stand p l e R s m args below meth c T locs cells slots) (hx : p.tables.exec = Jvm.exec) (hby : c.code = bc) (hZ : Z.Warmed39 s.vm) {own : String} (hown : s.vm.findClass own = some m.cls) {n : Nat} {v : Int32} (w : (Jvm.Cond.constant own n v).before a0 Z = true) (hd : decode bc pc = .ok (.ldc n, 2)) (hp : pc + 2 = pc') (k : Go p e below s Q mc ms m T pc' Ls (.int v :: st)) : Go p e below s Q mc ms m T pc Ls st := by
  subst hp; exact Go.of (X.ldcInt hx hown (mvT hZ w) (g := mkF m pc Ls st) rfl (hb hby hd)) k
theorem g_newP (X : Stand p l e R s m args below meth c T locs cells slots) (hx : p.tables.exec = Jvm.exec) (hby : c.code = bc) (hZ : Z.Warmed39 s.vm) (eT : T.heap = h) {aty : ArrayType} {n : Int32} (w : (Jvm.Cond.arrayClass (newarray.typeOf aty)).before a0 Z = true) (hd : decode bc pc = .ok (.newarray aty, 2)) (hp : pc + 2 = pc') (hn : ¬ n < 0) {cap : Nat} (hcap : n.toNatClampNeg ≤ cap) (hbig : cap * 8 ≤ 536870912) (hc : cells + 1 ≤ R.cells) (hl : slots + cap ≤ R.slots) (k : ∀ T' h' b cA, b = h.size → Stand p l e R s m args below meth c T' locs (cells + 1) (slots + cap) → T'.heap = h' → Ext h h' → Arv Z h' b cA (newarray.typeOf aty) n [] (defaultValue (newarray.typeOf aty)) → Go p e below s Q mc ms m T' pc' Ls (.ref b :: rest)) : Go p e below s Q mc ms m T pc Ls (.int n :: rest) := by
  subst hp
  obtain ⟨T', h', cA, X', e', E', A', st'⟩ := newP X hx hZ w eT (g := mkF m pc Ls (.int n :: rest)) rfl (hb hby hd) rfl hn hcap hbig hc hl
  exact Go.of st' (k T' h' _ cA rfl X' e' E' (Arv.new A' hn))
theorem g_bastore (X : Stand p l e R s m args below meth c T locs cells slots) (hx : p.tables.exec = Jvm.exec) (hby : c.code = bc) (hZ : Z.Warmed39 s.vm) (eT : T.heap = h) {a : Addr} {cl : Cell} (A : Arr Z h a cl .byte) {j : Int32} {x : Int32} (hj : ¬ (j < 0 ∨ cl.slots.size ≤ j.toNatClampNeg)) (hd : decode bc pc = .ok (.bastore, 1)) (hp : pc + 1 = pc') (k : ∀ T' h', Stand p l e R s m args below meth c T' (locs ++ [⟨a, j.toNatClampNeg⟩]) cells slots → T'.heap = h' → Wr h h' a j.toNatClampNeg (.int (nar .byte x)) → Go p e below s Q mc ms m T' pc' Ls rest) : Go p e below s Q mc ms m T pc Ls (.int x :: .int j :: .ref a :: rest) := by
  subst hp
  obtain ⟨T', h', X', e', W', st'⟩ := stB X hx hZ eT A (j := j) hj (g := mkF m pc Ls (.int x :: .int j :: .ref a :: rest)) rfl rfl (hb hby hd)
  exact Go.of st' (k T' h' X' e' W')
theorem g_baload (X : Stand p l e R s m args below meth c T locs cells slots) (hx : p.tables.exec = Jvm.exec) (hby : c.code = bc) (hZ : Z.Warmed39 s.vm) (eT : T.heap = h) {a : Addr} {cl : Cell} (A : Arr Z h a cl .byte) {j : Int32} {v : Value} (hj : ¬ (j < 0 ∨ cl.slots.size ≤ j.toNatClampNeg)) (hv : cl.slots[j.toNatClampNeg]? = some v) (hd : decode bc pc = .ok (.baload, 1)) (hp : pc + 1 = pc') (k : Go p e below s Q mc ms m T pc' Ls (v :: rest)) : Go p e below s Q mc ms m T pc Ls (.int j :: .ref a :: rest) := by
  subst hp
  exact Go.of (fun _ q => X.baloadBytes hx (j := j) (v := v) (by rw [eT]; exact A.1) (State.isArrayOf_alike hZ.alike A.2.1) A.2.2 hj hv (g := mkF m pc Ls (.int j :: .ref a :: rest)) rfl rfl (hb hby hd) _ q) k
/-- in heap h the array at a (of kind ty) has n places; place j holds f j -/
def Ara (Z : State) (h : Heap) (a : Addr) (ty : FieldType) (n : Nat) (f : Nat → Value) : Prop := ∃ cl : Cell, Arr Z h a cl ty ∧ cl.slots.size = n ∧ n < 2147483648 ∧ ∀ j, j < n → cl.slots[j]? = some (f j)
def own_up (f : Nat → Value) (k : Nat) (v : Value) : Nat → Value := fun j => if j = k then v else f j
theorem own_up_self (f : Nat → Value) (k : Nat) (v : Value) : own_up f k v k = v := if_pos rfl
theorem own_up_ne (f : Nat → Value) {k j : Nat} (v : Value) (q : j ≠ k) : own_up f k v j = f j := if_neg q
theorem Ara.lt {h : Heap} {a : Addr} {ty : FieldType} {n : Nat} {f : Nat → Value} (V : Ara Z h a ty n f) : a < h.size := by obtain ⟨_, A, _⟩ := V; exact A.lt
theorem Ara.set {h h' : Heap} {a : Addr} {ty : FieldType} {n k : Nat} {f : Nat → Value} {v : Value} (V : Ara Z h a ty n f) (W : Wr h h' a k v) : Ara Z h' a ty n (own_up f k v) := by
  obtain ⟨c, A, hs, hn, hf⟩ := V
  refine ⟨_, A.same W, by rw [sz_set]; exact hs, hn, fun j hj => ?_⟩
  by_cases q : k = j
  · subst q; rw [own_up_self]; simp [Cell.setSlot, hs, hj]
  · rw [own_up_ne f v (Ne.symm q), ← hf j hj]; exact Array.getElem?_setIfInBounds_ne q
theorem Ara.eq {h : Heap} {a : Addr} {ty : FieldType} {n : Nat} {f f' : Nat → Value} (V : Ara Z h a ty n f) (q : ∀ j, j < n → f j = f' j) : Ara Z h a ty n f' := by obtain ⟨c, A, hs, hn, hf⟩ := V; exact ⟨c, A, hs, hn, fun j hj => by rw [← q j hj]; exact hf j hj⟩
def own_ui (g : Nat → Int32) (k : Nat) (x : Int32) : Nat → Int32 := fun j => if j = k then x else g j
theorem Ara.setI {h h' : Heap} {a : Addr} {ty : FieldType} {n k : Nat} {g : Nat → Int32} {x : Int32} (V : Ara Z h a ty n (fun j => .int (g j))) (W : Wr h h' a k (.int x)) : Ara Z h' a ty n (fun j => .int (own_ui g k x j)) := (V.set W).eq fun j _ => by
  by_cases q : j = k <;> simp [own_up, own_ui, q]
theorem own_in {cl : Cell} {j : Int32} {n : Nat} (hs : cl.slots.size = n) (h0 : 0 ≤ j.toInt) (h1 : j.toInt < n) : ¬ (j < 0 ∨ cl.slots.size ≤ j.toNatClampNeg) := by
  rw [Int32.lt_iff_toInt_lt, hs]
  show ¬ (j.toInt < 0 ∨ n ≤ j.toInt.toNat)
  omega
theorem g_newA (X : Stand p l e R s m args below meth c T locs cells slots) (hx : p.tables.exec = Jvm.exec) (hby : c.code = bc) (hZ : Z.Warmed39 s.vm) (eT : T.heap = h) {aty : ArrayType} {n : Int32} {N : Nat} (w : (Jvm.Cond.arrayClass (newarray.typeOf aty)).before a0 Z = true) (hd : decode bc pc = .ok (.newarray aty, 2)) (hp : pc + 2 = pc') (hn : n.toInt = N) {cap : Nat} (hcap : N ≤ cap) (hbig : cap * 8 ≤ 536870912) (hc : cells + 1 ≤ R.cells) (hl : slots + cap ≤ R.slots) (k : ∀ T' h' b, b = h.size → Stand p l e R s m args below meth c T' locs (cells + 1) (slots + cap) → T'.heap = h' → Ext h h' → Ara Z h' b (newarray.typeOf aty) N (fun _ => defaultValue (newarray.typeOf aty)) → Go p e below s Q mc ms m T' pc' Ls (.ref b :: rest)) : Go p e below s Q mc ms m T pc Ls (.int n :: rest) := by
  have h1 : n.toNatClampNeg = N := by show n.toInt.toNat = N; omega
  have h2 : ¬ n < 0 := by rw [Int32.lt_iff_toInt_lt]; show ¬ n.toInt < 0; omega
  have h3 := rng32 n
  refine g_newP X hx hby hZ eT w hd hp h2 (cap := cap) (by omega) hbig hc hl (fun T' h' b cA hb' X' e' E' V => k T' h' b hb' X' e' E' ?_)
  obtain ⟨cl, A, -, hs, -, hH, -⟩ := V
  exact ⟨cl, A, by rw [hs, h1], by omega, fun j hj => by rw [hH j (by rw [hs, h1]; exact hj)]; simp⟩
theorem a_bastore (X : Stand p l e R s m args below meth c T locs cells slots) (hx : p.tables.exec = Jvm.exec) (hby : c.code = bc) (hZ : Z.Warmed39 s.vm) (eT : T.heap = h) {a : Addr} {n : Nat} {f : Nat → Value} (A : Ara Z h a .byte n f) {j : Int32} {x : Int32} (h0 : 0 ≤ j.toInt) (h1 : j.toInt < n) (hd : decode bc pc = .ok (.bastore, 1)) (hp : pc + 1 = pc') (k : ∀ T' h', Stand p l e R s m args below meth c T' (locs ++ [⟨a, j.toInt.toNat⟩]) cells slots → T'.heap = h' → Wr h h' a j.toInt.toNat (.int (nar .byte x)) → Go p e below s Q mc ms m T' pc' Ls rest) : Go p e below s Q mc ms m T pc Ls (.int x :: .int j :: .ref a :: rest) := by
  obtain ⟨cl, A, hs, hn, hf⟩ := A
  exact g_bastore X hx hby hZ eT A (own_in hs h0 h1) hd hp k
theorem a_baload (X : Stand p l e R s m args below meth c T locs cells slots) (hx : p.tables.exec = Jvm.exec) (hby : c.code = bc) (hZ : Z.Warmed39 s.vm) (eT : T.heap = h) {a : Addr} {n : Nat} {f : Nat → Value} (A : Ara Z h a .byte n f) {j : Int32} {v : Value} (h0 : 0 ≤ j.toInt) (h1 : j.toInt < n) (hv : f j.toInt.toNat = v) (hd : decode bc pc = .ok (.baload, 1)) (hp : pc + 1 = pc') (k : Go p e below s Q mc ms m T pc' Ls (v :: rest)) : Go p e below s Q mc ms m T pc Ls (.int j :: .ref a :: rest) := by
  obtain ⟨cl, A, hs, hn, hf⟩ := A
  exact g_baload X hx hby hZ eT A (own_in hs h0 h1) (by show cl.slots[j.toInt.toNat]? = some v; rw [hf _ (by omega), hv]) hd hp k
theorem g_static (X : Stand p l e R s m args below meth c T locs cells slots) (hx : p.tables.exec = Jvm.exec) (hby : c.code = bc) (hZ : Z.Warmed39 s.vm) {own : String} (hown : s.vm.findClass own = some m.cls) {i ML : Nat} {y : MethodName} {bytes : ByteArray} {maxL : Nat} {ret : Option FieldType} {rm : Room} {as' : Array Value} {QC : Option Value → Heap → List Loc → Prop} (hml : c.maxLocals = ML) (hls : Ls.size = ML) (w1 : (Jvm.Cond.methodLink own i y).before a0 Z = true) (w2 : (Jvm.Cond.static y).before a0 Z = true) (w3 : (Jvm.Cond.initialized y.cls).before a0 Z = true) (w4 : (Jvm.Cond.code y bytes maxL ret).before a0 Z = true) (hy : y.cls ≠ "java/lang/invoke/MethodHandle" ∧ y.cls ≠ "java/lang/invoke/VarHandle") (eT : T.heap = h) (M : Ct l Z y bytes maxL ret rm as' h QC) {ps : List FieldType} {r : Option FieldType} (pd : parseMethodDescriptor y.desc = some ⟨ps, r⟩) {argsL : List Value} (hl : argsL.length = ps.length) (has : argsL.toArray = as') (hst : st = argsL.reverse ++ rest) (hd : decode bc pc = .ok (.invokestatic i, 3)) (hp : pc + 3 = pc') (hf : rm.frames + 1 ≤ R.frames) (hlo : (rest.map fun v => v.category).sum + (maxL + 11) + rm.locals ≤ R.locals) (hc : cells + rm.cells ≤ R.cells) (hs : slots + rm.slots ≤ R.slots)
    (k : ∀ (T' : State) (v : Option Value) (L : List Loc), Stand p l e R s m args below meth c T' (locs ++ L) (cells + rm.cells) (slots + rm.slots) → QC v T'.heap L → Go p e below s Q mc ms m T' pc' Ls (v.toList ++ rest)) : Go p e below s Q mc ms m T pc Ls st := by
  subst hp has hst
  obtain ⟨v, vm₁, ⟨U, L', c', s'⟩, -, X', ⟨L, hQ, l1, l2, l3⟩, st⟩ := Jvm.LawKit.callS X hx (y := y) hown (mvT hZ w1) (mvT hZ w2) (mvT hZ w3) (mvT hZ w4) hy (backOf (W := (rest.map fun v => v.category).sum) M hZ w4 w3 hf hlo) (g := mkF m pc Ls (argsL.reverse ++ rest)) rfl (by rw [hml]; exact hls) (argsL := argsL) (rest := rest) (lenOf pd hl) rfl (by show 2 * 0 + _ ≤ _; omega) (hb hby hd) (fun _ _ => ⟨rfl, eT, hc, hs⟩)
  dsimp only at X' l1 l2 l3 st hQ
  subst l1 l2 l3
  exact Go.of st (k _ _ _ X' hQ)
end OwnKit
section OwnLib
/-- b is 1 where P holds, 0 where it doesn't -/
def own_bool (b : Int32) (P : Prop) : Prop := (b = 1 ∧ P) ∨ (b = 0 ∧ ¬ P)
theorem own_bool_01 {b : Int32} {P : Prop} (h : own_bool b P) : b = 0 ∨ b = 1 := h.elim (fun q => Or.inr q.1) (fun q => Or.inl q.1)
theorem own_bool_iff {b : Int32} {P : Prop} (h : own_bool b P) : b = 1 ↔ P := h.elim (fun q => ⟨fun _ => q.2, fun _ => q.1⟩) (fun q => ⟨fun z => absurd (q.1.symm.trans z) (by decide), fun z => absurd z q.2⟩)
theorem own_bool_zero {b : Int32} {P : Prop} (h : own_bool b P) : b = 0 ↔ ¬ P := h.elim (fun q => ⟨fun z => absurd (q.1.symm.trans z) (by decide), fun z => absurd q.2 z⟩) (fun q => ⟨fun _ => q.2, fun _ => q.1⟩)
theorem own_bool_eq {a b : Int32} {P P' : Prop} (h : own_bool a P) (h' : own_bool b P') (i : P ↔ P') : a = b := by
  rcases h with ⟨rfl, q⟩ | ⟨rfl, q⟩ <;> rcases h' with ⟨rfl, q'⟩ | ⟨rfl, q'⟩ <;> first | rfl | exact absurd (i.mp q) q' | exact absurd (i.mpr q') q
theorem own_inc (i : Int32) (h : i.toInt < 2147483647) : (i + 1).toInt = i.toInt + 1 := by
  have a := c_iadd i 1
  have e : (1 : Int32).toInt = 1 := rfl
  rw [e] at a
  have b := rng32 i
  have b' := rng32 (i + 1)
  omega
theorem own_dec (i : Int32) (h : -2147483648 < i.toInt) : (i - 1).toInt = i.toInt - 1 := by
  have a := c_isub i 1
  have e : (1 : Int32).toInt = 1 := rfl
  rw [e] at a
  have b := rng32 i
  have b' := rng32 (i - 1)
  omega
theorem own_add (x y : Int32) (h1 : -2147483648 ≤ x.toInt + y.toInt) (h2 : x.toInt + y.toInt < 2147483648) : (x + y).toInt = x.toInt + y.toInt := by
  have a := c_iadd x y
  have b := rng32 (x + y)
  omega
theorem own_sub (x y : Int32) (h1 : -2147483648 ≤ x.toInt - y.toInt) (h2 : x.toInt - y.toInt < 2147483648) : (x - y).toInt = x.toInt - y.toInt := by
  have a := c_isub x y
  have b := rng32 (x - y)
  omega
/-- (u & 0x7fffffff) % n lies from 0 up to n - 1 -/
theorem own_modr (u n : Int32) (hn : 0 < n.toInt) : 0 ≤ ((u &&& 2147483647) % n).toInt ∧ ((u &&& 2147483647) % n).toInt < n.toInt := by
  have a1 := c_mask u 2147483647 31 (by decide) (by decide)
  have a2 := (c_iremV (u &&& 2147483647) n).1 (by omega) hn
  omega
def QI (h0 : Heap) (P : Int32 → Prop) : Option Value → Heap → List Loc → Prop := fun v h L => (∃ r, v = some (.int r) ∧ P r) ∧ h = h0 ∧ L = []
def QL (h0 : Heap) (P : Int64 → Prop) : Option Value → Heap → List Loc → Prop := fun v h L => (∃ r, v = some (.long r) ∧ P r) ∧ h = h0 ∧ L = []
def QV (h0 : Heap) : Option Value → Heap → List Loc → Prop := fun v h L => v = none ∧ h = h0 ∧ L = []
/-- what the law leaves -/
def Q0 (n0 : Nat) : Option Value → Heap → List Loc → Prop := fun v h L => v = some (.int 1) ∧ Fr n0 L
end OwnLib
def own_good (u : Int32) : Prop := 33 ≤ u.toInt ∧ u.toInt ≤ 126
theorem own_and255 (u : Int32) (hu : -128 ≤ u.toInt ∧ u.toInt < 128) (w : Int32) (hw : w = (u &&& (255 : Int32))) : (32 < w.toInt ∧ w.toInt < 127) ↔ own_good u := by
  have a := c_mask u 255 8 (by decide) (by decide)
  rw [← hw] at a
  unfold own_good
  omega
theorem own_byte (u : Int32) : -128 ≤ (nar .byte u).toInt ∧ (nar .byte u).toInt < 128 := by
  have a := c_i2b u
  exact ⟨a.2.1, a.2.2⟩
theorem own_5 (u f : Int32) (h : f = (u &&& (2147483647 : Int32)) % (5 : Int32)) : 0 ≤ f.toInt ∧ f.toInt ≤ 4 := by
  have a := own_modr u 5 (by decide)
  have e : (5 : Int32).toInt = 5 := rfl
  rw [← h] at a; omega
def own_all (g : Nat → Int32) (f t : Int) : Prop := ∀ j : Int, f ≤ j → j < t → own_good (g j.toNat)
theorem ef_1 (m : MethodId) (a : Addr) (fr : Int32) (tt : Int32) : entryFrame m #[(.ref a), (.int fr), (.int tt)] 5 = mkF m 0 #[.val (.ref a), .val (.int fr), .val (.int tt), .unset, .unset] [] := by first | (simp [entryFrame, mkF, argsToLocals, Value.category]; done) | rfl
theorem pn_1 : plainName "com/example/switchbox/switchbox/LineTokenizer" = true := by first | (simp [plainName, overriddenIn]; done) | decide +kernel
theorem d1_0 : decode prog_30_method_10_code 0 = .ok (.iload_n 1, 1) := by decide +kernel
theorem d1_1 : decode prog_30_method_10_code 1 = .ok (.iload_n 2, 1) := by decide +kernel
theorem d1_2 : decode prog_30_method_10_code 2 = .ok (.if_icmp .ge 7, 3) := by decide +kernel
theorem d1_9 : decode prog_30_method_10_code 9 = .ok (.iconst 0, 1) := by decide +kernel
theorem d1_5 : decode prog_30_method_10_code 5 = .ok (.iconst 1, 1) := by decide +kernel
theorem d1_6 : decode prog_30_method_10_code 6 = .ok (.goto 4, 3) := by decide +kernel
theorem d1_10 : decode prog_30_method_10_code 10 = .ok (.istore_n 3, 1) := by decide +kernel
theorem d1_11 : decode prog_30_method_10_code 11 = .ok (.iload_n 1, 1) := by decide +kernel
theorem d1_12 : decode prog_30_method_10_code 12 = .ok (.istore 4, 2) := by decide +kernel
theorem d1_14 : decode prog_30_method_10_code 14 = .ok (.iload 4, 2) := by decide +kernel
theorem d1_16 : decode prog_30_method_10_code 16 = .ok (.iload_n 2, 1) := by decide +kernel
theorem d1_17 : decode prog_30_method_10_code 17 = .ok (.if_icmp .ge 37, 3) := by decide +kernel
theorem d1_54 : decode prog_30_method_10_code 54 = .ok (.iload_n 3, 1) := by decide +kernel
theorem d1_55 : decode prog_30_method_10_code 55 = .ok (.ireturn, 1) := by decide +kernel
theorem d1_20 : decode prog_30_method_10_code 20 = .ok (.iload_n 3, 1) := by decide +kernel
theorem d1_21 : decode prog_30_method_10_code 21 = .ok (.ifCond .eq 33, 3) := by decide +kernel
theorem d1_24 : decode prog_30_method_10_code 24 = .ok (.aload_n 0, 1) := by decide +kernel
theorem d1_25 : decode prog_30_method_10_code 25 = .ok (.iload 4, 2) := by decide +kernel
theorem d1_27 : decode prog_30_method_10_code 27 = .ok (.baload, 1) := by decide +kernel
theorem d1_28 : decode prog_30_method_10_code 28 = .ok (.bipush 33, 2) := by decide +kernel
theorem d1_30 : decode prog_30_method_10_code 30 = .ok (.if_icmp .lt 16, 3) := by decide +kernel
theorem d1_46 : decode prog_30_method_10_code 46 = .ok (.iconst 0, 1) := by decide +kernel
theorem d1_33 : decode prog_30_method_10_code 33 = .ok (.aload_n 0, 1) := by decide +kernel
theorem d1_34 : decode prog_30_method_10_code 34 = .ok (.iload 4, 2) := by decide +kernel
theorem d1_36 : decode prog_30_method_10_code 36 = .ok (.baload, 1) := by decide +kernel
theorem d1_37 : decode prog_30_method_10_code 37 = .ok (.bipush 126, 2) := by decide +kernel
theorem d1_39 : decode prog_30_method_10_code 39 = .ok (.if_icmp .gt 7, 3) := by decide +kernel
theorem d1_42 : decode prog_30_method_10_code 42 = .ok (.iconst 1, 1) := by decide +kernel
theorem d1_43 : decode prog_30_method_10_code 43 = .ok (.goto 4, 3) := by decide +kernel
theorem d1_47 : decode prog_30_method_10_code 47 = .ok (.istore_n 3, 1) := by decide +kernel
theorem d1_48 : decode prog_30_method_10_code 48 = .ok (.iinc 4 1, 3) := by decide +kernel
theorem d1_51 : decode prog_30_method_10_code 51 = .ok (.goto (-37), 3) := by decide +kernel
set_option maxRecDepth 65536 in
set_option maxHeartbeats 40000000 in
theorem rm1 (l : Launch) (Z : State) (a0 : Array Value) (hw : ∀ d ∈ tables_1, d.before a0 Z = true) (a : Addr) (fr : Int32) (tt : Int32) (g : Nat → Int32) (h0 : Heap) (A_a : Ara Z h0 a .byte 4 (fun k => .int (g k))) (hft : tt.toInt ≤ fr.toInt ∨ (0 ≤ fr.toInt ∧ tt.toInt ≤ 4)) :
    Ct l Z (⟨"com/example/switchbox/switchbox/LineTokenizer", "isField", "([BII)Z"⟩ : MethodName) prog_30_method_10_code 5 (some .boolean) ({ frames := 0, cells := 0, slots := 0, locals := 0 } : Room) #[(.ref a), (.int fr), (.int tt)] h0 (QI h0 (fun r => own_bool r (fr.toInt < tt.toInt ∧ own_all g fr.toInt tt.toInt))) := by
  refine own_met (plainFor_of_name pn_1) (fun m => ef_1 m a fr tt) ?_
  intro p e s m below meth c T0 X0 hx hby hml hown hnm hret hlk hZ e0
  suffices J10_1 : ∀ (b10 : Int32) (h_b10 : own_bool b10 (fr.toInt < tt.toInt)), Go p e below s (QI h0 (fun r => own_bool r (fr.toInt < tt.toInt ∧ own_all g fr.toInt tt.toInt))) ({ frames := 0, cells := 0, slots := 0, locals := 0 } : Room).cells ({ frames := 0, cells := 0, slots := 0, locals := 0 } : Room).slots m T0 10 #[.val (.ref a), .val (.int fr), .val (.int tt), .unset, .unset] [(.int b10)] by
    refine g_iloadN X0 hx hby d1_0 (pc' := 1) rfl rfl ?_
    refine g_iloadN X0 hx hby d1_1 (pc' := 2) rfl rfl ?_
    refine g_icmpge X0 hx hby d1_2 (pt := 9) (pf := 5) (by decide) (by decide) rfl (fun (h2 : tt.toInt ≤ fr.toInt) => ?_) (fun (h2 : fr.toInt < tt.toInt) => ?_)
    · refine g_iconst X0 hx hby d1_9 (pc' := 10) rfl (n := (0 : Int32)) (by first | rfl | decide) ?_
      exact J10_1 _ (Or.inr ⟨rfl, by omega⟩)
    · refine g_iconst X0 hx hby d1_5 (pc' := 6) rfl (n := (1 : Int32)) (by first | rfl | decide) ?_
      refine g_goto X0 hx hby d1_6 (pc' := 10) (by decide) (by decide) ?_
      exact J10_1 _ (Or.inl ⟨rfl, by omega⟩)
  intro b10 h_b10
  refine g_istoreN X0 hx hby d1_10 (pc' := 11) rfl (Ls' := #[.val (.ref a), .val (.int fr), .val (.int tt), .val (.int b10), .unset]) rfl ?_
  refine g_iloadN X0 hx hby d1_11 (pc' := 12) rfl rfl ?_
  refine g_istore X0 hx hby d1_12 (pc' := 14) rfl (Ls' := #[.val (.ref a), .val (.int fr), .val (.int tt), .val (.int b10), .val (.int fr)]) rfl ?_
  suffices J14_2 : ∀ (nn : Nat) (i : Int32) (b : Int32) (hi : fr.toInt ≤ i.toInt ∧ (i.toInt ≤ tt.toInt ∨ i.toInt = fr.toInt)) (h_b : own_bool b (fr.toInt < tt.toInt ∧ own_all g fr.toInt i.toInt)) (hnn : (tt.toInt - i.toInt).toNat = nn), Go p e below s (QI h0 (fun r => own_bool r (fr.toInt < tt.toInt ∧ own_all g fr.toInt tt.toInt))) ({ frames := 0, cells := 0, slots := 0, locals := 0 } : Room).cells ({ frames := 0, cells := 0, slots := 0, locals := 0 } : Room).slots m T0 14 #[.val (.ref a), .val (.int fr), .val (.int tt), .val (.int b), .val (.int i)] [] by
    have hst : own_bool b10 (fr.toInt < tt.toInt ∧ own_all g fr.toInt fr.toInt) := by
      rcases h_b10 with ⟨q, z⟩ | ⟨q, z⟩
      · exact Or.inl ⟨q, z, fun j j1 j2 => by omega⟩
      · exact Or.inr ⟨q, fun z' => z z'.1⟩
    exact J14_2 _ fr b10 (by omega) hst rfl
  intro nn
  induction nn using Nat.strongRecOn with
  | _ nn ih =>
    intro i b hi h_b hnn
    refine g_iload X0 hx hby d1_14 (pc' := 16) rfl rfl ?_
    refine g_iloadN X0 hx hby d1_16 (pc' := 17) rfl rfl ?_
    refine g_icmpge X0 hx hby d1_17 (pt := 54) (pf := 20) (by decide) (by decide) rfl (fun (h17 : tt.toInt ≤ i.toInt) => ?_) (fun (h17 : i.toInt < tt.toInt) => ?_)
    · have hr : own_bool b (fr.toInt < tt.toInt ∧ own_all g fr.toInt tt.toInt) := by
        rcases h_b with ⟨q, z⟩ | ⟨q, z⟩
        · refine Or.inl ⟨q, z.1, fun j j1 j2 => z.2 j j1 ?_⟩
          first | omega | exact absurd q (by rw [h21]; decide)
        · refine Or.inr ⟨q, fun z' => z ⟨z'.1, fun j j1 j2 => z'.2 j j1 (by omega)⟩⟩
      refine g_iloadN X0 hx hby d1_54 (pc' := 55) rfl rfl ?_
      exact g_retZ X0 hx hby hlk (own_bool_01 h_b) hret d1_55 (by decide) (by decide) (⟨⟨_, rfl, hr⟩, e0, rfl⟩)
    · refine g_iloadN X0 hx hby d1_20 (pc' := 21) rfl rfl ?_
      refine g_ifeq X0 hx hby d1_21 (pt := 54) (pf := 24) (by decide) (by decide) rfl (fun (h21 : b = (0 : Int32)) => ?_) (fun (h21 : ¬ b = (0 : Int32)) => ?_)
      · have h21i : b.toInt = 0 := congrArg Int32.toInt h21
        have hr : own_bool b (fr.toInt < tt.toInt ∧ own_all g fr.toInt tt.toInt) := by
          rcases h_b with ⟨q, z⟩ | ⟨q, z⟩
          · refine Or.inl ⟨q, z.1, fun j j1 j2 => z.2 j j1 ?_⟩
            first | omega | exact absurd q (by rw [h21]; decide)
          · refine Or.inr ⟨q, fun z' => z ⟨z'.1, fun j j1 j2 => z'.2 j j1 (by omega)⟩⟩
        refine g_iloadN X0 hx hby d1_54 (pc' := 55) rfl rfl ?_
        exact g_retZ X0 hx hby hlk (own_bool_01 h_b) hret d1_55 (by decide) (by decide) (⟨⟨_, rfl, hr⟩, e0, rfl⟩)
      · have h21i : ¬ b.toInt = 0 := fun q => h21 (Int32.toInt_inj.mp q)
        suffices J47_3 : ∀ (bg : Int32) (h_bg : own_bool bg (own_good (g i.toInt.toNat))), Go p e below s (QI h0 (fun r => own_bool r (fr.toInt < tt.toInt ∧ own_all g fr.toInt tt.toInt))) ({ frames := 0, cells := 0, slots := 0, locals := 0 } : Room).cells ({ frames := 0, cells := 0, slots := 0, locals := 0 } : Room).slots m T0 47 #[.val (.ref a), .val (.int fr), .val (.int tt), .val (.int b), .val (.int i)] [(.int bg)] by
          refine g_aloadN X0 hx hby d1_24 (pc' := 25) rfl rfl rfl ?_
          refine g_iload X0 hx hby d1_25 (pc' := 27) rfl rfl ?_
          refine a_baload X0 hx hby hZ e0 A_a (by omega) (by omega) (v := (.int (g i.toInt.toNat))) (rfl) d1_27 (pc' := 28) rfl ?_
          refine g_bipush X0 hx hby d1_28 (pc' := 30) rfl (n := (33 : Int32)) (by first | rfl | decide) ?_
          refine g_icmplt X0 hx hby d1_30 (pt := 46) (pf := 33) (by decide) (by decide) rfl (fun (h30 : (g i.toInt.toNat).toInt < 33) => ?_) (fun (h30 : 33 ≤ (g i.toInt.toNat).toInt) => ?_)
          · refine g_iconst X0 hx hby d1_46 (pc' := 47) rfl (n := (0 : Int32)) (by first | rfl | decide) ?_
            exact J47_3 _ (Or.inr ⟨rfl, by unfold own_good; omega⟩)
          · refine g_aloadN X0 hx hby d1_33 (pc' := 34) rfl rfl rfl ?_
            refine g_iload X0 hx hby d1_34 (pc' := 36) rfl rfl ?_
            refine a_baload X0 hx hby hZ e0 A_a (by omega) (by omega) (v := (.int (g i.toInt.toNat))) (rfl) d1_36 (pc' := 37) rfl ?_
            refine g_bipush X0 hx hby d1_37 (pc' := 39) rfl (n := (126 : Int32)) (by first | rfl | decide) ?_
            refine g_icmpgt X0 hx hby d1_39 (pt := 46) (pf := 42) (by decide) (by decide) rfl (fun (h39 : 126 < (g i.toInt.toNat).toInt) => ?_) (fun (h39 : (g i.toInt.toNat).toInt ≤ 126) => ?_)
            · refine g_iconst X0 hx hby d1_46 (pc' := 47) rfl (n := (0 : Int32)) (by first | rfl | decide) ?_
              exact J47_3 _ (Or.inr ⟨rfl, by unfold own_good; omega⟩)
            · refine g_iconst X0 hx hby d1_42 (pc' := 43) rfl (n := (1 : Int32)) (by first | rfl | decide) ?_
              refine g_goto X0 hx hby d1_43 (pc' := 47) (by decide) (by decide) ?_
              exact J47_3 _ (Or.inl ⟨rfl, by unfold own_good; omega⟩)
        intro bg h_bg
        refine g_istoreN X0 hx hby d1_47 (pc' := 48) rfl (Ls' := #[.val (.ref a), .val (.int fr), .val (.int tt), .val (.int bg), .val (.int i)]) rfl ?_
        refine g_iinc X0 hx hby d1_48 (pc' := 51) rfl rfl (Ls' := #[.val (.ref a), .val (.int fr), .val (.int tt), .val (.int bg), .val (.int (i + (1 : Int32)))]) rfl ?_
        refine g_goto X0 hx hby d1_51 (pc' := 14) (by decide) (by decide) ?_
        have hi1 := own_inc i (by omega)
        have hst : own_bool bg (fr.toInt < tt.toInt ∧ own_all g fr.toInt (i + 1).toInt) := by
          have hb := Classical.byContradiction fun q => h21 ((own_bool_zero h_b).mpr q)
          rcases h_bg with ⟨q, z⟩ | ⟨q, z⟩
          · refine Or.inl ⟨q, hb.1, fun j j1 j2 => ?_⟩
            by_cases hj : j < i.toInt
            · exact hb.2 j j1 hj
            · rw [show j = i.toInt by omega]; exact z
          · exact Or.inr ⟨q, fun z' => z (z'.2 i.toInt hi.1 (by omega))⟩
        exact ih _ (by omega) _ _ (by omega) hst rfl
theorem ef_2 (m : MethodId) (a : Addr) (i : Int32) (fr : Int32) (tt : Int32) : entryFrame m #[(.ref a), (.int i), (.int fr), (.int tt)] 5 = mkF m 0 #[.val (.ref a), .val (.int i), .val (.int fr), .val (.int tt), .unset] [] := by first | (simp [entryFrame, mkF, argsToLocals, Value.category]; done) | rfl
theorem pn_2 : plainName "com/example/switchbox/switchbox/LineTokenizerIsFieldPinLaw" = true := by first | (simp [plainName, overriddenIn]; done) | decide +kernel
theorem d2_0 : decode method_2_code 0 = .ok (.iload_n 1, 1) := by decide +kernel
theorem d2_1 : decode method_2_code 1 = .ok (.iload_n 2, 1) := by decide +kernel
theorem d2_2 : decode method_2_code 2 = .ok (.if_icmp .lt 8, 3) := by decide +kernel
theorem d2_10 : decode method_2_code 10 = .ok (.iconst 1, 1) := by decide +kernel
theorem d2_11 : decode method_2_code 11 = .ok (.ireturn, 1) := by decide +kernel
theorem d2_5 : decode method_2_code 5 = .ok (.iload_n 1, 1) := by decide +kernel
theorem d2_6 : decode method_2_code 6 = .ok (.iload_n 3, 1) := by decide +kernel
theorem d2_7 : decode method_2_code 7 = .ok (.if_icmp .lt 5, 3) := by decide +kernel
theorem d2_12 : decode method_2_code 12 = .ok (.aload_n 0, 1) := by decide +kernel
theorem d2_13 : decode method_2_code 13 = .ok (.iload_n 1, 1) := by decide +kernel
theorem d2_14 : decode method_2_code 14 = .ok (.baload, 1) := by decide +kernel
theorem d2_15 : decode method_2_code 15 = .ok (.sipush 255, 3) := by decide +kernel
theorem d2_18 : decode method_2_code 18 = .ok (.iand, 1) := by decide +kernel
theorem d2_19 : decode method_2_code 19 = .ok (.istore 4, 2) := by decide +kernel
theorem d2_21 : decode method_2_code 21 = .ok (.iload 4, 2) := by decide +kernel
theorem d2_23 : decode method_2_code 23 = .ok (.bipush 32, 2) := by decide +kernel
theorem d2_25 : decode method_2_code 25 = .ok (.if_icmp .le 14, 3) := by decide +kernel
theorem d2_39 : decode method_2_code 39 = .ok (.iconst 0, 1) := by decide +kernel
theorem d2_40 : decode method_2_code 40 = .ok (.ireturn, 1) := by decide +kernel
theorem d2_28 : decode method_2_code 28 = .ok (.iload 4, 2) := by decide +kernel
theorem d2_30 : decode method_2_code 30 = .ok (.bipush 127, 2) := by decide +kernel
theorem d2_32 : decode method_2_code 32 = .ok (.if_icmp .ge 7, 3) := by decide +kernel
theorem d2_35 : decode method_2_code 35 = .ok (.iconst 1, 1) := by decide +kernel
theorem d2_36 : decode method_2_code 36 = .ok (.goto 4, 3) := by decide +kernel
set_option maxRecDepth 65536 in
set_option maxHeartbeats 40000000 in
theorem rm2 (l : Launch) (Z : State) (a0 : Array Value) (hw : ∀ d ∈ tables_1, d.before a0 Z = true) (a : Addr) (i : Int32) (fr : Int32) (tt : Int32) (g : Nat → Int32) (h0 : Heap) (A_a : Ara Z h0 a .byte 4 (fun k => .int (g k))) (hi : 0 ≤ i.toInt ∧ i.toInt < 4) (hg : ∀ j, -128 ≤ (g j).toInt ∧ (g j).toInt < 128) :
    Ct l Z (⟨"com/example/switchbox/switchbox/LineTokenizerIsFieldPinLaw", "okAt", "([BIII)Z"⟩ : MethodName) method_2_code 5 (some .boolean) ({ frames := 0, cells := 0, slots := 0, locals := 0 } : Room) #[(.ref a), (.int i), (.int fr), (.int tt)] h0 (QI h0 (fun r => own_bool r (i.toInt < fr.toInt ∨ tt.toInt ≤ i.toInt ∨ own_good (g i.toInt.toNat)))) := by
  refine own_met (plainFor_of_name pn_2) (fun m => ef_2 m a i fr tt) ?_
  intro p e s m below meth c T0 X0 hx hby hml hown hnm hret hlk hZ e0
  refine g_iloadN X0 hx hby d2_0 (pc' := 1) rfl rfl ?_
  refine g_iloadN X0 hx hby d2_1 (pc' := 2) rfl rfl ?_
  refine g_icmplt X0 hx hby d2_2 (pt := 10) (pf := 5) (by decide) (by decide) rfl (fun (h2 : i.toInt < fr.toInt) => ?_) (fun (h2 : fr.toInt ≤ i.toInt) => ?_)
  · refine g_iconst X0 hx hby d2_10 (pc' := 11) rfl (n := (1 : Int32)) (by first | rfl | decide) ?_
    exact g_retZ X0 hx hby hlk (Or.inr rfl) hret d2_11 (by decide) (by decide) (⟨⟨_, rfl, Or.inl ⟨rfl, by omega⟩⟩, e0, rfl⟩)
  · refine g_iloadN X0 hx hby d2_5 (pc' := 6) rfl rfl ?_
    refine g_iloadN X0 hx hby d2_6 (pc' := 7) rfl rfl ?_
    refine g_icmplt X0 hx hby d2_7 (pt := 12) (pf := 10) (by decide) (by decide) rfl (fun (h7 : i.toInt < tt.toInt) => ?_) (fun (h7 : tt.toInt ≤ i.toInt) => ?_)
    · refine g_aloadN X0 hx hby d2_12 (pc' := 13) rfl rfl rfl ?_
      refine g_iloadN X0 hx hby d2_13 (pc' := 14) rfl rfl ?_
      refine a_baload X0 hx hby hZ e0 A_a (by omega) (by omega) (v := (.int (g i.toInt.toNat))) (rfl) d2_14 (pc' := 15) rfl ?_
      refine g_sipush X0 hx hby d2_15 (pc' := 18) rfl (n := (255 : Int32)) (by first | rfl | decide) ?_
      refine g_iand X0 hx hby d2_18 (pc' := 19) rfl ?_
      refine g_nameI (fun cc h_cc => ?_)
      refine g_istore X0 hx hby d2_19 (pc' := 21) rfl (Ls' := #[.val (.ref a), .val (.int i), .val (.int fr), .val (.int tt), .val (.int cc)]) rfl ?_
      refine g_iload X0 hx hby d2_21 (pc' := 23) rfl rfl ?_
      refine g_bipush X0 hx hby d2_23 (pc' := 25) rfl (n := (32 : Int32)) (by first | rfl | decide) ?_
      refine g_icmple X0 hx hby d2_25 (pt := 39) (pf := 28) (by decide) (by decide) rfl (fun (h25 : cc.toInt ≤ 32) => ?_) (fun (h25 : 32 < cc.toInt) => ?_)
      · refine g_iconst X0 hx hby d2_39 (pc' := 40) rfl (n := (0 : Int32)) (by first | rfl | decide) ?_
        exact g_retZ X0 hx hby hlk (Or.inl rfl) hret d2_40 (by decide) (by decide) (⟨⟨_, rfl, Or.inr ⟨rfl, fun z => by rcases z with z | z | z; omega; omega; have := (own_and255 _ (hg _) cc h_cc).mpr z; omega⟩⟩, e0, rfl⟩)
      · refine g_iload X0 hx hby d2_28 (pc' := 30) rfl rfl ?_
        refine g_bipush X0 hx hby d2_30 (pc' := 32) rfl (n := (127 : Int32)) (by first | rfl | decide) ?_
        refine g_icmpge X0 hx hby d2_32 (pt := 39) (pf := 35) (by decide) (by decide) rfl (fun (h32 : 127 ≤ cc.toInt) => ?_) (fun (h32 : cc.toInt < 127) => ?_)
        · refine g_iconst X0 hx hby d2_39 (pc' := 40) rfl (n := (0 : Int32)) (by first | rfl | decide) ?_
          exact g_retZ X0 hx hby hlk (Or.inl rfl) hret d2_40 (by decide) (by decide) (⟨⟨_, rfl, Or.inr ⟨rfl, fun z => by rcases z with z | z | z; omega; omega; have := (own_and255 _ (hg _) cc h_cc).mpr z; omega⟩⟩, e0, rfl⟩)
        · refine g_iconst X0 hx hby d2_35 (pc' := 36) rfl (n := (1 : Int32)) (by first | rfl | decide) ?_
          refine g_goto X0 hx hby d2_36 (pc' := 40) (by decide) (by decide) ?_
          exact g_retZ X0 hx hby hlk (Or.inr rfl) hret d2_40 (by decide) (by decide) (⟨⟨_, rfl, Or.inl ⟨rfl, Or.inr (Or.inr ((own_and255 _ (hg _) cc h_cc).mp ⟨by omega, by omega⟩))⟩⟩, e0, rfl⟩)
    · refine g_iconst X0 hx hby d2_10 (pc' := 11) rfl (n := (1 : Int32)) (by first | rfl | decide) ?_
      exact g_retZ X0 hx hby hlk (Or.inr rfl) hret d2_11 (by decide) (by decide) (⟨⟨_, rfl, Or.inl ⟨rfl, by omega⟩⟩, e0, rfl⟩)
theorem own_hg (a b d q : Int32) : ∀ j, -128 ≤ (own_ui (own_ui (own_ui (own_ui (fun _ => (0 : Int32)) 0 (nar .byte a)) 1 (nar .byte b)) 2 (nar .byte d)) 3 (nar .byte q) j).toInt ∧ (own_ui (own_ui (own_ui (own_ui (fun _ => (0 : Int32)) 0 (nar .byte a)) 1 (nar .byte b)) 2 (nar .byte d)) 3 (nar .byte q) j).toInt < 128 := by
  intro j
  unfold own_ui
  have e : (0 : Int32).toInt = 0 := rfl
  by_cases h3 : j = 3
  · simp only [h3, if_true]; exact own_byte q
  · by_cases h2 : j = 2
    · simp only [h2]; exact own_byte d
    · by_cases h1 : j = 1
      · simp only [h1]; exact own_byte b
      · by_cases h0 : j = 0
        · simp only [h0]; exact own_byte a
        · simp only [h0, h1, h2, h3, if_false, e]; omega
theorem own_one (g : Nat → Int32) (f t : Int) (i : Int32) (h : ¬ (i.toInt < f ∨ t ≤ i.toInt ∨ own_good (g i.toInt.toNat))) (z : own_all g f t) : False := h (by
  by_cases h1 : i.toInt < f
  · exact Or.inl h1
  · by_cases h2 : t ≤ i.toInt
    · exact Or.inr (Or.inl h2)
    · exact Or.inr (Or.inr (z i.toInt (by omega) (by omega))))
theorem own_four (g : Nat → Int32) (f t : Int) (h0 : 0 ≤ f) (h4 : t ≤ 4) (q0 : (0 : Int32).toInt < f ∨ t ≤ (0 : Int32).toInt ∨ own_good (g (0 : Int32).toInt.toNat)) (q1 : (1 : Int32).toInt < f ∨ t ≤ (1 : Int32).toInt ∨ own_good (g (1 : Int32).toInt.toNat)) (q2 : (2 : Int32).toInt < f ∨ t ≤ (2 : Int32).toInt ∨ own_good (g (2 : Int32).toInt.toNat)) (q3 : (3 : Int32).toInt < f ∨ t ≤ (3 : Int32).toInt ∨ own_good (g (3 : Int32).toInt.toNat)) : own_all g f t := by
  intro j j1 j2
  have e : j = 0 ∨ j = 1 ∨ j = 2 ∨ j = 3 := by omega
  rcases e with rfl | rfl | rfl | rfl
  · rcases q0 with q | q | q
    · exact absurd q (by show ¬ ((0 : Int) < f); omega)
    · exact absurd q (by show ¬ (t ≤ (0 : Int)); omega)
    · exact q
  · rcases q1 with q | q | q
    · exact absurd q (by show ¬ ((1 : Int) < f); omega)
    · exact absurd q (by show ¬ (t ≤ (1 : Int)); omega)
    · exact q
  · rcases q2 with q | q | q
    · exact absurd q (by show ¬ ((2 : Int) < f); omega)
    · exact absurd q (by show ¬ (t ≤ (2 : Int)); omega)
    · exact q
  · rcases q3 with q | q | q
    · exact absurd q (by show ¬ ((3 : Int) < f); omega)
    · exact absurd q (by show ¬ (t ≤ (3 : Int)); omega)
    · exact q
theorem ef_0 (m : MethodId) (ua : Int32) (ur : Int32) (uf : Int32) (ut : Int32) : entryFrame m #[(.int ua), (.int ur), (.int uf), (.int ut)] maxLocals = mkF m 0 #[.val (.int ua), .val (.int ur), .val (.int uf), .val (.int ut), .unset, .unset, .unset, .unset, .unset] [] := by first | (simp [entryFrame, mkF, argsToLocals, Value.category, maxLocals]; done) | rfl
theorem pn_0 : plainName "com/example/switchbox/switchbox/LineTokenizerIsFieldPinLaw" = true := by first | (simp [plainName, overriddenIn]; done) | decide +kernel
theorem pd___BIII_Z_547 : parseMethodDescriptor "([BIII)Z" = some ⟨[(.array .byte), .int, .int, .int], some .boolean⟩ := by decide +kernel
theorem pd___BII_Z_474 : parseMethodDescriptor "([BII)Z" = some ⟨[(.array .byte), .int, .int], some .boolean⟩ := by decide +kernel
set_option maxRecDepth 65536 in
set_option maxHeartbeats 40000000 in
theorem law0 (l : Launch) (Z : State) (a0 : Array Value) (hw : ∀ d ∈ tables_1, d.before a0 Z = true) (ws : List Jvm.Cond) (ua : Int32) (ur : Int32) (uf : Int32) (ut : Int32) (n0 : Nat) (h0 : Heap) (Z0 : n0 ≤ h0.size) :
    MetFree l x (head1 (Jvm.Cond.code x code maxLocals ret :: ws) room_1) (fun a U => a = #[(.int ua), (.int ur), (.int uf), (.int ut)] ∧ Z.Warmed39 U.vm ∧ U.heap = h0) (fun _ _ _ _ _ => True) (fun _ U o U' => ∃ v L, o = .returned v ∧ (Q0 n0) v U'.heap L ∧ FrameEnd U o U' L room_1.cells room_1.slots) := by
  refine own_met (plainFor_of_name pn_0) (fun m => ef_0 m ua ur uf ut) ?_
  intro p e s m below meth c T0 X0 hx hby hml hown hnm hret hlk hZ e0
  have N0 := Fr.nil n0
  refine g_iconst X0 hx hby at_0 (pc' := 1) rfl (n := (4 : Int32)) (by first | rfl | decide) ?_
  refine g_newA X0 hx hby hZ e0 (N := 4) (hw _ (List.mem_of_getElem? (i := 0) rfl)) at_1 (pc' := 3) rfl rfl (cap := 4) (Nat.le_refl _) (by decide) (by decide) (by decide) (fun T1 h1 vb g1 X1 e1 E1 A_vb => ?_)
  have g2 : n0 ≤ vb := by rw [g1]; exact Z0
  have Z3 : n0 ≤ h1.size := Nat.le_trans Z0 E1.1
  replace X1 : Stand p l e room_1 s m _ below meth c T1 _ 1 4 := X1
  replace A_vb : Ara Z h1 vb .byte 4 (fun jz => .int ((fun _ => (0 : Int32)) jz)) := A_vb
  refine g_astore X1 hx hby at_3 (pc' := 5) rfl rfl (Ls' := #[.val (.int ua), .val (.int ur), .val (.int uf), .val (.int ut), .val (.ref vb), .unset, .unset, .unset, .unset]) rfl ?_
  refine g_aload X1 hx hby at_5 (pc' := 7) rfl rfl rfl ?_
  refine g_iconst X1 hx hby at_7 (pc' := 8) rfl (n := (0 : Int32)) (by first | rfl | decide) ?_
  refine g_iloadN X1 hx hby at_8 (pc' := 9) rfl rfl ?_
  refine g_i2b X1 hx hby at_9 (pc' := 10) rfl ?_
  refine a_bastore X1 hx hby hZ e1 A_vb (by decide) (by decide) at_10 (pc' := 11) rfl (fun T4 h4 X4 e4 W4 => ?_)
  have Z5 : n0 ≤ h4.size := by rw [W4.size]; exact Z3
  have N6 := Fr.snoc X4 N0 g2
  replace A_vb : Ara Z h4 vb .byte 4 (fun jz => .int ((own_ui (fun _ => (0 : Int32)) 0 (nar .byte (ua.toInt8.toInt32))) jz)) := A_vb.setI W4
  refine g_aload X4 hx hby at_11 (pc' := 13) rfl rfl rfl ?_
  refine g_iconst X4 hx hby at_13 (pc' := 14) rfl (n := (1 : Int32)) (by first | rfl | decide) ?_
  refine g_iloadN X4 hx hby at_14 (pc' := 15) rfl rfl ?_
  refine g_bipush X4 hx hby at_15 (pc' := 17) rfl (n := (8 : Int32)) (by first | rfl | decide) ?_
  refine g_ishr X4 hx hby at_17 (pc' := 18) rfl ?_
  refine g_i2b X4 hx hby at_18 (pc' := 19) rfl ?_
  refine a_bastore X4 hx hby hZ e4 A_vb (by decide) (by decide) at_19 (pc' := 20) rfl (fun T7 h7 X7 e7 W7 => ?_)
  have Z8 : n0 ≤ h7.size := by rw [W7.size]; exact Z5
  have N9 := Fr.snoc X7 N6 g2
  replace A_vb : Ara Z h7 vb .byte 4 (fun jz => .int ((own_ui (own_ui (fun _ => (0 : Int32)) 0 (nar .byte (ua.toInt8.toInt32))) 1 (nar .byte ((ua >>> ((8 : Int32) &&& 31)).toInt8.toInt32))) jz)) := A_vb.setI W7
  refine g_aload X7 hx hby at_20 (pc' := 22) rfl rfl rfl ?_
  refine g_iconst X7 hx hby at_22 (pc' := 23) rfl (n := (2 : Int32)) (by first | rfl | decide) ?_
  refine g_iloadN X7 hx hby at_23 (pc' := 24) rfl rfl ?_
  refine g_bipush X7 hx hby at_24 (pc' := 26) rfl (n := (16 : Int32)) (by first | rfl | decide) ?_
  refine g_ishr X7 hx hby at_26 (pc' := 27) rfl ?_
  refine g_i2b X7 hx hby at_27 (pc' := 28) rfl ?_
  refine a_bastore X7 hx hby hZ e7 A_vb (by decide) (by decide) at_28 (pc' := 29) rfl (fun T10 h10 X10 e10 W10 => ?_)
  have Z11 : n0 ≤ h10.size := by rw [W10.size]; exact Z8
  have N12 := Fr.snoc X10 N9 g2
  replace A_vb : Ara Z h10 vb .byte 4 (fun jz => .int ((own_ui (own_ui (own_ui (fun _ => (0 : Int32)) 0 (nar .byte (ua.toInt8.toInt32))) 1 (nar .byte ((ua >>> ((8 : Int32) &&& 31)).toInt8.toInt32))) 2 (nar .byte ((ua >>> ((16 : Int32) &&& 31)).toInt8.toInt32))) jz)) := A_vb.setI W10
  refine g_aload X10 hx hby at_29 (pc' := 31) rfl rfl rfl ?_
  refine g_iconst X10 hx hby at_31 (pc' := 32) rfl (n := (3 : Int32)) (by first | rfl | decide) ?_
  refine g_iloadN X10 hx hby at_32 (pc' := 33) rfl rfl ?_
  refine g_bipush X10 hx hby at_33 (pc' := 35) rfl (n := (24 : Int32)) (by first | rfl | decide) ?_
  refine g_ishr X10 hx hby at_35 (pc' := 36) rfl ?_
  refine g_i2b X10 hx hby at_36 (pc' := 37) rfl ?_
  refine a_bastore X10 hx hby hZ e10 A_vb (by decide) (by decide) at_37 (pc' := 38) rfl (fun T13 h13 X13 e13 W13 => ?_)
  have Z14 : n0 ≤ h13.size := by rw [W13.size]; exact Z11
  have N15 := Fr.snoc X13 N12 g2
  replace A_vb : Ara Z h13 vb .byte 4 (fun jz => .int ((own_ui (own_ui (own_ui (own_ui (fun _ => (0 : Int32)) 0 (nar .byte (ua.toInt8.toInt32))) 1 (nar .byte ((ua >>> ((8 : Int32) &&& 31)).toInt8.toInt32))) 2 (nar .byte ((ua >>> ((16 : Int32) &&& 31)).toInt8.toInt32))) 3 (nar .byte ((ua >>> ((24 : Int32) &&& 31)).toInt8.toInt32))) jz)) := A_vb.setI W13
  obtain ⟨gg, hgg0⟩ : ∃ gg : Nat → Int32, gg = (own_ui (own_ui (own_ui (own_ui (fun _ => (0 : Int32)) 0 (nar .byte (ua.toInt8.toInt32))) 1 (nar .byte ((ua >>> ((8 : Int32) &&& 31)).toInt8.toInt32))) 2 (nar .byte ((ua >>> ((16 : Int32) &&& 31)).toInt8.toInt32))) 3 (nar .byte ((ua >>> ((24 : Int32) &&& 31)).toInt8.toInt32))) := ⟨_, rfl⟩
  replace A_vb : Ara Z h13 vb .byte 4 (fun jz => .int (gg jz)) := by rw [hgg0]; exact A_vb
  have hgg : ∀ j, -128 ≤ (gg j).toInt ∧ (gg j).toInt < 128 := by rw [hgg0]; exact own_hg _ _ _ _
  suffices J74_16 : ∀ (fr : Int32) (tt : Int32) (hft : tt.toInt ≤ fr.toInt ∨ (0 ≤ fr.toInt ∧ tt.toInt ≤ 4)), Go p e below s (Q0 n0) room_1.cells room_1.slots m T13 74 #[.val (.int ua), .val (.int ur), .val (.int uf), .val (.int ut), .val (.ref vb), .val (.int fr), .val (.int tt), .unset, .unset] [] by
    refine g_iloadN X13 hx hby at_38 (pc' := 39) rfl rfl ?_
    refine g_iconst X13 hx hby at_39 (pc' := 40) rfl (n := (1 : Int32)) (by first | rfl | decide) ?_
    refine g_iand X13 hx hby at_40 (pc' := 41) rfl ?_
    refine g_ifeq X13 hx hby at_41 (pt := 58) (pf := 44) (by decide) (by decide) rfl (fun (h41 : (ur &&& (1 : Int32)) = (0 : Int32)) => ?_) (fun (h41 : ¬ (ur &&& (1 : Int32)) = (0 : Int32)) => ?_)
    · have h41i : (ur &&& (1 : Int32)).toInt = 0 := congrArg Int32.toInt h41
      refine g_iloadN X13 hx hby at_58 (pc' := 59) rfl rfl ?_
      refine g_ldcI X13 hx hby hZ hown (hw _ (List.mem_of_getElem? (i := 5) rfl)) at_59 (pc' := 61) rfl ?_
      refine g_iand X13 hx hby at_61 (pc' := 62) rfl ?_
      refine g_iconst X13 hx hby at_62 (pc' := 63) rfl (n := (5 : Int32)) (by first | rfl | decide) ?_
      refine g_irem X13 hx hby at_63 (pc' := 64) rfl (by decide) ?_
      refine g_istore X13 hx hby at_64 (pc' := 66) rfl (Ls' := #[.val (.int ua), .val (.int ur), .val (.int uf), .val (.int ut), .val (.ref vb), .val (.int ((uf &&& (2147483647 : Int32)) % (5 : Int32))), .unset, .unset, .unset]) rfl ?_
      refine g_iloadN X13 hx hby at_66 (pc' := 67) rfl rfl ?_
      refine g_ldcI X13 hx hby hZ hown (hw _ (List.mem_of_getElem? (i := 5) rfl)) at_67 (pc' := 69) rfl ?_
      refine g_iand X13 hx hby at_69 (pc' := 70) rfl ?_
      refine g_iconst X13 hx hby at_70 (pc' := 71) rfl (n := (5 : Int32)) (by first | rfl | decide) ?_
      refine g_irem X13 hx hby at_71 (pc' := 72) rfl (by decide) ?_
      refine g_istore X13 hx hby at_72 (pc' := 74) rfl (Ls' := #[.val (.int ua), .val (.int ur), .val (.int uf), .val (.int ut), .val (.ref vb), .val (.int ((uf &&& (2147483647 : Int32)) % (5 : Int32))), .val (.int ((ut &&& (2147483647 : Int32)) % (5 : Int32))), .unset, .unset]) rfl ?_
      exact J74_16 _ _ (by first | exact Or.inl h46 | (have y1 := own_5 _ _ (rfl : ((uf &&& (2147483647 : Int32)) % (5 : Int32)) = _); have y2 := own_5 _ _ (rfl : ((ut &&& (2147483647 : Int32)) % (5 : Int32)) = _); exact Or.inr ⟨y1.1, y2.2⟩))
    · have h41i : ¬ (ur &&& (1 : Int32)).toInt = 0 := fun q => h41 (Int32.toInt_inj.mp q)
      refine g_iloadN X13 hx hby at_44 (pc' := 45) rfl rfl ?_
      refine g_iloadN X13 hx hby at_45 (pc' := 46) rfl rfl ?_
      refine g_icmplt X13 hx hby at_46 (pt := 58) (pf := 49) (by decide) (by decide) rfl (fun (h46 : uf.toInt < ut.toInt) => ?_) (fun (h46 : ut.toInt ≤ uf.toInt) => ?_)
      · refine g_iloadN X13 hx hby at_58 (pc' := 59) rfl rfl ?_
        refine g_ldcI X13 hx hby hZ hown (hw _ (List.mem_of_getElem? (i := 5) rfl)) at_59 (pc' := 61) rfl ?_
        refine g_iand X13 hx hby at_61 (pc' := 62) rfl ?_
        refine g_iconst X13 hx hby at_62 (pc' := 63) rfl (n := (5 : Int32)) (by first | rfl | decide) ?_
        refine g_irem X13 hx hby at_63 (pc' := 64) rfl (by decide) ?_
        refine g_istore X13 hx hby at_64 (pc' := 66) rfl (Ls' := #[.val (.int ua), .val (.int ur), .val (.int uf), .val (.int ut), .val (.ref vb), .val (.int ((uf &&& (2147483647 : Int32)) % (5 : Int32))), .unset, .unset, .unset]) rfl ?_
        refine g_iloadN X13 hx hby at_66 (pc' := 67) rfl rfl ?_
        refine g_ldcI X13 hx hby hZ hown (hw _ (List.mem_of_getElem? (i := 5) rfl)) at_67 (pc' := 69) rfl ?_
        refine g_iand X13 hx hby at_69 (pc' := 70) rfl ?_
        refine g_iconst X13 hx hby at_70 (pc' := 71) rfl (n := (5 : Int32)) (by first | rfl | decide) ?_
        refine g_irem X13 hx hby at_71 (pc' := 72) rfl (by decide) ?_
        refine g_istore X13 hx hby at_72 (pc' := 74) rfl (Ls' := #[.val (.int ua), .val (.int ur), .val (.int uf), .val (.int ut), .val (.ref vb), .val (.int ((uf &&& (2147483647 : Int32)) % (5 : Int32))), .val (.int ((ut &&& (2147483647 : Int32)) % (5 : Int32))), .unset, .unset]) rfl ?_
        exact J74_16 _ _ (by first | exact Or.inl h46 | (have y1 := own_5 _ _ (rfl : ((uf &&& (2147483647 : Int32)) % (5 : Int32)) = _); have y2 := own_5 _ _ (rfl : ((ut &&& (2147483647 : Int32)) % (5 : Int32)) = _); exact Or.inr ⟨y1.1, y2.2⟩))
      · refine g_iloadN X13 hx hby at_49 (pc' := 50) rfl rfl ?_
        refine g_istore X13 hx hby at_50 (pc' := 52) rfl (Ls' := #[.val (.int ua), .val (.int ur), .val (.int uf), .val (.int ut), .val (.ref vb), .val (.int uf), .unset, .unset, .unset]) rfl ?_
        refine g_iloadN X13 hx hby at_52 (pc' := 53) rfl rfl ?_
        refine g_istore X13 hx hby at_53 (pc' := 55) rfl (Ls' := #[.val (.int ua), .val (.int ur), .val (.int uf), .val (.int ut), .val (.ref vb), .val (.int uf), .val (.int ut), .unset, .unset]) rfl ?_
        refine g_goto X13 hx hby at_55 (pc' := 74) (by decide) (by decide) ?_
        exact J74_16 _ _ (by first | exact Or.inl h46 | (have y1 := own_5 _ _ (rfl : uf = _); have y2 := own_5 _ _ (rfl : ut = _); exact Or.inr ⟨y1.1, y2.2⟩))
  intro fr tt hft
  suffices J138_17 : ∀ (locs18 : List Loc) (T18 : State) (X18 : Stand p l e room_1 s m #[(.int ua), (.int ur), (.int uf), (.int ut)] below meth c T18 locs18 1 4) (e18 : T18.heap = h13) (N18 : Fr n0 locs18) (be : Int32) (h_be : own_bool be (fr.toInt < tt.toInt ∧ own_all gg fr.toInt tt.toInt)), Go p e below s (Q0 n0) room_1.cells room_1.slots m T18 138 #[.val (.int ua), .val (.int ur), .val (.int uf), .val (.int ut), .val (.ref vb), .val (.int fr), .val (.int tt), .unset, .unset] [(.int be)] by
    refine g_iload X13 hx hby at_74 (pc' := 76) rfl rfl ?_
    refine g_iload X13 hx hby at_76 (pc' := 78) rfl rfl ?_
    refine g_icmpge X13 hx hby at_78 (pt := 137) (pf := 81) (by decide) (by decide) rfl (fun (h78 : tt.toInt ≤ fr.toInt) => ?_) (fun (h78 : fr.toInt < tt.toInt) => ?_)
    · refine g_iconst X13 hx hby at_137 (pc' := 138) rfl (n := (0 : Int32)) (by first | rfl | decide) ?_
      exact J138_17 _ _ X13 e13 N15 _ (Or.inr ⟨rfl, by first | (intro z; exact absurd z.1 (by omega)) | exact fun z => own_one gg _ _ _ ((own_bool_zero h_rp127).mp h130) z.2 | exact fun z => own_one gg _ _ _ ((own_bool_zero h_rp114).mp h117) z.2 | exact fun z => own_one gg _ _ _ ((own_bool_zero h_rp101).mp h104) z.2 | exact fun z => own_one gg _ _ _ ((own_bool_zero h_rp88).mp h91) z.2⟩)
    · refine g_aload X13 hx hby at_81 (pc' := 83) rfl rfl rfl ?_
      refine g_iconst X13 hx hby at_83 (pc' := 84) rfl (n := (0 : Int32)) (by first | rfl | decide) ?_
      refine g_iload X13 hx hby at_84 (pc' := 86) rfl rfl ?_
      refine g_iload X13 hx hby at_86 (pc' := 88) rfl rfl ?_
      refine g_static X13 hx hby hZ hown hml rfl (hw _ (List.mem_of_getElem? (i := 6) rfl)) (hw _ (List.mem_of_getElem? (i := 7) rfl)) (hw _ (List.mem_of_getElem? (i := 8) rfl)) (hw _ (List.mem_of_getElem? (i := 9) rfl)) (by decide) e13 (rm2 l Z a0 hw vb (0 : Int32) fr tt _ h13 A_vb (by decide) hgg) pd___BIII_Z_547 (argsL := [(.ref vb), (.int (0 : Int32)), (.int fr), (.int tt)]) (rest := []) rfl rfl rfl at_88 (pc' := 91) rfl (by decide) (Nat.le_of_ble_eq_true rfl) (by decide) (by decide) ?_
      intro Tp88 vp88 Lp88 Xp88 qp88
      obtain ⟨⟨rp88, rfl, h_rp88⟩, ep88, rfl⟩ := qp88
      rw [List.append_nil] at Xp88
      replace Xp88 : Stand p l e room_1 s m _ below meth c Tp88 _ 1 4 := Xp88
      show Go p e below s (Q0 n0) room_1.cells room_1.slots m Tp88 91 #[.val (.int ua), .val (.int ur), .val (.int uf), .val (.int ut), .val (.ref vb), .val (.int fr), .val (.int tt), .unset, .unset] [(.int rp88)]
      refine g_ifeq Xp88 hx hby at_91 (pt := 137) (pf := 94) (by decide) (by decide) rfl (fun (h91 : rp88 = (0 : Int32)) => ?_) (fun (h91 : ¬ rp88 = (0 : Int32)) => ?_)
      · have h91i : rp88.toInt = 0 := congrArg Int32.toInt h91
        refine g_iconst Xp88 hx hby at_137 (pc' := 138) rfl (n := (0 : Int32)) (by first | rfl | decide) ?_
        exact J138_17 _ _ Xp88 ep88 N15 _ (Or.inr ⟨rfl, by first | (intro z; exact absurd z.1 (by omega)) | exact fun z => own_one gg _ _ _ ((own_bool_zero h_rp127).mp h130) z.2 | exact fun z => own_one gg _ _ _ ((own_bool_zero h_rp114).mp h117) z.2 | exact fun z => own_one gg _ _ _ ((own_bool_zero h_rp101).mp h104) z.2 | exact fun z => own_one gg _ _ _ ((own_bool_zero h_rp88).mp h91) z.2⟩)
      · have h91i : ¬ rp88.toInt = 0 := fun q => h91 (Int32.toInt_inj.mp q)
        refine g_aload Xp88 hx hby at_94 (pc' := 96) rfl rfl rfl ?_
        refine g_iconst Xp88 hx hby at_96 (pc' := 97) rfl (n := (1 : Int32)) (by first | rfl | decide) ?_
        refine g_iload Xp88 hx hby at_97 (pc' := 99) rfl rfl ?_
        refine g_iload Xp88 hx hby at_99 (pc' := 101) rfl rfl ?_
        refine g_static Xp88 hx hby hZ hown hml rfl (hw _ (List.mem_of_getElem? (i := 6) rfl)) (hw _ (List.mem_of_getElem? (i := 7) rfl)) (hw _ (List.mem_of_getElem? (i := 8) rfl)) (hw _ (List.mem_of_getElem? (i := 9) rfl)) (by decide) ep88 (rm2 l Z a0 hw vb (1 : Int32) fr tt _ h13 A_vb (by decide) hgg) pd___BIII_Z_547 (argsL := [(.ref vb), (.int (1 : Int32)), (.int fr), (.int tt)]) (rest := []) rfl rfl rfl at_101 (pc' := 104) rfl (by decide) (Nat.le_of_ble_eq_true rfl) (by decide) (by decide) ?_
        intro Tp101 vp101 Lp101 Xp101 qp101
        obtain ⟨⟨rp101, rfl, h_rp101⟩, ep101, rfl⟩ := qp101
        rw [List.append_nil] at Xp101
        replace Xp101 : Stand p l e room_1 s m _ below meth c Tp101 _ 1 4 := Xp101
        show Go p e below s (Q0 n0) room_1.cells room_1.slots m Tp101 104 #[.val (.int ua), .val (.int ur), .val (.int uf), .val (.int ut), .val (.ref vb), .val (.int fr), .val (.int tt), .unset, .unset] [(.int rp101)]
        refine g_ifeq Xp101 hx hby at_104 (pt := 137) (pf := 107) (by decide) (by decide) rfl (fun (h104 : rp101 = (0 : Int32)) => ?_) (fun (h104 : ¬ rp101 = (0 : Int32)) => ?_)
        · have h104i : rp101.toInt = 0 := congrArg Int32.toInt h104
          refine g_iconst Xp101 hx hby at_137 (pc' := 138) rfl (n := (0 : Int32)) (by first | rfl | decide) ?_
          exact J138_17 _ _ Xp101 ep101 N15 _ (Or.inr ⟨rfl, by first | (intro z; exact absurd z.1 (by omega)) | exact fun z => own_one gg _ _ _ ((own_bool_zero h_rp127).mp h130) z.2 | exact fun z => own_one gg _ _ _ ((own_bool_zero h_rp114).mp h117) z.2 | exact fun z => own_one gg _ _ _ ((own_bool_zero h_rp101).mp h104) z.2 | exact fun z => own_one gg _ _ _ ((own_bool_zero h_rp88).mp h91) z.2⟩)
        · have h104i : ¬ rp101.toInt = 0 := fun q => h104 (Int32.toInt_inj.mp q)
          refine g_aload Xp101 hx hby at_107 (pc' := 109) rfl rfl rfl ?_
          refine g_iconst Xp101 hx hby at_109 (pc' := 110) rfl (n := (2 : Int32)) (by first | rfl | decide) ?_
          refine g_iload Xp101 hx hby at_110 (pc' := 112) rfl rfl ?_
          refine g_iload Xp101 hx hby at_112 (pc' := 114) rfl rfl ?_
          refine g_static Xp101 hx hby hZ hown hml rfl (hw _ (List.mem_of_getElem? (i := 6) rfl)) (hw _ (List.mem_of_getElem? (i := 7) rfl)) (hw _ (List.mem_of_getElem? (i := 8) rfl)) (hw _ (List.mem_of_getElem? (i := 9) rfl)) (by decide) ep101 (rm2 l Z a0 hw vb (2 : Int32) fr tt _ h13 A_vb (by decide) hgg) pd___BIII_Z_547 (argsL := [(.ref vb), (.int (2 : Int32)), (.int fr), (.int tt)]) (rest := []) rfl rfl rfl at_114 (pc' := 117) rfl (by decide) (Nat.le_of_ble_eq_true rfl) (by decide) (by decide) ?_
          intro Tp114 vp114 Lp114 Xp114 qp114
          obtain ⟨⟨rp114, rfl, h_rp114⟩, ep114, rfl⟩ := qp114
          rw [List.append_nil] at Xp114
          replace Xp114 : Stand p l e room_1 s m _ below meth c Tp114 _ 1 4 := Xp114
          show Go p e below s (Q0 n0) room_1.cells room_1.slots m Tp114 117 #[.val (.int ua), .val (.int ur), .val (.int uf), .val (.int ut), .val (.ref vb), .val (.int fr), .val (.int tt), .unset, .unset] [(.int rp114)]
          refine g_ifeq Xp114 hx hby at_117 (pt := 137) (pf := 120) (by decide) (by decide) rfl (fun (h117 : rp114 = (0 : Int32)) => ?_) (fun (h117 : ¬ rp114 = (0 : Int32)) => ?_)
          · have h117i : rp114.toInt = 0 := congrArg Int32.toInt h117
            refine g_iconst Xp114 hx hby at_137 (pc' := 138) rfl (n := (0 : Int32)) (by first | rfl | decide) ?_
            exact J138_17 _ _ Xp114 ep114 N15 _ (Or.inr ⟨rfl, by first | (intro z; exact absurd z.1 (by omega)) | exact fun z => own_one gg _ _ _ ((own_bool_zero h_rp127).mp h130) z.2 | exact fun z => own_one gg _ _ _ ((own_bool_zero h_rp114).mp h117) z.2 | exact fun z => own_one gg _ _ _ ((own_bool_zero h_rp101).mp h104) z.2 | exact fun z => own_one gg _ _ _ ((own_bool_zero h_rp88).mp h91) z.2⟩)
          · have h117i : ¬ rp114.toInt = 0 := fun q => h117 (Int32.toInt_inj.mp q)
            refine g_aload Xp114 hx hby at_120 (pc' := 122) rfl rfl rfl ?_
            refine g_iconst Xp114 hx hby at_122 (pc' := 123) rfl (n := (3 : Int32)) (by first | rfl | decide) ?_
            refine g_iload Xp114 hx hby at_123 (pc' := 125) rfl rfl ?_
            refine g_iload Xp114 hx hby at_125 (pc' := 127) rfl rfl ?_
            refine g_static Xp114 hx hby hZ hown hml rfl (hw _ (List.mem_of_getElem? (i := 6) rfl)) (hw _ (List.mem_of_getElem? (i := 7) rfl)) (hw _ (List.mem_of_getElem? (i := 8) rfl)) (hw _ (List.mem_of_getElem? (i := 9) rfl)) (by decide) ep114 (rm2 l Z a0 hw vb (3 : Int32) fr tt _ h13 A_vb (by decide) hgg) pd___BIII_Z_547 (argsL := [(.ref vb), (.int (3 : Int32)), (.int fr), (.int tt)]) (rest := []) rfl rfl rfl at_127 (pc' := 130) rfl (by decide) (Nat.le_of_ble_eq_true rfl) (by decide) (by decide) ?_
            intro Tp127 vp127 Lp127 Xp127 qp127
            obtain ⟨⟨rp127, rfl, h_rp127⟩, ep127, rfl⟩ := qp127
            rw [List.append_nil] at Xp127
            replace Xp127 : Stand p l e room_1 s m _ below meth c Tp127 _ 1 4 := Xp127
            show Go p e below s (Q0 n0) room_1.cells room_1.slots m Tp127 130 #[.val (.int ua), .val (.int ur), .val (.int uf), .val (.int ut), .val (.ref vb), .val (.int fr), .val (.int tt), .unset, .unset] [(.int rp127)]
            refine g_ifeq Xp127 hx hby at_130 (pt := 137) (pf := 133) (by decide) (by decide) rfl (fun (h130 : rp127 = (0 : Int32)) => ?_) (fun (h130 : ¬ rp127 = (0 : Int32)) => ?_)
            · have h130i : rp127.toInt = 0 := congrArg Int32.toInt h130
              refine g_iconst Xp127 hx hby at_137 (pc' := 138) rfl (n := (0 : Int32)) (by first | rfl | decide) ?_
              exact J138_17 _ _ Xp127 ep127 N15 _ (Or.inr ⟨rfl, by first | (intro z; exact absurd z.1 (by omega)) | exact fun z => own_one gg _ _ _ ((own_bool_zero h_rp127).mp h130) z.2 | exact fun z => own_one gg _ _ _ ((own_bool_zero h_rp114).mp h117) z.2 | exact fun z => own_one gg _ _ _ ((own_bool_zero h_rp101).mp h104) z.2 | exact fun z => own_one gg _ _ _ ((own_bool_zero h_rp88).mp h91) z.2⟩)
            · have h130i : ¬ rp127.toInt = 0 := fun q => h130 (Int32.toInt_inj.mp q)
              refine g_iconst Xp127 hx hby at_133 (pc' := 134) rfl (n := (1 : Int32)) (by first | rfl | decide) ?_
              refine g_goto Xp127 hx hby at_134 (pc' := 138) (by decide) (by decide) ?_
              exact J138_17 _ _ Xp127 ep127 N15 _ (Or.inl ⟨rfl, h78, own_four gg _ _ (by omega) (by omega) (Classical.byContradiction fun z => h91 ((own_bool_zero h_rp88).mpr z)) (Classical.byContradiction fun z => h104 ((own_bool_zero h_rp101).mpr z)) (Classical.byContradiction fun z => h117 ((own_bool_zero h_rp114).mpr z)) (Classical.byContradiction fun z => h130 ((own_bool_zero h_rp127).mpr z))⟩)
  intro locs18 T18 X18 e18 N18 be h_be
  refine g_istore X18 hx hby at_138 (pc' := 140) rfl (Ls' := #[.val (.int ua), .val (.int ur), .val (.int uf), .val (.int ut), .val (.ref vb), .val (.int fr), .val (.int tt), .val (.int be), .unset]) rfl ?_
  refine g_aload X18 hx hby at_140 (pc' := 142) rfl rfl rfl ?_
  refine g_iload X18 hx hby at_142 (pc' := 144) rfl rfl ?_
  refine g_iload X18 hx hby at_144 (pc' := 146) rfl rfl ?_
  refine g_static X18 hx hby hZ hown hml rfl (hw _ (List.mem_of_getElem? (i := 1) rfl)) (hw _ (List.mem_of_getElem? (i := 2) rfl)) (hw _ (List.mem_of_getElem? (i := 3) rfl)) (hw _ (List.mem_of_getElem? (i := 4) rfl)) (by decide) e18 (rm1 l Z a0 hw vb fr tt _ h13 A_vb hft) pd___BII_Z_474 (argsL := [(.ref vb), (.int fr), (.int tt)]) (rest := []) rfl rfl rfl at_146 (pc' := 149) rfl (by decide) (Nat.le_of_ble_eq_true rfl) (by decide) (by decide) ?_
  intro Tp146 vp146 Lp146 Xp146 qp146
  obtain ⟨⟨rp146, rfl, h_rp146⟩, ep146, rfl⟩ := qp146
  rw [List.append_nil] at Xp146
  replace Xp146 : Stand p l e room_1 s m _ below meth c Tp146 _ 1 4 := Xp146
  show Go p e below s (Q0 n0) room_1.cells room_1.slots m Tp146 149 #[.val (.int ua), .val (.int ur), .val (.int uf), .val (.int ut), .val (.ref vb), .val (.int fr), .val (.int tt), .val (.int be), .unset] [(.int rp146)]
  refine g_istore Xp146 hx hby at_149 (pc' := 151) rfl (Ls' := #[.val (.int ua), .val (.int ur), .val (.int uf), .val (.int ut), .val (.ref vb), .val (.int fr), .val (.int tt), .val (.int be), .val (.int rp146)]) rfl ?_
  refine g_iload Xp146 hx hby at_151 (pc' := 153) rfl rfl ?_
  refine g_iload Xp146 hx hby at_153 (pc' := 155) rfl rfl ?_
  refine g_icmpne Xp146 hx hby at_155 (pt := 162) (pf := 158) (by decide) (by decide) rfl (fun (h155 : ¬ rp146 = be) => (by exfalso; exact h155 (own_bool_eq h_rp146 h_be Iff.rfl))) (fun (h155 : rp146 = be) => ?_)
  have h155i : rp146.toInt = be.toInt := congrArg Int32.toInt h155
  refine g_iconst Xp146 hx hby at_158 (pc' := 159) rfl (n := (1 : Int32)) (by first | rfl | decide) ?_
  refine g_goto Xp146 hx hby at_159 (pc' := 163) (by decide) (by decide) ?_
  exact g_retZ Xp146 hx hby hlk (Or.inr rfl) hret at_163 (by decide) (by decide) (⟨rfl, N18⟩)
set_option maxRecDepth 65536 in
set_option maxHeartbeats 40000000 in
theorem comes_1 {Post : Tables → Env → Array Value → State → Outcome → State → Prop} (hpost : ∀ tb e args s v u, (limb_1_1.after args s (.returned v) u = true ∧ limb_1_2.after args s (.returned v) u = true ∧ True) → FrameEnd s (.returned v) u (Jvm.fieldLocs frame_1_writes args s ++ Jvm.arrayLocs frame_1_arrays args s ++ Jvm.staticLocs frame_1_statics s) 16 128 → Post tb e args s (.returned v) u) :
    ArmFor flags0 classFile x code maxLocals ret World_1 tables_1 room_1 Calls_1 rest_1 Pre_1 Post := by
  intro l hfl _ _ p e ha hc hk s m args below hf hA hF happ hP
  obtain ⟨hcalls, hrest, hpre⟩ := hP
  obtain ⟨-, -, -, hnamed, -, -, -, hat⟩ := (Spec.applies_iff hf).mp happ
  obtain ⟨hg, hn⟩ := and_e (Cond.before_iff.mp (show (Jvm.Cond.and given_1 narrow_1).before args s = true from hpre))
  obtain ⟨g1, g2⟩ := and_e hg
  obtain ⟨g3, g4⟩ := and_e g2
  obtain ⟨g5, g6⟩ := and_e g4
  obtain ⟨g7, g8⟩ := and_e g6
  obtain ⟨w0, w1, w2, w3, rfl⟩ : ∃ w0 w1 w2 w3 : Value, args = #[w0, w1, w2, w3] := by
    have hs : args.size = 4 := by simpa [Cond.value, given_1] using g1
    obtain ⟨L⟩ := args
    match L, hs with
    | [w0, w1, w2, w3], _ => exact ⟨w0, w1, w2, w3, rfl⟩
  have hw := fun d (hd : d ∈ tables_1) => atoms_spec (ws := Jvm.Cond.code x code maxLocals ret :: tables_1) hat d (List.mem_cons_of_mem _ hd)
  have hfit : Fit s := fun {y c} hc i hi => by
    obtain ⟨ha, rfl⟩ := Array.getElem?_eq_some_iff.mp hc
    have q := List.all_eq_true.mp ((Array.all_eq_true_iff_forall_mem.mp hF) _ (Array.getElem_mem ha)) i (List.mem_range.mpr hi)
    simpa [Array.getElem?_eq_getElem hi] using q
  obtain ⟨i0, ei0⟩ := is_v g3
  obtain rfl : w0 = (.int i0) := Option.some.inj ei0
  obtain ⟨i1, ei1⟩ := is_v g5
  obtain rfl : w1 = (.int i1) := Option.some.inj ei1
  obtain ⟨i2, ei2⟩ := is_v g7
  obtain rfl : w2 = (.int i2) := Option.some.inj ei2
  obtain ⟨i3, ei3⟩ := is_v g8
  obtain rfl : w3 = (.int i3) := Option.some.inj ei3
  obtain ⟨n, o, h1, h2, h3, _, L, rfl, ⟨rfl, N⟩, hq⟩ := law0 l s _ hw tables_1 i0 i1 i2 i3 s.heap.size s.heap (Nat.le_refl _) p e ha hc hk s m _ below hf ((Spec.applies_iff_loose hf).mp happ).1 ⟨rfl, State.Warmed39.refl s, rfl⟩ trivial
  refine ⟨n, _, h1, h2, h3, hpost _ _ _ _ _ _ ⟨Cond.after_iff.mpr rfl, Cond.after_iff.mpr (eq_i res_at (Term.int_eval (1)) rfl), trivial⟩ ⟨hq.1, hq.2.1, (hq.2.2.sift fun y hy => Or.inr (N y hy)).mono (by decide) (by decide)⟩⟩
theorem main_1_1 : Claimed_1_1 := comes_1 fun _ _ _ _ _ _ h hF => ⟨h.1, hF⟩
theorem main_1_2 : Claimed_1_2 := comes_1 fun _ _ _ _ _ _ h hF => ⟨h.2.1, hF⟩
end Jvm.Pilot.@@N@@
namespace Jvm.Pilot.@@N@@
open Jvm Jvm.ClassFile Sem Op Lib Jvm.Free Jvm.Stand Jvm.Pilot.@@N@@.Jvm.D
/-! MADE BY PROGRAM (witnessworld.py) out of the Statement's table words and the real class files: 11 classes; the members and pool entries that the words name. The judged class is class 1, her method 2. -/
namespace start1
open Jvm.ClassFile
def u (s : String) : CpInfo := .utf8 (stringToUtf16 s)
/-- a pool by its gaps: so many unusable entries, then the entry; so many at the end -/
def gap : Nat → List CpInfo → List CpInfo
  | 0, r => r
  | n + 1, r => .unusable :: gap n r
def poolList (es : List (Nat × CpInfo)) (last : Nat) : List CpInfo := es.foldr (fun e r => gap e.1 (e.2 :: r)) (gap last [])
def pool (es : List (Nat × CpInfo)) (last : Nat) : Array CpInfo := ⟨poolList es last⟩
def fileOf (pool : Array CpInfo) (this : Nat) (attrs : Array Attribute := #[]) (ms : Array MethodInfo := #[]) (fl : Nat := 33) (sup : Nat := 0) (ifs : Array Nat := #[]) (fds : Array FieldInfo := #[]) : ClassFile where
  minorVersion := 0
  majorVersion := 65
  constantPool := pool
  accessFlags := fl
  thisClass := this
  superClass := sup
  interfaces := ifs
  fields := fds
  methods := ms
  attributes := attrs
def plain (name : String) (sup : Option ClassId) : Class where
  name := name
  kind := .ordinary
  loader := none
  accessFlags := 33
  super := sup
  interfaces := #[]
  cf := none
  fields := #[]
  methods := #[]
  instanceTypes := #[]
  staticTypes := #[]
  resolved := #[]
  callSites := []
  init := .initialized
  statics := none
  mirror := none

def pool0 : Array CpInfo := pool [(5, u "<init>"), (0, u "()V"), (1, .class_ 10), (1, u "java/lang/Object")] 113

def k0m0 : Method := { name := "<init>", desc := "()V", sig := { parameters := [], returnType := none }, accessFlags := 1, code := none }
/-- java/lang/Object -/
def k0 : Class := { plain "java/lang/Object" none with
  accessFlags := 33
  interfaces := #[]
  cf := some (fileOf pool0 8 #[] #[{ accessFlags := 1, nameIndex := 5, descriptorIndex := 6, attributes := #[] }] 33 0 #[] #[])
  fields := #[]
  methods := #[k0m0]
  instanceTypes := #[]
  staticTypes := #[]
  resolved := Array.replicate 124 none
  statics := none }

def pool1 : Array CpInfo := pool [(2, .class_ 4), (1, u "java/lang/Object"), (0, u "<init>"), (0, u "()V"), (0, .integer 2147483647), (0, .methodref 9 10), (0, .class_ 11), (0, .nameAndType 12 13), (0, u "com/example/switchbox/switchbox/LineTokenizerIsFieldPinLaw"), (0, u "okAt"), (0, u "([BIII)Z"), (0, .methodref 15 16), (0, .class_ 17), (0, .nameAndType 18 19), (0, u "com/example/switchbox/switchbox/LineTokenizer"), (0, u "isField"), (0, u "([BII)Z"), (3, u "law"), (0, u "(IIII)Z")] 4

def k1m0 : Method := { name := "<init>", desc := "()V", sig := { parameters := [], returnType := none }, accessFlags := 2, code := none }
def k1c1 : Code := { maxStack := 2, maxLocals := 5, code := method_2_code, exceptionTable := #[], attributes := #[] }
def k1m1 : Method := { name := "okAt", desc := "([BIII)Z", sig := { parameters := [(.array .byte), .int, .int, .int], returnType := some .boolean }, accessFlags := 10, code := some k1c1 }
def k1c2 : Code := { maxStack := 4, maxLocals := 9, code := code, exceptionTable := #[], attributes := #[] }
def k1m2 : Method := { name := "law", desc := "(IIII)Z", sig := { parameters := [.int, .int, .int, .int], returnType := some .boolean }, accessFlags := 9, code := some k1c2 }
/-- com/example/switchbox/switchbox/LineTokenizerIsFieldPinLaw -/
def k1 : Class := { plain "com/example/switchbox/switchbox/LineTokenizerIsFieldPinLaw" (some 0) with
  accessFlags := 49
  interfaces := #[]
  cf := some (fileOf pool1 9 #[] #[{ accessFlags := 2, nameIndex := 5, descriptorIndex := 6, attributes := #[] }, { accessFlags := 10, nameIndex := 12, descriptorIndex := 13, attributes := #[] }, { accessFlags := 9, nameIndex := 23, descriptorIndex := 24, attributes := #[] }] 49 2 #[] #[])
  fields := #[]
  methods := #[k1m0, k1m1, k1m2]
  instanceTypes := #[]
  staticTypes := #[]
  resolved := Array.replicate 29 none
  statics := none }

def pool2 : Array CpInfo := pool [(1, .class_ 2), (0, u "java/lang/AutoCloseable"), (0, .class_ 4), (0, u "java/lang/Object")] 7

/-- java/lang/AutoCloseable -/
def k2 : Class := { plain "java/lang/AutoCloseable" (some 0) with
  accessFlags := 1537
  interfaces := #[]
  cf := some (fileOf pool2 1 #[] #[] 1537 3 #[] #[])
  fields := #[]
  methods := #[]
  instanceTypes := #[]
  staticTypes := #[]
  resolved := Array.replicate 12 none
  statics := none }

def pool3 : Array CpInfo := pool [(1, .class_ 2), (0, u "java/io/Closeable"), (0, .class_ 4), (0, u "java/lang/Object"), (0, .class_ 6), (0, u "java/lang/AutoCloseable")] 7

/-- java/io/Closeable -/
def k3 : Class := { plain "java/io/Closeable" (some 0) with
  accessFlags := 1537
  interfaces := #[2]
  cf := some (fileOf pool3 1 #[] #[] 1537 3 #[5] #[])
  fields := #[]
  methods := #[]
  instanceTypes := #[]
  staticTypes := #[]
  resolved := Array.replicate 14 none
  statics := none }

def pool4 : Array CpInfo := pool [(2, .class_ 4), (1, u "java/lang/Object"), (4, .class_ 11), (1, u "com/example/switchbox/switchbox/LineTokenizer"), (0, u "buffer"), (0, u "[B"), (2, u "line"), (5, u "fields"), (0, u "Ljava/util/List;"), (2, u "file"), (0, u "Ljava/nio/file/Path;"), (10, u "in"), (0, u "Ljava/io/InputStream;"), (2, u "unread"), (0, u "[Ljava/lang/String;"), (6, u "position"), (0, u "I"), (2, u "limit"), (14, u "lineNumber"), (0, u "J"), (108, u "NO_FIELDS"), (5, .class_ 186), (0, u "java/io/Closeable"), (0, u "MAX_LINE_LENGTH"), (1, u "FIRST_FIELD_CHARACTER"), (1, u "LAST_FIELD_CHARACTER"), (13, u "isField"), (1, u "([BII)Z")] 24

def k4c0 : Code := { maxStack := 2, maxLocals := 5, code := prog_30_method_10_code, exceptionTable := #[], attributes := #[] }
def k4m0 : Method := { name := "isField", desc := "([BII)Z", sig := { parameters := [(.array .byte), .int, .int], returnType := some .boolean }, accessFlags := 8, code := some k4c0 }
/-- com/example/switchbox/switchbox/LineTokenizer -/
def k4 : Class := { plain "com/example/switchbox/switchbox/LineTokenizer" (some 0) with
  accessFlags := 48
  interfaces := #[3]
  cf := some (fileOf pool4 9 #[] #[{ accessFlags := 8, nameIndex := 205, descriptorIndex := 207, attributes := #[] }] 48 2 #[185] #[{ accessFlags := 24, nameIndex := 187, descriptorIndex := 51, attributes := #[] }, { accessFlags := 26, nameIndex := 179, descriptorIndex := 43, attributes := #[] }, { accessFlags := 26, nameIndex := 189, descriptorIndex := 51, attributes := #[] }, { accessFlags := 26, nameIndex := 191, descriptorIndex := 51, attributes := #[] }, { accessFlags := 18, nameIndex := 26, descriptorIndex := 27, attributes := #[] }, { accessFlags := 18, nameIndex := 38, descriptorIndex := 39, attributes := #[] }, { accessFlags := 18, nameIndex := 12, descriptorIndex := 13, attributes := #[] }, { accessFlags := 2, nameIndex := 50, descriptorIndex := 51, attributes := #[] }, { accessFlags := 2, nameIndex := 54, descriptorIndex := 51, attributes := #[] }, { accessFlags := 2, nameIndex := 16, descriptorIndex := 13, attributes := #[] }, { accessFlags := 2, nameIndex := 69, descriptorIndex := 70, attributes := #[] }, { accessFlags := 18, nameIndex := 22, descriptorIndex := 23, attributes := #[] }, { accessFlags := 2, nameIndex := 42, descriptorIndex := 43, attributes := #[] }])
  fields := #[{ name := "MAX_LINE_LENGTH", type := .int, accessFlags := 24, slot := 0, constantValue := 0 }, { name := "NO_FIELDS", type := (.array (.object "java/lang/String")), accessFlags := 26, slot := 1, constantValue := 0 }, { name := "FIRST_FIELD_CHARACTER", type := .int, accessFlags := 26, slot := 2, constantValue := 0 }, { name := "LAST_FIELD_CHARACTER", type := .int, accessFlags := 26, slot := 3, constantValue := 0 }, { name := "file", type := (.object "java/nio/file/Path"), accessFlags := 18, slot := 0, constantValue := 0 }, { name := "in", type := (.object "java/io/InputStream"), accessFlags := 18, slot := 1, constantValue := 0 }, { name := "buffer", type := (.array .byte), accessFlags := 18, slot := 2, constantValue := 0 }, { name := "position", type := .int, accessFlags := 2, slot := 3, constantValue := 0 }, { name := "limit", type := .int, accessFlags := 2, slot := 4, constantValue := 0 }, { name := "line", type := (.array .byte), accessFlags := 2, slot := 5, constantValue := 0 }, { name := "lineNumber", type := .long, accessFlags := 2, slot := 6, constantValue := 0 }, { name := "fields", type := (.object "java/util/List"), accessFlags := 18, slot := 7, constantValue := 0 }, { name := "unread", type := (.array (.object "java/lang/String")), accessFlags := 2, slot := 8, constantValue := 0 }]
  methods := #[k4m0]
  instanceTypes := #[(.object "java/nio/file/Path"), (.object "java/io/InputStream"), (.array .byte), .int, .int, (.array .byte), .long, (.object "java/util/List"), (.array (.object "java/lang/String"))]
  staticTypes := #[.int, (.array (.object "java/lang/String")), .int, .int]
  resolved := Array.replicate 232 none
  statics := none }

def pool5 : Array CpInfo := pool [(1, u "java/lang/Cloneable"), (0, .class_ 1), (0, u "java/lang/Object"), (0, .class_ 3)] 3

/-- java/lang/Cloneable -/
def k5 : Class := { plain "java/lang/Cloneable" (some 0) with
  accessFlags := 1537
  interfaces := #[]
  cf := some (fileOf pool5 2 #[] #[] 1537 4 #[] #[])
  fields := #[]
  methods := #[]
  instanceTypes := #[]
  staticTypes := #[]
  resolved := Array.replicate 8 none
  statics := none }

def pool6 : Array CpInfo := pool [(1, u "java/io/Serializable"), (0, .class_ 1), (0, u "java/lang/Object"), (0, .class_ 3)] 3

/-- java/io/Serializable -/
def k6 : Class := { plain "java/io/Serializable" (some 0) with
  accessFlags := 1537
  interfaces := #[]
  cf := some (fileOf pool6 2 #[] #[] 1537 4 #[] #[])
  fields := #[]
  methods := #[]
  instanceTypes := #[]
  staticTypes := #[]
  resolved := Array.replicate 8 none
  statics := none }

/-- the primitive byte -/
def k7 : Class := { plain "byte" none with kind := .primitive 'B', accessFlags := 0x411 }
/-- [B -/
def k8 : Class := { plain "[B" (some 0) with kind := .array 7 .byte, interfaces := #[5, 6], accessFlags := 1041 }

/-- the primitive int -/
def k9 : Class := { plain "int" none with kind := .primitive 'I', accessFlags := 0x411 }
/-- [I -/
def k10 : Class := { plain "[I" (some 0) with kind := .array 9 .int, interfaces := #[5, 6], accessFlags := 1041 }

def heap : Heap := #[]
def classes : Array Class := #[k0, k1, k2, k3, k4, k5, k6, k7, k8, k9, k10]
def interned : List (Array UInt16 × Addr) := []
def slotsUsed : Nat := 0
def theMethod : MethodId := ⟨1, 2⟩
def args0 : Array Value := #[.int 5, .int 7, .int 1, .int 9]
def aboutOver (below : List Frame) : State where
  vm := { classes := classes, interned := interned.toArray }
  heap := heap
  slotsUsed := slotsUsed
  threads := #[{ frames := .invoking theMethod args0 :: below }]
def below0 : List Frame := [.native { method := ⟨0, 0⟩, args := #[] }]
def about1 : State := aboutOver below0
def p0 : Program := .bare "" "" ""
def e0 : Env := launch0.env 0 0 0
theorem w_frames : about1.frames = Frame.invoking theMethod args0 :: below0 := rfl
set_option maxRecDepth 65536 in
theorem w_args : argsFit about1.vm theMethod args0 = true := by decide +kernel
set_option maxRecDepth 65536 in
theorem w_heap : heapFits about1 = true := by decide +kernel
set_option maxRecDepth 65536 in
theorem w_runnable : about1.curStatus? = some .runnable := by decide +kernel
set_option maxRecDepth 65536 in
theorem w_alone : about1.alone = true := by decide +kernel
set_option maxRecDepth 65536 in
theorem w_named : about1.methodNamed? x = some theMethod := by decide +kernel
set_option maxRecDepth 65536 in
theorem w_hears : about1.hears theMethod below0 = true := by decide +kernel
set_option maxRecDepth 65536 in
theorem w_ripe : about1.ripe theMethod args0 below0 = true := by decide +kernel
theorem w_running : about1.status = .running := rfl
set_option maxRecDepth 65536 in
theorem w_room : about1.hasRoom e0.platform room_1 = true :=
  launch0.hasRoom_least _ room_1 (by decide +kernel) (by decide +kernel) (by decide +kernel) (by decide +kernel) (by decide +kernel) (by decide +kernel)
theorem allAtoms_all (ts : List Jvm.Cond) (a : Array Jvm.Value) (st : Jvm.State) : (allAtoms ts).before a st = ts.all (fun c => c.before a st) := by
  induction ts with
  | nil => rfl
  | cons c t ih =>
    show (Jvm.Cond.and c (allAtoms t)).before a st = _
    rw [Jvm.Cond.before_and, ih, List.all_cons]
def words1 : List Jvm.Cond := Jvm.Cond.code x code maxLocals ret :: tables_1
/-- a 'code' word, met by the world's own term for the bytes: nothing is compared byte by byte -/
theorem code_word {y : MethodName} {bytes : ByteArray} {mx : Nat} {rt : Option FieldType} {a : Array Value} {s : State} {m : MethodId} {meth : Method} {c : Code} (h1 : s.methodNamed? y = some m) (h2 : s.vm.method? m = some meth) (h3 : meth.code = some c) (h4 : c.code = bytes)
    (h5 : (c.maxLocals == mx && c.exceptionTable.isEmpty && decide (c.maxStack ≤ mostOperands) && decide (meth.sig.returnType = rt) && !meth.locks && decide (parseMethodDescriptor y.desc = some meth.sig)) = true) : (Jvm.Cond.code y bytes mx rt).before a s = true := by
  simp only [Bool.and_eq_true, beq_iff_eq, Bool.not_eq_true', decide_eq_true_eq] at h5
  obtain ⟨⟨⟨⟨⟨g1, g2⟩, g3⟩, g4⟩, g5⟩, g6⟩ := h5
  simp [Cond.before, Cond.holds, Cond.value, h1, h2, h3, h4, g1, g2, g3, g4, g5, g6]
def isCode : Jvm.Cond → Bool
  | .code _ _ _ _ => true
  | _ => false
theorem all_split {L : List Jvm.Cond} {P : Jvm.Cond → Bool} (h1 : L.all (fun c => isCode c || P c) = true) (h2 : ∀ c ∈ L.filter isCode, P c = true) : L.all P = true := by
  refine List.all_eq_true.mpr fun c hc => ?_
  have h := List.all_eq_true.mp h1 c hc
  rcases Bool.eq_false_or_eq_true (isCode c) with hi | hi
  · exact h2 c (List.mem_filter.mpr ⟨hc, hi⟩)
  · simpa [hi] using h
set_option maxRecDepth 65536 in
theorem w_c0 : (Jvm.Cond.code x code maxLocals ret).before args0 about1 = true := code_word (m := ⟨1, 2⟩) (meth := k1m2) (c := k1c2) (by decide +kernel) rfl rfl rfl (by decide +kernel)
set_option maxRecDepth 65536 in
theorem w_c1 : (Jvm.Cond.code ({ cls := "com/example/switchbox/switchbox/LineTokenizer", name := "isField", desc := "([BII)Z" } : Jvm.MethodName) prog_30_method_10_code (5 : Nat) (Option.some Jvm.ClassFile.FieldType.boolean)).before args0 about1 = true := code_word (m := ⟨4, 0⟩) (meth := k4m0) (c := k4c0) (by decide +kernel) rfl rfl rfl (by decide +kernel)
set_option maxRecDepth 65536 in
theorem w_c2 : (Jvm.Cond.code ({ cls := "com/example/switchbox/switchbox/LineTokenizerIsFieldPinLaw", name := "okAt", desc := "([BIII)Z" } : Jvm.MethodName) method_2_code (5 : Nat) (Option.some Jvm.ClassFile.FieldType.boolean)).before args0 about1 = true := code_word (m := ⟨1, 1⟩) (meth := k1m1) (c := k1c1) (by decide +kernel) rfl rfl rfl (by decide +kernel)
def codes1 : List Jvm.Cond := [Jvm.Cond.code x code maxLocals ret, Jvm.Cond.code ({ cls := "com/example/switchbox/switchbox/LineTokenizer", name := "isField", desc := "([BII)Z" } : Jvm.MethodName) prog_30_method_10_code (5 : Nat) (Option.some Jvm.ClassFile.FieldType.boolean), Jvm.Cond.code ({ cls := "com/example/switchbox/switchbox/LineTokenizerIsFieldPinLaw", name := "okAt", desc := "([BIII)Z" } : Jvm.MethodName) method_2_code (5 : Nat) (Option.some Jvm.ClassFile.FieldType.boolean)]
set_option maxRecDepth 65536 in
theorem codes_eq : words1.filter isCode = codes1 := rfl
theorem w_codes : ∀ c ∈ words1.filter isCode, c.before args0 about1 = true := by
  rw [codes_eq]
  intro c hc
  simp only [codes1, List.mem_cons, List.not_mem_nil, or_false] at hc
  rcases hc with rfl | rfl | rfl
  · exact w_c0
  · exact w_c1
  · exact w_c2
set_option maxRecDepth 65536 in
theorem w_t1 : words1.all (fun c => isCode c || c.before args0 about1) = true := by decide +kernel
theorem w_tables : (allAtoms (Jvm.Cond.code x code maxLocals ret :: tables_1)).before args0 about1 = true := by
  rw [allAtoms_all]
  show words1.all (fun c => c.before args0 about1) = true
  refine all_split ?_ w_codes
  rw [w_t1]
set_option maxRecDepth 65536 in
theorem w_case : (Jvm.Cond.and given_1 narrow_1).before args0 about1 = true := by decide +kernel
theorem w_applies : (headSpec (Jvm.Cond.code x code maxLocals ret :: tables_1) room_1).applies x e0.platform about1 = true :=
  (Spec.applies_iff w_frames).mpr ⟨w_running, w_runnable, w_alone, w_named, w_hears, w_ripe, w_room, w_tables⟩
theorem atStart : AtStart classFile x code maxLocals ret World_1 tables_1 room_1 Calls_1 rest_1 Pre_1 launch0 p0 e0 about1 theMethod args0 below0 :=
  ⟨lists_1, trivial, launch0.admits_env _ _ _, launch0.least_env, fairChoices_fair.cas, fairChoices_fair.clock, w_frames, w_args, w_heap, w_applies, trivial, trivial, w_case⟩
end start1
theorem witness_1 : WitnessClaimed_1 := ⟨start1.p0, start1.e0, start1.about1, start1.theMethod, start1.args0, start1.below0, start1.atStart⟩
end Jvm.Pilot.@@N@@
