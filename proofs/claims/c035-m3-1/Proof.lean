import JvmDerived
import JvmDerived.Pilot.@@N@@Statement
import JvmDerived.Pilot.@@N@@Code
set_option linter.unusedVariables false
set_option linter.unusedSimpArgs false
namespace Jvm.Pilot.@@N@@
open Jvm Jvm.ClassFile Sem Op Lib Jvm.Free Jvm.Stand Jvm.LawKit Jvm.RoadKit Bundle Jvm.Pilot.@@N@@.Jvm.D
section OwnKit
variable {p : Program} {l : Launch} {e : Env} {R : Room} {s : State} {m : MethodId} {args : Array Value} {below : List Frame} {meth : Method} {c : Code} {T : State} {locs : List Loc} {cells slots : Nat} {bc : ByteArray} {Q : Option Value → Heap → List Loc → Prop} {mc ms : Nat} {Z : State} {a0 : Array Value} {h : Heap} {pc pc' pt pf : Nat} {Ls : Array Slot} {st rest : List Value}
/-- from this frame over T the invocation comes to its end by returning, and Q holds there -/
def Go (p : Program) (e : Env) (below : List Frame) (s : State) (Q : Option Value → Heap → List Loc → Prop) (mc ms : Nat) (m : MethodId) (T : State) (pc : Nat) (Ls : Array Slot) (st : List Value) : Prop :=
  ∃ s₂ o, Steps p.tables e below (T.setTop (mkF m pc Ls st)) s₂ ∧ s₂.status = .running ∧ Ended s₂ below o ∧ ∃ v L, o = .returned v ∧ Q v s₂.heap L ∧ FrameEnd s o s₂ L mc ms
theorem Go.of {T' : State} {Ls' : Array Slot} {st' : List Value} (k : ∀ t, Steps p.tables e below (T'.setTop (mkF m pc' Ls' st')) t → Steps p.tables e below (T.setTop (mkF m pc Ls st)) t) (g : Go p e below s Q mc ms m T' pc' Ls' st') : Go p e below s Q mc ms m T pc Ls st := by
  obtain ⟨s₂, o, h1, h2⟩ := g
  exact ⟨s₂, o, k _ h1, h2⟩
/-- a method's contract, as a caller takes it -/
def Ct (l : Launch) (Z : State) (y : MethodName) (bytes : ByteArray) (maxL : Nat) (ret : Option FieldType) (rm : Room) (as' : Array Value) (h : Heap) (Q : Option Value → Heap → List Loc → Prop) : Prop :=
  MetFree l y (head1 [Jvm.Cond.code y bytes maxL ret] rm) (fun a U => a = as' ∧ Z.Warmed39 U.vm ∧ U.heap = h) (fun _ _ _ _ _ => True) (fun _ U o U' => ∃ v L, o = .returned v ∧ Q v U'.heap L ∧ FrameEnd U o U' L rm.cells rm.slots)
theorem own_met {y : MethodName} {bytes : ByteArray} {maxL : Nat} {ret : Option FieldType} {ws : List Jvm.Cond} {rm : Room} {as' : Array Value}
    (hpl : plainFor y = true) (hef : ∀ m, entryFrame m as' maxL = mkF m 0 Ls [])
    (body : ∀ (p : Program) (e : Env) (s : State) (m : MethodId) (below : List Frame) (meth : Method) (c : Code) (T : State), Stand p l e rm s m as' below meth c T [] 0 0 → p.tables.exec = Jvm.exec → c.code = bytes → c.maxLocals = maxL →
      s.vm.findClass y.cls = some m.cls → meth.name = y.name → meth.sig.returnType = ret → meth.locks = false → Z.Warmed39 s.vm → T.heap = h → Go p e below s Q mc ms m T 0 Ls []) :
    MetFree l y (head1 (Jvm.Cond.code y bytes maxL ret :: ws) rm) (fun a U => a = as' ∧ Z.Warmed39 U.vm ∧ U.heap = h) (fun _ _ _ _ _ => True) (fun _ U o U' => ∃ v L, o = .returned v ∧ Q v U'.heap L ∧ FrameEnd U o U' L mc ms) := by
  refine MetFree.of_bodySF hpl hisR ?_
  intro p e s m args below meth c s₁ Bd hml0 hP hK
  obtain ⟨rfl, hZ, hh⟩ := hP
  obtain ⟨s₂, o, h1, h2, h3, v, L, h4, h5, h6⟩ := body p e s m below meth c s₁ (Stand.of_body Bd) Bd.exec Bd.bytes hml0 (findClass_of_methodNamed Bd.named) (name_of_methodNamed Bd.named Bd.method).1 Bd.returns Bd.notSynchronized hZ (by rw [← hh, Bd.state]; rfl)
  exact ⟨s₂, o, castTop (hef m) h1, h2, h3, v, L, h4, h5, h6⟩
theorem g_nameI {x : Int32} (k : ∀ z : Int32, z = x → Go p e below s Q mc ms m T pc Ls (.int z :: rest)) : Go p e below s Q mc ms m T pc Ls (.int x :: rest) := k x rfl
theorem g_nameL {x : Int64} (k : ∀ z : Int64, z = x → Go p e below s Q mc ms m T pc Ls (.long z :: rest)) : Go p e below s Q mc ms m T pc Ls (.long x :: rest) := k x rfl
theorem g_iloadN (X : Stand p l e R s m args below meth c T locs cells slots) (hx : p.tables.exec = Jvm.exec) (hby : c.code = bc) {n : Fin 4} {v : Int32} (hd : decode bc pc = .ok (.iload_n n, 1)) (hp : pc + 1 = pc') (hl : Ls[n.val]? = some (.val (.int v))) (k : Go p e below s Q mc ms m T pc' Ls (.int v :: st)) : Go p e below s Q mc ms m T pc Ls st := by
  subst hp; exact Go.of (fun _ q => XS.iloadN X.here hx rfl (hb hby hd) hl q) k
theorem g_iload (X : Stand p l e R s m args below meth c T locs cells slots) (hx : p.tables.exec = Jvm.exec) (hby : c.code = bc) {n : Nat} {v : Int32} (hd : decode bc pc = .ok (.iload n, 2)) (hp : pc + 2 = pc') (hl : Ls[n]? = some (.val (.int v))) (k : Go p e below s Q mc ms m T pc' Ls (.int v :: st)) : Go p e below s Q mc ms m T pc Ls st := by
  subst hp; exact Go.of (fun _ q => XS.iload X.here hx rfl (hb hby hd) hl q) k
theorem g_istore (X : Stand p l e R s m args below meth c T locs cells slots) (hx : p.tables.exec = Jvm.exec) (hby : c.code = bc) {n : Nat} {v : Int32} {Ls' : Array Slot} (hd : decode bc pc = .ok (.istore n, 2)) (hp : pc + 2 = pc') (hl : storeLocals Ls n (.int v) = some Ls') (k : Go p e below s Q mc ms m T pc' Ls' rest) : Go p e below s Q mc ms m T pc Ls (.int v :: rest) := by
  subst hp; exact Go.of (fun _ q => XS.istore X.here hx rfl (hb hby hd) rfl hl q) k
theorem g_lloadN (X : Stand p l e R s m args below meth c T locs cells slots) (hx : p.tables.exec = Jvm.exec) (hby : c.code = bc) {n : Fin 4} {v : Int64} (hd : decode bc pc = .ok (.lload_n n, 1)) (hp : pc + 1 = pc') (hl : Ls[n.val]? = some (.val (.long v))) (k : Go p e below s Q mc ms m T pc' Ls (.long v :: st)) : Go p e below s Q mc ms m T pc Ls st := by
  subst hp; exact Go.of (fun _ q => XS.lloadN X.here hx rfl (hb hby hd) hl q) k
theorem g_lload (X : Stand p l e R s m args below meth c T locs cells slots) (hx : p.tables.exec = Jvm.exec) (hby : c.code = bc) {n : Nat} {v : Int64} (hd : decode bc pc = .ok (.lload n, 2)) (hp : pc + 2 = pc') (hl : Ls[n]? = some (.val (.long v))) (k : Go p e below s Q mc ms m T pc' Ls (.long v :: st)) : Go p e below s Q mc ms m T pc Ls st := by
  subst hp; exact Go.of (fun _ q => XS.lload X.here hx rfl (hb hby hd) hl q) k
theorem g_lstoreN (X : Stand p l e R s m args below meth c T locs cells slots) (hx : p.tables.exec = Jvm.exec) (hby : c.code = bc) {n : Fin 4} {v : Int64} {Ls' : Array Slot} (hd : decode bc pc = .ok (.lstore_n n, 1)) (hp : pc + 1 = pc') (hl : storeLocals Ls n.val (.long v) = some Ls') (k : Go p e below s Q mc ms m T pc' Ls' rest) : Go p e below s Q mc ms m T pc Ls (.long v :: rest) := by
  subst hp; exact Go.of (fun _ q => XS.lstoreN X.here hx rfl (hb hby hd) rfl hl q) k
theorem g_lstore (X : Stand p l e R s m args below meth c T locs cells slots) (hx : p.tables.exec = Jvm.exec) (hby : c.code = bc) {n : Nat} {v : Int64} {Ls' : Array Slot} (hd : decode bc pc = .ok (.lstore n, 2)) (hp : pc + 2 = pc') (hl : storeLocals Ls n (.long v) = some Ls') (k : Go p e below s Q mc ms m T pc' Ls' rest) : Go p e below s Q mc ms m T pc Ls (.long v :: rest) := by
  subst hp; exact Go.of (fun _ q => XS.lstore X.here hx rfl (hb hby hd) rfl hl q) k
theorem g_aloadN (X : Stand p l e R s m args below meth c T locs cells slots) (hx : p.tables.exec = Jvm.exec) (hby : c.code = bc) {n : Fin 4} {v : Value} (hd : decode bc pc = .ok (.aload_n n, 1)) (hp : pc + 1 = pc') (hl : Ls[n.val]? = some (.val v)) (hv : v.isRef = true) (k : Go p e below s Q mc ms m T pc' Ls (v :: st)) : Go p e below s Q mc ms m T pc Ls st := by
  subst hp; exact Go.of (fun _ q => XS.aloadN X.here hx rfl (hb hby hd) hl hv q) k
theorem g_aload (X : Stand p l e R s m args below meth c T locs cells slots) (hx : p.tables.exec = Jvm.exec) (hby : c.code = bc) {n : Nat} {v : Value} (hd : decode bc pc = .ok (.aload n, 2)) (hp : pc + 2 = pc') (hl : Ls[n]? = some (.val v)) (hv : v.isRef = true) (k : Go p e below s Q mc ms m T pc' Ls (v :: st)) : Go p e below s Q mc ms m T pc Ls st := by
  subst hp; exact Go.of (fun _ q => XS.aload X.here hx rfl (hb hby hd) hl hv q) k
theorem g_astore (X : Stand p l e R s m args below meth c T locs cells slots) (hx : p.tables.exec = Jvm.exec) (hby : c.code = bc) {n : Nat} {v : Value} {Ls' : Array Slot} (hd : decode bc pc = .ok (.astore n, 2)) (hp : pc + 2 = pc') (hv : v.isRef = true) (hl : storeLocals Ls n v = some Ls') (k : Go p e below s Q mc ms m T pc' Ls' rest) : Go p e below s Q mc ms m T pc Ls (v :: rest) := by
  subst hp; exact Go.of (fun _ q => XS.astore X.here hx rfl (hb hby hd) rfl hv hl q) k
theorem g_iconst (X : Stand p l e R s m args below meth c T locs cells slots) (hx : p.tables.exec = Jvm.exec) (hby : c.code = bc) {i : Int} {n : Int32} (hd : decode bc pc = .ok (.iconst i, 1)) (hp : pc + 1 = pc') (hn : Int32.ofInt i = n) (k : Go p e below s Q mc ms m T pc' Ls (.int n :: st)) : Go p e below s Q mc ms m T pc Ls st := by
  subst hp; exact Go.of (fun _ q => XS.iconst X.here hx rfl (hb hby hd) (by rw [hn]; exact q)) k
theorem g_bipush (X : Stand p l e R s m args below meth c T locs cells slots) (hx : p.tables.exec = Jvm.exec) (hby : c.code = bc) {i : Int} {n : Int32} (hd : decode bc pc = .ok (.bipush i, 2)) (hp : pc + 2 = pc') (hn : (Int8.ofInt i).toInt32 = n) (k : Go p e below s Q mc ms m T pc' Ls (.int n :: st)) : Go p e below s Q mc ms m T pc Ls st := by
  subst hp; exact Go.of (fun _ q => XS.bipush X.here hx rfl (hb hby hd) (by rw [hn]; exact q)) k
theorem g_lmul (X : Stand p l e R s m args below meth c T locs cells slots) (hx : p.tables.exec = Jvm.exec) (hby : c.code = bc) {x y : Int64} (hd : decode bc pc = .ok (.lmul, 1)) (hp : pc + 1 = pc')  (k : Go p e below s Q mc ms m T pc' Ls (.long (x * y) :: rest)) : Go p e below s Q mc ms m T pc Ls (.long y :: .long x :: rest) := by
  subst hp; exact Go.of (fun _ q => XS.lmul X.here hx rfl (hb hby hd) rfl q) k
theorem g_iand (X : Stand p l e R s m args below meth c T locs cells slots) (hx : p.tables.exec = Jvm.exec) (hby : c.code = bc) {x y : Int32} (hd : decode bc pc = .ok (.iand, 1)) (hp : pc + 1 = pc')  (k : Go p e below s Q mc ms m T pc' Ls (.int (x &&& y) :: rest)) : Go p e below s Q mc ms m T pc Ls (.int y :: .int x :: rest) := by
  subst hp; exact Go.of (fun _ q => XS.iand X.here hx rfl (hb hby hd) rfl q) k
theorem g_lxor (X : Stand p l e R s m args below meth c T locs cells slots) (hx : p.tables.exec = Jvm.exec) (hby : c.code = bc) {x y : Int64} (hd : decode bc pc = .ok (.lxor, 1)) (hp : pc + 1 = pc')  (k : Go p e below s Q mc ms m T pc' Ls (.long (x ^^^ y) :: rest)) : Go p e below s Q mc ms m T pc Ls (.long y :: .long x :: rest) := by
  subst hp; exact Go.of (fun _ q => XS.lxor X.here hx rfl (hb hby hd) rfl q) k
theorem g_irem (X : Stand p l e R s m args below meth c T locs cells slots) (hx : p.tables.exec = Jvm.exec) (hby : c.code = bc) {x y : Int32} (hd : decode bc pc = .ok (.irem, 1)) (hp : pc + 1 = pc') (hy : y ≠ 0) (k : Go p e below s Q mc ms m T pc' Ls (.int (x % y) :: rest)) : Go p e below s Q mc ms m T pc Ls (.int y :: .int x :: rest) := by
  subst hp; exact Go.of (fun _ q => iremM X hx rfl (hb hby hd) rfl hy q) k
theorem g_iushr (X : Stand p l e R s m args below meth c T locs cells slots) (hx : p.tables.exec = Jvm.exec) (hby : c.code = bc) {x y : Int32} (hd : decode bc pc = .ok (.iushr, 1)) (hp : pc + 1 = pc')  (k : Go p e below s Q mc ms m T pc' Ls (.int ((x.toUInt32 >>> (y &&& 31).toUInt32).toInt32) :: rest)) : Go p e below s Q mc ms m T pc Ls (.int y :: .int x :: rest) := by
  subst hp; exact Go.of (fun _ q => XS.iushr X.here hx rfl (hb hby hd) rfl q) k
theorem g_lushr (X : Stand p l e R s m args below meth c T locs cells slots) (hx : p.tables.exec = Jvm.exec) (hby : c.code = bc) {x : Int64} {y : Int32} (hd : decode bc pc = .ok (.lushr, 1)) (hp : pc + 1 = pc')  (k : Go p e below s Q mc ms m T pc' Ls (.long (XT.ushrL x y) :: rest)) : Go p e below s Q mc ms m T pc Ls (.int y :: .long x :: rest) := by
  subst hp; exact Go.of (fun _ q => XT.lushr X.here hx rfl (hb hby hd) rfl q) k
theorem g_dup (X : Stand p l e R s m args below meth c T locs cells slots) (hx : p.tables.exec = Jvm.exec) (hby : c.code = bc) {x : Value} (hd : decode bc pc = .ok (.dup, 1)) (hp : pc + 1 = pc') (hc : x.category = 1) (k : Go p e below s Q mc ms m T pc' Ls (x :: x :: rest)) : Go p e below s Q mc ms m T pc Ls (x :: rest) := by
  subst hp; exact Go.of (fun _ q => XS.dup X.here hx rfl (hb hby hd) rfl hc q) k
theorem g_iinc (X : Stand p l e R s m args below meth c T locs cells slots) (hx : p.tables.exec = Jvm.exec) (hby : c.code = bc) {n : Nat} {i : Int} {x : Int32} {Ls' : Array Slot} (hd : decode bc pc = .ok (.iinc n i, 3)) (hp : pc + 3 = pc') (hl : Ls[n]? = some (.val (.int x))) (hl' : storeLocals Ls n (.int (x + Int32.ofInt i)) = some Ls') (k : Go p e below s Q mc ms m T pc' Ls' st) : Go p e below s Q mc ms m T pc Ls st := by
  subst hp; exact Go.of (fun _ q => XS.iinc X.here hx rfl (hb hby hd) hl hl' q) k
theorem g_goto (X : Stand p l e R s m args below meth c T locs cells slots) (hx : p.tables.exec = Jvm.exec) (hby : c.code = bc) {i : Int} (hd : decode bc pc = .ok (.goto i, 3)) (ho : 0 ≤ (pc : Int) + i) (hp : ((pc : Int) + i).toNat = pc') (k : Go p e below s Q mc ms m T pc' Ls st) : Go p e below s Q mc ms m T pc Ls st := Go.of (fun _ q => XS.goto X.here hx rfl rfl (hb hby hd) ho hp q) k
theorem own_hge (x y : Int32) : if_icmp.holds .ge x y = decide (y.toInt ≤ x.toInt) := by simp [if_icmp.holds, Int32.le_iff_toInt_le]
theorem own_hgt (x y : Int32) : if_icmp.holds .gt x y = decide (y.toInt < x.toInt) := by simp [if_icmp.holds, Int32.lt_iff_toInt_lt]
theorem own_hne (x y : Int32) : if_icmp.holds .ne x y = decide (¬ x = y) := by by_cases q : x = y <;> simp [if_icmp.holds, q]
theorem g_icmp (X : Stand p l e R s m args below meth c T locs cells slots) (hx : p.tables.exec = Jvm.exec) (hby : c.code = bc) {cd : ClassFile.Cond} {i : Int} {x y : Int32} {P : Prop} [Decidable P] (hP : if_icmp.holds cd x y = decide P) (hd : decode bc pc = .ok (.if_icmp cd i, 3)) (ho : 0 ≤ (pc : Int) + i) (hp : ((pc : Int) + i).toNat = pt) (hf : pc + 3 = pf) (ky : P → Go p e below s Q mc ms m T pt Ls rest) (kn : ¬ P → Go p e below s Q mc ms m T pf Ls rest) : Go p e below s Q mc ms m T pc Ls (.int y :: .int x :: rest) := by
  subst hf
  by_cases q : P
  · exact Go.of (fun _ z => XS.icmpYes X.here hx rfl rfl (hb hby hd) rfl (by rw [hP]; exact decide_eq_true q) ho hp z) (ky q)
  · exact Go.of (fun _ z => XS.icmpNo X.here hx rfl (hb hby hd) rfl (by rw [hP]; exact decide_eq_false q) z) (kn q)
theorem g_ifc (X : Stand p l e R s m args below meth c T locs cells slots) (hx : p.tables.exec = Jvm.exec) (hby : c.code = bc) {cd : ClassFile.Cond} {i : Int} {x : Int32} {P : Prop} [Decidable P] (hP : if_icmp.holds cd x 0 = decide P) (hd : decode bc pc = .ok (.ifCond cd i, 3)) (ho : 0 ≤ (pc : Int) + i) (hp : ((pc : Int) + i).toNat = pt) (hf : pc + 3 = pf) (ky : P → Go p e below s Q mc ms m T pt Ls rest) (kn : ¬ P → Go p e below s Q mc ms m T pf Ls rest) : Go p e below s Q mc ms m T pc Ls (.int x :: rest) := by
  subst hf
  by_cases q : P
  · exact Go.of (fun _ z => XS.ifYes X.here hx rfl rfl (hb hby hd) rfl (by rw [if0, hP]; exact decide_eq_true q) ho hp z) (ky q)
  · exact Go.of (fun _ z => XS.ifNo X.here hx rfl (hb hby hd) rfl (by rw [if0, hP]; exact decide_eq_false q) z) (kn q)
theorem g_icmpge (X : Stand p l e R s m args below meth c T locs cells slots) (hx : p.tables.exec = Jvm.exec) (hby : c.code = bc) {i : Int} {x y : Int32} (hd : decode bc pc = .ok (.if_icmp .ge i, 3)) (ho : 0 ≤ (pc : Int) + i) (hp : ((pc : Int) + i).toNat = pt) (hf : pc + 3 = pf) (ky : y.toInt ≤ x.toInt → Go p e below s Q mc ms m T pt Ls rest) (kn : x.toInt < y.toInt → Go p e below s Q mc ms m T pf Ls rest) : Go p e below s Q mc ms m T pc Ls (.int y :: .int x :: rest) :=
  g_icmp X hx hby (own_hge x y) hd ho hp hf ky (fun q => kn (Int.not_le.mp q))
theorem g_icmpgt (X : Stand p l e R s m args below meth c T locs cells slots) (hx : p.tables.exec = Jvm.exec) (hby : c.code = bc) {i : Int} {x y : Int32} (hd : decode bc pc = .ok (.if_icmp .gt i, 3)) (ho : 0 ≤ (pc : Int) + i) (hp : ((pc : Int) + i).toNat = pt) (hf : pc + 3 = pf) (ky : y.toInt < x.toInt → Go p e below s Q mc ms m T pt Ls rest) (kn : x.toInt ≤ y.toInt → Go p e below s Q mc ms m T pf Ls rest) : Go p e below s Q mc ms m T pc Ls (.int y :: .int x :: rest) :=
  g_icmp X hx hby (own_hgt x y) hd ho hp hf ky (fun q => kn (Int.not_lt.mp q))
theorem g_ifne (X : Stand p l e R s m args below meth c T locs cells slots) (hx : p.tables.exec = Jvm.exec) (hby : c.code = bc) {i : Int} {x : Int32} (hd : decode bc pc = .ok (.ifCond .ne i, 3)) (ho : 0 ≤ (pc : Int) + i) (hp : ((pc : Int) + i).toNat = pt) (hf : pc + 3 = pf) (ky : ¬ x = 0 → Go p e below s Q mc ms m T pt Ls rest) (kn : x = 0 → Go p e below s Q mc ms m T pf Ls rest) : Go p e below s Q mc ms m T pc Ls (.int x :: rest) :=
  g_ifc X hx hby (own_hne x 0) hd ho hp hf ky (fun q => kn (Decidable.not_not.mp q))
theorem own_cmp (x y : Int64) : XT.cmpL x y = lcmpW x y := by simp only [XT.cmpL, lcmpW, gt_iff_lt]
theorem own_lc (x y : Int64) : ((lcmpW x y).toInt < 0 ↔ x.toInt < y.toInt) ∧ (0 < (lcmpW x y).toInt ↔ y.toInt < x.toInt) ∧ (lcmpW x y = 0 ↔ x = y) := by
  refine ⟨?_, ?_, lw_eq x y⟩
  · rw [← Int64.lt_iff_toInt_lt, ← lw_lt, Int32.lt_iff_toInt_lt]; rfl
  · rw [← Int64.lt_iff_toInt_lt, ← lw_gt, Int32.lt_iff_toInt_lt]; rfl
theorem g_lcmpne (X : Stand p l e R s m args below meth c T locs cells slots) (hx : p.tables.exec = Jvm.exec) (hby : c.code = bc) {i : Int} {x y : Int64} (hd : decode bc pc = .ok (.lcmp, 1)) (hp1 : pc + 1 = pc') (hd' : decode bc pc' = .ok (.ifCond .ne i, 3)) (ho : 0 ≤ (pc' : Int) + i) (hp : ((pc' : Int) + i).toNat = pt) (hf : pc' + 3 = pf) (ky : ¬ x = y → Go p e below s Q mc ms m T pt Ls rest) (kn : x = y → Go p e below s Q mc ms m T pf Ls rest) : Go p e below s Q mc ms m T pc Ls (.long y :: .long x :: rest) := by
  subst hp1
  refine Go.of (fun _ q => XT.lcmp X.here hx rfl (hb hby hd) rfl (by rw [own_cmp]; exact q)) (g_ifne X hx hby hd' ho hp hf (fun q => ky (fun z => q ((own_lc x y).2.2.mpr z))) (fun q => kn ((own_lc x y).2.2.mp q)))
theorem g_ret (X : Stand p l e R s m args below meth c T locs cells slots) (hx : p.tables.exec = Jvm.exec) (hby : c.code = bc) (hlk : meth.locks = false) {t : FieldType} {w : Value} {i : Instr} (hret : meth.sig.returnType = some t) (hn : narrow t w = w) (hi : (i = .ireturn ∧ (t = .int ∨ t = .boolean ∨ t = .byte ∨ t = .char ∨ t = .short) ∧ ∃ z, w = .int z) ∨ (i = .lreturn ∧ t = .long ∧ ∃ z, w = .long z) ∨ (i = .dreturn ∧ t = .double ∧ ∃ z, w = .double z) ∨ (i = .freturn ∧ t = .float ∧ ∃ z, w = .float z) ∨ (i = .areturn ∧ t.isReference = true ∧ w.isRef = true)) (hd : decode bc pc = .ok (i, 1)) (hc : cells ≤ mc) (hs : slots ≤ ms) (hq : Q (some w) T.heap locs) : Go p e below s Q mc ms m T pc Ls (w :: rest) := by
  obtain ⟨fs, hr, hrun, hended, hW, hsame⟩ := X.leave (v := some w) (fun h => by rw [hret] at h; cases h) hlk
  exact ⟨_, _, retOut X hx hret hn hi (hb hby hd) hr, hrun, hended, _, _, rfl, hq, ⟨_, rfl⟩, hW, hsame.mono hc hs⟩
theorem g_retL (X : Stand p l e R s m args below meth c T locs cells slots) (hx : p.tables.exec = Jvm.exec) (hby : c.code = bc) (hlk : meth.locks = false) {z : Int64} (hret : meth.sig.returnType = some .long) (hd : decode bc pc = .ok (.lreturn, 1)) (hc : cells ≤ mc) (hs : slots ≤ ms) (hq : Q (some (.long z)) T.heap locs) : Go p e below s Q mc ms m T pc Ls (.long z :: rest) := g_ret X hx hby hlk hret rfl (Or.inr (Or.inl ⟨rfl, rfl, _, rfl⟩)) hd hc hs hq
theorem g_retZ (X : Stand p l e R s m args below meth c T locs cells slots) (hx : p.tables.exec = Jvm.exec) (hby : c.code = bc) (hlk : meth.locks = false) {z : Int32} (hz : z = 0 ∨ z = 1) (hret : meth.sig.returnType = some .boolean) (hd : decode bc pc = .ok (.ireturn, 1)) (hc : cells ≤ mc) (hs : slots ≤ ms) (hq : Q (some (.int z)) T.heap locs) : Go p e below s Q mc ms m T pc Ls (.int z :: rest) := g_ret X hx hby hlk hret (by rcases hz with rfl | rfl <;> rfl) (Or.inl ⟨rfl, Or.inr (Or.inl rfl), _, rfl⟩) hd hc hs hq
theorem g_ldcL (X : Stand p l e R s m args below meth c T locs cells slots) (hx : p.tables.exec = Jvm.exec) (hby : c.code = bc) (hZ : Z.Warmed39 s.vm) {own : String} (hown : s.vm.findClass own = some m.cls) {n : Nat} {v : Int64} (w : (Jvm.Cond.constantLong own n v).before a0 Z = true) (hd : decode bc pc = .ok (.ldc2_w n, 3)) (hp : pc + 3 = pc') (k : Go p e below s Q mc ms m T pc' Ls (.long v :: st)) : Go p e below s Q mc ms m T pc Ls st := by
  subst hp; exact Go.of (X.ldc2Long hx hown (mvT hZ w) (g := mkF m pc Ls st) rfl (hb hby hd)) k
theorem g_newP (X : Stand p l e R s m args below meth c T locs cells slots) (hx : p.tables.exec = Jvm.exec) (hby : c.code = bc) (hZ : Z.Warmed39 s.vm) (eT : T.heap = h) {aty : ArrayType} {n : Int32} (w : (Jvm.Cond.arrayClass (newarray.typeOf aty)).before a0 Z = true) (hd : decode bc pc = .ok (.newarray aty, 2)) (hp : pc + 2 = pc') (hn : ¬ n < 0) {cap : Nat} (hcap : n.toNatClampNeg ≤ cap) (hbig : cap * 8 ≤ 536870912) (hc : cells + 1 ≤ R.cells) (hl : slots + cap ≤ R.slots) (k : ∀ T' h' b cA, b = h.size → Stand p l e R s m args below meth c T' locs (cells + 1) (slots + cap) → T'.heap = h' → Ext h h' → Arv Z h' b cA (newarray.typeOf aty) n [] (defaultValue (newarray.typeOf aty)) → Go p e below s Q mc ms m T' pc' Ls (.ref b :: rest)) : Go p e below s Q mc ms m T pc Ls (.int n :: rest) := by
  subst hp
  obtain ⟨T', h', cA, X', e', E', A', st'⟩ := newP X hx hZ w eT (g := mkF m pc Ls (.int n :: rest)) rfl (hb hby hd) rfl hn hcap hbig hc hl
  exact Go.of st' (k T' h' _ cA rfl X' e' E' (Arv.new A' hn))
theorem g_lastore (X : Stand p l e R s m args below meth c T locs cells slots) (hx : p.tables.exec = Jvm.exec) (hby : c.code = bc) (hZ : Z.Warmed39 s.vm) (eT : T.heap = h) {a : Addr} {cl : Cell} (A : Arr Z h a cl .long) {j : Int32} {x : Int64} (hj : ¬ (j < 0 ∨ cl.slots.size ≤ j.toNatClampNeg)) (hd : decode bc pc = .ok (.lastore, 1)) (hp : pc + 1 = pc') (k : ∀ T' h', Stand p l e R s m args below meth c T' (locs ++ [⟨a, j.toNatClampNeg⟩]) cells slots → T'.heap = h' → Wr h h' a j.toNatClampNeg (.long x) → Go p e below s Q mc ms m T' pc' Ls rest) : Go p e below s Q mc ms m T pc Ls (.long x :: .int j :: .ref a :: rest) := by
  subst hp
  obtain ⟨T', h', X', e', W', st'⟩ := stJ X hx hZ eT A (j := j) hj (g := mkF m pc Ls (.long x :: .int j :: .ref a :: rest)) rfl rfl (hb hby hd)
  exact Go.of st' (k T' h' X' e' W')
theorem g_laload (X : Stand p l e R s m args below meth c T locs cells slots) (hx : p.tables.exec = Jvm.exec) (hby : c.code = bc) (hZ : Z.Warmed39 s.vm) (eT : T.heap = h) {a : Addr} {cl : Cell} (A : Arr Z h a cl .long) {j : Int32} {v : Value} (hj : ¬ (j < 0 ∨ cl.slots.size ≤ j.toNatClampNeg)) (hv : cl.slots[j.toNatClampNeg]? = some v) (hd : decode bc pc = .ok (.laload, 1)) (hp : pc + 1 = pc') (k : Go p e below s Q mc ms m T pc' Ls (v :: rest)) : Go p e below s Q mc ms m T pc Ls (.int j :: .ref a :: rest) := by
  subst hp
  exact Go.of (fun _ q => X.laload hx (j := j) (v := v) (by rw [eT]; exact A.1) (State.isArrayOf_alike hZ.alike A.2.1) A.2.2 hj hv (g := mkF m pc Ls (.int j :: .ref a :: rest)) rfl rfl (hb hby hd) _ q) k
/-- in heap h the array at a (of kind ty) has n places; place j holds f j -/
def Ara (Z : State) (h : Heap) (a : Addr) (ty : FieldType) (n : Nat) (f : Nat → Value) : Prop := ∃ cl : Cell, Arr Z h a cl ty ∧ cl.slots.size = n ∧ n < 2147483648 ∧ ∀ j, j < n → cl.slots[j]? = some (f j)
def own_up (f : Nat → Value) (k : Nat) (v : Value) : Nat → Value := fun j => if j = k then v else f j
theorem own_up_self (f : Nat → Value) (k : Nat) (v : Value) : own_up f k v k = v := if_pos rfl
theorem own_up_ne (f : Nat → Value) {k j : Nat} (v : Value) (q : j ≠ k) : own_up f k v j = f j := if_neg q
theorem Ara.set {h h' : Heap} {a : Addr} {ty : FieldType} {n k : Nat} {f : Nat → Value} {v : Value} (V : Ara Z h a ty n f) (W : Wr h h' a k v) : Ara Z h' a ty n (own_up f k v) := by
  obtain ⟨c, A, hs, hn, hf⟩ := V
  refine ⟨_, A.same W, by rw [sz_set]; exact hs, hn, fun j hj => ?_⟩
  by_cases q : k = j
  · subst q; rw [own_up_self]; simp [Cell.setSlot, hs, hj]
  · rw [own_up_ne f v (Ne.symm q), ← hf j hj]; exact Array.getElem?_setIfInBounds_ne q
theorem Ara.eq {h : Heap} {a : Addr} {ty : FieldType} {n : Nat} {f f' : Nat → Value} (V : Ara Z h a ty n f) (q : ∀ j, j < n → f j = f' j) : Ara Z h a ty n f' := by obtain ⟨c, A, hs, hn, hf⟩ := V; exact ⟨c, A, hs, hn, fun j hj => by rw [← q j hj]; exact hf j hj⟩
def own_ul (g : Nat → Int64) (k : Nat) (x : Int64) : Nat → Int64 := fun j => if j = k then x else g j
theorem Ara.setL {h h' : Heap} {a : Addr} {ty : FieldType} {n k : Nat} {g : Nat → Int64} {x : Int64} (V : Ara Z h a ty n (fun j => .long (g j))) (W : Wr h h' a k (.long x)) : Ara Z h' a ty n (fun j => .long (own_ul g k x j)) := (V.set W).eq fun j _ => by
  by_cases q : j = k <;> simp [own_up, own_ul, q]
theorem own_in {cl : Cell} {j : Int32} {n : Nat} (hs : cl.slots.size = n) (h0 : 0 ≤ j.toInt) (h1 : j.toInt < n) : ¬ (j < 0 ∨ cl.slots.size ≤ j.toNatClampNeg) := by
  rw [Int32.lt_iff_toInt_lt, hs]
  show ¬ (j.toInt < 0 ∨ n ≤ j.toInt.toNat)
  omega
theorem g_newA (X : Stand p l e R s m args below meth c T locs cells slots) (hx : p.tables.exec = Jvm.exec) (hby : c.code = bc) (hZ : Z.Warmed39 s.vm) (eT : T.heap = h) {aty : ArrayType} {n : Int32} {N : Nat} (w : (Jvm.Cond.arrayClass (newarray.typeOf aty)).before a0 Z = true) (hd : decode bc pc = .ok (.newarray aty, 2)) (hp : pc + 2 = pc') (hn : n.toInt = N) {cap : Nat} (hcap : N ≤ cap) (hbig : cap * 8 ≤ 536870912) (hc : cells + 1 ≤ R.cells) (hl : slots + cap ≤ R.slots) (k : ∀ T' h' b, b = h.size → Stand p l e R s m args below meth c T' locs (cells + 1) (slots + cap) → T'.heap = h' → Ext h h' → Ara Z h' b (newarray.typeOf aty) N (fun _ => defaultValue (newarray.typeOf aty)) → Go p e below s Q mc ms m T' pc' Ls (.ref b :: rest)) : Go p e below s Q mc ms m T pc Ls (.int n :: rest) := by
  have h1 : n.toNatClampNeg = N := by show n.toInt.toNat = N; omega
  have h2 : ¬ n < 0 := by rw [Int32.lt_iff_toInt_lt]; show ¬ n.toInt < 0; omega
  have h3 := rng32 n
  refine g_newP X hx hby hZ eT w hd hp h2 (cap := cap) (by omega) hbig hc hl (fun T' h' b cA hb' X' e' E' V => k T' h' b hb' X' e' E' ?_)
  obtain ⟨cl, A, -, hs, -, hH, -⟩ := V
  exact ⟨cl, A, by rw [hs, h1], by omega, fun j hj => by rw [hH j (by rw [hs, h1]; exact hj)]; simp⟩
theorem a_lastore (X : Stand p l e R s m args below meth c T locs cells slots) (hx : p.tables.exec = Jvm.exec) (hby : c.code = bc) (hZ : Z.Warmed39 s.vm) (eT : T.heap = h) {a : Addr} {n : Nat} {f : Nat → Value} (A : Ara Z h a .long n f) {j : Int32} {x : Int64} (h0 : 0 ≤ j.toInt) (h1 : j.toInt < n) (hd : decode bc pc = .ok (.lastore, 1)) (hp : pc + 1 = pc') (k : ∀ T' h', Stand p l e R s m args below meth c T' (locs ++ [⟨a, j.toInt.toNat⟩]) cells slots → T'.heap = h' → Wr h h' a j.toInt.toNat (.long x) → Go p e below s Q mc ms m T' pc' Ls rest) : Go p e below s Q mc ms m T pc Ls (.long x :: .int j :: .ref a :: rest) := by
  obtain ⟨cl, A, hs, hn, hf⟩ := A
  exact g_lastore X hx hby hZ eT A (own_in hs h0 h1) hd hp k
theorem a_laload (X : Stand p l e R s m args below meth c T locs cells slots) (hx : p.tables.exec = Jvm.exec) (hby : c.code = bc) (hZ : Z.Warmed39 s.vm) (eT : T.heap = h) {a : Addr} {n : Nat} {f : Nat → Value} (A : Ara Z h a .long n f) {j : Int32} {v : Value} (h0 : 0 ≤ j.toInt) (h1 : j.toInt < n) (hv : f j.toInt.toNat = v) (hd : decode bc pc = .ok (.laload, 1)) (hp : pc + 1 = pc') (k : Go p e below s Q mc ms m T pc' Ls (v :: rest)) : Go p e below s Q mc ms m T pc Ls (.int j :: .ref a :: rest) := by
  obtain ⟨cl, A, hs, hn, hf⟩ := A
  exact g_laload X hx hby hZ eT A (own_in hs h0 h1) (by show cl.slots[j.toInt.toNat]? = some v; rw [hf _ (by omega), hv]) hd hp k
theorem g_static (X : Stand p l e R s m args below meth c T locs cells slots) (hx : p.tables.exec = Jvm.exec) (hby : c.code = bc) (hZ : Z.Warmed39 s.vm) {own : String} (hown : s.vm.findClass own = some m.cls) {i ML : Nat} {y : MethodName} {bytes : ByteArray} {maxL : Nat} {ret : Option FieldType} {rm : Room} {as' : Array Value} {QC : Option Value → Heap → List Loc → Prop} (hml : c.maxLocals = ML) (hls : Ls.size = ML) (w1 : (Jvm.Cond.methodLink own i y).before a0 Z = true) (w2 : (Jvm.Cond.static y).before a0 Z = true) (w3 : (Jvm.Cond.initialized y.cls).before a0 Z = true) (w4 : (Jvm.Cond.code y bytes maxL ret).before a0 Z = true) (hy : y.cls ≠ "java/lang/invoke/MethodHandle" ∧ y.cls ≠ "java/lang/invoke/VarHandle") (eT : T.heap = h) (M : Ct l Z y bytes maxL ret rm as' h QC) {ps : List FieldType} {r : Option FieldType} (pd : parseMethodDescriptor y.desc = some ⟨ps, r⟩) {argsL : List Value} (hl : argsL.length = ps.length) (has : argsL.toArray = as') (hst : st = argsL.reverse ++ rest) (hd : decode bc pc = .ok (.invokestatic i, 3)) (hp : pc + 3 = pc') (hf : rm.frames + 1 ≤ R.frames) (hlo : (rest.map fun v => v.category).sum + (maxL + 11) + rm.locals ≤ R.locals) (hc : cells + rm.cells ≤ R.cells) (hs : slots + rm.slots ≤ R.slots)
    (k : ∀ (T' : State) (v : Option Value) (L : List Loc), Stand p l e R s m args below meth c T' (locs ++ L) (cells + rm.cells) (slots + rm.slots) → QC v T'.heap L → Go p e below s Q mc ms m T' pc' Ls (v.toList ++ rest)) : Go p e below s Q mc ms m T pc Ls st := by
  subst hp has hst
  obtain ⟨v, vm₁, ⟨U, L', c', s'⟩, -, X', ⟨L, hQ, l1, l2, l3⟩, st⟩ := Jvm.LawKit.callS X hx (y := y) hown (mvT hZ w1) (mvT hZ w2) (mvT hZ w3) (mvT hZ w4) hy (backOf (W := (rest.map fun v => v.category).sum) M hZ w4 w3 hf hlo) (g := mkF m pc Ls (argsL.reverse ++ rest)) rfl (by rw [hml]; exact hls) (argsL := argsL) (rest := rest) (lenOf pd hl) rfl (by show 2 * 0 + _ ≤ _; omega) (hb hby hd) (fun _ _ => ⟨rfl, eT, hc, hs⟩)
  dsimp only at X' l1 l2 l3 st hQ
  subst l1 l2 l3
  exact Go.of st (k _ _ _ X' hQ)
end OwnKit
section OwnLib
/-- b is 1 where P holds, 0 where it doesn't -/
def own_bool (b : Int32) (P : Prop) : Prop := (b = 1 ∧ P) ∨ (b = 0 ∧ ¬ P)
theorem own_bool_01 {b : Int32} {P : Prop} (h : own_bool b P) : b = 0 ∨ b = 1 := h.elim (fun q => Or.inr q.1) (fun q => Or.inl q.1)
theorem own_bool_iff {b : Int32} {P : Prop} (h : own_bool b P) : b = 1 ↔ P := h.elim (fun q => ⟨fun _ => q.2, fun _ => q.1⟩) (fun q => ⟨fun z => absurd (q.1.symm.trans z) (by decide), fun z => absurd z q.2⟩)
theorem own_bool_zero {b : Int32} {P : Prop} (h : own_bool b P) : b = 0 ↔ ¬ P := h.elim (fun q => ⟨fun z => absurd (q.1.symm.trans z) (by decide), fun z => absurd q.2 z⟩) (fun q => ⟨fun _ => q.2, fun _ => q.1⟩)
theorem own_bool_eq {a b : Int32} {P P' : Prop} (h : own_bool a P) (h' : own_bool b P') (i : P ↔ P') : a = b := by
  rcases h with ⟨rfl, q⟩ | ⟨rfl, q⟩ <;> rcases h' with ⟨rfl, q'⟩ | ⟨rfl, q'⟩ <;> first | rfl | exact absurd (i.mp q) q' | exact absurd (i.mpr q') q
theorem own_inc (i : Int32) (h : i.toInt < 2147483647) : (i + 1).toInt = i.toInt + 1 := by
  have a := c_iadd i 1
  have e : (1 : Int32).toInt = 1 := rfl
  rw [e] at a
  have b := rng32 i
  have b' := rng32 (i + 1)
  omega
theorem own_dec (i : Int32) (h : -2147483648 < i.toInt) : (i - 1).toInt = i.toInt - 1 := by
  have a := c_isub i 1
  have e : (1 : Int32).toInt = 1 := rfl
  rw [e] at a
  have b := rng32 i
  have b' := rng32 (i - 1)
  omega
theorem own_add (x y : Int32) (h1 : -2147483648 ≤ x.toInt + y.toInt) (h2 : x.toInt + y.toInt < 2147483648) : (x + y).toInt = x.toInt + y.toInt := by
  have a := c_iadd x y
  have b := rng32 (x + y)
  omega
theorem own_sub (x y : Int32) (h1 : -2147483648 ≤ x.toInt - y.toInt) (h2 : x.toInt - y.toInt < 2147483648) : (x - y).toInt = x.toInt - y.toInt := by
  have a := c_isub x y
  have b := rng32 (x - y)
  omega
/-- (u & 0x7fffffff) % n lies from 0 up to n - 1 -/
theorem own_modr (u n : Int32) (hn : 0 < n.toInt) : 0 ≤ ((u &&& 2147483647) % n).toInt ∧ ((u &&& 2147483647) % n).toInt < n.toInt := by
  have a1 := c_mask u 2147483647 31 (by decide) (by decide)
  have a2 := (c_iremV (u &&& 2147483647) n).1 (by omega) hn
  omega
def QI (h0 : Heap) (P : Int32 → Prop) : Option Value → Heap → List Loc → Prop := fun v h L => (∃ r, v = some (.int r) ∧ P r) ∧ h = h0 ∧ L = []
def QL (h0 : Heap) (P : Int64 → Prop) : Option Value → Heap → List Loc → Prop := fun v h L => (∃ r, v = some (.long r) ∧ P r) ∧ h = h0 ∧ L = []
def QV (h0 : Heap) : Option Value → Heap → List Loc → Prop := fun v h L => v = none ∧ h = h0 ∧ L = []
/-- what the law leaves -/
def Q0 (n0 : Nat) : Option Value → Heap → List Loc → Prop := fun v h L => v = some (.int 1) ∧ Fr n0 L
end OwnLib
def own_mix (a : Int64) : Int64 :=
  let b := (a ^^^ XT.ushrL a 30) * (-4658895280553007687 : Int64)
  let d := (b ^^^ XT.ushrL b 27) * (-7723592293110705685 : Int64)
  d ^^^ XT.ushrL d 31
def own_of (g : Nat → Int64) : Int64 → Nat → Nat → Int64
  | q, _, 0 => q
  | q, i, k + 1 => own_of g (own_mix (q ^^^ g i)) (i + 1) k
def own_st (q v : Int64) (i fr tt : Int32) : Int64 := if fr.toInt ≤ i.toInt ∧ i.toInt < tt.toInt then own_mix (q ^^^ v) else q
theorem own_5 (u f : Int32) (h : f = (u &&& (7 : Int32)) % (5 : Int32)) : 0 ≤ f.toInt ∧ f.toInt ≤ 4 := by
  have a1 := c_mask u 7 3 (by decide) (by decide)
  have a2 := (c_irem (u &&& 7) 5 5 rfl).1
  rw [← h] at a2; omega
theorem own_chain (a b d q sd : Int64) (f t : Int32) (hf : 0 ≤ f.toInt ∧ f.toInt ≤ 4) (ht : 0 ≤ t.toInt ∧ t.toInt ≤ 4) :
    own_of (own_ul (own_ul (own_ul (own_ul (fun _ => (0 : Int64)) 0 a) 1 b) 2 d) 3 q) sd f.toInt.toNat (t.toInt - f.toInt).toNat = own_st (own_st (own_st (own_st sd a 0 f t) b 1 f t) d 2 f t) q 3 f t := by
  have z0 : (0 : Int32).toInt = 0 := rfl
  have z1 : (1 : Int32).toInt = 1 := rfl
  have z2 : (2 : Int32).toInt = 2 := rfl
  have z3 : (3 : Int32).toInt = 3 := rfl
  unfold own_st
  rw [z0, z1, z2, z3]
  generalize f.toInt = x at *
  generalize t.toInt = y at *
  have h1 : x = 0 ∨ x = 1 ∨ x = 2 ∨ x = 3 ∨ x = 4 := by omega
  have h2 : y = 0 ∨ y = 1 ∨ y = 2 ∨ y = 3 ∨ y = 4 := by omega
  rcases h1 with rfl | rfl | rfl | rfl | rfl <;> rcases h2 with rfl | rfl | rfl | rfl | rfl <;> rfl
theorem ef_3 (m : MethodId) (u : Int64) : entryFrame m #[(.long u)] 4 = mkF m 0 #[.val (.long u), .second, .unset, .unset] [] := by first | (simp [entryFrame, mkF, argsToLocals, Value.category]; done) | rfl
theorem pn_3 : plainName "com/example/turnstone/turnstone/sketch/Hashes" = true := by first | (simp [plainName, overriddenIn]; done) | decide +kernel
theorem d3_0 : decode prog_17_method_2_code 0 = .ok (.lload_n 0, 1) := by decide +kernel
theorem d3_1 : decode prog_17_method_2_code 1 = .ok (.lstore_n 2, 1) := by decide +kernel
theorem d3_2 : decode prog_17_method_2_code 2 = .ok (.lload_n 2, 1) := by decide +kernel
theorem d3_3 : decode prog_17_method_2_code 3 = .ok (.lload_n 2, 1) := by decide +kernel
theorem d3_4 : decode prog_17_method_2_code 4 = .ok (.bipush 30, 2) := by decide +kernel
theorem d3_6 : decode prog_17_method_2_code 6 = .ok (.lushr, 1) := by decide +kernel
theorem d3_7 : decode prog_17_method_2_code 7 = .ok (.lxor, 1) := by decide +kernel
theorem d3_8 : decode prog_17_method_2_code 8 = .ok (.ldc2_w 7, 3) := by decide +kernel
theorem d3_11 : decode prog_17_method_2_code 11 = .ok (.lmul, 1) := by decide +kernel
theorem d3_12 : decode prog_17_method_2_code 12 = .ok (.lstore_n 2, 1) := by decide +kernel
theorem d3_13 : decode prog_17_method_2_code 13 = .ok (.lload_n 2, 1) := by decide +kernel
theorem d3_14 : decode prog_17_method_2_code 14 = .ok (.lload_n 2, 1) := by decide +kernel
theorem d3_15 : decode prog_17_method_2_code 15 = .ok (.bipush 27, 2) := by decide +kernel
theorem d3_17 : decode prog_17_method_2_code 17 = .ok (.lushr, 1) := by decide +kernel
theorem d3_18 : decode prog_17_method_2_code 18 = .ok (.lxor, 1) := by decide +kernel
theorem d3_19 : decode prog_17_method_2_code 19 = .ok (.ldc2_w 9, 3) := by decide +kernel
theorem d3_22 : decode prog_17_method_2_code 22 = .ok (.lmul, 1) := by decide +kernel
theorem d3_23 : decode prog_17_method_2_code 23 = .ok (.lstore_n 2, 1) := by decide +kernel
theorem d3_24 : decode prog_17_method_2_code 24 = .ok (.lload_n 2, 1) := by decide +kernel
theorem d3_25 : decode prog_17_method_2_code 25 = .ok (.lload_n 2, 1) := by decide +kernel
theorem d3_26 : decode prog_17_method_2_code 26 = .ok (.bipush 31, 2) := by decide +kernel
theorem d3_28 : decode prog_17_method_2_code 28 = .ok (.lushr, 1) := by decide +kernel
theorem d3_29 : decode prog_17_method_2_code 29 = .ok (.lxor, 1) := by decide +kernel
theorem d3_30 : decode prog_17_method_2_code 30 = .ok (.lreturn, 1) := by decide +kernel
set_option maxRecDepth 65536 in
set_option maxHeartbeats 40000000 in
theorem rm3 (l : Launch) (Z : State) (a0 : Array Value) (hw : ∀ d ∈ tables_1, d.before a0 Z = true) (u : Int64) (h0 : Heap)  :
    Ct l Z (⟨"com/example/turnstone/turnstone/sketch/Hashes", "mix", "(J)J"⟩ : MethodName) prog_17_method_2_code 4 (some .long) ({ frames := 0, cells := 0, slots := 0, locals := 0 } : Room) #[(.long u)] h0 (QL h0 (fun r => r = own_mix u)) := by
  refine own_met (plainFor_of_name pn_3) (fun m => ef_3 m u) ?_
  intro p e s m below meth c T0 X0 hx hby hml hown hnm hret hlk hZ e0
  refine g_lloadN X0 hx hby d3_0 (pc' := 1) rfl rfl ?_
  refine g_lstoreN X0 hx hby d3_1 (pc' := 2) rfl (Ls' := #[.val (.long u), .second, .val (.long u), .second]) rfl ?_
  refine g_lloadN X0 hx hby d3_2 (pc' := 3) rfl rfl ?_
  refine g_lloadN X0 hx hby d3_3 (pc' := 4) rfl rfl ?_
  refine g_bipush X0 hx hby d3_4 (pc' := 6) rfl (n := (30 : Int32)) (by first | rfl | decide) ?_
  refine g_lushr X0 hx hby d3_6 (pc' := 7) rfl ?_
  refine g_lxor X0 hx hby d3_7 (pc' := 8) rfl ?_
  refine g_ldcL X0 hx hby hZ hown (hw _ (List.mem_of_getElem? (i := 12) rfl)) d3_8 (pc' := 11) rfl ?_
  refine g_lmul X0 hx hby d3_11 (pc' := 12) rfl ?_
  refine g_nameL (fun z1 h_z1 => ?_)
  refine g_lstoreN X0 hx hby d3_12 (pc' := 13) rfl (Ls' := #[.val (.long u), .second, .val (.long z1), .second]) rfl ?_
  refine g_lloadN X0 hx hby d3_13 (pc' := 14) rfl rfl ?_
  refine g_lloadN X0 hx hby d3_14 (pc' := 15) rfl rfl ?_
  refine g_bipush X0 hx hby d3_15 (pc' := 17) rfl (n := (27 : Int32)) (by first | rfl | decide) ?_
  refine g_lushr X0 hx hby d3_17 (pc' := 18) rfl ?_
  refine g_lxor X0 hx hby d3_18 (pc' := 19) rfl ?_
  refine g_ldcL X0 hx hby hZ hown (hw _ (List.mem_of_getElem? (i := 13) rfl)) d3_19 (pc' := 22) rfl ?_
  refine g_lmul X0 hx hby d3_22 (pc' := 23) rfl ?_
  refine g_nameL (fun z2 h_z2 => ?_)
  refine g_lstoreN X0 hx hby d3_23 (pc' := 24) rfl (Ls' := #[.val (.long u), .second, .val (.long z2), .second]) rfl ?_
  refine g_lloadN X0 hx hby d3_24 (pc' := 25) rfl rfl ?_
  refine g_lloadN X0 hx hby d3_25 (pc' := 26) rfl rfl ?_
  refine g_bipush X0 hx hby d3_26 (pc' := 28) rfl (n := (31 : Int32)) (by first | rfl | decide) ?_
  refine g_lushr X0 hx hby d3_28 (pc' := 29) rfl ?_
  refine g_lxor X0 hx hby d3_29 (pc' := 30) rfl ?_
  exact g_retL X0 hx hby hlk hret d3_30 (by decide) (by decide) (⟨⟨_, rfl, by subst h_z2; subst h_z1; rfl⟩, e0, rfl⟩)
theorem ef_1 (m : MethodId) (sd : Int64) (a : Addr) (fr : Int32) (tt : Int32) : entryFrame m #[(.long sd), (.ref a), (.int fr), (.int tt)] 8 = mkF m 0 #[.val (.long sd), .second, .val (.ref a), .val (.int fr), .val (.int tt), .unset, .unset, .unset] [] := by first | (simp [entryFrame, mkF, argsToLocals, Value.category]; done) | rfl
theorem pn_1 : plainName "com/example/turnstone/turnstone/sketch/Hashes" = true := by first | (simp [plainName, overriddenIn]; done) | decide +kernel
theorem d1_0 : decode prog_17_method_6_code 0 = .ok (.lload_n 0, 1) := by decide +kernel
theorem d1_1 : decode prog_17_method_6_code 1 = .ok (.lstore 5, 2) := by decide +kernel
theorem d1_3 : decode prog_17_method_6_code 3 = .ok (.iload_n 3, 1) := by decide +kernel
theorem d1_4 : decode prog_17_method_6_code 4 = .ok (.istore 7, 2) := by decide +kernel
theorem d1_6 : decode prog_17_method_6_code 6 = .ok (.iload 7, 2) := by decide +kernel
theorem d1_8 : decode prog_17_method_6_code 8 = .ok (.iload 4, 2) := by decide +kernel
theorem d1_10 : decode prog_17_method_6_code 10 = .ok (.if_icmp .ge 21, 3) := by decide +kernel
theorem d1_31 : decode prog_17_method_6_code 31 = .ok (.lload 5, 2) := by decide +kernel
theorem d1_33 : decode prog_17_method_6_code 33 = .ok (.lreturn, 1) := by decide +kernel
theorem d1_13 : decode prog_17_method_6_code 13 = .ok (.lload 5, 2) := by decide +kernel
theorem d1_15 : decode prog_17_method_6_code 15 = .ok (.aload_n 2, 1) := by decide +kernel
theorem d1_16 : decode prog_17_method_6_code 16 = .ok (.iload 7, 2) := by decide +kernel
theorem d1_18 : decode prog_17_method_6_code 18 = .ok (.laload, 1) := by decide +kernel
theorem d1_19 : decode prog_17_method_6_code 19 = .ok (.lxor, 1) := by decide +kernel
theorem d1_20 : decode prog_17_method_6_code 20 = .ok (.invokestatic 15, 3) := by decide +kernel
theorem pd__J_J_229 : parseMethodDescriptor "(J)J" = some ⟨[.long], some .long⟩ := by decide +kernel
theorem d1_23 : decode prog_17_method_6_code 23 = .ok (.lstore 5, 2) := by decide +kernel
theorem d1_25 : decode prog_17_method_6_code 25 = .ok (.iinc 7 1, 3) := by decide +kernel
theorem d1_28 : decode prog_17_method_6_code 28 = .ok (.goto (-22), 3) := by decide +kernel
set_option maxRecDepth 65536 in
set_option maxHeartbeats 40000000 in
theorem rm1 (l : Launch) (Z : State) (a0 : Array Value) (hw : ∀ d ∈ tables_1, d.before a0 Z = true) (sd : Int64) (a : Addr) (fr : Int32) (tt : Int32) (g : Nat → Int64) (h0 : Heap) (A_a : Ara Z h0 a .long 4 (fun k => .long (g k))) (hfr : 0 ≤ fr.toInt ∧ fr.toInt ≤ 4) (htt : 0 ≤ tt.toInt ∧ tt.toInt ≤ 4) :
    Ct l Z (⟨"com/example/turnstone/turnstone/sketch/Hashes", "ofValues", "(J[JII)J"⟩ : MethodName) prog_17_method_6_code 8 (some .long) ({ frames := 1, cells := 0, slots := 0, locals := 15 } : Room) #[(.long sd), (.ref a), (.int fr), (.int tt)] h0 (QL h0 (fun r => r = own_of g sd fr.toInt.toNat (tt.toInt - fr.toInt).toNat)) := by
  refine own_met (plainFor_of_name pn_1) (fun m => ef_1 m sd a fr tt) ?_
  intro p e s m below meth c T0 X0 hx hby hml hown hnm hret hlk hZ e0
  refine g_lloadN X0 hx hby d1_0 (pc' := 1) rfl rfl ?_
  refine g_lstore X0 hx hby d1_1 (pc' := 3) rfl (Ls' := #[.val (.long sd), .second, .val (.ref a), .val (.int fr), .val (.int tt), .val (.long sd), .second, .unset]) rfl ?_
  refine g_iloadN X0 hx hby d1_3 (pc' := 4) rfl rfl ?_
  refine g_istore X0 hx hby d1_4 (pc' := 6) rfl (Ls' := #[.val (.long sd), .second, .val (.ref a), .val (.int fr), .val (.int tt), .val (.long sd), .second, .val (.int fr)]) rfl ?_
  suffices J6_1 : ∀ (nn : Nat) (T2 : State) (X2 : Stand p l e ({ frames := 1, cells := 0, slots := 0, locals := 15 } : Room) s m #[(.long sd), (.ref a), (.int fr), (.int tt)] below meth c T2 [] 0 0) (e2 : T2.heap = h0) (q : Int64) (i : Int32) (hi : fr.toInt ≤ i.toInt ∧ (i.toInt ≤ tt.toInt ∨ i.toInt = fr.toInt)) (hf : own_of g q i.toInt.toNat (tt.toInt - i.toInt).toNat = own_of g sd fr.toInt.toNat (tt.toInt - fr.toInt).toNat) (hnn : (tt.toInt - i.toInt).toNat = nn), Go p e below s (QL h0 (fun r => r = own_of g sd fr.toInt.toNat (tt.toInt - fr.toInt).toNat)) ({ frames := 1, cells := 0, slots := 0, locals := 15 } : Room).cells ({ frames := 1, cells := 0, slots := 0, locals := 15 } : Room).slots m T2 6 #[.val (.long sd), .second, .val (.ref a), .val (.int fr), .val (.int tt), .val (.long q), .second, .val (.int i)] [] by
    skip
    exact J6_1 _ _ X0 e0 sd fr (by omega) rfl rfl
  intro nn
  induction nn using Nat.strongRecOn with
  | _ nn ih =>
    intro T2 X2 e2 q i hi hf hnn
    refine g_iload X2 hx hby d1_6 (pc' := 8) rfl rfl ?_
    refine g_iload X2 hx hby d1_8 (pc' := 10) rfl rfl ?_
    refine g_icmpge X2 hx hby d1_10 (pt := 31) (pf := 13) (by decide) (by decide) rfl (fun (h10 : tt.toInt ≤ i.toInt) => ?_) (fun (h10 : i.toInt < tt.toInt) => ?_)
    · refine g_lload X2 hx hby d1_31 (pc' := 33) rfl rfl ?_
      exact g_retL X2 hx hby hlk hret d1_33 (by decide) (by decide) (⟨⟨_, rfl, by rw [← hf, show (tt.toInt - i.toInt).toNat = 0 by omega]; rfl⟩, e2, rfl⟩)
    · refine g_lload X2 hx hby d1_13 (pc' := 15) rfl rfl ?_
      refine g_aloadN X2 hx hby d1_15 (pc' := 16) rfl rfl rfl ?_
      refine g_iload X2 hx hby d1_16 (pc' := 18) rfl rfl ?_
      refine a_laload X2 hx hby hZ e2 A_a (by omega) (by omega) (v := (.long (g i.toInt.toNat))) (rfl) d1_18 (pc' := 19) rfl ?_
      refine g_lxor X2 hx hby d1_19 (pc' := 20) rfl ?_
      refine g_static X2 hx hby hZ hown hml rfl (hw _ (List.mem_of_getElem? (i := 9) rfl)) (hw _ (List.mem_of_getElem? (i := 10) rfl)) (hw _ (List.mem_of_getElem? (i := 3) rfl)) (hw _ (List.mem_of_getElem? (i := 11) rfl)) (by decide) e2 (rm3 l Z a0 hw (q ^^^ (g i.toInt.toNat)) h0 ) pd__J_J_229 (argsL := [(.long (q ^^^ (g i.toInt.toNat)))]) (rest := []) rfl rfl rfl d1_20 (pc' := 23) rfl (by decide) (Nat.le_of_ble_eq_true rfl) (by decide) (by decide) ?_
      intro Tp20 vp20 Lp20 Xp20 qp20
      obtain ⟨⟨rp20, rfl, h_rp20⟩, ep20, rfl⟩ := qp20
      rw [List.append_nil] at Xp20
      replace Xp20 : Stand p l e ({ frames := 1, cells := 0, slots := 0, locals := 15 } : Room) s m _ below meth c Tp20 _ 0 0 := Xp20
      show Go p e below s (QL h0 (fun r => r = own_of g sd fr.toInt.toNat (tt.toInt - fr.toInt).toNat)) ({ frames := 1, cells := 0, slots := 0, locals := 15 } : Room).cells ({ frames := 1, cells := 0, slots := 0, locals := 15 } : Room).slots m Tp20 23 #[.val (.long sd), .second, .val (.ref a), .val (.int fr), .val (.int tt), .val (.long q), .second, .val (.int i)] [(.long rp20)]
      refine g_lstore Xp20 hx hby d1_23 (pc' := 25) rfl (Ls' := #[.val (.long sd), .second, .val (.ref a), .val (.int fr), .val (.int tt), .val (.long rp20), .second, .val (.int i)]) rfl ?_
      refine g_iinc Xp20 hx hby d1_25 (pc' := 28) rfl rfl (Ls' := #[.val (.long sd), .second, .val (.ref a), .val (.int fr), .val (.int tt), .val (.long rp20), .second, .val (.int (i + (1 : Int32)))]) rfl ?_
      refine g_goto Xp20 hx hby d1_28 (pc' := 6) (by decide) (by decide) ?_
      have hi1 := own_inc i (by omega)
      have hst : own_of g rp20 (i + 1).toInt.toNat (tt.toInt - (i + 1).toInt).toNat = own_of g sd fr.toInt.toNat (tt.toInt - fr.toInt).toNat := by
        rw [← hf, show (tt.toInt - i.toInt).toNat = (tt.toInt - (i + 1).toInt).toNat + 1 by omega, show (i + 1).toInt.toNat = i.toInt.toNat + 1 by omega, h_rp20]; rfl
      exact ih _ (by omega) _ Xp20 ep20 rp20 (i + (1 : Int32)) (by omega) hst rfl
theorem ef_2 (m : MethodId) (q : Int64) (v : Int64) (i : Int32) (fr : Int32) (tt : Int32) : entryFrame m #[(.long q), (.long v), (.int i), (.int fr), (.int tt)] 7 = mkF m 0 #[.val (.long q), .second, .val (.long v), .second, .val (.int i), .val (.int fr), .val (.int tt)] [] := by first | (simp [entryFrame, mkF, argsToLocals, Value.category]; done) | rfl
theorem pn_2 : plainName "com/example/turnstone/turnstone/sketch/HashesOfValuesPinLaw" = true := by first | (simp [plainName, overriddenIn]; done) | decide +kernel
theorem d2_0 : decode method_2_code 0 = .ok (.iload 5, 2) := by decide +kernel
theorem d2_2 : decode method_2_code 2 = .ok (.iload 4, 2) := by decide +kernel
theorem d2_4 : decode method_2_code 4 = .ok (.if_icmp .gt 17, 3) := by decide +kernel
theorem d2_21 : decode method_2_code 21 = .ok (.lload_n 0, 1) := by decide +kernel
theorem d2_22 : decode method_2_code 22 = .ok (.lreturn, 1) := by decide +kernel
theorem d2_7 : decode method_2_code 7 = .ok (.iload 4, 2) := by decide +kernel
theorem d2_9 : decode method_2_code 9 = .ok (.iload 6, 2) := by decide +kernel
theorem d2_11 : decode method_2_code 11 = .ok (.if_icmp .ge 10, 3) := by decide +kernel
theorem d2_14 : decode method_2_code 14 = .ok (.lload_n 0, 1) := by decide +kernel
theorem d2_15 : decode method_2_code 15 = .ok (.lload_n 2, 1) := by decide +kernel
theorem d2_16 : decode method_2_code 16 = .ok (.lxor, 1) := by decide +kernel
theorem d2_17 : decode method_2_code 17 = .ok (.invokestatic 7, 3) := by decide +kernel
theorem d2_20 : decode method_2_code 20 = .ok (.lreturn, 1) := by decide +kernel
set_option maxRecDepth 65536 in
set_option maxHeartbeats 40000000 in
theorem rm2 (l : Launch) (Z : State) (a0 : Array Value) (hw : ∀ d ∈ tables_1, d.before a0 Z = true) (q : Int64) (v : Int64) (i : Int32) (fr : Int32) (tt : Int32) (h0 : Heap)  :
    Ct l Z (⟨"com/example/turnstone/turnstone/sketch/HashesOfValuesPinLaw", "step", "(JJIII)J"⟩ : MethodName) method_2_code 7 (some .long) ({ frames := 1, cells := 0, slots := 0, locals := 15 } : Room) #[(.long q), (.long v), (.int i), (.int fr), (.int tt)] h0 (QL h0 (fun r => r = own_st q v i fr tt)) := by
  refine own_met (plainFor_of_name pn_2) (fun m => ef_2 m q v i fr tt) ?_
  intro p e s m below meth c T0 X0 hx hby hml hown hnm hret hlk hZ e0
  refine g_iload X0 hx hby d2_0 (pc' := 2) rfl rfl ?_
  refine g_iload X0 hx hby d2_2 (pc' := 4) rfl rfl ?_
  refine g_icmpgt X0 hx hby d2_4 (pt := 21) (pf := 7) (by decide) (by decide) rfl (fun (h4 : i.toInt < fr.toInt) => ?_) (fun (h4 : fr.toInt ≤ i.toInt) => ?_)
  · refine g_lloadN X0 hx hby d2_21 (pc' := 22) rfl rfl ?_
    exact g_retL X0 hx hby hlk hret d2_22 (by decide) (by decide) (⟨⟨_, rfl, by unfold own_st; rw [if_neg (by omega)]⟩, e0, rfl⟩)
  · refine g_iload X0 hx hby d2_7 (pc' := 9) rfl rfl ?_
    refine g_iload X0 hx hby d2_9 (pc' := 11) rfl rfl ?_
    refine g_icmpge X0 hx hby d2_11 (pt := 21) (pf := 14) (by decide) (by decide) rfl (fun (h11 : tt.toInt ≤ i.toInt) => ?_) (fun (h11 : i.toInt < tt.toInt) => ?_)
    · refine g_lloadN X0 hx hby d2_21 (pc' := 22) rfl rfl ?_
      exact g_retL X0 hx hby hlk hret d2_22 (by decide) (by decide) (⟨⟨_, rfl, by unfold own_st; rw [if_neg (by omega)]⟩, e0, rfl⟩)
    · refine g_lloadN X0 hx hby d2_14 (pc' := 15) rfl rfl ?_
      refine g_lloadN X0 hx hby d2_15 (pc' := 16) rfl rfl ?_
      refine g_lxor X0 hx hby d2_16 (pc' := 17) rfl ?_
      refine g_static X0 hx hby hZ hown hml rfl (hw _ (List.mem_of_getElem? (i := 14) rfl)) (hw _ (List.mem_of_getElem? (i := 10) rfl)) (hw _ (List.mem_of_getElem? (i := 3) rfl)) (hw _ (List.mem_of_getElem? (i := 11) rfl)) (by decide) e0 (rm3 l Z a0 hw (q ^^^ v) h0 ) pd__J_J_229 (argsL := [(.long (q ^^^ v))]) (rest := []) rfl rfl rfl d2_17 (pc' := 20) rfl (by decide) (Nat.le_of_ble_eq_true rfl) (by decide) (by decide) ?_
      intro Tp17 vp17 Lp17 Xp17 qp17
      obtain ⟨⟨rp17, rfl, h_rp17⟩, ep17, rfl⟩ := qp17
      rw [List.append_nil] at Xp17
      replace Xp17 : Stand p l e ({ frames := 1, cells := 0, slots := 0, locals := 15 } : Room) s m _ below meth c Tp17 _ 0 0 := Xp17
      show Go p e below s (QL h0 (fun r => r = own_st q v i fr tt)) ({ frames := 1, cells := 0, slots := 0, locals := 15 } : Room).cells ({ frames := 1, cells := 0, slots := 0, locals := 15 } : Room).slots m Tp17 20 #[.val (.long q), .second, .val (.long v), .second, .val (.int i), .val (.int fr), .val (.int tt)] [(.long rp17)]
      exact g_retL Xp17 hx hby hlk hret d2_20 (by decide) (by decide) (⟨⟨_, rfl, by rw [h_rp17]; unfold own_st; rw [if_pos (by omega)]⟩, ep17, rfl⟩)
theorem ef_0 (m : MethodId) (sd : Int64) (ua : Int64) (ub : Int64) (uc : Int64) (ud : Int64) (k : Int32) : entryFrame m #[(.long sd), (.long ua), (.long ub), (.long uc), (.long ud), (.int k)] maxLocals = mkF m 0 #[.val (.long sd), .second, .val (.long ua), .second, .val (.long ub), .second, .val (.long uc), .second, .val (.long ud), .second, .val (.int k), .unset, .unset, .unset, .unset, .unset, .unset, .unset] [] := by first | (simp [entryFrame, mkF, argsToLocals, Value.category, maxLocals]; done) | rfl
theorem pn_0 : plainName "com/example/turnstone/turnstone/sketch/HashesOfValuesPinLaw" = true := by first | (simp [plainName, overriddenIn]; done) | decide +kernel
theorem pd__J_JII_J_540 : parseMethodDescriptor "(J[JII)J" = some ⟨[.long, (.array .long), .int, .int], some .long⟩ := by decide +kernel
theorem pd__JJIII_J_522 : parseMethodDescriptor "(JJIII)J" = some ⟨[.long, .long, .int, .int, .int], some .long⟩ := by decide +kernel
set_option maxRecDepth 65536 in
set_option maxHeartbeats 40000000 in
theorem law0 (l : Launch) (Z : State) (a0 : Array Value) (hw : ∀ d ∈ tables_1, d.before a0 Z = true) (ws : List Jvm.Cond) (sd : Int64) (ua : Int64) (ub : Int64) (uc : Int64) (ud : Int64) (k : Int32) (n0 : Nat) (h0 : Heap) (Z0 : n0 ≤ h0.size) :
    MetFree l x (head1 (Jvm.Cond.code x code maxLocals ret :: ws) room_1) (fun a U => a = #[(.long sd), (.long ua), (.long ub), (.long uc), (.long ud), (.int k)] ∧ Z.Warmed39 U.vm ∧ U.heap = h0) (fun _ _ _ _ _ => True) (fun _ U o U' => ∃ v L, o = .returned v ∧ (Q0 n0) v U'.heap L ∧ FrameEnd U o U' L room_1.cells room_1.slots) := by
  refine own_met (plainFor_of_name pn_0) (fun m => ef_0 m sd ua ub uc ud k) ?_
  intro p e s m below meth c T0 X0 hx hby hml hown hnm hret hlk hZ e0
  have N0 := Fr.nil n0
  refine g_iload X0 hx hby at_0 (pc' := 2) rfl rfl ?_
  refine g_bipush X0 hx hby at_2 (pc' := 4) rfl (n := (7 : Int32)) (by first | rfl | decide) ?_
  refine g_iand X0 hx hby at_4 (pc' := 5) rfl ?_
  refine g_iconst X0 hx hby at_5 (pc' := 6) rfl (n := (5 : Int32)) (by first | rfl | decide) ?_
  refine g_irem X0 hx hby at_6 (pc' := 7) rfl (by decide) ?_
  refine g_nameI (fun fr h_fr => ?_)
  have hfr := own_5 _ fr h_fr
  refine g_istore X0 hx hby at_7 (pc' := 9) rfl (Ls' := #[.val (.long sd), .second, .val (.long ua), .second, .val (.long ub), .second, .val (.long uc), .second, .val (.long ud), .second, .val (.int k), .val (.int fr), .unset, .unset, .unset, .unset, .unset, .unset]) rfl ?_
  refine g_iload X0 hx hby at_9 (pc' := 11) rfl rfl ?_
  refine g_iconst X0 hx hby at_11 (pc' := 12) rfl (n := (3 : Int32)) (by first | rfl | decide) ?_
  refine g_iushr X0 hx hby at_12 (pc' := 13) rfl ?_
  refine g_bipush X0 hx hby at_13 (pc' := 15) rfl (n := (7 : Int32)) (by first | rfl | decide) ?_
  refine g_iand X0 hx hby at_15 (pc' := 16) rfl ?_
  refine g_iconst X0 hx hby at_16 (pc' := 17) rfl (n := (5 : Int32)) (by first | rfl | decide) ?_
  refine g_irem X0 hx hby at_17 (pc' := 18) rfl (by decide) ?_
  refine g_nameI (fun tt h_tt => ?_)
  have htt := own_5 _ tt h_tt
  refine g_istore X0 hx hby at_18 (pc' := 20) rfl (Ls' := #[.val (.long sd), .second, .val (.long ua), .second, .val (.long ub), .second, .val (.long uc), .second, .val (.long ud), .second, .val (.int k), .val (.int fr), .val (.int tt), .unset, .unset, .unset, .unset, .unset]) rfl ?_
  refine g_iconst X0 hx hby at_20 (pc' := 21) rfl (n := (4 : Int32)) (by first | rfl | decide) ?_
  refine g_newA X0 hx hby hZ e0 (N := 4) (hw _ (List.mem_of_getElem? (i := 0) rfl)) at_21 (pc' := 23) rfl rfl (cap := 4) (Nat.le_refl _) (by decide) (by decide) (by decide) (fun T1 h1 va g1 X1 e1 E1 A_va => ?_)
  have g2 : n0 ≤ va := by rw [g1]; exact Z0
  have Z3 : n0 ≤ h1.size := Nat.le_trans Z0 E1.1
  replace X1 : Stand p l e room_1 s m _ below meth c T1 _ 1 4 := X1
  replace A_va : Ara Z h1 va .long 4 (fun jz => .long ((fun _ => (0 : Int64)) jz)) := A_va
  refine g_dup X1 hx hby at_23 (pc' := 24) rfl rfl ?_
  refine g_iconst X1 hx hby at_24 (pc' := 25) rfl (n := (0 : Int32)) (by first | rfl | decide) ?_
  refine g_lloadN X1 hx hby at_25 (pc' := 26) rfl rfl ?_
  refine a_lastore X1 hx hby hZ e1 A_va (by decide) (by decide) at_26 (pc' := 27) rfl (fun T4 h4 X4 e4 W4 => ?_)
  have Z5 : n0 ≤ h4.size := by rw [W4.size]; exact Z3
  have N6 := Fr.snoc X4 N0 g2
  replace A_va : Ara Z h4 va .long 4 (fun jz => .long ((own_ul (fun _ => (0 : Int64)) 0 ua) jz)) := A_va.setL W4
  refine g_dup X4 hx hby at_27 (pc' := 28) rfl rfl ?_
  refine g_iconst X4 hx hby at_28 (pc' := 29) rfl (n := (1 : Int32)) (by first | rfl | decide) ?_
  refine g_lload X4 hx hby at_29 (pc' := 31) rfl rfl ?_
  refine a_lastore X4 hx hby hZ e4 A_va (by decide) (by decide) at_31 (pc' := 32) rfl (fun T7 h7 X7 e7 W7 => ?_)
  have Z8 : n0 ≤ h7.size := by rw [W7.size]; exact Z5
  have N9 := Fr.snoc X7 N6 g2
  replace A_va : Ara Z h7 va .long 4 (fun jz => .long ((own_ul (own_ul (fun _ => (0 : Int64)) 0 ua) 1 ub) jz)) := A_va.setL W7
  refine g_dup X7 hx hby at_32 (pc' := 33) rfl rfl ?_
  refine g_iconst X7 hx hby at_33 (pc' := 34) rfl (n := (2 : Int32)) (by first | rfl | decide) ?_
  refine g_lload X7 hx hby at_34 (pc' := 36) rfl rfl ?_
  refine a_lastore X7 hx hby hZ e7 A_va (by decide) (by decide) at_36 (pc' := 37) rfl (fun T10 h10 X10 e10 W10 => ?_)
  have Z11 : n0 ≤ h10.size := by rw [W10.size]; exact Z8
  have N12 := Fr.snoc X10 N9 g2
  replace A_va : Ara Z h10 va .long 4 (fun jz => .long ((own_ul (own_ul (own_ul (fun _ => (0 : Int64)) 0 ua) 1 ub) 2 uc) jz)) := A_va.setL W10
  refine g_dup X10 hx hby at_37 (pc' := 38) rfl rfl ?_
  refine g_iconst X10 hx hby at_38 (pc' := 39) rfl (n := (3 : Int32)) (by first | rfl | decide) ?_
  refine g_lload X10 hx hby at_39 (pc' := 41) rfl rfl ?_
  refine a_lastore X10 hx hby hZ e10 A_va (by decide) (by decide) at_41 (pc' := 42) rfl (fun T13 h13 X13 e13 W13 => ?_)
  have Z14 : n0 ≤ h13.size := by rw [W13.size]; exact Z11
  have N15 := Fr.snoc X13 N12 g2
  replace A_va : Ara Z h13 va .long 4 (fun jz => .long ((own_ul (own_ul (own_ul (own_ul (fun _ => (0 : Int64)) 0 ua) 1 ub) 2 uc) 3 ud) jz)) := A_va.setL W13
  refine g_astore X13 hx hby at_42 (pc' := 44) rfl rfl (Ls' := #[.val (.long sd), .second, .val (.long ua), .second, .val (.long ub), .second, .val (.long uc), .second, .val (.long ud), .second, .val (.int k), .val (.int fr), .val (.int tt), .val (.ref va), .unset, .unset, .unset, .unset]) rfl ?_
  refine g_lloadN X13 hx hby at_44 (pc' := 45) rfl rfl ?_
  refine g_aload X13 hx hby at_45 (pc' := 47) rfl rfl rfl ?_
  refine g_iload X13 hx hby at_47 (pc' := 49) rfl rfl ?_
  refine g_iload X13 hx hby at_49 (pc' := 51) rfl rfl ?_
  refine g_static X13 hx hby hZ hown hml rfl (hw _ (List.mem_of_getElem? (i := 1) rfl)) (hw _ (List.mem_of_getElem? (i := 2) rfl)) (hw _ (List.mem_of_getElem? (i := 3) rfl)) (hw _ (List.mem_of_getElem? (i := 4) rfl)) (by decide) e13 (rm1 l Z a0 hw sd va fr tt _ h13 A_va hfr htt) pd__J_JII_J_540 (argsL := [(.long sd), (.ref va), (.int fr), (.int tt)]) (rest := []) rfl rfl rfl at_51 (pc' := 54) rfl (by decide) (Nat.le_of_ble_eq_true rfl) (by decide) (by decide) ?_
  intro Tp51 vp51 Lp51 Xp51 qp51
  obtain ⟨⟨rp51, rfl, h_rp51⟩, ep51, rfl⟩ := qp51
  rw [List.append_nil] at Xp51
  replace Xp51 : Stand p l e room_1 s m _ below meth c Tp51 _ 1 4 := Xp51
  show Go p e below s (Q0 n0) room_1.cells room_1.slots m Tp51 54 #[.val (.long sd), .second, .val (.long ua), .second, .val (.long ub), .second, .val (.long uc), .second, .val (.long ud), .second, .val (.int k), .val (.int fr), .val (.int tt), .val (.ref va), .unset, .unset, .unset, .unset] [(.long rp51)]
  refine g_lstore Xp51 hx hby at_54 (pc' := 56) rfl (Ls' := #[.val (.long sd), .second, .val (.long ua), .second, .val (.long ub), .second, .val (.long uc), .second, .val (.long ud), .second, .val (.int k), .val (.int fr), .val (.int tt), .val (.ref va), .val (.long rp51), .second, .unset, .unset]) rfl ?_
  refine g_lloadN Xp51 hx hby at_56 (pc' := 57) rfl rfl ?_
  refine g_lstore Xp51 hx hby at_57 (pc' := 59) rfl (Ls' := #[.val (.long sd), .second, .val (.long ua), .second, .val (.long ub), .second, .val (.long uc), .second, .val (.long ud), .second, .val (.int k), .val (.int fr), .val (.int tt), .val (.ref va), .val (.long rp51), .second, .val (.long sd), .second]) rfl ?_
  refine g_lload Xp51 hx hby at_59 (pc' := 61) rfl rfl ?_
  refine g_lloadN Xp51 hx hby at_61 (pc' := 62) rfl rfl ?_
  refine g_iconst Xp51 hx hby at_62 (pc' := 63) rfl (n := (0 : Int32)) (by first | rfl | decide) ?_
  refine g_iload Xp51 hx hby at_63 (pc' := 65) rfl rfl ?_
  refine g_iload Xp51 hx hby at_65 (pc' := 67) rfl rfl ?_
  refine g_static Xp51 hx hby hZ hown hml rfl (hw _ (List.mem_of_getElem? (i := 5) rfl)) (hw _ (List.mem_of_getElem? (i := 6) rfl)) (hw _ (List.mem_of_getElem? (i := 7) rfl)) (hw _ (List.mem_of_getElem? (i := 8) rfl)) (by decide) ep51 (rm2 l Z a0 hw sd ua (0 : Int32) fr tt h13 ) pd__JJIII_J_522 (argsL := [(.long sd), (.long ua), (.int (0 : Int32)), (.int fr), (.int tt)]) (rest := []) rfl rfl rfl at_67 (pc' := 70) rfl (by decide) (Nat.le_of_ble_eq_true rfl) (by decide) (by decide) ?_
  intro Tp67 vp67 Lp67 Xp67 qp67
  obtain ⟨⟨rp67, rfl, h_rp67⟩, ep67, rfl⟩ := qp67
  rw [List.append_nil] at Xp67
  replace Xp67 : Stand p l e room_1 s m _ below meth c Tp67 _ 1 4 := Xp67
  show Go p e below s (Q0 n0) room_1.cells room_1.slots m Tp67 70 #[.val (.long sd), .second, .val (.long ua), .second, .val (.long ub), .second, .val (.long uc), .second, .val (.long ud), .second, .val (.int k), .val (.int fr), .val (.int tt), .val (.ref va), .val (.long rp51), .second, .val (.long sd), .second] [(.long rp67)]
  refine g_lstore Xp67 hx hby at_70 (pc' := 72) rfl (Ls' := #[.val (.long sd), .second, .val (.long ua), .second, .val (.long ub), .second, .val (.long uc), .second, .val (.long ud), .second, .val (.int k), .val (.int fr), .val (.int tt), .val (.ref va), .val (.long rp51), .second, .val (.long rp67), .second]) rfl ?_
  refine g_lload Xp67 hx hby at_72 (pc' := 74) rfl rfl ?_
  refine g_lload Xp67 hx hby at_74 (pc' := 76) rfl rfl ?_
  refine g_iconst Xp67 hx hby at_76 (pc' := 77) rfl (n := (1 : Int32)) (by first | rfl | decide) ?_
  refine g_iload Xp67 hx hby at_77 (pc' := 79) rfl rfl ?_
  refine g_iload Xp67 hx hby at_79 (pc' := 81) rfl rfl ?_
  refine g_static Xp67 hx hby hZ hown hml rfl (hw _ (List.mem_of_getElem? (i := 5) rfl)) (hw _ (List.mem_of_getElem? (i := 6) rfl)) (hw _ (List.mem_of_getElem? (i := 7) rfl)) (hw _ (List.mem_of_getElem? (i := 8) rfl)) (by decide) ep67 (rm2 l Z a0 hw rp67 ub (1 : Int32) fr tt h13 ) pd__JJIII_J_522 (argsL := [(.long rp67), (.long ub), (.int (1 : Int32)), (.int fr), (.int tt)]) (rest := []) rfl rfl rfl at_81 (pc' := 84) rfl (by decide) (Nat.le_of_ble_eq_true rfl) (by decide) (by decide) ?_
  intro Tp81 vp81 Lp81 Xp81 qp81
  obtain ⟨⟨rp81, rfl, h_rp81⟩, ep81, rfl⟩ := qp81
  rw [List.append_nil] at Xp81
  replace Xp81 : Stand p l e room_1 s m _ below meth c Tp81 _ 1 4 := Xp81
  show Go p e below s (Q0 n0) room_1.cells room_1.slots m Tp81 84 #[.val (.long sd), .second, .val (.long ua), .second, .val (.long ub), .second, .val (.long uc), .second, .val (.long ud), .second, .val (.int k), .val (.int fr), .val (.int tt), .val (.ref va), .val (.long rp51), .second, .val (.long rp67), .second] [(.long rp81)]
  refine g_lstore Xp81 hx hby at_84 (pc' := 86) rfl (Ls' := #[.val (.long sd), .second, .val (.long ua), .second, .val (.long ub), .second, .val (.long uc), .second, .val (.long ud), .second, .val (.int k), .val (.int fr), .val (.int tt), .val (.ref va), .val (.long rp51), .second, .val (.long rp81), .second]) rfl ?_
  refine g_lload Xp81 hx hby at_86 (pc' := 88) rfl rfl ?_
  refine g_lload Xp81 hx hby at_88 (pc' := 90) rfl rfl ?_
  refine g_iconst Xp81 hx hby at_90 (pc' := 91) rfl (n := (2 : Int32)) (by first | rfl | decide) ?_
  refine g_iload Xp81 hx hby at_91 (pc' := 93) rfl rfl ?_
  refine g_iload Xp81 hx hby at_93 (pc' := 95) rfl rfl ?_
  refine g_static Xp81 hx hby hZ hown hml rfl (hw _ (List.mem_of_getElem? (i := 5) rfl)) (hw _ (List.mem_of_getElem? (i := 6) rfl)) (hw _ (List.mem_of_getElem? (i := 7) rfl)) (hw _ (List.mem_of_getElem? (i := 8) rfl)) (by decide) ep81 (rm2 l Z a0 hw rp81 uc (2 : Int32) fr tt h13 ) pd__JJIII_J_522 (argsL := [(.long rp81), (.long uc), (.int (2 : Int32)), (.int fr), (.int tt)]) (rest := []) rfl rfl rfl at_95 (pc' := 98) rfl (by decide) (Nat.le_of_ble_eq_true rfl) (by decide) (by decide) ?_
  intro Tp95 vp95 Lp95 Xp95 qp95
  obtain ⟨⟨rp95, rfl, h_rp95⟩, ep95, rfl⟩ := qp95
  rw [List.append_nil] at Xp95
  replace Xp95 : Stand p l e room_1 s m _ below meth c Tp95 _ 1 4 := Xp95
  show Go p e below s (Q0 n0) room_1.cells room_1.slots m Tp95 98 #[.val (.long sd), .second, .val (.long ua), .second, .val (.long ub), .second, .val (.long uc), .second, .val (.long ud), .second, .val (.int k), .val (.int fr), .val (.int tt), .val (.ref va), .val (.long rp51), .second, .val (.long rp81), .second] [(.long rp95)]
  refine g_lstore Xp95 hx hby at_98 (pc' := 100) rfl (Ls' := #[.val (.long sd), .second, .val (.long ua), .second, .val (.long ub), .second, .val (.long uc), .second, .val (.long ud), .second, .val (.int k), .val (.int fr), .val (.int tt), .val (.ref va), .val (.long rp51), .second, .val (.long rp95), .second]) rfl ?_
  refine g_lload Xp95 hx hby at_100 (pc' := 102) rfl rfl ?_
  refine g_lload Xp95 hx hby at_102 (pc' := 104) rfl rfl ?_
  refine g_iconst Xp95 hx hby at_104 (pc' := 105) rfl (n := (3 : Int32)) (by first | rfl | decide) ?_
  refine g_iload Xp95 hx hby at_105 (pc' := 107) rfl rfl ?_
  refine g_iload Xp95 hx hby at_107 (pc' := 109) rfl rfl ?_
  refine g_static Xp95 hx hby hZ hown hml rfl (hw _ (List.mem_of_getElem? (i := 5) rfl)) (hw _ (List.mem_of_getElem? (i := 6) rfl)) (hw _ (List.mem_of_getElem? (i := 7) rfl)) (hw _ (List.mem_of_getElem? (i := 8) rfl)) (by decide) ep95 (rm2 l Z a0 hw rp95 ud (3 : Int32) fr tt h13 ) pd__JJIII_J_522 (argsL := [(.long rp95), (.long ud), (.int (3 : Int32)), (.int fr), (.int tt)]) (rest := []) rfl rfl rfl at_109 (pc' := 112) rfl (by decide) (Nat.le_of_ble_eq_true rfl) (by decide) (by decide) ?_
  intro Tp109 vp109 Lp109 Xp109 qp109
  obtain ⟨⟨rp109, rfl, h_rp109⟩, ep109, rfl⟩ := qp109
  rw [List.append_nil] at Xp109
  replace Xp109 : Stand p l e room_1 s m _ below meth c Tp109 _ 1 4 := Xp109
  show Go p e below s (Q0 n0) room_1.cells room_1.slots m Tp109 112 #[.val (.long sd), .second, .val (.long ua), .second, .val (.long ub), .second, .val (.long uc), .second, .val (.long ud), .second, .val (.int k), .val (.int fr), .val (.int tt), .val (.ref va), .val (.long rp51), .second, .val (.long rp95), .second] [(.long rp109)]
  refine g_lstore Xp109 hx hby at_112 (pc' := 114) rfl (Ls' := #[.val (.long sd), .second, .val (.long ua), .second, .val (.long ub), .second, .val (.long uc), .second, .val (.long ud), .second, .val (.int k), .val (.int fr), .val (.int tt), .val (.ref va), .val (.long rp51), .second, .val (.long rp109), .second]) rfl ?_
  refine g_lload Xp109 hx hby at_114 (pc' := 116) rfl rfl ?_
  refine g_lload Xp109 hx hby at_116 (pc' := 118) rfl rfl ?_
  refine g_lcmpne Xp109 hx hby at_118 (pc' := 119) rfl at_119 (pt := 126) (pf := 122) (by decide) (by decide) rfl (fun (h119 : ¬ rp51 = rp109) => (by exfalso; exact h119 (by rw [h_rp51, h_rp109, h_rp95, h_rp81, h_rp67]; exact own_chain ua ub uc ud sd fr tt hfr htt))) (fun (h119 : rp51 = rp109) => ?_)
  have h119i : rp51.toInt = rp109.toInt := congrArg Int64.toInt h119
  refine g_iconst Xp109 hx hby at_122 (pc' := 123) rfl (n := (1 : Int32)) (by first | rfl | decide) ?_
  refine g_goto Xp109 hx hby at_123 (pc' := 127) (by decide) (by decide) ?_
  exact g_retZ Xp109 hx hby hlk (Or.inr rfl) hret at_127 (by decide) (by decide) (⟨rfl, N15⟩)
set_option maxRecDepth 65536 in
set_option maxHeartbeats 40000000 in
theorem comes_1 {Post : Tables → Env → Array Value → State → Outcome → State → Prop} (hpost : ∀ tb e args s v u, (limb_1_1.after args s (.returned v) u = true ∧ limb_1_2.after args s (.returned v) u = true ∧ True) → FrameEnd s (.returned v) u (Jvm.fieldLocs frame_1_writes args s ++ Jvm.arrayLocs frame_1_arrays args s ++ Jvm.staticLocs frame_1_statics s) 16 128 → Post tb e args s (.returned v) u) :
    ArmFor flags0 classFile x code maxLocals ret World_1 tables_1 room_1 Calls_1 rest_1 Pre_1 Post := by
  intro l hfl _ _ p e ha hc hk s m args below hf hA hF happ hP
  obtain ⟨hcalls, hrest, hpre⟩ := hP
  obtain ⟨-, -, -, hnamed, -, -, -, hat⟩ := (Spec.applies_iff hf).mp happ
  obtain ⟨hg, hn⟩ := and_e (Cond.before_iff.mp (show (Jvm.Cond.and given_1 narrow_1).before args s = true from hpre))
  obtain ⟨g1, g2⟩ := and_e hg
  obtain ⟨g3, g4⟩ := and_e g2
  obtain ⟨g5, g6⟩ := and_e g4
  obtain ⟨g7, g8⟩ := and_e g6
  obtain ⟨g9, g10⟩ := and_e g8
  obtain ⟨g11, g12⟩ := and_e g10
  obtain ⟨w0, w1, w2, w3, w4, w5, rfl⟩ : ∃ w0 w1 w2 w3 w4 w5 : Value, args = #[w0, w1, w2, w3, w4, w5] := by
    have hs : args.size = 6 := by simpa [Cond.value, given_1] using g1
    obtain ⟨L⟩ := args
    match L, hs with
    | [w0, w1, w2, w3, w4, w5], _ => exact ⟨w0, w1, w2, w3, w4, w5, rfl⟩
  have hw := fun d (hd : d ∈ tables_1) => atoms_spec (ws := Jvm.Cond.code x code maxLocals ret :: tables_1) hat d (List.mem_cons_of_mem _ hd)
  have hfit : Fit s := fun {y c} hc i hi => by
    obtain ⟨ha, rfl⟩ := Array.getElem?_eq_some_iff.mp hc
    have q := List.all_eq_true.mp ((Array.all_eq_true_iff_forall_mem.mp hF) _ (Array.getElem_mem ha)) i (List.mem_range.mpr hi)
    simpa [Array.getElem?_eq_getElem hi] using q
  obtain ⟨i0, ei0⟩ := isL_v g3
  obtain rfl : w0 = (.long i0) := Option.some.inj ei0
  obtain ⟨i1, ei1⟩ := isL_v g5
  obtain rfl : w1 = (.long i1) := Option.some.inj ei1
  obtain ⟨i2, ei2⟩ := isL_v g7
  obtain rfl : w2 = (.long i2) := Option.some.inj ei2
  obtain ⟨i3, ei3⟩ := isL_v g9
  obtain rfl : w3 = (.long i3) := Option.some.inj ei3
  obtain ⟨i4, ei4⟩ := isL_v g11
  obtain rfl : w4 = (.long i4) := Option.some.inj ei4
  obtain ⟨i5, ei5⟩ := is_v g12
  obtain rfl : w5 = (.int i5) := Option.some.inj ei5
  obtain ⟨n, o, h1, h2, h3, _, L, rfl, ⟨rfl, N⟩, hq⟩ := law0 l s _ hw tables_1 i0 i1 i2 i3 i4 i5 s.heap.size s.heap (Nat.le_refl _) p e ha hc hk s m _ below hf ((Spec.applies_iff_loose hf).mp happ).1 ⟨rfl, State.Warmed39.refl s, rfl⟩ trivial
  refine ⟨n, _, h1, h2, h3, hpost _ _ _ _ _ _ ⟨Cond.after_iff.mpr rfl, Cond.after_iff.mpr (eq_i res_at (Term.int_eval (1)) rfl), trivial⟩ ⟨hq.1, hq.2.1, (hq.2.2.sift fun y hy => Or.inr (N y hy)).mono (by decide) (by decide)⟩⟩
theorem main_1_1 : Claimed_1_1 := comes_1 fun _ _ _ _ _ _ h hF => ⟨h.1, hF⟩
theorem main_1_2 : Claimed_1_2 := comes_1 fun _ _ _ _ _ _ h hF => ⟨h.2.1, hF⟩
end Jvm.Pilot.@@N@@
namespace Jvm.Pilot.@@N@@
open Jvm Jvm.ClassFile Sem Op Lib Jvm.Free Jvm.Stand Jvm.Pilot.@@N@@.Jvm.D
/-! MADE BY PROGRAM (witnessworld.py) out of the Statement's table words and the real class files: 11 classes; the members and pool entries that the words name. The judged class is class 1, her method 2. -/
namespace start1
open Jvm.ClassFile
def u (s : String) : CpInfo := .utf8 (stringToUtf16 s)
/-- a pool by its gaps: so many unusable entries, then the entry; so many at the end -/
def gap : Nat → List CpInfo → List CpInfo
  | 0, r => r
  | n + 1, r => .unusable :: gap n r
def poolList (es : List (Nat × CpInfo)) (last : Nat) : List CpInfo := es.foldr (fun e r => gap e.1 (e.2 :: r)) (gap last [])
def pool (es : List (Nat × CpInfo)) (last : Nat) : Array CpInfo := ⟨poolList es last⟩
def fileOf (pool : Array CpInfo) (this : Nat) (attrs : Array Attribute := #[]) (ms : Array MethodInfo := #[]) (fl : Nat := 33) (sup : Nat := 0) (ifs : Array Nat := #[]) (fds : Array FieldInfo := #[]) : ClassFile where
  minorVersion := 0
  majorVersion := 65
  constantPool := pool
  accessFlags := fl
  thisClass := this
  superClass := sup
  interfaces := ifs
  fields := fds
  methods := ms
  attributes := attrs
def plain (name : String) (sup : Option ClassId) : Class where
  name := name
  kind := .ordinary
  loader := none
  accessFlags := 33
  super := sup
  interfaces := #[]
  cf := none
  fields := #[]
  methods := #[]
  instanceTypes := #[]
  staticTypes := #[]
  resolved := #[]
  callSites := []
  init := .initialized
  statics := none
  mirror := none

def pool0 : Array CpInfo := pool [(5, u "<init>"), (0, u "()V"), (1, .class_ 10), (1, u "java/lang/Object")] 113

def k0m0 : Method := { name := "<init>", desc := "()V", sig := { parameters := [], returnType := none }, accessFlags := 1, code := none }
/-- java/lang/Object -/
def k0 : Class := { plain "java/lang/Object" none with
  accessFlags := 33
  interfaces := #[]
  cf := some (fileOf pool0 8 #[] #[{ accessFlags := 1, nameIndex := 5, descriptorIndex := 6, attributes := #[] }] 33 0 #[] #[])
  fields := #[]
  methods := #[k0m0]
  instanceTypes := #[]
  staticTypes := #[]
  resolved := Array.replicate 124 none
  statics := none }

def pool1 : Array CpInfo := pool [(2, .class_ 4), (1, u "java/lang/Object"), (0, u "<init>"), (0, u "()V"), (0, .methodref 8 9), (0, .class_ 10), (0, .nameAndType 11 12), (0, u "com/example/turnstone/turnstone/sketch/Hashes"), (0, u "mix"), (0, u "(J)J"), (0, .methodref 8 14), (0, .nameAndType 15 16), (0, u "ofValues"), (0, u "(J[JII)J"), (0, .methodref 18 19), (0, .class_ 20), (0, .nameAndType 21 22), (0, u "com/example/turnstone/turnstone/sketch/HashesOfValuesPinLaw"), (0, u "step"), (0, u "(JJIII)J"), (3, u "law"), (0, u "(JJJJJI)Z")] 4

def k1m0 : Method := { name := "<init>", desc := "()V", sig := { parameters := [], returnType := none }, accessFlags := 2, code := none }
def k1c1 : Code := { maxStack := 4, maxLocals := 7, code := method_2_code, exceptionTable := #[], attributes := #[] }
def k1m1 : Method := { name := "step", desc := "(JJIII)J", sig := { parameters := [.long, .long, .int, .int, .int], returnType := some .long }, accessFlags := 10, code := some k1c1 }
def k1c2 : Code := { maxStack := 7, maxLocals := 18, code := code, exceptionTable := #[], attributes := #[] }
def k1m2 : Method := { name := "law", desc := "(JJJJJI)Z", sig := { parameters := [.long, .long, .long, .long, .long, .int], returnType := some .boolean }, accessFlags := 9, code := some k1c2 }
/-- com/example/turnstone/turnstone/sketch/HashesOfValuesPinLaw -/
def k1 : Class := { plain "com/example/turnstone/turnstone/sketch/HashesOfValuesPinLaw" (some 0) with
  accessFlags := 49
  interfaces := #[]
  cf := some (fileOf pool1 18 #[] #[{ accessFlags := 2, nameIndex := 5, descriptorIndex := 6, attributes := #[] }, { accessFlags := 10, nameIndex := 21, descriptorIndex := 22, attributes := #[] }, { accessFlags := 9, nameIndex := 26, descriptorIndex := 27, attributes := #[] }] 49 2 #[] #[])
  fields := #[]
  methods := #[k1m0, k1m1, k1m2]
  instanceTypes := #[]
  staticTypes := #[]
  resolved := Array.replicate 32 none
  statics := none }

def pool2 : Array CpInfo := pool [(2, .class_ 4), (1, u "java/lang/Object"), (0, u "<init>"), (0, u "()V"), (0, .long 13787848793156543929), (1, .long 10723151780598845931), (1, .class_ 12), (0, u "com/example/turnstone/turnstone/sketch/Hashes"), (2, .methodref 11 16), (0, .nameAndType 17 18), (0, u "mix"), (0, u "(J)J"), (16, u "GOLDEN_GAMMA"), (0, u "J"), (1, u "FNV_PRIME"), (9, u "ofValues"), (0, u "(J[JII)J")] 2

def k2m0 : Method := { name := "<init>", desc := "()V", sig := { parameters := [], returnType := none }, accessFlags := 2, code := none }
def k2c1 : Code := { maxStack := 5, maxLocals := 4, code := prog_17_method_2_code, exceptionTable := #[], attributes := #[] }
def k2m1 : Method := { name := "mix", desc := "(J)J", sig := { parameters := [.long], returnType := some .long }, accessFlags := 8, code := some k2c1 }
def k2c2 : Code := { maxStack := 4, maxLocals := 8, code := prog_17_method_6_code, exceptionTable := #[], attributes := #[] }
def k2m2 : Method := { name := "ofValues", desc := "(J[JII)J", sig := { parameters := [.long, (.array .long), .int, .int], returnType := some .long }, accessFlags := 8, code := some k2c2 }
/-- com/example/turnstone/turnstone/sketch/Hashes -/
def k2 : Class := { plain "com/example/turnstone/turnstone/sketch/Hashes" (some 0) with
  accessFlags := 48
  interfaces := #[]
  cf := some (fileOf pool2 11 #[] #[{ accessFlags := 2, nameIndex := 5, descriptorIndex := 6, attributes := #[] }, { accessFlags := 8, nameIndex := 17, descriptorIndex := 18, attributes := #[] }, { accessFlags := 8, nameIndex := 48, descriptorIndex := 49, attributes := #[] }] 48 2 #[] #[{ accessFlags := 26, nameIndex := 35, descriptorIndex := 36, attributes := #[] }, { accessFlags := 26, nameIndex := 38, descriptorIndex := 36, attributes := #[] }])
  fields := #[{ name := "GOLDEN_GAMMA", type := .long, accessFlags := 26, slot := 0, constantValue := 0 }, { name := "FNV_PRIME", type := .long, accessFlags := 26, slot := 1, constantValue := 0 }]
  methods := #[k2m0, k2m1, k2m2]
  instanceTypes := #[]
  staticTypes := #[.long, .long]
  resolved := Array.replicate 52 none
  statics := none }

def pool3 : Array CpInfo := pool [(1, u "java/lang/Cloneable"), (0, .class_ 1), (0, u "java/lang/Object"), (0, .class_ 3)] 3

/-- java/lang/Cloneable -/
def k3 : Class := { plain "java/lang/Cloneable" (some 0) with
  accessFlags := 1537
  interfaces := #[]
  cf := some (fileOf pool3 2 #[] #[] 1537 4 #[] #[])
  fields := #[]
  methods := #[]
  instanceTypes := #[]
  staticTypes := #[]
  resolved := Array.replicate 8 none
  statics := none }

def pool4 : Array CpInfo := pool [(1, u "java/io/Serializable"), (0, .class_ 1), (0, u "java/lang/Object"), (0, .class_ 3)] 3

/-- java/io/Serializable -/
def k4 : Class := { plain "java/io/Serializable" (some 0) with
  accessFlags := 1537
  interfaces := #[]
  cf := some (fileOf pool4 2 #[] #[] 1537 4 #[] #[])
  fields := #[]
  methods := #[]
  instanceTypes := #[]
  staticTypes := #[]
  resolved := Array.replicate 8 none
  statics := none }

/-- the primitive byte -/
def k5 : Class := { plain "byte" none with kind := .primitive 'B', accessFlags := 0x411 }
/-- [B -/
def k6 : Class := { plain "[B" (some 0) with kind := .array 5 .byte, interfaces := #[3, 4], accessFlags := 1041 }

/-- the primitive int -/
def k7 : Class := { plain "int" none with kind := .primitive 'I', accessFlags := 0x411 }
/-- [I -/
def k8 : Class := { plain "[I" (some 0) with kind := .array 7 .int, interfaces := #[3, 4], accessFlags := 1041 }

/-- the primitive long -/
def k9 : Class := { plain "long" none with kind := .primitive 'J', accessFlags := 0x411 }
/-- [J -/
def k10 : Class := { plain "[J" (some 0) with kind := .array 9 .long, interfaces := #[3, 4], accessFlags := 1041 }

def heap : Heap := #[]
def classes : Array Class := #[k0, k1, k2, k3, k4, k5, k6, k7, k8, k9, k10]
def interned : List (Array UInt16 × Addr) := []
def slotsUsed : Nat := 0
def theMethod : MethodId := ⟨1, 2⟩
def args0 : Array Value := #[.long 5, .long 7, .long 1, .long 9, .long 3, .int 34]
def aboutOver (below : List Frame) : State where
  vm := { classes := classes, interned := interned.toArray }
  heap := heap
  slotsUsed := slotsUsed
  threads := #[{ frames := .invoking theMethod args0 :: below }]
def below0 : List Frame := [.native { method := ⟨0, 0⟩, args := #[] }]
def about1 : State := aboutOver below0
def p0 : Program := .bare "" "" ""
def e0 : Env := launch0.env 0 0 0
theorem w_frames : about1.frames = Frame.invoking theMethod args0 :: below0 := rfl
set_option maxRecDepth 65536 in
theorem w_args : argsFit about1.vm theMethod args0 = true := by decide +kernel
set_option maxRecDepth 65536 in
theorem w_heap : heapFits about1 = true := by decide +kernel
set_option maxRecDepth 65536 in
theorem w_runnable : about1.curStatus? = some .runnable := by decide +kernel
set_option maxRecDepth 65536 in
theorem w_alone : about1.alone = true := by decide +kernel
set_option maxRecDepth 65536 in
theorem w_named : about1.methodNamed? x = some theMethod := by decide +kernel
set_option maxRecDepth 65536 in
theorem w_hears : about1.hears theMethod below0 = true := by decide +kernel
set_option maxRecDepth 65536 in
theorem w_ripe : about1.ripe theMethod args0 below0 = true := by decide +kernel
theorem w_running : about1.status = .running := rfl
set_option maxRecDepth 65536 in
theorem w_room : about1.hasRoom e0.platform room_1 = true :=
  launch0.hasRoom_least _ room_1 (by decide +kernel) (by decide +kernel) (by decide +kernel) (by decide +kernel) (by decide +kernel) (by decide +kernel)
theorem allAtoms_all (ts : List Jvm.Cond) (a : Array Jvm.Value) (st : Jvm.State) : (allAtoms ts).before a st = ts.all (fun c => c.before a st) := by
  induction ts with
  | nil => rfl
  | cons c t ih =>
    show (Jvm.Cond.and c (allAtoms t)).before a st = _
    rw [Jvm.Cond.before_and, ih, List.all_cons]
def words1 : List Jvm.Cond := Jvm.Cond.code x code maxLocals ret :: tables_1
/-- a 'code' word, met by the world's own term for the bytes: nothing is compared byte by byte -/
theorem code_word {y : MethodName} {bytes : ByteArray} {mx : Nat} {rt : Option FieldType} {a : Array Value} {s : State} {m : MethodId} {meth : Method} {c : Code} (h1 : s.methodNamed? y = some m) (h2 : s.vm.method? m = some meth) (h3 : meth.code = some c) (h4 : c.code = bytes)
    (h5 : (c.maxLocals == mx && c.exceptionTable.isEmpty && decide (c.maxStack ≤ mostOperands) && decide (meth.sig.returnType = rt) && !meth.locks && decide (parseMethodDescriptor y.desc = some meth.sig)) = true) : (Jvm.Cond.code y bytes mx rt).before a s = true := by
  simp only [Bool.and_eq_true, beq_iff_eq, Bool.not_eq_true', decide_eq_true_eq] at h5
  obtain ⟨⟨⟨⟨⟨g1, g2⟩, g3⟩, g4⟩, g5⟩, g6⟩ := h5
  simp [Cond.before, Cond.holds, Cond.value, h1, h2, h3, h4, g1, g2, g3, g4, g5, g6]
def isCode : Jvm.Cond → Bool
  | .code _ _ _ _ => true
  | _ => false
theorem all_split {L : List Jvm.Cond} {P : Jvm.Cond → Bool} (h1 : L.all (fun c => isCode c || P c) = true) (h2 : ∀ c ∈ L.filter isCode, P c = true) : L.all P = true := by
  refine List.all_eq_true.mpr fun c hc => ?_
  have h := List.all_eq_true.mp h1 c hc
  rcases Bool.eq_false_or_eq_true (isCode c) with hi | hi
  · exact h2 c (List.mem_filter.mpr ⟨hc, hi⟩)
  · simpa [hi] using h
set_option maxRecDepth 65536 in
theorem w_c0 : (Jvm.Cond.code x code maxLocals ret).before args0 about1 = true := code_word (m := ⟨1, 2⟩) (meth := k1m2) (c := k1c2) (by decide +kernel) rfl rfl rfl (by decide +kernel)
set_option maxRecDepth 65536 in
theorem w_c1 : (Jvm.Cond.code ({ cls := "com/example/turnstone/turnstone/sketch/Hashes", name := "ofValues", desc := "(J[JII)J" } : Jvm.MethodName) prog_17_method_6_code (8 : Nat) (Option.some Jvm.ClassFile.FieldType.long)).before args0 about1 = true := code_word (m := ⟨2, 2⟩) (meth := k2m2) (c := k2c2) (by decide +kernel) rfl rfl rfl (by decide +kernel)
set_option maxRecDepth 65536 in
theorem w_c2 : (Jvm.Cond.code ({ cls := "com/example/turnstone/turnstone/sketch/HashesOfValuesPinLaw", name := "step", desc := "(JJIII)J" } : Jvm.MethodName) method_2_code (7 : Nat) (Option.some Jvm.ClassFile.FieldType.long)).before args0 about1 = true := code_word (m := ⟨1, 1⟩) (meth := k1m1) (c := k1c1) (by decide +kernel) rfl rfl rfl (by decide +kernel)
set_option maxRecDepth 65536 in
theorem w_c3 : (Jvm.Cond.code ({ cls := "com/example/turnstone/turnstone/sketch/Hashes", name := "mix", desc := "(J)J" } : Jvm.MethodName) prog_17_method_2_code (4 : Nat) (Option.some Jvm.ClassFile.FieldType.long)).before args0 about1 = true := code_word (m := ⟨2, 1⟩) (meth := k2m1) (c := k2c1) (by decide +kernel) rfl rfl rfl (by decide +kernel)
def codes1 : List Jvm.Cond := [Jvm.Cond.code x code maxLocals ret, Jvm.Cond.code ({ cls := "com/example/turnstone/turnstone/sketch/Hashes", name := "ofValues", desc := "(J[JII)J" } : Jvm.MethodName) prog_17_method_6_code (8 : Nat) (Option.some Jvm.ClassFile.FieldType.long), Jvm.Cond.code ({ cls := "com/example/turnstone/turnstone/sketch/HashesOfValuesPinLaw", name := "step", desc := "(JJIII)J" } : Jvm.MethodName) method_2_code (7 : Nat) (Option.some Jvm.ClassFile.FieldType.long), Jvm.Cond.code ({ cls := "com/example/turnstone/turnstone/sketch/Hashes", name := "mix", desc := "(J)J" } : Jvm.MethodName) prog_17_method_2_code (4 : Nat) (Option.some Jvm.ClassFile.FieldType.long)]
set_option maxRecDepth 65536 in
theorem codes_eq : words1.filter isCode = codes1 := rfl
theorem w_codes : ∀ c ∈ words1.filter isCode, c.before args0 about1 = true := by
  rw [codes_eq]
  intro c hc
  simp only [codes1, List.mem_cons, List.not_mem_nil, or_false] at hc
  rcases hc with rfl | rfl | rfl | rfl
  · exact w_c0
  · exact w_c1
  · exact w_c2
  · exact w_c3
set_option maxRecDepth 65536 in
theorem w_t1 : words1.all (fun c => isCode c || c.before args0 about1) = true := by decide +kernel
theorem w_tables : (allAtoms (Jvm.Cond.code x code maxLocals ret :: tables_1)).before args0 about1 = true := by
  rw [allAtoms_all]
  show words1.all (fun c => c.before args0 about1) = true
  refine all_split ?_ w_codes
  rw [w_t1]
set_option maxRecDepth 65536 in
theorem w_case : (Jvm.Cond.and given_1 narrow_1).before args0 about1 = true := by decide +kernel
theorem w_applies : (headSpec (Jvm.Cond.code x code maxLocals ret :: tables_1) room_1).applies x e0.platform about1 = true :=
  (Spec.applies_iff w_frames).mpr ⟨w_running, w_runnable, w_alone, w_named, w_hears, w_ripe, w_room, w_tables⟩
theorem atStart : AtStart classFile x code maxLocals ret World_1 tables_1 room_1 Calls_1 rest_1 Pre_1 launch0 p0 e0 about1 theMethod args0 below0 :=
  ⟨lists_1, trivial, launch0.admits_env _ _ _, launch0.least_env, fairChoices_fair.cas, fairChoices_fair.clock, w_frames, w_args, w_heap, w_applies, trivial, trivial, w_case⟩
end start1
theorem witness_1 : WitnessClaimed_1 := ⟨start1.p0, start1.e0, start1.about1, start1.theMethod, start1.args0, start1.below0, start1.atStart⟩
end Jvm.Pilot.@@N@@
