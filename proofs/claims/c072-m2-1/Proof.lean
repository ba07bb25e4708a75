import JvmDerived
import JvmDerived.Pilot.@@N@@Statement
import JvmDerived.Pilot.@@N@@Code
set_option linter.unusedVariables false
set_option linter.unusedSimpArgs false
namespace Jvm.Pilot.@@N@@
open Jvm Jvm.ClassFile Sem Op Lib Jvm.Free Jvm.Stand Jvm.LawKit Jvm.RoadKit Bundle Jvm.Pilot.@@N@@.Jvm.D
section OwnKit
variable {p : Program} {l : Launch} {e : Env} {R : Room} {s : State} {m : MethodId} {args : Array Value} {below : List Frame} {meth : Method} {c : Code} {T : State} {locs : List Loc} {cells slots : Nat} {bc : ByteArray} {Q : Option Value → Heap → List Loc → Prop} {mc ms : Nat} {Z : State} {a0 : Array Value} {h : Heap} {pc pc' pt pf : Nat} {Ls : Array Slot} {st rest : List Value}
/-- from this frame over T the invocation comes to its end by returning, and Q holds there -/
def Go (p : Program) (e : Env) (below : List Frame) (s : State) (Q : Option Value → Heap → List Loc → Prop) (mc ms : Nat) (m : MethodId) (T : State) (pc : Nat) (Ls : Array Slot) (st : List Value) : Prop :=
  ∃ s₂ o, Steps p.tables e below (T.setTop (mkF m pc Ls st)) s₂ ∧ s₂.status = .running ∧ Ended s₂ below o ∧ ∃ v L, o = .returned v ∧ Q v s₂.heap L ∧ FrameEnd s o s₂ L mc ms
theorem Go.of {T' : State} {Ls' : Array Slot} {st' : List Value} (k : ∀ t, Steps p.tables e below (T'.setTop (mkF m pc' Ls' st')) t → Steps p.tables e below (T.setTop (mkF m pc Ls st)) t) (g : Go p e below s Q mc ms m T' pc' Ls' st') : Go p e below s Q mc ms m T pc Ls st := by
  obtain ⟨s₂, o, h1, h2⟩ := g
  exact ⟨s₂, o, k _ h1, h2⟩
/-- a method's contract, as a caller takes it -/
def Ct (l : Launch) (Z : State) (y : MethodName) (bytes : ByteArray) (maxL : Nat) (ret : Option FieldType) (rm : Room) (as' : Array Value) (h : Heap) (Q : Option Value → Heap → List Loc → Prop) : Prop :=
  MetFree l y (head1 [Jvm.Cond.code y bytes maxL ret] rm) (fun a U => a = as' ∧ Z.Warmed39 U.vm ∧ U.heap = h) (fun _ _ _ _ _ => True) (fun _ U o U' => ∃ v L, o = .returned v ∧ Q v U'.heap L ∧ FrameEnd U o U' L rm.cells rm.slots)
theorem own_met {y : MethodName} {bytes : ByteArray} {maxL : Nat} {ret : Option FieldType} {ws : List Jvm.Cond} {rm : Room} {as' : Array Value}
    (hpl : plainFor y = true) (hef : ∀ m, entryFrame m as' maxL = mkF m 0 Ls [])
    (body : ∀ (p : Program) (e : Env) (s : State) (m : MethodId) (below : List Frame) (meth : Method) (c : Code) (T : State), Stand p l e rm s m as' below meth c T [] 0 0 → p.tables.exec = Jvm.exec → c.code = bytes → c.maxLocals = maxL →
      s.vm.findClass y.cls = some m.cls → meth.name = y.name → meth.sig.returnType = ret → meth.locks = false → Z.Warmed39 s.vm → T.heap = h → Go p e below s Q mc ms m T 0 Ls []) :
    MetFree l y (head1 (Jvm.Cond.code y bytes maxL ret :: ws) rm) (fun a U => a = as' ∧ Z.Warmed39 U.vm ∧ U.heap = h) (fun _ _ _ _ _ => True) (fun _ U o U' => ∃ v L, o = .returned v ∧ Q v U'.heap L ∧ FrameEnd U o U' L mc ms) := by
  refine MetFree.of_bodySF hpl hisR ?_
  intro p e s m args below meth c s₁ Bd hml0 hP hK
  obtain ⟨rfl, hZ, hh⟩ := hP
  obtain ⟨s₂, o, h1, h2, h3, v, L, h4, h5, h6⟩ := body p e s m below meth c s₁ (Stand.of_body Bd) Bd.exec Bd.bytes hml0 (findClass_of_methodNamed Bd.named) (name_of_methodNamed Bd.named Bd.method).1 Bd.returns Bd.notSynchronized hZ (by rw [← hh, Bd.state]; rfl)
  exact ⟨s₂, o, castTop (hef m) h1, h2, h3, v, L, h4, h5, h6⟩
theorem g_nameI {x : Int32} (k : ∀ z : Int32, z = x → Go p e below s Q mc ms m T pc Ls (.int z :: rest)) : Go p e below s Q mc ms m T pc Ls (.int x :: rest) := k x rfl
theorem g_nameL {x : Int64} (k : ∀ z : Int64, z = x → Go p e below s Q mc ms m T pc Ls (.long z :: rest)) : Go p e below s Q mc ms m T pc Ls (.long x :: rest) := k x rfl
theorem g_iload (X : Stand p l e R s m args below meth c T locs cells slots) (hx : p.tables.exec = Jvm.exec) (hby : c.code = bc) {n : Nat} {v : Int32} (hd : decode bc pc = .ok (.iload n, 2)) (hp : pc + 2 = pc') (hl : Ls[n]? = some (.val (.int v))) (k : Go p e below s Q mc ms m T pc' Ls (.int v :: st)) : Go p e below s Q mc ms m T pc Ls st := by
  subst hp; exact Go.of (fun _ q => XS.iload X.here hx rfl (hb hby hd) hl q) k
theorem g_istore (X : Stand p l e R s m args below meth c T locs cells slots) (hx : p.tables.exec = Jvm.exec) (hby : c.code = bc) {n : Nat} {v : Int32} {Ls' : Array Slot} (hd : decode bc pc = .ok (.istore n, 2)) (hp : pc + 2 = pc') (hl : storeLocals Ls n (.int v) = some Ls') (k : Go p e below s Q mc ms m T pc' Ls' rest) : Go p e below s Q mc ms m T pc Ls (.int v :: rest) := by
  subst hp; exact Go.of (fun _ q => XS.istore X.here hx rfl (hb hby hd) rfl hl q) k
theorem g_lloadN (X : Stand p l e R s m args below meth c T locs cells slots) (hx : p.tables.exec = Jvm.exec) (hby : c.code = bc) {n : Fin 4} {v : Int64} (hd : decode bc pc = .ok (.lload_n n, 1)) (hp : pc + 1 = pc') (hl : Ls[n.val]? = some (.val (.long v))) (k : Go p e below s Q mc ms m T pc' Ls (.long v :: st)) : Go p e below s Q mc ms m T pc Ls st := by
  subst hp; exact Go.of (fun _ q => XS.lloadN X.here hx rfl (hb hby hd) hl q) k
theorem g_lload (X : Stand p l e R s m args below meth c T locs cells slots) (hx : p.tables.exec = Jvm.exec) (hby : c.code = bc) {n : Nat} {v : Int64} (hd : decode bc pc = .ok (.lload n, 2)) (hp : pc + 2 = pc') (hl : Ls[n]? = some (.val (.long v))) (k : Go p e below s Q mc ms m T pc' Ls (.long v :: st)) : Go p e below s Q mc ms m T pc Ls st := by
  subst hp; exact Go.of (fun _ q => XS.lload X.here hx rfl (hb hby hd) hl q) k
theorem g_lstore (X : Stand p l e R s m args below meth c T locs cells slots) (hx : p.tables.exec = Jvm.exec) (hby : c.code = bc) {n : Nat} {v : Int64} {Ls' : Array Slot} (hd : decode bc pc = .ok (.lstore n, 2)) (hp : pc + 2 = pc') (hl : storeLocals Ls n (.long v) = some Ls') (k : Go p e below s Q mc ms m T pc' Ls' rest) : Go p e below s Q mc ms m T pc Ls (.long v :: rest) := by
  subst hp; exact Go.of (fun _ q => XS.lstore X.here hx rfl (hb hby hd) rfl hl q) k
theorem g_aloadN (X : Stand p l e R s m args below meth c T locs cells slots) (hx : p.tables.exec = Jvm.exec) (hby : c.code = bc) {n : Fin 4} {v : Value} (hd : decode bc pc = .ok (.aload_n n, 1)) (hp : pc + 1 = pc') (hl : Ls[n.val]? = some (.val v)) (hv : v.isRef = true) (k : Go p e below s Q mc ms m T pc' Ls (v :: st)) : Go p e below s Q mc ms m T pc Ls st := by
  subst hp; exact Go.of (fun _ q => XS.aloadN X.here hx rfl (hb hby hd) hl hv q) k
theorem g_aload (X : Stand p l e R s m args below meth c T locs cells slots) (hx : p.tables.exec = Jvm.exec) (hby : c.code = bc) {n : Nat} {v : Value} (hd : decode bc pc = .ok (.aload n, 2)) (hp : pc + 2 = pc') (hl : Ls[n]? = some (.val v)) (hv : v.isRef = true) (k : Go p e below s Q mc ms m T pc' Ls (v :: st)) : Go p e below s Q mc ms m T pc Ls st := by
  subst hp; exact Go.of (fun _ q => XS.aload X.here hx rfl (hb hby hd) hl hv q) k
theorem g_astore (X : Stand p l e R s m args below meth c T locs cells slots) (hx : p.tables.exec = Jvm.exec) (hby : c.code = bc) {n : Nat} {v : Value} {Ls' : Array Slot} (hd : decode bc pc = .ok (.astore n, 2)) (hp : pc + 2 = pc') (hv : v.isRef = true) (hl : storeLocals Ls n v = some Ls') (k : Go p e below s Q mc ms m T pc' Ls' rest) : Go p e below s Q mc ms m T pc Ls (v :: rest) := by
  subst hp; exact Go.of (fun _ q => XS.astore X.here hx rfl (hb hby hd) rfl hv hl q) k
theorem g_iconst (X : Stand p l e R s m args below meth c T locs cells slots) (hx : p.tables.exec = Jvm.exec) (hby : c.code = bc) {i : Int} {n : Int32} (hd : decode bc pc = .ok (.iconst i, 1)) (hp : pc + 1 = pc') (hn : Int32.ofInt i = n) (k : Go p e below s Q mc ms m T pc' Ls (.int n :: st)) : Go p e below s Q mc ms m T pc Ls st := by
  subst hp; exact Go.of (fun _ q => XS.iconst X.here hx rfl (hb hby hd) (by rw [hn]; exact q)) k
theorem g_bipush (X : Stand p l e R s m args below meth c T locs cells slots) (hx : p.tables.exec = Jvm.exec) (hby : c.code = bc) {i : Int} {n : Int32} (hd : decode bc pc = .ok (.bipush i, 2)) (hp : pc + 2 = pc') (hn : (Int8.ofInt i).toInt32 = n) (k : Go p e below s Q mc ms m T pc' Ls (.int n :: st)) : Go p e below s Q mc ms m T pc Ls st := by
  subst hp; exact Go.of (fun _ q => XS.bipush X.here hx rfl (hb hby hd) (by rw [hn]; exact q)) k
theorem g_lconst (X : Stand p l e R s m args below meth c T locs cells slots) (hx : p.tables.exec = Jvm.exec) (hby : c.code = bc) {i : Fin 2} {n : Int64} (hd : decode bc pc = .ok (.lconst i, 1)) (hp : pc + 1 = pc') (hn : Int64.ofNat i = n) (k : Go p e below s Q mc ms m T pc' Ls (.long n :: st)) : Go p e below s Q mc ms m T pc Ls st := by
  subst hp; exact Go.of (fun _ q => XS.lconst X.here hx rfl (hb hby hd) (by rw [hn]; exact q)) k
theorem g_ladd (X : Stand p l e R s m args below meth c T locs cells slots) (hx : p.tables.exec = Jvm.exec) (hby : c.code = bc) {x y : Int64} (hd : decode bc pc = .ok (.ladd, 1)) (hp : pc + 1 = pc')  (k : Go p e below s Q mc ms m T pc' Ls (.long (x + y) :: rest)) : Go p e below s Q mc ms m T pc Ls (.long y :: .long x :: rest) := by
  subst hp; exact Go.of (fun _ q => XS.ladd X.here hx rfl (hb hby hd) rfl q) k
theorem g_lsub (X : Stand p l e R s m args below meth c T locs cells slots) (hx : p.tables.exec = Jvm.exec) (hby : c.code = bc) {x y : Int64} (hd : decode bc pc = .ok (.lsub, 1)) (hp : pc + 1 = pc')  (k : Go p e below s Q mc ms m T pc' Ls (.long (x - y) :: rest)) : Go p e below s Q mc ms m T pc Ls (.long y :: .long x :: rest) := by
  subst hp; exact Go.of (fun _ q => XS.lsub X.here hx rfl (hb hby hd) rfl q) k
theorem g_iand (X : Stand p l e R s m args below meth c T locs cells slots) (hx : p.tables.exec = Jvm.exec) (hby : c.code = bc) {x y : Int32} (hd : decode bc pc = .ok (.iand, 1)) (hp : pc + 1 = pc')  (k : Go p e below s Q mc ms m T pc' Ls (.int (x &&& y) :: rest)) : Go p e below s Q mc ms m T pc Ls (.int y :: .int x :: rest) := by
  subst hp; exact Go.of (fun _ q => XS.iand X.here hx rfl (hb hby hd) rfl q) k
theorem g_dup (X : Stand p l e R s m args below meth c T locs cells slots) (hx : p.tables.exec = Jvm.exec) (hby : c.code = bc) {x : Value} (hd : decode bc pc = .ok (.dup, 1)) (hp : pc + 1 = pc') (hc : x.category = 1) (k : Go p e below s Q mc ms m T pc' Ls (x :: x :: rest)) : Go p e below s Q mc ms m T pc Ls (x :: rest) := by
  subst hp; exact Go.of (fun _ q => XS.dup X.here hx rfl (hb hby hd) rfl hc q) k
theorem g_goto (X : Stand p l e R s m args below meth c T locs cells slots) (hx : p.tables.exec = Jvm.exec) (hby : c.code = bc) {i : Int} (hd : decode bc pc = .ok (.goto i, 3)) (ho : 0 ≤ (pc : Int) + i) (hp : ((pc : Int) + i).toNat = pc') (k : Go p e below s Q mc ms m T pc' Ls st) : Go p e below s Q mc ms m T pc Ls st := Go.of (fun _ q => XS.goto X.here hx rfl rfl (hb hby hd) ho hp q) k
theorem own_hlt (x y : Int32) : if_icmp.holds .lt x y = decide (x.toInt < y.toInt) := by simp [if_icmp.holds, Int32.lt_iff_toInt_lt]
theorem own_hge (x y : Int32) : if_icmp.holds .ge x y = decide (y.toInt ≤ x.toInt) := by simp [if_icmp.holds, Int32.le_iff_toInt_le]
theorem own_hgt (x y : Int32) : if_icmp.holds .gt x y = decide (y.toInt < x.toInt) := by simp [if_icmp.holds, Int32.lt_iff_toInt_lt]
theorem own_hne (x y : Int32) : if_icmp.holds .ne x y = decide (¬ x = y) := by by_cases q : x = y <;> simp [if_icmp.holds, q]
theorem g_icmp (X : Stand p l e R s m args below meth c T locs cells slots) (hx : p.tables.exec = Jvm.exec) (hby : c.code = bc) {cd : ClassFile.Cond} {i : Int} {x y : Int32} {P : Prop} [Decidable P] (hP : if_icmp.holds cd x y = decide P) (hd : decode bc pc = .ok (.if_icmp cd i, 3)) (ho : 0 ≤ (pc : Int) + i) (hp : ((pc : Int) + i).toNat = pt) (hf : pc + 3 = pf) (ky : P → Go p e below s Q mc ms m T pt Ls rest) (kn : ¬ P → Go p e below s Q mc ms m T pf Ls rest) : Go p e below s Q mc ms m T pc Ls (.int y :: .int x :: rest) := by
  subst hf
  by_cases q : P
  · exact Go.of (fun _ z => XS.icmpYes X.here hx rfl rfl (hb hby hd) rfl (by rw [hP]; exact decide_eq_true q) ho hp z) (ky q)
  · exact Go.of (fun _ z => XS.icmpNo X.here hx rfl (hb hby hd) rfl (by rw [hP]; exact decide_eq_false q) z) (kn q)
theorem g_ifc (X : Stand p l e R s m args below meth c T locs cells slots) (hx : p.tables.exec = Jvm.exec) (hby : c.code = bc) {cd : ClassFile.Cond} {i : Int} {x : Int32} {P : Prop} [Decidable P] (hP : if_icmp.holds cd x 0 = decide P) (hd : decode bc pc = .ok (.ifCond cd i, 3)) (ho : 0 ≤ (pc : Int) + i) (hp : ((pc : Int) + i).toNat = pt) (hf : pc + 3 = pf) (ky : P → Go p e below s Q mc ms m T pt Ls rest) (kn : ¬ P → Go p e below s Q mc ms m T pf Ls rest) : Go p e below s Q mc ms m T pc Ls (.int x :: rest) := by
  subst hf
  by_cases q : P
  · exact Go.of (fun _ z => XS.ifYes X.here hx rfl rfl (hb hby hd) rfl (by rw [if0, hP]; exact decide_eq_true q) ho hp z) (ky q)
  · exact Go.of (fun _ z => XS.ifNo X.here hx rfl (hb hby hd) rfl (by rw [if0, hP]; exact decide_eq_false q) z) (kn q)
theorem g_iflt (X : Stand p l e R s m args below meth c T locs cells slots) (hx : p.tables.exec = Jvm.exec) (hby : c.code = bc) {i : Int} {x : Int32} (hd : decode bc pc = .ok (.ifCond .lt i, 3)) (ho : 0 ≤ (pc : Int) + i) (hp : ((pc : Int) + i).toNat = pt) (hf : pc + 3 = pf) (ky : x.toInt < 0 → Go p e below s Q mc ms m T pt Ls rest) (kn : 0 ≤ x.toInt → Go p e below s Q mc ms m T pf Ls rest) : Go p e below s Q mc ms m T pc Ls (.int x :: rest) :=
  g_ifc X hx hby (own_hlt x 0) hd ho hp hf ky (fun q => kn (Int.not_lt.mp q))
theorem g_ifge (X : Stand p l e R s m args below meth c T locs cells slots) (hx : p.tables.exec = Jvm.exec) (hby : c.code = bc) {i : Int} {x : Int32} (hd : decode bc pc = .ok (.ifCond .ge i, 3)) (ho : 0 ≤ (pc : Int) + i) (hp : ((pc : Int) + i).toNat = pt) (hf : pc + 3 = pf) (ky : 0 ≤ x.toInt → Go p e below s Q mc ms m T pt Ls rest) (kn : x.toInt < 0 → Go p e below s Q mc ms m T pf Ls rest) : Go p e below s Q mc ms m T pc Ls (.int x :: rest) :=
  g_ifc X hx hby (own_hge x 0) hd ho hp hf ky (fun q => kn (Int.not_le.mp q))
theorem g_ifgt (X : Stand p l e R s m args below meth c T locs cells slots) (hx : p.tables.exec = Jvm.exec) (hby : c.code = bc) {i : Int} {x : Int32} (hd : decode bc pc = .ok (.ifCond .gt i, 3)) (ho : 0 ≤ (pc : Int) + i) (hp : ((pc : Int) + i).toNat = pt) (hf : pc + 3 = pf) (ky : 0 < x.toInt → Go p e below s Q mc ms m T pt Ls rest) (kn : x.toInt ≤ 0 → Go p e below s Q mc ms m T pf Ls rest) : Go p e below s Q mc ms m T pc Ls (.int x :: rest) :=
  g_ifc X hx hby (own_hgt x 0) hd ho hp hf ky (fun q => kn (Int.not_lt.mp q))
theorem g_icmpne (X : Stand p l e R s m args below meth c T locs cells slots) (hx : p.tables.exec = Jvm.exec) (hby : c.code = bc) {i : Int} {x y : Int32} (hd : decode bc pc = .ok (.if_icmp .ne i, 3)) (ho : 0 ≤ (pc : Int) + i) (hp : ((pc : Int) + i).toNat = pt) (hf : pc + 3 = pf) (ky : ¬ x = y → Go p e below s Q mc ms m T pt Ls rest) (kn : x = y → Go p e below s Q mc ms m T pf Ls rest) : Go p e below s Q mc ms m T pc Ls (.int y :: .int x :: rest) :=
  g_icmp X hx hby (own_hne x y) hd ho hp hf ky (fun q => kn (Decidable.not_not.mp q))
theorem g_ifne (X : Stand p l e R s m args below meth c T locs cells slots) (hx : p.tables.exec = Jvm.exec) (hby : c.code = bc) {i : Int} {x : Int32} (hd : decode bc pc = .ok (.ifCond .ne i, 3)) (ho : 0 ≤ (pc : Int) + i) (hp : ((pc : Int) + i).toNat = pt) (hf : pc + 3 = pf) (ky : ¬ x = 0 → Go p e below s Q mc ms m T pt Ls rest) (kn : x = 0 → Go p e below s Q mc ms m T pf Ls rest) : Go p e below s Q mc ms m T pc Ls (.int x :: rest) :=
  g_ifc X hx hby (own_hne x 0) hd ho hp hf ky (fun q => kn (Decidable.not_not.mp q))
theorem own_cmp (x y : Int64) : XT.cmpL x y = lcmpW x y := by simp only [XT.cmpL, lcmpW, gt_iff_lt]
theorem own_lc (x y : Int64) : ((lcmpW x y).toInt < 0 ↔ x.toInt < y.toInt) ∧ (0 < (lcmpW x y).toInt ↔ y.toInt < x.toInt) ∧ (lcmpW x y = 0 ↔ x = y) := by
  refine ⟨?_, ?_, lw_eq x y⟩
  · rw [← Int64.lt_iff_toInt_lt, ← lw_lt, Int32.lt_iff_toInt_lt]; rfl
  · rw [← Int64.lt_iff_toInt_lt, ← lw_gt, Int32.lt_iff_toInt_lt]; rfl
theorem g_lcmplt (X : Stand p l e R s m args below meth c T locs cells slots) (hx : p.tables.exec = Jvm.exec) (hby : c.code = bc) {i : Int} {x y : Int64} (hd : decode bc pc = .ok (.lcmp, 1)) (hp1 : pc + 1 = pc') (hd' : decode bc pc' = .ok (.ifCond .lt i, 3)) (ho : 0 ≤ (pc' : Int) + i) (hp : ((pc' : Int) + i).toNat = pt) (hf : pc' + 3 = pf) (ky : x.toInt < y.toInt → Go p e below s Q mc ms m T pt Ls rest) (kn : y.toInt ≤ x.toInt → Go p e below s Q mc ms m T pf Ls rest) : Go p e below s Q mc ms m T pc Ls (.long y :: .long x :: rest) := by
  subst hp1
  refine Go.of (fun _ q => XT.lcmp X.here hx rfl (hb hby hd) rfl (by rw [own_cmp]; exact q)) (g_iflt X hx hby hd' ho hp hf (fun q => ky ((own_lc x y).1.mp q)) (fun q => kn (Int.not_lt.mp fun z => Int.not_lt.mpr q ((own_lc x y).1.mpr z))))
theorem g_lcmpge (X : Stand p l e R s m args below meth c T locs cells slots) (hx : p.tables.exec = Jvm.exec) (hby : c.code = bc) {i : Int} {x y : Int64} (hd : decode bc pc = .ok (.lcmp, 1)) (hp1 : pc + 1 = pc') (hd' : decode bc pc' = .ok (.ifCond .ge i, 3)) (ho : 0 ≤ (pc' : Int) + i) (hp : ((pc' : Int) + i).toNat = pt) (hf : pc' + 3 = pf) (ky : y.toInt ≤ x.toInt → Go p e below s Q mc ms m T pt Ls rest) (kn : x.toInt < y.toInt → Go p e below s Q mc ms m T pf Ls rest) : Go p e below s Q mc ms m T pc Ls (.long y :: .long x :: rest) := by
  subst hp1
  refine Go.of (fun _ q => XT.lcmp X.here hx rfl (hb hby hd) rfl (by rw [own_cmp]; exact q)) (g_ifge X hx hby hd' ho hp hf (fun q => ky (Int.not_lt.mp fun z => Int.not_lt.mpr q ((own_lc x y).1.mpr z))) (fun q => kn ((own_lc x y).1.mp q)))
theorem g_lcmpgt (X : Stand p l e R s m args below meth c T locs cells slots) (hx : p.tables.exec = Jvm.exec) (hby : c.code = bc) {i : Int} {x y : Int64} (hd : decode bc pc = .ok (.lcmp, 1)) (hp1 : pc + 1 = pc') (hd' : decode bc pc' = .ok (.ifCond .gt i, 3)) (ho : 0 ≤ (pc' : Int) + i) (hp : ((pc' : Int) + i).toNat = pt) (hf : pc' + 3 = pf) (ky : y.toInt < x.toInt → Go p e below s Q mc ms m T pt Ls rest) (kn : x.toInt ≤ y.toInt → Go p e below s Q mc ms m T pf Ls rest) : Go p e below s Q mc ms m T pc Ls (.long y :: .long x :: rest) := by
  subst hp1
  refine Go.of (fun _ q => XT.lcmp X.here hx rfl (hb hby hd) rfl (by rw [own_cmp]; exact q)) (g_ifgt X hx hby hd' ho hp hf (fun q => ky ((own_lc x y).2.1.mp q)) (fun q => kn (Int.not_lt.mp fun z => Int.not_lt.mpr q ((own_lc x y).2.1.mpr z))))
theorem g_lcmpne (X : Stand p l e R s m args below meth c T locs cells slots) (hx : p.tables.exec = Jvm.exec) (hby : c.code = bc) {i : Int} {x y : Int64} (hd : decode bc pc = .ok (.lcmp, 1)) (hp1 : pc + 1 = pc') (hd' : decode bc pc' = .ok (.ifCond .ne i, 3)) (ho : 0 ≤ (pc' : Int) + i) (hp : ((pc' : Int) + i).toNat = pt) (hf : pc' + 3 = pf) (ky : ¬ x = y → Go p e below s Q mc ms m T pt Ls rest) (kn : x = y → Go p e below s Q mc ms m T pf Ls rest) : Go p e below s Q mc ms m T pc Ls (.long y :: .long x :: rest) := by
  subst hp1
  refine Go.of (fun _ q => XT.lcmp X.here hx rfl (hb hby hd) rfl (by rw [own_cmp]; exact q)) (g_ifne X hx hby hd' ho hp hf (fun q => ky (fun z => q ((own_lc x y).2.2.mpr z))) (fun q => kn ((own_lc x y).2.2.mp q)))
theorem g_ret (X : Stand p l e R s m args below meth c T locs cells slots) (hx : p.tables.exec = Jvm.exec) (hby : c.code = bc) (hlk : meth.locks = false) {t : FieldType} {w : Value} {i : Instr} (hret : meth.sig.returnType = some t) (hn : narrow t w = w) (hi : (i = .ireturn ∧ (t = .int ∨ t = .boolean ∨ t = .byte ∨ t = .char ∨ t = .short) ∧ ∃ z, w = .int z) ∨ (i = .lreturn ∧ t = .long ∧ ∃ z, w = .long z) ∨ (i = .dreturn ∧ t = .double ∧ ∃ z, w = .double z) ∨ (i = .freturn ∧ t = .float ∧ ∃ z, w = .float z) ∨ (i = .areturn ∧ t.isReference = true ∧ w.isRef = true)) (hd : decode bc pc = .ok (i, 1)) (hc : cells ≤ mc) (hs : slots ≤ ms) (hq : Q (some w) T.heap locs) : Go p e below s Q mc ms m T pc Ls (w :: rest) := by
  obtain ⟨fs, hr, hrun, hended, hW, hsame⟩ := X.leave (v := some w) (fun h => by rw [hret] at h; cases h) hlk
  exact ⟨_, _, retOut X hx hret hn hi (hb hby hd) hr, hrun, hended, _, _, rfl, hq, ⟨_, rfl⟩, hW, hsame.mono hc hs⟩
theorem g_retL (X : Stand p l e R s m args below meth c T locs cells slots) (hx : p.tables.exec = Jvm.exec) (hby : c.code = bc) (hlk : meth.locks = false) {z : Int64} (hret : meth.sig.returnType = some .long) (hd : decode bc pc = .ok (.lreturn, 1)) (hc : cells ≤ mc) (hs : slots ≤ ms) (hq : Q (some (.long z)) T.heap locs) : Go p e below s Q mc ms m T pc Ls (.long z :: rest) := g_ret X hx hby hlk hret rfl (Or.inr (Or.inl ⟨rfl, rfl, _, rfl⟩)) hd hc hs hq
theorem g_retZ (X : Stand p l e R s m args below meth c T locs cells slots) (hx : p.tables.exec = Jvm.exec) (hby : c.code = bc) (hlk : meth.locks = false) {z : Int32} (hz : z = 0 ∨ z = 1) (hret : meth.sig.returnType = some .boolean) (hd : decode bc pc = .ok (.ireturn, 1)) (hc : cells ≤ mc) (hs : slots ≤ ms) (hq : Q (some (.int z)) T.heap locs) : Go p e below s Q mc ms m T pc Ls (.int z :: rest) := g_ret X hx hby hlk hret (by rcases hz with rfl | rfl <;> rfl) (Or.inl ⟨rfl, Or.inr (Or.inl rfl), _, rfl⟩) hd hc hs hq
theorem g_retV (X : Stand p l e R s m args below meth c T locs cells slots) (hx : p.tables.exec = Jvm.exec) (hby : c.code = bc) (hlk : meth.locks = false) (hret : meth.sig.returnType = none) (hd : decode bc pc = .ok (.return_, 1)) (hc : cells ≤ mc) (hs : slots ≤ ms) (hq : Q none T.heap locs) : Go p e below s Q mc ms m T pc Ls [] := by
  obtain ⟨fs, hr, hrun, hended, hW, hsame⟩ := X.leave (v := none) (fun _ => rfl) hlk
  exact ⟨_, _, X.returnOut hx hret (hb hby hd) hr, hrun, hended, _, _, rfl, hq, ⟨_, rfl⟩, hW, hsame.mono hc hs⟩
theorem g_ldcL (X : Stand p l e R s m args below meth c T locs cells slots) (hx : p.tables.exec = Jvm.exec) (hby : c.code = bc) (hZ : Z.Warmed39 s.vm) {own : String} (hown : s.vm.findClass own = some m.cls) {n : Nat} {v : Int64} (w : (Jvm.Cond.constantLong own n v).before a0 Z = true) (hd : decode bc pc = .ok (.ldc2_w n, 3)) (hp : pc + 3 = pc') (k : Go p e below s Q mc ms m T pc' Ls (.long v :: st)) : Go p e below s Q mc ms m T pc Ls st := by
  subst hp; exact Go.of (X.ldc2Long hx hown (mvT hZ w) (g := mkF m pc Ls st) rfl (hb hby hd)) k
theorem g_getF (X : Stand p l e R s m args below meth c T locs cells slots) (hx : p.tables.exec = Jvm.exec) (hby : c.code = bc) (hZ : Z.Warmed39 s.vm) {own : String} (hown : s.vm.findClass own = some m.cls) (eT : T.heap = h) {i : Nat} {O n d : String} {a : Addr} {v : Value} (w : (Jvm.Cond.fieldLink own i O n d).before a0 Z = true) (F : Fld Z h a O n d v) (hd : decode bc pc = .ok (.getfield i, 3)) (hp : pc + 3 = pc') (k : ∀ T', Stand p l e R s m args below meth c T' locs cells slots → T'.heap = h → Go p e below s Q mc ms m T' pc' Ls (v :: rest)) : Go p e below s Q mc ms m T pc Ls (.ref a :: rest) := by
  subst hp
  obtain ⟨T', X', e', st'⟩ := getF X hx hZ hown (host := "") (Or.inl w) Via.refl eT F (g := mkF m pc Ls (.ref a :: rest)) rfl rfl (hb hby hd)
  exact Go.of st' (k T' X' e')
theorem g_putF (X : Stand p l e R s m args below meth c T locs cells slots) (hx : p.tables.exec = Jvm.exec) (hby : c.code = bc) (hZ : Z.Warmed39 s.vm) {own : String} (hown : s.vm.findClass own = some m.cls) (eT : T.heap = h) {i kk : Nat} {O n d C : String} {a : Addr} {v old : Value} {ty : FieldType} (w : (Jvm.Cond.fieldLink own i O n d).before a0 Z = true) (F : Fld Z h a O n d old) (E : Exa Z h a C) (L : (Jvm.Cond.lays C O n d).before a0 Z = true ∨ ((Jvm.Cond.laysFinal C O n d).before a0 Z = true ∧ own = O ∧ meth.name = "<init>")) (wi : (Jvm.Cond.instantiable C kk).before a0 Z = true) (hty : parseFieldDescriptor d = some ty) (hn : narrow ty v = v) (hf : fits ty v = true) (hd : decode bc pc = .ok (.putfield i, 3)) (hp : pc + 3 = pc') (k : ∀ T' h', Stand p l e R s m args below meth c T' (locs ++ [⟨a, Jvm.RoadKit.slotOf Z O n d⟩]) cells slots → T'.heap = h' → Wr h h' a (Jvm.RoadKit.slotOf Z O n d) v → Go p e below s Q mc ms m T' pc' Ls rest) : Go p e below s Q mc ms m T pc Ls (v :: .ref a :: rest) := by
  subst hp
  obtain ⟨T', h', X', e', W', st'⟩ := putF X hx hZ hown (host := "") (Or.inl w) Via.refl eT F E L wi hty hn hf (g := mkF m pc Ls (v :: .ref a :: rest)) rfl rfl (hb hby hd)
  exact Go.of st' (k T' h' X' e' W')
theorem g_new (X : Stand p l e R s m args below meth c T locs cells slots) (hx : p.tables.exec = Jvm.exec) (hby : c.code = bc) (hZ : Z.Warmed39 s.vm) {own : String} (hown : s.vm.findClass own = some m.cls) (eT : T.heap = h) {i n : Nat} {C : String} (w : (Jvm.Cond.classLink own i C).before a0 Z = true) (wi : (Jvm.Cond.instantiable C n).before a0 Z = true) (wz : (Jvm.Cond.initialized C).before a0 Z = true) (hd : decode bc pc = .ok (.new i, 3)) (hp : pc + 3 = pc') (hc : cells + 1 ≤ R.cells) (hl : slots + n ≤ R.slots) (k : ∀ T' h' b, b = h.size → Stand p l e R s m args below meth c T' locs (cells + 1) (slots + n) → T'.heap = h' → Ext h h' → Exa Z h' b C → (∀ {O nm d : String} {ty : FieldType}, Laid Z a0 C O nm d → parseFieldDescriptor d = some ty → Fld Z h' b O nm d (defaultValue ty)) → Go p e below s Q mc ms m T' pc' Ls (.ref b :: st)) : Go p e below s Q mc ms m T pc Ls st := by
  subst hp
  obtain ⟨T', h', X', e', E', A', D', -, st'⟩ := newO X hx hZ hown w wi wz eT (g := mkF m pc Ls st) rfl (hb hby hd) hc hl
  exact Go.of st' (k T' h' _ rfl X' e' E' A' D')
theorem g_initO (X : Stand p l e R s m args below meth c T locs cells slots) (hx : p.tables.exec = Jvm.exec) (hby : c.code = bc) (hZ : Z.Warmed39 s.vm) {own : String} (hown : s.vm.findClass own = some m.cls) (eT : T.heap = h) {i ML : Nat} {a : Addr} (w1 : (Jvm.Cond.methodLink own i Lib.objectInit).before a0 Z = true) (w2 : (Jvm.Cond.instanceMethod Lib.objectInit).before a0 Z = true) (w3 : (Jvm.Cond.code Lib.objectInit ⟨#[0xb1]⟩ 1 none).before a0 Z = true) (hml : c.maxLocals = ML) (hls : Ls.size = ML) (hd : decode bc pc = .ok (.invokespecial i, 3)) (hp : pc + 3 = pc') (hf : 1 ≤ R.frames) (hl : (rest.map fun v => v.category).sum + 12 ≤ R.locals) (k : ∀ T', Stand p l e R s m args below meth c T' locs cells slots → T'.heap = h → Go p e below s Q mc ms m T' pc' Ls rest) : Go p e below s Q mc ms m T pc Ls (.ref a :: rest) := by
  subst hp
  obtain ⟨T', X', e', st'⟩ := initO X hx hZ hown w1 w2 w3 eT (g := mkF m pc Ls (.ref a :: rest)) rfl (by rw [hml]; exact hls) rfl (hb hby hd) hf (W := (rest.map fun v => v.category).sum) (by show 2 * 0 + _ ≤ _; omega) hl
  exact Go.of st' (k T' X' e')
theorem g_static (X : Stand p l e R s m args below meth c T locs cells slots) (hx : p.tables.exec = Jvm.exec) (hby : c.code = bc) (hZ : Z.Warmed39 s.vm) {own : String} (hown : s.vm.findClass own = some m.cls) {i ML : Nat} {y : MethodName} {bytes : ByteArray} {maxL : Nat} {ret : Option FieldType} {rm : Room} {as' : Array Value} {QC : Option Value → Heap → List Loc → Prop} (hml : c.maxLocals = ML) (hls : Ls.size = ML) (w1 : (Jvm.Cond.methodLink own i y).before a0 Z = true) (w2 : (Jvm.Cond.static y).before a0 Z = true) (w3 : (Jvm.Cond.initialized y.cls).before a0 Z = true) (w4 : (Jvm.Cond.code y bytes maxL ret).before a0 Z = true) (hy : y.cls ≠ "java/lang/invoke/MethodHandle" ∧ y.cls ≠ "java/lang/invoke/VarHandle") (eT : T.heap = h) (M : Ct l Z y bytes maxL ret rm as' h QC) {ps : List FieldType} {r : Option FieldType} (pd : parseMethodDescriptor y.desc = some ⟨ps, r⟩) {argsL : List Value} (hl : argsL.length = ps.length) (has : argsL.toArray = as') (hst : st = argsL.reverse ++ rest) (hd : decode bc pc = .ok (.invokestatic i, 3)) (hp : pc + 3 = pc') (hf : rm.frames + 1 ≤ R.frames) (hlo : (rest.map fun v => v.category).sum + (maxL + 11) + rm.locals ≤ R.locals) (hc : cells + rm.cells ≤ R.cells) (hs : slots + rm.slots ≤ R.slots)
    (k : ∀ (T' : State) (v : Option Value) (L : List Loc), Stand p l e R s m args below meth c T' (locs ++ L) (cells + rm.cells) (slots + rm.slots) → QC v T'.heap L → Go p e below s Q mc ms m T' pc' Ls (v.toList ++ rest)) : Go p e below s Q mc ms m T pc Ls st := by
  subst hp has hst
  obtain ⟨v, vm₁, ⟨U, L', c', s'⟩, -, X', ⟨L, hQ, l1, l2, l3⟩, st⟩ := Jvm.LawKit.callS X hx (y := y) hown (mvT hZ w1) (mvT hZ w2) (mvT hZ w3) (mvT hZ w4) hy (backOf (W := (rest.map fun v => v.category).sum) M hZ w4 w3 hf hlo) (g := mkF m pc Ls (argsL.reverse ++ rest)) rfl (by rw [hml]; exact hls) (argsL := argsL) (rest := rest) (lenOf pd hl) rfl (by show 2 * 0 + _ ≤ _; omega) (hb hby hd) (fun _ _ => ⟨rfl, eT, hc, hs⟩)
  dsimp only at X' l1 l2 l3 st hQ
  subst l1 l2 l3
  exact Go.of st (k _ _ _ X' hQ)
theorem g_special (X : Stand p l e R s m args below meth c T locs cells slots) (hx : p.tables.exec = Jvm.exec) (hby : c.code = bc) (hZ : Z.Warmed39 s.vm) {own : String} (hown : s.vm.findClass own = some m.cls) {i ML : Nat} {y : MethodName} {bytes : ByteArray} {maxL : Nat} {ret : Option FieldType} {rm : Room} {as' : Array Value} {QC : Option Value → Heap → List Loc → Prop} (hy1 : y.name = "<init>") (hml : c.maxLocals = ML) (hls : Ls.size = ML) (w1 : (Jvm.Cond.methodLink own i y).before a0 Z = true) (w2 : (Jvm.Cond.instanceMethod y).before a0 Z = true) (w3 : (Jvm.Cond.initialized y.cls).before a0 Z = true) (hrt : ret = none) (w4 : (Jvm.Cond.code y bytes maxL ret).before a0 Z = true) (hy : y.cls ≠ "java/lang/invoke/MethodHandle" ∧ y.cls ≠ "java/lang/invoke/VarHandle") (eT : T.heap = h) (M : Ct l Z y bytes maxL ret rm as' h QC) {ps : List FieldType} {r : Option FieldType} (pd : parseMethodDescriptor y.desc = some ⟨ps, r⟩) {a : Addr} {argsL : List Value} (hl : argsL.length = ps.length) (has : (.ref a :: argsL).toArray = as') (hst : st = argsL.reverse ++ .ref a :: rest) (hd : decode bc pc = .ok (.invokespecial i, 3)) (hp : pc + 3 = pc') (hf : rm.frames + 1 ≤ R.frames) (hlo : (rest.map fun v => v.category).sum + (maxL + 11) + rm.locals ≤ R.locals) (hc : cells + rm.cells ≤ R.cells) (hs : slots + rm.slots ≤ R.slots)
    (k : ∀ (T' : State) (v : Option Value) (L : List Loc), Stand p l e R s m args below meth c T' (locs ++ L) (cells + rm.cells) (slots + rm.slots) → QC v T'.heap L → Go p e below s Q mc ms m T' pc' Ls (v.toList ++ rest)) : Go p e below s Q mc ms m T pc Ls st := by
  subst hp has hst hrt
  obtain ⟨v, vm₁, ⟨U, L', c', s'⟩, -, X', ⟨L, hQ, l1, l2, l3⟩, st⟩ := X.specialBack hx (y := y) hy1 hown (mvT hZ w1) (mvT hZ w2) (mvT hZ w4) hy (backOf (W := (rest.map fun v => v.category).sum) M hZ w4 w3 hf hlo) (g := mkF m pc Ls (argsL.reverse ++ .ref a :: rest)) rfl (by rw [hml]; exact hls) (Steps.refl _) (a := a) (argsL := argsL) (rest := rest) (lenOf pd hl) rfl (by show 2 * 0 + _ ≤ _; omega) (hb hby hd) (fun _ _ => ⟨rfl, eT, hc, hs⟩)
  dsimp only at X' l1 l2 l3 st hQ
  subst l1 l2 l3
  exact Go.of (fun _ q => st.trans q) (k _ _ _ X' hQ)
theorem g_virtual (X : Stand p l e R s m args below meth c T locs cells slots) (hx : p.tables.exec = Jvm.exec) (hby : c.code = bc) (hZ : Z.Warmed39 s.vm) {own : String} (hown : s.vm.findClass own = some m.cls) {i ML : Nat} {y : MethodName} {bytes : ByteArray} {maxL : Nat} {ret : Option FieldType} {rm : Room} {as' : Array Value} {QC : Option Value → Heap → List Loc → Prop} (hml : c.maxLocals = ML) (hls : Ls.size = ML) {C : String} (w1 : (Jvm.Cond.methodLink own i y).before a0 Z = true) (w2 : (Jvm.Cond.declares y).before a0 Z = true) (w5 : (Jvm.Cond.selects C y y).before a0 Z = true) (w6 : (Jvm.Cond.instanceMethod y).before a0 Z = true) (w3 : (Jvm.Cond.initialized y.cls).before a0 Z = true) (w4 : (Jvm.Cond.code y bytes maxL ret).before a0 Z = true) (hy : y.cls ≠ "java/lang/invoke/MethodHandle" ∧ y.cls ≠ "java/lang/invoke/VarHandle") (eT : T.heap = h) (M : Ct l Z y bytes maxL ret rm as' h QC) {ps : List FieldType} {r : Option FieldType} (pd : parseMethodDescriptor y.desc = some ⟨ps, r⟩) {a : Addr} (E : Exa Z h a C) {argsL : List Value} (hl : argsL.length = ps.length) (has : (.ref a :: argsL).toArray = as') (hst : st = argsL.reverse ++ .ref a :: rest) (hd : decode bc pc = .ok (.invokevirtual i, 3)) (hp : pc + 3 = pc') (hf : rm.frames + 1 ≤ R.frames) (hlo : (rest.map fun v => v.category).sum + (maxL + 11) + rm.locals ≤ R.locals) (hc : cells + rm.cells ≤ R.cells) (hs : slots + rm.slots ≤ R.slots)
    (k : ∀ (T' : State) (v : Option Value) (L : List Loc), Stand p l e R s m args below meth c T' (locs ++ L) (cells + rm.cells) (slots + rm.slots) → QC v T'.heap L → Go p e below s Q mc ms m T' pc' Ls (v.toList ++ rest)) : Go p e below s Q mc ms m T pc Ls st := by
  subst hp has hst
  obtain ⟨cB, kB, qa, qb, qc⟩ := isOf hZ eT E
  obtain ⟨v, vm₁, ⟨U, L', c', s'⟩, -, X', ⟨L, hQ, l1, l2, l3⟩, st⟩ := X.virtualBack hx (y := y) (z := y) hown (mvT hZ w1) (mvT hZ w2) (notFace_of_selects (args := #[]) (mvT hZ w5)) (mvT hZ w5) (mvT hZ w6) hy (backOf (W := (rest.map fun v => v.category).sum) M hZ w4 w3 hf hlo) qa qc (g := mkF m pc Ls (argsL.reverse ++ .ref a :: rest)) rfl (by rw [hml]; exact hls) (Steps.refl _) (argsL := argsL) (rest := rest) (lenOf pd hl) rfl (by show 2 * 0 + _ ≤ _; omega) (hb hby hd) (fun _ _ => ⟨rfl, eT, hc, hs⟩)
  dsimp only at X' l1 l2 l3 st hQ
  subst l1 l2 l3
  exact Go.of (fun _ q => st.trans q) (k _ _ _ X' hQ)
end OwnKit
section OwnLib
/-- b is 1 where P holds, 0 where it doesn't -/
def own_bool (b : Int32) (P : Prop) : Prop := (b = 1 ∧ P) ∨ (b = 0 ∧ ¬ P)
theorem own_bool_01 {b : Int32} {P : Prop} (h : own_bool b P) : b = 0 ∨ b = 1 := h.elim (fun q => Or.inr q.1) (fun q => Or.inl q.1)
theorem own_bool_iff {b : Int32} {P : Prop} (h : own_bool b P) : b = 1 ↔ P := h.elim (fun q => ⟨fun _ => q.2, fun _ => q.1⟩) (fun q => ⟨fun z => absurd (q.1.symm.trans z) (by decide), fun z => absurd z q.2⟩)
theorem own_bool_zero {b : Int32} {P : Prop} (h : own_bool b P) : b = 0 ↔ ¬ P := h.elim (fun q => ⟨fun z => absurd (q.1.symm.trans z) (by decide), fun z => absurd q.2 z⟩) (fun q => ⟨fun _ => q.2, fun _ => q.1⟩)
theorem own_bool_eq {a b : Int32} {P P' : Prop} (h : own_bool a P) (h' : own_bool b P') (i : P ↔ P') : a = b := by
  rcases h with ⟨rfl, q⟩ | ⟨rfl, q⟩ <;> rcases h' with ⟨rfl, q'⟩ | ⟨rfl, q'⟩ <;> first | rfl | exact absurd (i.mp q) q' | exact absurd (i.mpr q') q
theorem own_inc (i : Int32) (h : i.toInt < 2147483647) : (i + 1).toInt = i.toInt + 1 := by
  have a := c_iadd i 1
  have e : (1 : Int32).toInt = 1 := rfl
  rw [e] at a
  have b := rng32 i
  have b' := rng32 (i + 1)
  omega
theorem own_dec (i : Int32) (h : -2147483648 < i.toInt) : (i - 1).toInt = i.toInt - 1 := by
  have a := c_isub i 1
  have e : (1 : Int32).toInt = 1 := rfl
  rw [e] at a
  have b := rng32 i
  have b' := rng32 (i - 1)
  omega
theorem own_add (x y : Int32) (h1 : -2147483648 ≤ x.toInt + y.toInt) (h2 : x.toInt + y.toInt < 2147483648) : (x + y).toInt = x.toInt + y.toInt := by
  have a := c_iadd x y
  have b := rng32 (x + y)
  omega
theorem own_sub (x y : Int32) (h1 : -2147483648 ≤ x.toInt - y.toInt) (h2 : x.toInt - y.toInt < 2147483648) : (x - y).toInt = x.toInt - y.toInt := by
  have a := c_isub x y
  have b := rng32 (x - y)
  omega
/-- (u & 0x7fffffff) % n lies from 0 up to n - 1 -/
theorem own_modr (u n : Int32) (hn : 0 < n.toInt) : 0 ≤ ((u &&& 2147483647) % n).toInt ∧ ((u &&& 2147483647) % n).toInt < n.toInt := by
  have a1 := c_mask u 2147483647 31 (by decide) (by decide)
  have a2 := (c_iremV (u &&& 2147483647) n).1 (by omega) hn
  omega
def QI (h0 : Heap) (P : Int32 → Prop) : Option Value → Heap → List Loc → Prop := fun v h L => (∃ r, v = some (.int r) ∧ P r) ∧ h = h0 ∧ L = []
def QL (h0 : Heap) (P : Int64 → Prop) : Option Value → Heap → List Loc → Prop := fun v h L => (∃ r, v = some (.long r) ∧ P r) ∧ h = h0 ∧ L = []
def QV (h0 : Heap) : Option Value → Heap → List Loc → Prop := fun v h L => v = none ∧ h = h0 ∧ L = []
/-- what the law leaves -/
def Q0 (n0 : Nat) : Option Value → Heap → List Loc → Prop := fun v h L => v = some (.int 1) ∧ Fr n0 L
end OwnLib
theorem ef_1 (m : MethodId) (u : Int64) (w : Int64) : entryFrame m #[(.long u), (.long w)] 4 = mkF m 0 #[.val (.long u), .second, .val (.long w), .second] [] := by first | (simp [entryFrame, mkF, argsToLocals, Value.category]; done) | rfl
theorem d1_0 : decode jdk_29_method_70_code 0 = .ok (.lload_n 0, 1) := by decide +kernel
theorem d1_1 : decode jdk_29_method_70_code 1 = .ok (.lload_n 2, 1) := by decide +kernel
theorem d1_2 : decode jdk_29_method_70_code 2 = .ok (.lcmp, 1) := by decide +kernel
theorem d1_3 : decode jdk_29_method_70_code 3 = .ok (.ifCond .gt 7, 3) := by decide +kernel
theorem d1_10 : decode jdk_29_method_70_code 10 = .ok (.lload_n 2, 1) := by decide +kernel
theorem d1_11 : decode jdk_29_method_70_code 11 = .ok (.lreturn, 1) := by decide +kernel
theorem d1_6 : decode jdk_29_method_70_code 6 = .ok (.lload_n 0, 1) := by decide +kernel
theorem d1_7 : decode jdk_29_method_70_code 7 = .ok (.goto 4, 3) := by decide +kernel
set_option maxRecDepth 65536 in
set_option maxHeartbeats 40000000 in
theorem rm1 (l : Launch) (Z : State) (a0 : Array Value) (hw : ∀ d ∈ tables_1, d.before a0 Z = true) (u : Int64) (w : Int64) (h0 : Heap)  :
    Ct l Z (⟨"java/lang/Math", "min", "(JJ)J"⟩ : MethodName) jdk_29_method_70_code 4 (some .long) ({ frames := 0, cells := 0, slots := 0, locals := 0 } : Room) #[(.long u), (.long w)] h0 (QL h0 (fun r => r.toInt = min u.toInt w.toInt)) := by
  refine own_met (Jvm.Free.JP.mathPlain rfl (by decide +kernel)) (fun m => ef_1 m u w) ?_
  intro p e s m below meth c T0 X0 hx hby hml hown hnm hret hlk hZ e0
  refine g_lloadN X0 hx hby d1_0 (pc' := 1) rfl rfl ?_
  refine g_lloadN X0 hx hby d1_1 (pc' := 2) rfl rfl ?_
  refine g_lcmpgt X0 hx hby d1_2 (pc' := 3) rfl d1_3 (pt := 10) (pf := 6) (by decide) (by decide) rfl (fun (h3 : w.toInt < u.toInt) => ?_) (fun (h3 : u.toInt ≤ w.toInt) => ?_)
  · refine g_lloadN X0 hx hby d1_10 (pc' := 11) rfl rfl ?_
    exact g_retL X0 hx hby hlk hret d1_11 (by decide) (by decide) (⟨⟨_, rfl, by omega⟩, e0, rfl⟩)
  · refine g_lloadN X0 hx hby d1_6 (pc' := 7) rfl rfl ?_
    refine g_goto X0 hx hby d1_7 (pc' := 11) (by decide) (by decide) ?_
    exact g_retL X0 hx hby hlk hret d1_11 (by decide) (by decide) (⟨⟨_, rfl, by omega⟩, e0, rfl⟩)
theorem ef_2 (m : MethodId) (u : Int64) (w : Int64) : entryFrame m #[(.long u), (.long w)] 4 = mkF m 0 #[.val (.long u), .second, .val (.long w), .second] [] := by first | (simp [entryFrame, mkF, argsToLocals, Value.category]; done) | rfl
theorem d2_0 : decode jdk_29_method_66_code 0 = .ok (.lload_n 0, 1) := by decide +kernel
theorem d2_1 : decode jdk_29_method_66_code 1 = .ok (.lload_n 2, 1) := by decide +kernel
theorem d2_2 : decode jdk_29_method_66_code 2 = .ok (.lcmp, 1) := by decide +kernel
theorem d2_3 : decode jdk_29_method_66_code 3 = .ok (.ifCond .lt 7, 3) := by decide +kernel
theorem d2_10 : decode jdk_29_method_66_code 10 = .ok (.lload_n 2, 1) := by decide +kernel
theorem d2_11 : decode jdk_29_method_66_code 11 = .ok (.lreturn, 1) := by decide +kernel
theorem d2_6 : decode jdk_29_method_66_code 6 = .ok (.lload_n 0, 1) := by decide +kernel
theorem d2_7 : decode jdk_29_method_66_code 7 = .ok (.goto 4, 3) := by decide +kernel
set_option maxRecDepth 65536 in
set_option maxHeartbeats 40000000 in
theorem rm2 (l : Launch) (Z : State) (a0 : Array Value) (hw : ∀ d ∈ tables_1, d.before a0 Z = true) (u : Int64) (w : Int64) (h0 : Heap)  :
    Ct l Z (⟨"java/lang/Math", "max", "(JJ)J"⟩ : MethodName) jdk_29_method_66_code 4 (some .long) ({ frames := 0, cells := 0, slots := 0, locals := 0 } : Room) #[(.long u), (.long w)] h0 (QL h0 (fun r => r.toInt = max u.toInt w.toInt)) := by
  refine own_met (Jvm.Free.JP.mathPlain rfl (by decide +kernel)) (fun m => ef_2 m u w) ?_
  intro p e s m below meth c T0 X0 hx hby hml hown hnm hret hlk hZ e0
  refine g_lloadN X0 hx hby d2_0 (pc' := 1) rfl rfl ?_
  refine g_lloadN X0 hx hby d2_1 (pc' := 2) rfl rfl ?_
  refine g_lcmplt X0 hx hby d2_2 (pc' := 3) rfl d2_3 (pt := 10) (pf := 6) (by decide) (by decide) rfl (fun (h3 : u.toInt < w.toInt) => ?_) (fun (h3 : w.toInt ≤ u.toInt) => ?_)
  · refine g_lloadN X0 hx hby d2_10 (pc' := 11) rfl rfl ?_
    exact g_retL X0 hx hby hlk hret d2_11 (by decide) (by decide) (⟨⟨_, rfl, by omega⟩, e0, rfl⟩)
  · refine g_lloadN X0 hx hby d2_6 (pc' := 7) rfl rfl ?_
    refine g_goto X0 hx hby d2_7 (pc' := 11) (by decide) (by decide) ?_
    exact g_retL X0 hx hby hlk hret d2_11 (by decide) (by decide) (⟨⟨_, rfl, by omega⟩, e0, rfl⟩)
theorem ef_4 (m : MethodId) (o : Addr) : entryFrame m #[(.ref o)] 1 = mkF m 0 #[.val (.ref o)] [] := by first | (simp [entryFrame, mkF, argsToLocals, Value.category]; done) | rfl
theorem pn_4 : plainName "java/lang/Record" = true := by first | (simp [plainName, overriddenIn]; done) | decide +kernel
theorem d4_0 : decode jdk_30_method_1_code 0 = .ok (.aload_n 0, 1) := by decide +kernel
theorem d4_1 : decode jdk_30_method_1_code 1 = .ok (.invokespecial 1, 3) := by decide +kernel
theorem d4_4 : decode jdk_30_method_1_code 4 = .ok (.return_, 1) := by decide +kernel
set_option maxRecDepth 65536 in
set_option maxHeartbeats 40000000 in
theorem rm4 (l : Launch) (Z : State) (a0 : Array Value) (hw : ∀ d ∈ tables_1, d.before a0 Z = true) (o : Addr) (h0 : Heap)  :
    Ct l Z (⟨"java/lang/Record", "<init>", "()V"⟩ : MethodName) jdk_30_method_1_code 1 none ({ frames := 1, cells := 0, slots := 0, locals := 12 } : Room) #[(.ref o)] h0 (QV h0) := by
  refine own_met (plainFor_of_name pn_4) (fun m => ef_4 m o) ?_
  intro p e s m below meth c T0 X0 hx hby hml hown hnm hret hlk hZ e0
  refine g_aloadN X0 hx hby d4_0 (pc' := 1) rfl rfl rfl ?_
  refine g_initO X0 hx hby hZ hown e0 (hw _ (List.mem_of_getElem? (i := 18) rfl)) (hw _ (List.mem_of_getElem? (i := 19) rfl)) (hw _ (List.mem_of_getElem? (i := 20) rfl)) hml rfl d4_1 (pc' := 4) rfl (by decide) (Nat.le_of_ble_eq_true rfl) (fun Tp1 Xp1 ep1 => ?_)
  exact g_retV Xp1 hx hby hlk hret d4_4 (by decide) (by decide) (⟨rfl, ep1, rfl⟩)
def QIv (Z : State) (n0 : Nat) (h0 : Heap) (o : Addr) (us ue : Int64) : Option Value → Heap → List Loc → Prop := fun v h L => v = none ∧ Fr n0 L ∧ Keep h0 h [o] ∧ Exa Z h o "com/example/shardledger/shardledger/Interval" ∧ Fld Z h o "com/example/shardledger/shardledger/Interval" "start" "J" (.long us) ∧ Fld Z h o "com/example/shardledger/shardledger/Interval" "end" "J" (.long ue)
theorem ef_3 (m : MethodId) (o : Addr) (us : Int64) (ue : Int64) : entryFrame m #[(.ref o), (.long us), (.long ue)] 5 = mkF m 0 #[.val (.ref o), .val (.long us), .second, .val (.long ue), .second] [] := by first | (simp [entryFrame, mkF, argsToLocals, Value.category]; done) | rfl
theorem pn_3 : plainName "com/example/shardledger/shardledger/Interval" = true := by first | (simp [plainName, overriddenIn]; done) | decide +kernel
theorem d3_0 : decode prog_11_method_1_code 0 = .ok (.aload_n 0, 1) := by decide +kernel
theorem d3_1 : decode prog_11_method_1_code 1 = .ok (.invokespecial 1, 3) := by decide +kernel
theorem pd___V_167 : parseMethodDescriptor "()V" = some ⟨[], none⟩ := by decide +kernel
theorem d3_4 : decode prog_11_method_1_code 4 = .ok (.lload_n 3, 1) := by decide +kernel
theorem d3_5 : decode prog_11_method_1_code 5 = .ok (.lload_n 1, 1) := by decide +kernel
theorem d3_6 : decode prog_11_method_1_code 6 = .ok (.lcmp, 1) := by decide +kernel
theorem d3_7 : decode prog_11_method_1_code 7 = .ok (.ifCond .gt 24, 3) := by decide +kernel
theorem d3_31 : decode prog_11_method_1_code 31 = .ok (.aload_n 0, 1) := by decide +kernel
theorem d3_32 : decode prog_11_method_1_code 32 = .ok (.lload_n 1, 1) := by decide +kernel
theorem d3_33 : decode prog_11_method_1_code 33 = .ok (.putfield 22, 3) := by decide +kernel
theorem d3_36 : decode prog_11_method_1_code 36 = .ok (.aload_n 0, 1) := by decide +kernel
theorem d3_37 : decode prog_11_method_1_code 37 = .ok (.lload_n 3, 1) := by decide +kernel
theorem d3_38 : decode prog_11_method_1_code 38 = .ok (.putfield 28, 3) := by decide +kernel
theorem d3_41 : decode prog_11_method_1_code 41 = .ok (.return_, 1) := by decide +kernel
set_option maxRecDepth 65536 in
set_option maxHeartbeats 40000000 in
theorem rm3 (l : Launch) (Z : State) (a0 : Array Value) (hw : ∀ d ∈ tables_1, d.before a0 Z = true) (o : Addr) (us : Int64) (ue : Int64) (n0 : Nat) (h0 : Heap) (Z0 : n0 ≤ h0.size) (g_o : n0 ≤ o) (E_o : Exa Z h0 o "com/example/shardledger/shardledger/Interval") (F1 : Fld Z h0 o "com/example/shardledger/shardledger/Interval" "start" "J" (.long (0 : Int64))) (F2 : Fld Z h0 o "com/example/shardledger/shardledger/Interval" "end" "J" (.long (0 : Int64))) (hlt : us.toInt < ue.toInt) :
    Ct l Z (⟨"com/example/shardledger/shardledger/Interval", "<init>", "(JJ)V"⟩ : MethodName) prog_11_method_1_code 5 none ({ frames := 2, cells := 0, slots := 0, locals := 40 } : Room) #[(.ref o), (.long us), (.long ue)] h0 (QIv Z n0 h0 o us ue) := by
  refine own_met (plainFor_of_name pn_3) (fun m => ef_3 m o us ue) ?_
  intro p e s m below meth c T0 X0 hx hby hml hown hnm hret hlk hZ e0
  have N0 := Fr.nil n0
  refine g_aloadN X0 hx hby d3_0 (pc' := 1) rfl rfl rfl ?_
  refine g_special X0 hx hby hZ hown rfl hml rfl (hw _ (List.mem_of_getElem? (i := 13) rfl)) (hw _ (List.mem_of_getElem? (i := 14) rfl)) (hw _ (List.mem_of_getElem? (i := 16) rfl)) rfl (hw _ (List.mem_of_getElem? (i := 17) rfl)) (by decide) e0 (rm4 l Z a0 hw o h0 ) pd___V_167 (a := o) (argsL := []) (rest := []) rfl rfl rfl d3_1 (pc' := 4) rfl (by decide) (Nat.le_of_ble_eq_true rfl) (by decide) (by decide) ?_
  intro Tp1 vp1 Lp1 Xp1 qp1
  obtain ⟨rfl, ep1, rfl⟩ := qp1
  rw [List.append_nil] at Xp1
  replace Xp1 : Stand p l e ({ frames := 2, cells := 0, slots := 0, locals := 40 } : Room) s m _ below meth c Tp1 _ 0 0 := Xp1
  show Go p e below s (QIv Z n0 h0 o us ue) ({ frames := 2, cells := 0, slots := 0, locals := 40 } : Room).cells ({ frames := 2, cells := 0, slots := 0, locals := 40 } : Room).slots m Tp1 4 #[.val (.ref o), .val (.long us), .second, .val (.long ue), .second] []
  refine g_lloadN Xp1 hx hby d3_4 (pc' := 5) rfl rfl ?_
  refine g_lloadN Xp1 hx hby d3_5 (pc' := 6) rfl rfl ?_
  refine g_lcmpgt Xp1 hx hby d3_6 (pc' := 7) rfl d3_7 (pt := 31) (pf := 10) (by decide) (by decide) rfl (fun (h7 : us.toInt < ue.toInt) => ?_) (fun (h7 : ue.toInt ≤ us.toInt) => (by exfalso; omega))
  refine g_aloadN Xp1 hx hby d3_31 (pc' := 32) rfl rfl rfl ?_
  refine g_lloadN Xp1 hx hby d3_32 (pc' := 33) rfl rfl ?_
  refine g_putF Xp1 hx hby hZ hown ep1 (hw _ (List.mem_of_getElem? (i := 21) rfl)) F1 E_o (Or.inr ⟨(hw _ (List.mem_of_getElem? (i := 22) rfl)), rfl, hnm⟩) (hw _ (List.mem_of_getElem? (i := 8) rfl)) (ty := .long) (by decide) rfl rfl d3_33 (pc' := 36) rfl (fun T1 h1 X1 e1 W1 => ?_)
  replace E_o := E_o.wr W1
  replace F1 := F1.same W1
  replace F2 := F2.other W1 (Or.inr (slot_ne (Or.inr (hw _ (List.mem_of_getElem? (i := 24) rfl))) (Or.inr (hw _ (List.mem_of_getElem? (i := 22) rfl))) (by decide) (t := .long) (t' := .long) (by decide) (by decide)))
  have Z2 : n0 ≤ h1.size := by rw [W1.size]; exact Z0
  have K3 := (Keep.refl h0 [o]).wr W1 (Or.inl (List.mem_of_getElem? (i := 0) rfl))
  have N4 := Fr.snoc X1 N0 g_o
  refine g_aloadN X1 hx hby d3_36 (pc' := 37) rfl rfl rfl ?_
  refine g_lloadN X1 hx hby d3_37 (pc' := 38) rfl rfl ?_
  refine g_putF X1 hx hby hZ hown e1 (hw _ (List.mem_of_getElem? (i := 23) rfl)) F2 E_o (Or.inr ⟨(hw _ (List.mem_of_getElem? (i := 24) rfl)), rfl, hnm⟩) (hw _ (List.mem_of_getElem? (i := 8) rfl)) (ty := .long) (by decide) rfl rfl d3_38 (pc' := 41) rfl (fun T5 h5 X5 e5 W5 => ?_)
  replace E_o := E_o.wr W5
  replace F1 := F1.other W5 (Or.inr (slot_ne (Or.inr (hw _ (List.mem_of_getElem? (i := 22) rfl))) (Or.inr (hw _ (List.mem_of_getElem? (i := 24) rfl))) (by decide) (t := .long) (t' := .long) (by decide) (by decide)))
  replace F2 := F2.same W5
  have Z6 : n0 ≤ h5.size := by rw [W5.size]; exact Z2
  have K7 := K3.wr W5 (Or.inl (List.mem_of_getElem? (i := 0) rfl))
  have N8 := Fr.snoc X5 N4 g_o
  exact g_retV X5 hx hby hlk hret d3_41 (by decide) (by decide) (by rw [e5]; exact ⟨rfl, N8, K7, E_o, F1, F2⟩)
theorem own_exp (t lo hi A B : Int64) (hlt : lo.toInt < hi.toInt) (hA : A = (t - lo) + (-9223372036854775808 : Int64)) (hB : B = (hi - lo) + (-9223372036854775808 : Int64)) : (lo.toInt ≤ t.toInt ∧ t.toInt < hi.toInt) ↔ A.toInt < B.toInt := by
  have a1 := c_lsub t lo
  have a2 := c_ladd (t - lo) (-9223372036854775808)
  have a3 := c_lsub hi lo
  have a4 := c_ladd (hi - lo) (-9223372036854775808)
  have e1 : (-9223372036854775808 : Int64).toInt = -9223372036854775808 := rfl
  rw [← hA, e1] at a2
  rw [← hB, e1] at a4
  have b1 := rng64 t; have b2 := rng64 lo; have b3 := rng64 hi; have b4 := rng64 A; have b5 := rng64 B; have b6 := rng64 (t - lo); have b7 := rng64 (hi - lo)
  omega
theorem ef_6 (m : MethodId) (o : Addr) (t : Int64) : entryFrame m #[(.ref o), (.long t)] 3 = mkF m 0 #[.val (.ref o), .val (.long t), .second] [] := by first | (simp [entryFrame, mkF, argsToLocals, Value.category]; done) | rfl
theorem pn_6 : plainName "com/example/shardledger/shardledger/Interval" = true := by first | (simp [plainName, overriddenIn]; done) | decide +kernel
theorem d6_0 : decode prog_11_method_5_code 0 = .ok (.aload_n 0, 1) := by decide +kernel
theorem d6_1 : decode prog_11_method_5_code 1 = .ok (.getfield 22, 3) := by decide +kernel
theorem d6_4 : decode prog_11_method_5_code 4 = .ok (.lload_n 1, 1) := by decide +kernel
theorem d6_5 : decode prog_11_method_5_code 5 = .ok (.lcmp, 1) := by decide +kernel
theorem d6_6 : decode prog_11_method_5_code 6 = .ok (.ifCond .gt 16, 3) := by decide +kernel
theorem d6_22 : decode prog_11_method_5_code 22 = .ok (.iconst 0, 1) := by decide +kernel
theorem d6_23 : decode prog_11_method_5_code 23 = .ok (.ireturn, 1) := by decide +kernel
theorem d6_9 : decode prog_11_method_5_code 9 = .ok (.lload_n 1, 1) := by decide +kernel
theorem d6_10 : decode prog_11_method_5_code 10 = .ok (.aload_n 0, 1) := by decide +kernel
theorem d6_11 : decode prog_11_method_5_code 11 = .ok (.getfield 28, 3) := by decide +kernel
theorem d6_14 : decode prog_11_method_5_code 14 = .ok (.lcmp, 1) := by decide +kernel
theorem d6_15 : decode prog_11_method_5_code 15 = .ok (.ifCond .ge 7, 3) := by decide +kernel
theorem d6_18 : decode prog_11_method_5_code 18 = .ok (.iconst 1, 1) := by decide +kernel
theorem d6_19 : decode prog_11_method_5_code 19 = .ok (.goto 4, 3) := by decide +kernel
set_option maxRecDepth 65536 in
set_option maxHeartbeats 40000000 in
theorem rm6 (l : Launch) (Z : State) (a0 : Array Value) (hw : ∀ d ∈ tables_1, d.before a0 Z = true) (o : Addr) (t : Int64) (us ue : Int64) (h0 : Heap) (F1 : Fld Z h0 o "com/example/shardledger/shardledger/Interval" "start" "J" (.long us)) (F2 : Fld Z h0 o "com/example/shardledger/shardledger/Interval" "end" "J" (.long ue)) :
    Ct l Z (⟨"com/example/shardledger/shardledger/Interval", "contains", "(J)Z"⟩ : MethodName) prog_11_method_5_code 3 (some .boolean) ({ frames := 0, cells := 0, slots := 0, locals := 0 } : Room) #[(.ref o), (.long t)] h0 (QI h0 (fun r => own_bool r (us.toInt ≤ t.toInt ∧ t.toInt < ue.toInt))) := by
  refine own_met (plainFor_of_name pn_6) (fun m => ef_6 m o t) ?_
  intro p e s m below meth c T0 X0 hx hby hml hown hnm hret hlk hZ e0
  refine g_aloadN X0 hx hby d6_0 (pc' := 1) rfl rfl rfl ?_
  refine g_getF X0 hx hby hZ hown e0 (hw _ (List.mem_of_getElem? (i := 21) rfl)) F1 d6_1 (pc' := 4) rfl (fun T1 X1 e1 => ?_)
  refine g_lloadN X1 hx hby d6_4 (pc' := 5) rfl rfl ?_
  refine g_lcmpgt X1 hx hby d6_5 (pc' := 6) rfl d6_6 (pt := 22) (pf := 9) (by decide) (by decide) rfl (fun (h6 : t.toInt < us.toInt) => ?_) (fun (h6 : us.toInt ≤ t.toInt) => ?_)
  · refine g_iconst X1 hx hby d6_22 (pc' := 23) rfl (n := (0 : Int32)) (by first | rfl | decide) ?_
    exact g_retZ X1 hx hby hlk (Or.inl rfl) hret d6_23 (by decide) (by decide) (⟨⟨_, rfl, Or.inr ⟨rfl, by omega⟩⟩, e1, rfl⟩)
  · refine g_lloadN X1 hx hby d6_9 (pc' := 10) rfl rfl ?_
    refine g_aloadN X1 hx hby d6_10 (pc' := 11) rfl rfl rfl ?_
    refine g_getF X1 hx hby hZ hown e1 (hw _ (List.mem_of_getElem? (i := 23) rfl)) F2 d6_11 (pc' := 14) rfl (fun T2 X2 e2 => ?_)
    refine g_lcmpge X2 hx hby d6_14 (pc' := 15) rfl d6_15 (pt := 22) (pf := 18) (by decide) (by decide) rfl (fun (h15 : ue.toInt ≤ t.toInt) => ?_) (fun (h15 : t.toInt < ue.toInt) => ?_)
    · refine g_iconst X2 hx hby d6_22 (pc' := 23) rfl (n := (0 : Int32)) (by first | rfl | decide) ?_
      exact g_retZ X2 hx hby hlk (Or.inl rfl) hret d6_23 (by decide) (by decide) (⟨⟨_, rfl, Or.inr ⟨rfl, by omega⟩⟩, e2, rfl⟩)
    · refine g_iconst X2 hx hby d6_18 (pc' := 19) rfl (n := (1 : Int32)) (by first | rfl | decide) ?_
      refine g_goto X2 hx hby d6_19 (pc' := 23) (by decide) (by decide) ?_
      exact g_retZ X2 hx hby hlk (Or.inr rfl) hret d6_23 (by decide) (by decide) (⟨⟨_, rfl, Or.inl ⟨rfl, by omega⟩⟩, e2, rfl⟩)
theorem ef_0 (m : MethodId) (u : Int64) (w : Int64) (t : Int64) (md : Int32) : entryFrame m #[(.long u), (.long w), (.long t), (.int md)] maxLocals = mkF m 0 #[.val (.long u), .second, .val (.long w), .second, .val (.long t), .second, .val (.int md), .unset, .unset, .unset, .unset, .unset, .unset, .unset, .unset, .unset] [] := by first | (simp [entryFrame, mkF, argsToLocals, Value.category, maxLocals]; done) | rfl
theorem pn_0 : plainName "com/example/shardledger/shardledger/IntervalContainsPinLaw" = true := by first | (simp [plainName, overriddenIn]; done) | decide +kernel
theorem pd__JJ_J_303 : parseMethodDescriptor "(JJ)J" = some ⟨[.long, .long], some .long⟩ := by decide +kernel
theorem pd__JJ_V_315 : parseMethodDescriptor "(JJ)V" = some ⟨[.long, .long], none⟩ := by decide +kernel
theorem pd__J_Z_245 : parseMethodDescriptor "(J)Z" = some ⟨[.long], some .boolean⟩ := by decide +kernel
set_option maxRecDepth 65536 in
set_option maxHeartbeats 40000000 in
theorem law0 (l : Launch) (Z : State) (a0 : Array Value) (hw : ∀ d ∈ tables_1, d.before a0 Z = true) (ws : List Jvm.Cond) (u : Int64) (w : Int64) (t : Int64) (md : Int32) (n0 : Nat) (h0 : Heap) (Z0 : n0 ≤ h0.size) :
    MetFree l x (head1 (Jvm.Cond.code x code maxLocals ret :: ws) room_1) (fun a U => a = #[(.long u), (.long w), (.long t), (.int md)] ∧ Z.Warmed39 U.vm ∧ U.heap = h0) (fun _ _ _ _ _ => True) (fun _ U o U' => ∃ v L, o = .returned v ∧ (Q0 n0) v U'.heap L ∧ FrameEnd U o U' L room_1.cells room_1.slots) := by
  refine own_met (plainFor_of_name pn_0) (fun m => ef_0 m u w t md) ?_
  intro p e s m below meth c T0 X0 hx hby hml hown hnm hret hlk hZ e0
  have N0 := Fr.nil n0
  refine g_lloadN X0 hx hby at_0 (pc' := 1) rfl rfl ?_
  refine g_lloadN X0 hx hby at_1 (pc' := 2) rfl rfl ?_
  refine g_static X0 hx hby hZ hown hml rfl (hw _ (List.mem_of_getElem? (i := 0) rfl)) (hw _ (List.mem_of_getElem? (i := 1) rfl)) (hw _ (List.mem_of_getElem? (i := 2) rfl)) (hw _ (List.mem_of_getElem? (i := 3) rfl)) (by decide) e0 (rm1 l Z a0 hw u w h0 ) pd__JJ_J_303 (argsL := [(.long u), (.long w)]) (rest := []) rfl rfl rfl at_2 (pc' := 5) rfl (by decide) (Nat.le_of_ble_eq_true rfl) (by decide) (by decide) ?_
  intro Tp2 vp2 Lp2 Xp2 qp2
  obtain ⟨⟨rp2, rfl, h_rp2⟩, ep2, rfl⟩ := qp2
  rw [List.append_nil] at Xp2
  replace Xp2 : Stand p l e room_1 s m _ below meth c Tp2 _ 0 0 := Xp2
  show Go p e below s (Q0 n0) room_1.cells room_1.slots m Tp2 5 #[.val (.long u), .second, .val (.long w), .second, .val (.long t), .second, .val (.int md), .unset, .unset, .unset, .unset, .unset, .unset, .unset, .unset, .unset] [(.long rp2)]
  refine g_lstore Xp2 hx hby at_5 (pc' := 7) rfl (Ls' := #[.val (.long u), .second, .val (.long w), .second, .val (.long t), .second, .val (.int md), .val (.long rp2), .second, .unset, .unset, .unset, .unset, .unset, .unset, .unset]) rfl ?_
  refine g_lloadN Xp2 hx hby at_7 (pc' := 8) rfl rfl ?_
  refine g_lloadN Xp2 hx hby at_8 (pc' := 9) rfl rfl ?_
  refine g_static Xp2 hx hby hZ hown hml rfl (hw _ (List.mem_of_getElem? (i := 4) rfl)) (hw _ (List.mem_of_getElem? (i := 5) rfl)) (hw _ (List.mem_of_getElem? (i := 2) rfl)) (hw _ (List.mem_of_getElem? (i := 6) rfl)) (by decide) ep2 (rm2 l Z a0 hw u w h0 ) pd__JJ_J_303 (argsL := [(.long u), (.long w)]) (rest := []) rfl rfl rfl at_9 (pc' := 12) rfl (by decide) (Nat.le_of_ble_eq_true rfl) (by decide) (by decide) ?_
  intro Tp9 vp9 Lp9 Xp9 qp9
  obtain ⟨⟨rp9, rfl, h_rp9⟩, ep9, rfl⟩ := qp9
  rw [List.append_nil] at Xp9
  replace Xp9 : Stand p l e room_1 s m _ below meth c Tp9 _ 0 0 := Xp9
  show Go p e below s (Q0 n0) room_1.cells room_1.slots m Tp9 12 #[.val (.long u), .second, .val (.long w), .second, .val (.long t), .second, .val (.int md), .val (.long rp2), .second, .unset, .unset, .unset, .unset, .unset, .unset, .unset] [(.long rp9)]
  refine g_lstore Xp9 hx hby at_12 (pc' := 14) rfl (Ls' := #[.val (.long u), .second, .val (.long w), .second, .val (.long t), .second, .val (.int md), .val (.long rp2), .second, .val (.long rp9), .second, .unset, .unset, .unset, .unset, .unset]) rfl ?_
  refine g_lload Xp9 hx hby at_14 (pc' := 16) rfl rfl ?_
  refine g_lload Xp9 hx hby at_16 (pc' := 18) rfl rfl ?_
  refine g_lcmpne Xp9 hx hby at_18 (pc' := 19) rfl at_19 (pt := 24) (pf := 22) (by decide) (by decide) rfl (fun (h19 : ¬ rp2 = rp9) => ?_) (fun (h19 : rp2 = rp9) => ?_)
  · have h19i : ¬ rp2.toInt = rp9.toInt := fun q => h19 (Int64.toInt_inj.mp q)
    refine g_lload Xp9 hx hby at_24 (pc' := 26) rfl rfl ?_
    refine g_lstore Xp9 hx hby at_26 (pc' := 28) rfl (Ls' := #[.val (.long u), .second, .val (.long w), .second, .val (.long t), .second, .val (.int md), .val (.long rp2), .second, .val (.long rp9), .second, .val (.long t), .second, .unset, .unset, .unset]) rfl ?_
    refine g_iload Xp9 hx hby at_28 (pc' := 30) rfl rfl ?_
    refine g_bipush Xp9 hx hby at_30 (pc' := 32) rfl (n := (7 : Int32)) (by first | rfl | decide) ?_
    refine g_iand Xp9 hx hby at_32 (pc' := 33) rfl ?_
    refine g_nameI (fun mm h_mm => ?_)
    refine g_istore Xp9 hx hby at_33 (pc' := 35) rfl (Ls' := #[.val (.long u), .second, .val (.long w), .second, .val (.long t), .second, .val (.int md), .val (.long rp2), .second, .val (.long rp9), .second, .val (.long t), .second, .val (.int mm), .unset, .unset]) rfl ?_
    suffices J103_1 : ∀ (tm : Int64), Go p e below s (Q0 n0) room_1.cells room_1.slots m Tp9 103 #[.val (.long u), .second, .val (.long w), .second, .val (.long t), .second, .val (.int md), .val (.long rp2), .second, .val (.long rp9), .second, .val (.long tm), .second, .val (.int mm), .unset, .unset] [] by
      refine g_iload Xp9 hx hby at_35 (pc' := 37) rfl rfl ?_
      refine g_iconst Xp9 hx hby at_37 (pc' := 38) rfl (n := (1 : Int32)) (by first | rfl | decide) ?_
      refine g_icmpne Xp9 hx hby at_38 (pt := 48) (pf := 41) (by decide) (by decide) rfl (fun (h38 : ¬ mm = (1 : Int32)) => ?_) (fun (h38 : mm = (1 : Int32)) => ?_)
      · have h38i : ¬ mm.toInt = 1 := fun q => h38 (Int32.toInt_inj.mp q)
        refine g_iload Xp9 hx hby at_48 (pc' := 50) rfl rfl ?_
        refine g_iconst Xp9 hx hby at_50 (pc' := 51) rfl (n := (2 : Int32)) (by first | rfl | decide) ?_
        refine g_icmpne Xp9 hx hby at_51 (pt := 61) (pf := 54) (by decide) (by decide) rfl (fun (h51 : ¬ mm = (2 : Int32)) => ?_) (fun (h51 : mm = (2 : Int32)) => ?_)
        · have h51i : ¬ mm.toInt = 2 := fun q => h51 (Int32.toInt_inj.mp q)
          refine g_iload Xp9 hx hby at_61 (pc' := 63) rfl rfl ?_
          refine g_iconst Xp9 hx hby at_63 (pc' := 64) rfl (n := (3 : Int32)) (by first | rfl | decide) ?_
          refine g_icmpne Xp9 hx hby at_64 (pt := 76) (pf := 67) (by decide) (by decide) rfl (fun (h64 : ¬ mm = (3 : Int32)) => ?_) (fun (h64 : mm = (3 : Int32)) => ?_)
          · have h64i : ¬ mm.toInt = 3 := fun q => h64 (Int32.toInt_inj.mp q)
            refine g_iload Xp9 hx hby at_76 (pc' := 78) rfl rfl ?_
            refine g_iconst Xp9 hx hby at_78 (pc' := 79) rfl (n := (4 : Int32)) (by first | rfl | decide) ?_
            refine g_icmpne Xp9 hx hby at_79 (pt := 91) (pf := 82) (by decide) (by decide) rfl (fun (h79 : ¬ mm = (4 : Int32)) => ?_) (fun (h79 : mm = (4 : Int32)) => ?_)
            · have h79i : ¬ mm.toInt = 4 := fun q => h79 (Int32.toInt_inj.mp q)
              refine g_iload Xp9 hx hby at_91 (pc' := 93) rfl rfl ?_
              refine g_iconst Xp9 hx hby at_93 (pc' := 94) rfl (n := (5 : Int32)) (by first | rfl | decide) ?_
              refine g_icmpne Xp9 hx hby at_94 (pt := 103) (pf := 97) (by decide) (by decide) rfl (fun (h94 : ¬ mm = (5 : Int32)) => ?_) (fun (h94 : mm = (5 : Int32)) => ?_)
              · have h94i : ¬ mm.toInt = 5 := fun q => h94 (Int32.toInt_inj.mp q)
                exact J103_1 _
              · have h94i : mm.toInt = 5 := congrArg Int32.toInt h94
                refine g_lload Xp9 hx hby at_97 (pc' := 99) rfl rfl ?_
                refine g_lconst Xp9 hx hby at_99 (pc' := 100) rfl (n := (1 : Int64)) (by first | rfl | decide) ?_
                refine g_ladd Xp9 hx hby at_100 (pc' := 101) rfl ?_
                refine g_lstore Xp9 hx hby at_101 (pc' := 103) rfl (Ls' := #[.val (.long u), .second, .val (.long w), .second, .val (.long t), .second, .val (.int md), .val (.long rp2), .second, .val (.long rp9), .second, .val (.long (rp2 + (1 : Int64))), .second, .val (.int mm), .unset, .unset]) rfl ?_
                exact J103_1 _
            · have h79i : mm.toInt = 4 := congrArg Int32.toInt h79
              refine g_lload Xp9 hx hby at_82 (pc' := 84) rfl rfl ?_
              refine g_lconst Xp9 hx hby at_84 (pc' := 85) rfl (n := (1 : Int64)) (by first | rfl | decide) ?_
              refine g_lsub Xp9 hx hby at_85 (pc' := 86) rfl ?_
              refine g_lstore Xp9 hx hby at_86 (pc' := 88) rfl (Ls' := #[.val (.long u), .second, .val (.long w), .second, .val (.long t), .second, .val (.int md), .val (.long rp2), .second, .val (.long rp9), .second, .val (.long (rp9 - (1 : Int64))), .second, .val (.int mm), .unset, .unset]) rfl ?_
              refine g_goto Xp9 hx hby at_88 (pc' := 103) (by decide) (by decide) ?_
              exact J103_1 _
          · have h64i : mm.toInt = 3 := congrArg Int32.toInt h64
            refine g_lload Xp9 hx hby at_67 (pc' := 69) rfl rfl ?_
            refine g_lconst Xp9 hx hby at_69 (pc' := 70) rfl (n := (1 : Int64)) (by first | rfl | decide) ?_
            refine g_lsub Xp9 hx hby at_70 (pc' := 71) rfl ?_
            refine g_lstore Xp9 hx hby at_71 (pc' := 73) rfl (Ls' := #[.val (.long u), .second, .val (.long w), .second, .val (.long t), .second, .val (.int md), .val (.long rp2), .second, .val (.long rp9), .second, .val (.long (rp2 - (1 : Int64))), .second, .val (.int mm), .unset, .unset]) rfl ?_
            refine g_goto Xp9 hx hby at_73 (pc' := 103) (by decide) (by decide) ?_
            exact J103_1 _
        · have h51i : mm.toInt = 2 := congrArg Int32.toInt h51
          refine g_lload Xp9 hx hby at_54 (pc' := 56) rfl rfl ?_
          refine g_lstore Xp9 hx hby at_56 (pc' := 58) rfl (Ls' := #[.val (.long u), .second, .val (.long w), .second, .val (.long t), .second, .val (.int md), .val (.long rp2), .second, .val (.long rp9), .second, .val (.long rp9), .second, .val (.int mm), .unset, .unset]) rfl ?_
          refine g_goto Xp9 hx hby at_58 (pc' := 103) (by decide) (by decide) ?_
          exact J103_1 _
      · have h38i : mm.toInt = 1 := congrArg Int32.toInt h38
        refine g_lload Xp9 hx hby at_41 (pc' := 43) rfl rfl ?_
        refine g_lstore Xp9 hx hby at_43 (pc' := 45) rfl (Ls' := #[.val (.long u), .second, .val (.long w), .second, .val (.long t), .second, .val (.int md), .val (.long rp2), .second, .val (.long rp9), .second, .val (.long rp2), .second, .val (.int mm), .unset, .unset]) rfl ?_
        refine g_goto Xp9 hx hby at_45 (pc' := 103) (by decide) (by decide) ?_
        exact J103_1 _
    intro tm
    refine g_new Xp9 hx hby hZ hown ep9 (hw _ (List.mem_of_getElem? (i := 7) rfl)) (hw _ (List.mem_of_getElem? (i := 8) rfl)) (hw _ (List.mem_of_getElem? (i := 9) rfl)) at_103 (pc' := 106) rfl (by decide) (by decide) (fun T2 h2 oa g2 X2 e2 E2 A2 D2 => ?_)
    have g3 : n0 ≤ oa := by rw [g2]; exact Z0
    have Z4 : n0 ≤ h2.size := Nat.le_trans Z0 E2.1
    replace X2 : Stand p l e room_1 s m _ below meth c T2 _ 1 2 := X2
    have E_oa : Exa Z h2 oa "com/example/shardledger/shardledger/Interval" := A2
    have F_start_oa : Fld Z h2 oa "com/example/shardledger/shardledger/Interval" "start" "J" (.long (0 : Int64)) := D2 (Or.inr (hw _ (List.mem_of_getElem? (i := 22) rfl))) (ty := .long) (by decide)
    have F_end_oa : Fld Z h2 oa "com/example/shardledger/shardledger/Interval" "end" "J" (.long (0 : Int64)) := D2 (Or.inr (hw _ (List.mem_of_getElem? (i := 24) rfl))) (ty := .long) (by decide)
    refine g_dup X2 hx hby at_106 (pc' := 107) rfl rfl ?_
    refine g_lload X2 hx hby at_107 (pc' := 109) rfl rfl ?_
    refine g_lload X2 hx hby at_109 (pc' := 111) rfl rfl ?_
    refine g_special X2 hx hby hZ hown rfl hml rfl (hw _ (List.mem_of_getElem? (i := 10) rfl)) (hw _ (List.mem_of_getElem? (i := 11) rfl)) (hw _ (List.mem_of_getElem? (i := 9) rfl)) rfl (hw _ (List.mem_of_getElem? (i := 12) rfl)) (by decide) e2 (rm3 l Z a0 hw oa rp2 rp9 n0 h2 Z4 g3 E_oa F_start_oa F_end_oa (by omega)) pd__JJ_V_315 (a := oa) (argsL := [(.long rp2), (.long rp9)]) (rest := [(.ref oa)]) rfl rfl rfl at_111 (pc' := 114) rfl (by decide) (Nat.le_of_ble_eq_true rfl) (by decide) (by decide) ?_
    intro Tp111 vp111 Lp111 Xp111 qp111
    obtain ⟨rfl, Nqp111, Kp111, Eqp111, F_start_oa, F_end_oa⟩ := qp111
    replace Xp111 : Stand p l e room_1 s m _ below meth c Tp111 _ 1 2 := Xp111
    replace E_oa := E_oa.keep Kp111
    have Z5 : n0 ≤ Tp111.heap.size := Nat.le_trans Z4 Kp111.1
    have Np111 := Fr.app N0 Nqp111
    show Go p e below s (Q0 n0) room_1.cells room_1.slots m Tp111 114 #[.val (.long u), .second, .val (.long w), .second, .val (.long t), .second, .val (.int md), .val (.long rp2), .second, .val (.long rp9), .second, .val (.long tm), .second, .val (.int mm), .unset, .unset] [(.ref oa)]
    refine g_astore Xp111 hx hby at_114 (pc' := 116) rfl rfl (Ls' := #[.val (.long u), .second, .val (.long w), .second, .val (.long t), .second, .val (.int md), .val (.long rp2), .second, .val (.long rp9), .second, .val (.long tm), .second, .val (.int mm), .val (.ref oa), .unset]) rfl ?_
    refine g_lload Xp111 hx hby at_116 (pc' := 118) rfl rfl ?_
    refine g_lload Xp111 hx hby at_118 (pc' := 120) rfl rfl ?_
    refine g_lsub Xp111 hx hby at_120 (pc' := 121) rfl ?_
    refine g_ldcL Xp111 hx hby hZ hown (hw _ (List.mem_of_getElem? (i := 25) rfl)) at_121 (pc' := 124) rfl ?_
    refine g_ladd Xp111 hx hby at_124 (pc' := 125) rfl ?_
    refine g_nameL (fun kA h_kA => ?_)
    refine g_lload Xp111 hx hby at_125 (pc' := 127) rfl rfl ?_
    refine g_lload Xp111 hx hby at_127 (pc' := 129) rfl rfl ?_
    refine g_lsub Xp111 hx hby at_129 (pc' := 130) rfl ?_
    refine g_ldcL Xp111 hx hby hZ hown (hw _ (List.mem_of_getElem? (i := 25) rfl)) at_130 (pc' := 133) rfl ?_
    refine g_ladd Xp111 hx hby at_133 (pc' := 134) rfl ?_
    refine g_nameL (fun kB h_kB => ?_)
    suffices J143_6 : ∀ (bs : Int32) (h_bs : own_bool bs (kA.toInt < kB.toInt)), Go p e below s (Q0 n0) room_1.cells room_1.slots m Tp111 143 #[.val (.long u), .second, .val (.long w), .second, .val (.long t), .second, .val (.int md), .val (.long rp2), .second, .val (.long rp9), .second, .val (.long tm), .second, .val (.int mm), .val (.ref oa), .unset] [(.int bs)] by
      refine g_lcmpge Xp111 hx hby at_134 (pc' := 135) rfl at_135 (pt := 142) (pf := 138) (by decide) (by decide) rfl (fun (h135 : kB.toInt ≤ kA.toInt) => ?_) (fun (h135 : kA.toInt < kB.toInt) => ?_)
      · refine g_iconst Xp111 hx hby at_142 (pc' := 143) rfl (n := (0 : Int32)) (by first | rfl | decide) ?_
        exact J143_6 _ (Or.inr ⟨rfl, by omega⟩)
      · refine g_iconst Xp111 hx hby at_138 (pc' := 139) rfl (n := (1 : Int32)) (by first | rfl | decide) ?_
        refine g_goto Xp111 hx hby at_139 (pc' := 143) (by decide) (by decide) ?_
        exact J143_6 _ (Or.inl ⟨rfl, by omega⟩)
    intro bs h_bs
    refine g_istore Xp111 hx hby at_143 (pc' := 145) rfl (Ls' := #[.val (.long u), .second, .val (.long w), .second, .val (.long t), .second, .val (.int md), .val (.long rp2), .second, .val (.long rp9), .second, .val (.long tm), .second, .val (.int mm), .val (.ref oa), .val (.int bs)]) rfl ?_
    refine g_aload Xp111 hx hby at_145 (pc' := 147) rfl rfl rfl ?_
    refine g_lload Xp111 hx hby at_147 (pc' := 149) rfl rfl ?_
    refine g_virtual Xp111 hx hby hZ hown hml rfl (hw _ (List.mem_of_getElem? (i := 26) rfl)) (hw _ (List.mem_of_getElem? (i := 27) rfl)) (hw _ (List.mem_of_getElem? (i := 29) rfl)) (hw _ (List.mem_of_getElem? (i := 28) rfl)) (hw _ (List.mem_of_getElem? (i := 9) rfl)) (hw _ (List.mem_of_getElem? (i := 30) rfl)) (by decide) rfl (rm6 l Z a0 hw oa tm rp2 rp9 Tp111.heap F_start_oa F_end_oa) pd__J_Z_245 E_oa (argsL := [(.long tm)]) (rest := []) rfl rfl rfl at_149 (pc' := 152) rfl (by decide) (Nat.le_of_ble_eq_true rfl) (by decide) (by decide) ?_
    intro Tp149 vp149 Lp149 Xp149 qp149
    obtain ⟨⟨rp149, rfl, h_rp149⟩, ep149, rfl⟩ := qp149
    rw [List.append_nil] at Xp149
    replace Xp149 : Stand p l e room_1 s m _ below meth c Tp149 _ 1 2 := Xp149
    show Go p e below s (Q0 n0) room_1.cells room_1.slots m Tp149 152 #[.val (.long u), .second, .val (.long w), .second, .val (.long t), .second, .val (.int md), .val (.long rp2), .second, .val (.long rp9), .second, .val (.long tm), .second, .val (.int mm), .val (.ref oa), .val (.int bs)] [(.int rp149)]
    refine g_iload Xp149 hx hby at_152 (pc' := 154) rfl rfl ?_
    refine g_icmpne Xp149 hx hby at_154 (pt := 161) (pf := 157) (by decide) (by decide) rfl (fun (h154 : ¬ rp149 = bs) => (by exfalso; exact h154 (own_bool_eq h_rp149 h_bs (own_exp tm rp2 rp9 kA kB (by omega) h_kA h_kB)))) (fun (h154 : rp149 = bs) => ?_)
    have h154i : rp149.toInt = bs.toInt := congrArg Int32.toInt h154
    refine g_iconst Xp149 hx hby at_157 (pc' := 158) rfl (n := (1 : Int32)) (by first | rfl | decide) ?_
    refine g_goto Xp149 hx hby at_158 (pc' := 162) (by decide) (by decide) ?_
    exact g_retZ Xp149 hx hby hlk (Or.inr rfl) hret at_162 (by decide) (by decide) (⟨rfl, Np111⟩)
  · have h19i : rp2.toInt = rp9.toInt := congrArg Int64.toInt h19
    refine g_iconst Xp9 hx hby at_22 (pc' := 23) rfl (n := (1 : Int32)) (by first | rfl | decide) ?_
    exact g_retZ Xp9 hx hby hlk (Or.inr rfl) hret at_23 (by decide) (by decide) (⟨rfl, N0⟩)
set_option maxRecDepth 65536 in
set_option maxHeartbeats 40000000 in
theorem comes_1 {Post : Tables → Env → Array Value → State → Outcome → State → Prop} (hpost : ∀ tb e args s v u, (limb_1_1.after args s (.returned v) u = true ∧ limb_1_2.after args s (.returned v) u = true ∧ True) → FrameEnd s (.returned v) u (Jvm.fieldLocs frame_1_writes args s ++ Jvm.arrayLocs frame_1_arrays args s ++ Jvm.staticLocs frame_1_statics s) 16 128 → Post tb e args s (.returned v) u) :
    ArmFor flags0 classFile x code maxLocals ret World_1 tables_1 room_1 Calls_1 rest_1 Pre_1 Post := by
  intro l hfl _ _ p e ha hc hk s m args below hf hA hF happ hP
  obtain ⟨hcalls, hrest, hpre⟩ := hP
  obtain ⟨-, -, -, hnamed, -, -, -, hat⟩ := (Spec.applies_iff hf).mp happ
  obtain ⟨hg, hn⟩ := and_e (Cond.before_iff.mp (show (Jvm.Cond.and given_1 narrow_1).before args s = true from hpre))
  obtain ⟨g1, g2⟩ := and_e hg
  obtain ⟨g3, g4⟩ := and_e g2
  obtain ⟨g5, g6⟩ := and_e g4
  obtain ⟨g7, g8⟩ := and_e g6
  obtain ⟨w0, w1, w2, w3, rfl⟩ : ∃ w0 w1 w2 w3 : Value, args = #[w0, w1, w2, w3] := by
    have hs : args.size = 4 := by simpa [Cond.value, given_1] using g1
    obtain ⟨L⟩ := args
    match L, hs with
    | [w0, w1, w2, w3], _ => exact ⟨w0, w1, w2, w3, rfl⟩
  have hw := fun d (hd : d ∈ tables_1) => atoms_spec (ws := Jvm.Cond.code x code maxLocals ret :: tables_1) hat d (List.mem_cons_of_mem _ hd)
  have hfit : Fit s := fun {y c} hc i hi => by
    obtain ⟨ha, rfl⟩ := Array.getElem?_eq_some_iff.mp hc
    have q := List.all_eq_true.mp ((Array.all_eq_true_iff_forall_mem.mp hF) _ (Array.getElem_mem ha)) i (List.mem_range.mpr hi)
    simpa [Array.getElem?_eq_getElem hi] using q
  obtain ⟨i0, ei0⟩ := isL_v g3
  obtain rfl : w0 = (.long i0) := Option.some.inj ei0
  obtain ⟨i1, ei1⟩ := isL_v g5
  obtain rfl : w1 = (.long i1) := Option.some.inj ei1
  obtain ⟨i2, ei2⟩ := isL_v g7
  obtain rfl : w2 = (.long i2) := Option.some.inj ei2
  obtain ⟨i3, ei3⟩ := is_v g8
  obtain rfl : w3 = (.int i3) := Option.some.inj ei3
  obtain ⟨n, o, h1, h2, h3, _, L, rfl, ⟨rfl, N⟩, hq⟩ := law0 l s _ hw tables_1 i0 i1 i2 i3 s.heap.size s.heap (Nat.le_refl _) p e ha hc hk s m _ below hf ((Spec.applies_iff_loose hf).mp happ).1 ⟨rfl, State.Warmed39.refl s, rfl⟩ trivial
  refine ⟨n, _, h1, h2, h3, hpost _ _ _ _ _ _ ⟨Cond.after_iff.mpr rfl, Cond.after_iff.mpr (eq_i res_at (Term.int_eval (1)) rfl), trivial⟩ ⟨hq.1, hq.2.1, (hq.2.2.sift fun y hy => Or.inr (N y hy)).mono (by decide) (by decide)⟩⟩
theorem main_1_1 : Claimed_1_1 := comes_1 fun _ _ _ _ _ _ h hF => ⟨h.1, hF⟩
theorem main_1_2 : Claimed_1_2 := comes_1 fun _ _ _ _ _ _ h hF => ⟨h.2.1, hF⟩
end Jvm.Pilot.@@N@@
namespace Jvm.Pilot.@@N@@
open Jvm Jvm.ClassFile Sem Op Lib Jvm.Free Jvm.Stand Jvm.Pilot.@@N@@.Jvm.D
/-! MADE BY PROGRAM (witnessworld.py) out of the Statement's table words and the real class files: 12 classes; the members and pool entries that the words name. The judged class is class 1, her method 1. -/
namespace start1
open Jvm.ClassFile
def u (s : String) : CpInfo := .utf8 (stringToUtf16 s)
/-- a pool by its gaps: so many unusable entries, then the entry; so many at the end -/
def gap : Nat → List CpInfo → List CpInfo
  | 0, r => r
  | n + 1, r => .unusable :: gap n r
def poolList (es : List (Nat × CpInfo)) (last : Nat) : List CpInfo := es.foldr (fun e r => gap e.1 (e.2 :: r)) (gap last [])
def pool (es : List (Nat × CpInfo)) (last : Nat) : Array CpInfo := ⟨poolList es last⟩
def fileOf (pool : Array CpInfo) (this : Nat) (attrs : Array Attribute := #[]) (ms : Array MethodInfo := #[]) (fl : Nat := 33) (sup : Nat := 0) (ifs : Array Nat := #[]) (fds : Array FieldInfo := #[]) : ClassFile where
  minorVersion := 0
  majorVersion := 65
  constantPool := pool
  accessFlags := fl
  thisClass := this
  superClass := sup
  interfaces := ifs
  fields := fds
  methods := ms
  attributes := attrs
def plain (name : String) (sup : Option ClassId) : Class where
  name := name
  kind := .ordinary
  loader := none
  accessFlags := 33
  super := sup
  interfaces := #[]
  cf := none
  fields := #[]
  methods := #[]
  instanceTypes := #[]
  staticTypes := #[]
  resolved := #[]
  callSites := []
  init := .initialized
  statics := none
  mirror := none

def pool0 : Array CpInfo := pool [(5, u "<init>"), (0, u "()V"), (1, .class_ 10), (1, u "java/lang/Object")] 113

def k0c0 : Code := { maxStack := 0, maxLocals := 1, code := object_method_1_code, exceptionTable := #[], attributes := #[] }
def k0m0 : Method := { name := "<init>", desc := "()V", sig := { parameters := [], returnType := none }, accessFlags := 1, code := some k0c0 }
/-- java/lang/Object -/
def k0 : Class := { plain "java/lang/Object" none with
  accessFlags := 33
  interfaces := #[]
  cf := some (fileOf pool0 8 #[] #[{ accessFlags := 1, nameIndex := 5, descriptorIndex := 6, attributes := #[] }] 33 0 #[] #[])
  fields := #[]
  methods := #[k0m0]
  instanceTypes := #[]
  staticTypes := #[]
  resolved := Array.replicate 124 none
  statics := none }

def pool1 : Array CpInfo := pool [(2, .class_ 4), (1, u "java/lang/Object"), (0, u "<init>"), (0, u "()V"), (0, .methodref 8 9), (0, .class_ 10), (0, .nameAndType 11 12), (0, u "java/lang/Math"), (0, u "min"), (0, u "(JJ)J"), (0, .methodref 8 14), (0, .nameAndType 15 12), (0, u "max"), (0, .class_ 17), (0, u "com/example/shardledger/shardledger/Interval"), (0, .methodref 16 19), (0, .nameAndType 5 20), (0, u "(JJ)V"), (2, .long 9223372036854775808), (1, .methodref 16 26), (0, .nameAndType 27 28), (0, u "contains"), (0, u "(J)Z"), (0, .class_ 30), (0, u "com/example/shardledger/shardledger/IntervalContainsPinLaw"), (2, u "law"), (0, u "(JJJI)Z")] 3

def k1m0 : Method := { name := "<init>", desc := "()V", sig := { parameters := [], returnType := none }, accessFlags := 1, code := none }
def k1c1 : Code := { maxStack := 6, maxLocals := 16, code := code, exceptionTable := #[], attributes := #[] }
def k1m1 : Method := { name := "law", desc := "(JJJI)Z", sig := { parameters := [.long, .long, .long, .int], returnType := some .boolean }, accessFlags := 9, code := some k1c1 }
/-- com/example/shardledger/shardledger/IntervalContainsPinLaw -/
def k1 : Class := { plain "com/example/shardledger/shardledger/IntervalContainsPinLaw" (some 0) with
  accessFlags := 49
  interfaces := #[]
  cf := some (fileOf pool1 29 #[] #[{ accessFlags := 1, nameIndex := 5, descriptorIndex := 6, attributes := #[] }, { accessFlags := 9, nameIndex := 33, descriptorIndex := 34, attributes := #[] }] 49 2 #[] #[])
  fields := #[]
  methods := #[k1m0, k1m1]
  instanceTypes := #[]
  staticTypes := #[]
  resolved := Array.replicate 38 none
  statics := none }

def pool2 : Array CpInfo := pool [(1, .class_ 2), (0, u "java/lang/Math"), (1, .class_ 6), (1, u "java/lang/Object"), (0, u "<init>"), (0, u "()V"), (89, .class_ 100), (1, u "java/lang/Math$RandomNumberGeneratorHolder"), (20, u "(JJ)J"), (50, u "negativeZeroFloatBits"), (0, u "J"), (2, u "negativeZeroDoubleBits"), (21, u "max"), (2, u "min"), (43, u "$assertionsDisabled"), (0, u "Z"), (91, u "twoToTheDoubleScaleDown"), (0, u "D"), (4, u "twoToTheDoubleScaleUp"), (9, u "E"), (3, u "PI"), (2, u "TAU"), (2, u "DEGREES_TO_RADIANS"), (0, u "RADIANS_TO_DEGREES")] 94

def k2m0 : Method := { name := "<init>", desc := "()V", sig := { parameters := [], returnType := none }, accessFlags := 2, code := none }
def k2c1 : Code := { maxStack := 4, maxLocals := 4, code := jdk_29_method_66_code, exceptionTable := #[], attributes := #[] }
def k2m1 : Method := { name := "max", desc := "(JJ)J", sig := { parameters := [.long, .long], returnType := some .long }, accessFlags := 9, code := some k2c1 }
def k2c2 : Code := { maxStack := 4, maxLocals := 4, code := jdk_29_method_70_code, exceptionTable := #[], attributes := #[] }
def k2m2 : Method := { name := "min", desc := "(JJ)J", sig := { parameters := [.long, .long], returnType := some .long }, accessFlags := 9, code := some k2c2 }
/-- java/lang/Math -/
def k2 : Class := { plain "java/lang/Math" (some 0) with
  accessFlags := 49
  interfaces := #[]
  cf := some (fileOf pool2 1 #[.nestMembers #[98]] #[{ accessFlags := 2, nameIndex := 7, descriptorIndex := 8, attributes := #[] }, { accessFlags := 9, nameIndex := 198, descriptorIndex := 121, attributes := #[] }, { accessFlags := 9, nameIndex := 201, descriptorIndex := 121, attributes := #[] }] 49 4 #[] #[{ accessFlags := 25, nameIndex := 354, descriptorIndex := 339, attributes := #[] }, { accessFlags := 25, nameIndex := 358, descriptorIndex := 339, attributes := #[] }, { accessFlags := 25, nameIndex := 361, descriptorIndex := 339, attributes := #[] }, { accessFlags := 26, nameIndex := 364, descriptorIndex := 339, attributes := #[] }, { accessFlags := 26, nameIndex := 365, descriptorIndex := 339, attributes := #[] }, { accessFlags := 26, nameIndex := 172, descriptorIndex := 173, attributes := #[] }, { accessFlags := 26, nameIndex := 176, descriptorIndex := 173, attributes := #[] }, { accessFlags := 8, nameIndex := 344, descriptorIndex := 339, attributes := #[] }, { accessFlags := 8, nameIndex := 338, descriptorIndex := 339, attributes := #[] }, { accessFlags := 4120, nameIndex := 245, descriptorIndex := 246, attributes := #[] }])
  fields := #[{ name := "E", type := .double, accessFlags := 25, slot := 0, constantValue := 0 }, { name := "PI", type := .double, accessFlags := 25, slot := 1, constantValue := 0 }, { name := "TAU", type := .double, accessFlags := 25, slot := 2, constantValue := 0 }, { name := "DEGREES_TO_RADIANS", type := .double, accessFlags := 26, slot := 3, constantValue := 0 }, { name := "RADIANS_TO_DEGREES", type := .double, accessFlags := 26, slot := 4, constantValue := 0 }, { name := "negativeZeroFloatBits", type := .long, accessFlags := 26, slot := 5, constantValue := 0 }, { name := "negativeZeroDoubleBits", type := .long, accessFlags := 26, slot := 6, constantValue := 0 }, { name := "twoToTheDoubleScaleUp", type := .double, accessFlags := 8, slot := 7, constantValue := 0 }, { name := "twoToTheDoubleScaleDown", type := .double, accessFlags := 8, slot := 8, constantValue := 0 }, { name := "$assertionsDisabled", type := .boolean, accessFlags := 4120, slot := 9, constantValue := 0 }]
  methods := #[k2m0, k2m1, k2m2]
  instanceTypes := #[]
  staticTypes := #[.double, .double, .double, .double, .double, .long, .long, .double, .double, .boolean]
  resolved := Array.replicate 460 none
  statics := none }

def pool3 : Array CpInfo := pool [(1, .methodref 2 3), (0, .class_ 4), (0, .nameAndType 5 6), (0, u "java/lang/Object"), (0, u "<init>"), (0, u "()V"), (0, .class_ 8), (0, u "java/lang/Record")] 13

def k3c0 : Code := { maxStack := 1, maxLocals := 1, code := jdk_30_method_1_code, exceptionTable := #[], attributes := #[] }
def k3m0 : Method := { name := "<init>", desc := "()V", sig := { parameters := [], returnType := none }, accessFlags := 4, code := some k3c0 }
/-- java/lang/Record -/
def k3 : Class := { plain "java/lang/Record" (some 0) with
  accessFlags := 1057
  interfaces := #[]
  cf := some (fileOf pool3 7 #[] #[{ accessFlags := 4, nameIndex := 5, descriptorIndex := 6, attributes := #[] }] 1057 2 #[] #[])
  fields := #[]
  methods := #[k3m0]
  instanceTypes := #[]
  staticTypes := #[]
  resolved := Array.replicate 22 none
  statics := none }

def pool4 : Array CpInfo := pool [(1, .class_ 2), (0, u "java/lang/Comparable"), (0, .class_ 4), (0, u "java/lang/Object")] 7

/-- java/lang/Comparable -/
def k4 : Class := { plain "java/lang/Comparable" (some 0) with
  accessFlags := 1537
  interfaces := #[]
  cf := some (fileOf pool4 1 #[] #[] 1537 3 #[] #[])
  fields := #[]
  methods := #[]
  instanceTypes := #[]
  staticTypes := #[]
  resolved := Array.replicate 12 none
  statics := none }

def pool5 : Array CpInfo := pool [(1, .methodref 2 3), (0, .class_ 4), (0, .nameAndType 5 6), (0, u "java/lang/Record"), (0, u "<init>"), (0, u "()V"), (15, .fieldref 23 24), (0, .class_ 25), (0, .nameAndType 26 27), (0, u "com/example/shardledger/shardledger/Interval"), (0, u "start"), (0, u "J"), (0, .fieldref 23 29), (0, .nameAndType 30 27), (0, u "end"), (28, u "(JJ)V"), (81, u "ORDER"), (0, u "Ljava/util/Comparator;"), (15, u "ALL_TIME"), (0, u "Lcom/example/shardledger/shardledger/Interval;"), (12, .class_ 173), (0, u "java/lang/Comparable"), (11, u "contains"), (0, u "(J)Z")] 55

def k5c0 : Code := { maxStack := 5, maxLocals := 5, code := prog_11_method_1_code, exceptionTable := #[], attributes := #[] }
def k5m0 : Method := { name := "<init>", desc := "(JJ)V", sig := { parameters := [.long, .long], returnType := none }, accessFlags := 0, code := some k5c0 }
def k5c1 : Code := { maxStack := 4, maxLocals := 3, code := prog_11_method_5_code, exceptionTable := #[], attributes := #[] }
def k5m1 : Method := { name := "contains", desc := "(J)Z", sig := { parameters := [.long], returnType := some .boolean }, accessFlags := 0, code := some k5c1 }
/-- com/example/shardledger/shardledger/Interval -/
def k5 : Class := { plain "com/example/shardledger/shardledger/Interval" (some 3) with
  accessFlags := 48
  interfaces := #[4]
  cf := some (fileOf pool5 23 #[] #[{ accessFlags := 0, nameIndex := 5, descriptorIndex := 59, attributes := #[] }, { accessFlags := 0, nameIndex := 185, descriptorIndex := 186, attributes := #[] }] 48 2 #[172] #[{ accessFlags := 18, nameIndex := 26, descriptorIndex := 27, attributes := #[] }, { accessFlags := 18, nameIndex := 30, descriptorIndex := 27, attributes := #[] }, { accessFlags := 24, nameIndex := 158, descriptorIndex := 159, attributes := #[] }, { accessFlags := 26, nameIndex := 141, descriptorIndex := 142, attributes := #[] }])
  fields := #[{ name := "start", type := .long, accessFlags := 18, slot := 0, constantValue := 0 }, { name := "end", type := .long, accessFlags := 18, slot := 1, constantValue := 0 }, { name := "ALL_TIME", type := (.object "com/example/shardledger/shardledger/Interval"), accessFlags := 24, slot := 0, constantValue := 0 }, { name := "ORDER", type := (.object "java/util/Comparator"), accessFlags := 26, slot := 1, constantValue := 0 }]
  methods := #[k5m0, k5m1]
  instanceTypes := #[.long, .long]
  staticTypes := #[(.object "com/example/shardledger/shardledger/Interval"), (.object "java/util/Comparator")]
  resolved := Array.replicate 242 none
  statics := none }

def pool6 : Array CpInfo := pool [(1, u "java/lang/Cloneable"), (0, .class_ 1), (0, u "java/lang/Object"), (0, .class_ 3)] 3

/-- java/lang/Cloneable -/
def k6 : Class := { plain "java/lang/Cloneable" (some 0) with
  accessFlags := 1537
  interfaces := #[]
  cf := some (fileOf pool6 2 #[] #[] 1537 4 #[] #[])
  fields := #[]
  methods := #[]
  instanceTypes := #[]
  staticTypes := #[]
  resolved := Array.replicate 8 none
  statics := none }

def pool7 : Array CpInfo := pool [(1, u "java/io/Serializable"), (0, .class_ 1), (0, u "java/lang/Object"), (0, .class_ 3)] 3

/-- java/io/Serializable -/
def k7 : Class := { plain "java/io/Serializable" (some 0) with
  accessFlags := 1537
  interfaces := #[]
  cf := some (fileOf pool7 2 #[] #[] 1537 4 #[] #[])
  fields := #[]
  methods := #[]
  instanceTypes := #[]
  staticTypes := #[]
  resolved := Array.replicate 8 none
  statics := none }

/-- the primitive byte -/
def k8 : Class := { plain "byte" none with kind := .primitive 'B', accessFlags := 0x411 }
/-- [B -/
def k9 : Class := { plain "[B" (some 0) with kind := .array 8 .byte, interfaces := #[6, 7], accessFlags := 1041 }

/-- the primitive int -/
def k10 : Class := { plain "int" none with kind := .primitive 'I', accessFlags := 0x411 }
/-- [I -/
def k11 : Class := { plain "[I" (some 0) with kind := .array 10 .int, interfaces := #[6, 7], accessFlags := 1041 }

def heap : Heap := #[]
def classes : Array Class := #[k0, k1, k2, k3, k4, k5, k6, k7, k8, k9, k10, k11]
def interned : List (Array UInt16 × Addr) := []
def slotsUsed : Nat := 0
def theMethod : MethodId := ⟨1, 1⟩
def args0 : Array Value := #[.long 5, .long 7, .long 1, .int 9]
def aboutOver (below : List Frame) : State where
  vm := { classes := classes, interned := interned.toArray }
  heap := heap
  slotsUsed := slotsUsed
  threads := #[{ frames := .invoking theMethod args0 :: below }]
def below0 : List Frame := [.native { method := ⟨0, 0⟩, args := #[] }]
def about1 : State := aboutOver below0
def p0 : Program := .bare "" "" ""
def e0 : Env := launch0.env 0 0 0
theorem w_frames : about1.frames = Frame.invoking theMethod args0 :: below0 := rfl
set_option maxRecDepth 65536 in
theorem w_args : argsFit about1.vm theMethod args0 = true := by decide +kernel
set_option maxRecDepth 65536 in
theorem w_heap : heapFits about1 = true := by decide +kernel
set_option maxRecDepth 65536 in
theorem w_runnable : about1.curStatus? = some .runnable := by decide +kernel
set_option maxRecDepth 65536 in
theorem w_alone : about1.alone = true := by decide +kernel
set_option maxRecDepth 65536 in
theorem w_named : about1.methodNamed? x = some theMethod := by decide +kernel
set_option maxRecDepth 65536 in
theorem w_hears : about1.hears theMethod below0 = true := by decide +kernel
set_option maxRecDepth 65536 in
theorem w_ripe : about1.ripe theMethod args0 below0 = true := by decide +kernel
theorem w_running : about1.status = .running := rfl
set_option maxRecDepth 65536 in
theorem w_room : about1.hasRoom e0.platform room_1 = true :=
  launch0.hasRoom_least _ room_1 (by decide +kernel) (by decide +kernel) (by decide +kernel) (by decide +kernel) (by decide +kernel) (by decide +kernel)
theorem allAtoms_all (ts : List Jvm.Cond) (a : Array Jvm.Value) (st : Jvm.State) : (allAtoms ts).before a st = ts.all (fun c => c.before a st) := by
  induction ts with
  | nil => rfl
  | cons c t ih =>
    show (Jvm.Cond.and c (allAtoms t)).before a st = _
    rw [Jvm.Cond.before_and, ih, List.all_cons]
def words1 : List Jvm.Cond := Jvm.Cond.code x code maxLocals ret :: tables_1
/-- a 'code' word, met by the world's own term for the bytes: nothing is compared byte by byte -/
theorem code_word {y : MethodName} {bytes : ByteArray} {mx : Nat} {rt : Option FieldType} {a : Array Value} {s : State} {m : MethodId} {meth : Method} {c : Code} (h1 : s.methodNamed? y = some m) (h2 : s.vm.method? m = some meth) (h3 : meth.code = some c) (h4 : c.code = bytes)
    (h5 : (c.maxLocals == mx && c.exceptionTable.isEmpty && decide (c.maxStack ≤ mostOperands) && decide (meth.sig.returnType = rt) && !meth.locks && decide (parseMethodDescriptor y.desc = some meth.sig)) = true) : (Jvm.Cond.code y bytes mx rt).before a s = true := by
  simp only [Bool.and_eq_true, beq_iff_eq, Bool.not_eq_true', decide_eq_true_eq] at h5
  obtain ⟨⟨⟨⟨⟨g1, g2⟩, g3⟩, g4⟩, g5⟩, g6⟩ := h5
  simp [Cond.before, Cond.holds, Cond.value, h1, h2, h3, h4, g1, g2, g3, g4, g5, g6]
def isCode : Jvm.Cond → Bool
  | .code _ _ _ _ => true
  | _ => false
theorem all_split {L : List Jvm.Cond} {P : Jvm.Cond → Bool} (h1 : L.all (fun c => isCode c || P c) = true) (h2 : ∀ c ∈ L.filter isCode, P c = true) : L.all P = true := by
  refine List.all_eq_true.mpr fun c hc => ?_
  have h := List.all_eq_true.mp h1 c hc
  rcases Bool.eq_false_or_eq_true (isCode c) with hi | hi
  · exact h2 c (List.mem_filter.mpr ⟨hc, hi⟩)
  · simpa [hi] using h
set_option maxRecDepth 65536 in
theorem w_c0 : (Jvm.Cond.code x code maxLocals ret).before args0 about1 = true := code_word (m := ⟨1, 1⟩) (meth := k1m1) (c := k1c1) (by decide +kernel) rfl rfl rfl (by decide +kernel)
set_option maxRecDepth 65536 in
theorem w_c1 : (Jvm.Cond.code ({ cls := "java/lang/Math", name := "min", desc := "(JJ)J" } : Jvm.MethodName) jdk_29_method_70_code (4 : Nat) (Option.some Jvm.ClassFile.FieldType.long)).before args0 about1 = true := code_word (m := ⟨2, 2⟩) (meth := k2m2) (c := k2c2) (by decide +kernel) rfl rfl rfl (by decide +kernel)
set_option maxRecDepth 65536 in
theorem w_c2 : (Jvm.Cond.code ({ cls := "java/lang/Math", name := "max", desc := "(JJ)J" } : Jvm.MethodName) jdk_29_method_66_code (4 : Nat) (Option.some Jvm.ClassFile.FieldType.long)).before args0 about1 = true := code_word (m := ⟨2, 1⟩) (meth := k2m1) (c := k2c1) (by decide +kernel) rfl rfl rfl (by decide +kernel)
set_option maxRecDepth 65536 in
theorem w_c3 : (Jvm.Cond.code ({ cls := "com/example/shardledger/shardledger/Interval", name := "<init>", desc := "(JJ)V" } : Jvm.MethodName) prog_11_method_1_code (5 : Nat) (Option.none : Option Jvm.ClassFile.FieldType)).before args0 about1 = true := code_word (m := ⟨5, 0⟩) (meth := k5m0) (c := k5c0) (by decide +kernel) rfl rfl rfl (by decide +kernel)
set_option maxRecDepth 65536 in
theorem w_c4 : (Jvm.Cond.code ({ cls := "java/lang/Record", name := "<init>", desc := "()V" } : Jvm.MethodName) jdk_30_method_1_code (1 : Nat) (Option.none : Option Jvm.ClassFile.FieldType)).before args0 about1 = true := code_word (m := ⟨3, 0⟩) (meth := k3m0) (c := k3c0) (by decide +kernel) rfl rfl rfl (by decide +kernel)
set_option maxRecDepth 65536 in
theorem w_c5 : (Jvm.Cond.code ({ cls := "java/lang/Object", name := "<init>", desc := "()V" } : Jvm.MethodName) object_method_1_code (1 : Nat) (Option.none : Option Jvm.ClassFile.FieldType)).before args0 about1 = true := code_word (m := ⟨0, 0⟩) (meth := k0m0) (c := k0c0) (by decide +kernel) rfl rfl rfl (by decide +kernel)
set_option maxRecDepth 65536 in
theorem w_c6 : (Jvm.Cond.code ({ cls := "com/example/shardledger/shardledger/Interval", name := "contains", desc := "(J)Z" } : Jvm.MethodName) prog_11_method_5_code (3 : Nat) (Option.some Jvm.ClassFile.FieldType.boolean)).before args0 about1 = true := code_word (m := ⟨5, 1⟩) (meth := k5m1) (c := k5c1) (by decide +kernel) rfl rfl rfl (by decide +kernel)
def codes1 : List Jvm.Cond := [Jvm.Cond.code x code maxLocals ret, Jvm.Cond.code ({ cls := "java/lang/Math", name := "min", desc := "(JJ)J" } : Jvm.MethodName) jdk_29_method_70_code (4 : Nat) (Option.some Jvm.ClassFile.FieldType.long), Jvm.Cond.code ({ cls := "java/lang/Math", name := "max", desc := "(JJ)J" } : Jvm.MethodName) jdk_29_method_66_code (4 : Nat) (Option.some Jvm.ClassFile.FieldType.long), Jvm.Cond.code ({ cls := "com/example/shardledger/shardledger/Interval", name := "<init>", desc := "(JJ)V" } : Jvm.MethodName) prog_11_method_1_code (5 : Nat) (Option.none : Option Jvm.ClassFile.FieldType), Jvm.Cond.code ({ cls := "java/lang/Record", name := "<init>", desc := "()V" } : Jvm.MethodName) jdk_30_method_1_code (1 : Nat) (Option.none : Option Jvm.ClassFile.FieldType), Jvm.Cond.code ({ cls := "java/lang/Object", name := "<init>", desc := "()V" } : Jvm.MethodName) object_method_1_code (1 : Nat) (Option.none : Option Jvm.ClassFile.FieldType), Jvm.Cond.code ({ cls := "com/example/shardledger/shardledger/Interval", name := "contains", desc := "(J)Z" } : Jvm.MethodName) prog_11_method_5_code (3 : Nat) (Option.some Jvm.ClassFile.FieldType.boolean)]
set_option maxRecDepth 65536 in
theorem codes_eq : words1.filter isCode = codes1 := rfl
theorem w_codes : ∀ c ∈ words1.filter isCode, c.before args0 about1 = true := by
  rw [codes_eq]
  intro c hc
  simp only [codes1, List.mem_cons, List.not_mem_nil, or_false] at hc
  rcases hc with rfl | rfl | rfl | rfl | rfl | rfl | rfl
  · exact w_c0
  · exact w_c1
  · exact w_c2
  · exact w_c3
  · exact w_c4
  · exact w_c5
  · exact w_c6
set_option maxRecDepth 65536 in
theorem w_t1 : (words1.take 24).all (fun c => isCode c || c.before args0 about1) = true := by decide +kernel
set_option maxRecDepth 65536 in
theorem w_t2 : (words1.drop 24).all (fun c => isCode c || c.before args0 about1) = true := by decide +kernel
theorem w_tables : (allAtoms (Jvm.Cond.code x code maxLocals ret :: tables_1)).before args0 about1 = true := by
  rw [allAtoms_all]
  show words1.all (fun c => c.before args0 about1) = true
  refine all_split ?_ w_codes
  rw [← List.take_append_drop 24 words1, List.all_append, w_t1, w_t2]
  rfl
set_option maxRecDepth 65536 in
theorem w_case : (Jvm.Cond.and given_1 narrow_1).before args0 about1 = true := by decide +kernel
theorem w_applies : (headSpec (Jvm.Cond.code x code maxLocals ret :: tables_1) room_1).applies x e0.platform about1 = true :=
  (Spec.applies_iff w_frames).mpr ⟨w_running, w_runnable, w_alone, w_named, w_hears, w_ripe, w_room, w_tables⟩
theorem atStart : AtStart classFile x code maxLocals ret World_1 tables_1 room_1 Calls_1 rest_1 Pre_1 launch0 p0 e0 about1 theMethod args0 below0 :=
  ⟨lists_1, trivial, launch0.admits_env _ _ _, launch0.least_env, fairChoices_fair.cas, fairChoices_fair.clock, w_frames, w_args, w_heap, w_applies, trivial, trivial, w_case⟩
end start1
theorem witness_1 : WitnessClaimed_1 := ⟨start1.p0, start1.e0, start1.about1, start1.theMethod, start1.args0, start1.below0, start1.atStart⟩
end Jvm.Pilot.@@N@@
