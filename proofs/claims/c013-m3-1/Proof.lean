import JvmDerived
import JvmDerived.Pilot.@@N@@Statement
import JvmDerived.Pilot.@@N@@Code
set_option linter.unusedVariables false
set_option linter.unusedSimpArgs false
namespace Jvm.Pilot.@@N@@
open Jvm Jvm.ClassFile Sem Op Lib Jvm.Free Jvm.Stand Jvm.LawKit Jvm.RoadKit Bundle Jvm.Pilot.@@N@@.Jvm.D
section OwnKit
variable {p : Program} {l : Launch} {e : Env} {R : Room} {s : State} {m : MethodId} {args : Array Value} {below : List Frame} {meth : Method} {c : Code} {T : State} {locs : List Loc} {cells slots : Nat} {bc : ByteArray} {Q : Option Value → Heap → List Loc → Prop} {mc ms : Nat} {Z : State} {a0 : Array Value} {h : Heap} {pc pc' pt pf : Nat} {Ls : Array Slot} {st rest : List Value}
/-- from this frame over T the invocation comes to its end by returning, and Q holds there -/
def Go (p : Program) (e : Env) (below : List Frame) (s : State) (Q : Option Value → Heap → List Loc → Prop) (mc ms : Nat) (m : MethodId) (T : State) (pc : Nat) (Ls : Array Slot) (st : List Value) : Prop :=
  ∃ s₂ o, Steps p.tables e below (T.setTop (mkF m pc Ls st)) s₂ ∧ s₂.status = .running ∧ Ended s₂ below o ∧ ∃ v L, o = .returned v ∧ Q v s₂.heap L ∧ FrameEnd s o s₂ L mc ms
theorem Go.of {T' : State} {Ls' : Array Slot} {st' : List Value} (k : ∀ t, Steps p.tables e below (T'.setTop (mkF m pc' Ls' st')) t → Steps p.tables e below (T.setTop (mkF m pc Ls st)) t) (g : Go p e below s Q mc ms m T' pc' Ls' st') : Go p e below s Q mc ms m T pc Ls st := by
  obtain ⟨s₂, o, h1, h2⟩ := g
  exact ⟨s₂, o, k _ h1, h2⟩
/-- a method's contract, as a caller takes it -/
def Ct (l : Launch) (Z : State) (y : MethodName) (bytes : ByteArray) (maxL : Nat) (ret : Option FieldType) (rm : Room) (as' : Array Value) (h : Heap) (Q : Option Value → Heap → List Loc → Prop) : Prop :=
  MetFree l y (head1 [Jvm.Cond.code y bytes maxL ret] rm) (fun a U => a = as' ∧ Z.Warmed39 U.vm ∧ U.heap = h) (fun _ _ _ _ _ => True) (fun _ U o U' => ∃ v L, o = .returned v ∧ Q v U'.heap L ∧ FrameEnd U o U' L rm.cells rm.slots)
theorem own_met {y : MethodName} {bytes : ByteArray} {maxL : Nat} {ret : Option FieldType} {ws : List Jvm.Cond} {rm : Room} {as' : Array Value}
    (hpl : plainFor y = true) (hef : ∀ m, entryFrame m as' maxL = mkF m 0 Ls [])
    (body : ∀ (p : Program) (e : Env) (s : State) (m : MethodId) (below : List Frame) (meth : Method) (c : Code) (T : State), Stand p l e rm s m as' below meth c T [] 0 0 → p.tables.exec = Jvm.exec → c.code = bytes → c.maxLocals = maxL →
      s.vm.findClass y.cls = some m.cls → meth.name = y.name → meth.sig.returnType = ret → meth.locks = false → Z.Warmed39 s.vm → T.heap = h → Go p e below s Q mc ms m T 0 Ls []) :
    MetFree l y (head1 (Jvm.Cond.code y bytes maxL ret :: ws) rm) (fun a U => a = as' ∧ Z.Warmed39 U.vm ∧ U.heap = h) (fun _ _ _ _ _ => True) (fun _ U o U' => ∃ v L, o = .returned v ∧ Q v U'.heap L ∧ FrameEnd U o U' L mc ms) := by
  refine MetFree.of_bodySF hpl hisR ?_
  intro p e s m args below meth c s₁ Bd hml0 hP hK
  obtain ⟨rfl, hZ, hh⟩ := hP
  obtain ⟨s₂, o, h1, h2, h3, v, L, h4, h5, h6⟩ := body p e s m below meth c s₁ (Stand.of_body Bd) Bd.exec Bd.bytes hml0 (findClass_of_methodNamed Bd.named) (name_of_methodNamed Bd.named Bd.method).1 Bd.returns Bd.notSynchronized hZ (by rw [← hh, Bd.state]; rfl)
  exact ⟨s₂, o, castTop (hef m) h1, h2, h3, v, L, h4, h5, h6⟩
theorem g_nameI {x : Int32} (k : ∀ z : Int32, z = x → Go p e below s Q mc ms m T pc Ls (.int z :: rest)) : Go p e below s Q mc ms m T pc Ls (.int x :: rest) := k x rfl
theorem g_iloadN (X : Stand p l e R s m args below meth c T locs cells slots) (hx : p.tables.exec = Jvm.exec) (hby : c.code = bc) {n : Fin 4} {v : Int32} (hd : decode bc pc = .ok (.iload_n n, 1)) (hp : pc + 1 = pc') (hl : Ls[n.val]? = some (.val (.int v))) (k : Go p e below s Q mc ms m T pc' Ls (.int v :: st)) : Go p e below s Q mc ms m T pc Ls st := by
  subst hp; exact Go.of (fun _ q => XS.iloadN X.here hx rfl (hb hby hd) hl q) k
theorem g_iload (X : Stand p l e R s m args below meth c T locs cells slots) (hx : p.tables.exec = Jvm.exec) (hby : c.code = bc) {n : Nat} {v : Int32} (hd : decode bc pc = .ok (.iload n, 2)) (hp : pc + 2 = pc') (hl : Ls[n]? = some (.val (.int v))) (k : Go p e below s Q mc ms m T pc' Ls (.int v :: st)) : Go p e below s Q mc ms m T pc Ls st := by
  subst hp; exact Go.of (fun _ q => XS.iload X.here hx rfl (hb hby hd) hl q) k
theorem g_istore (X : Stand p l e R s m args below meth c T locs cells slots) (hx : p.tables.exec = Jvm.exec) (hby : c.code = bc) {n : Nat} {v : Int32} {Ls' : Array Slot} (hd : decode bc pc = .ok (.istore n, 2)) (hp : pc + 2 = pc') (hl : storeLocals Ls n (.int v) = some Ls') (k : Go p e below s Q mc ms m T pc' Ls' rest) : Go p e below s Q mc ms m T pc Ls (.int v :: rest) := by
  subst hp; exact Go.of (fun _ q => XS.istore X.here hx rfl (hb hby hd) rfl hl q) k
theorem g_aloadN (X : Stand p l e R s m args below meth c T locs cells slots) (hx : p.tables.exec = Jvm.exec) (hby : c.code = bc) {n : Fin 4} {v : Value} (hd : decode bc pc = .ok (.aload_n n, 1)) (hp : pc + 1 = pc') (hl : Ls[n.val]? = some (.val v)) (hv : v.isRef = true) (k : Go p e below s Q mc ms m T pc' Ls (v :: st)) : Go p e below s Q mc ms m T pc Ls st := by
  subst hp; exact Go.of (fun _ q => XS.aloadN X.here hx rfl (hb hby hd) hl hv q) k
theorem g_aload (X : Stand p l e R s m args below meth c T locs cells slots) (hx : p.tables.exec = Jvm.exec) (hby : c.code = bc) {n : Nat} {v : Value} (hd : decode bc pc = .ok (.aload n, 2)) (hp : pc + 2 = pc') (hl : Ls[n]? = some (.val v)) (hv : v.isRef = true) (k : Go p e below s Q mc ms m T pc' Ls (v :: st)) : Go p e below s Q mc ms m T pc Ls st := by
  subst hp; exact Go.of (fun _ q => XS.aload X.here hx rfl (hb hby hd) hl hv q) k
theorem g_astore (X : Stand p l e R s m args below meth c T locs cells slots) (hx : p.tables.exec = Jvm.exec) (hby : c.code = bc) {n : Nat} {v : Value} {Ls' : Array Slot} (hd : decode bc pc = .ok (.astore n, 2)) (hp : pc + 2 = pc') (hv : v.isRef = true) (hl : storeLocals Ls n v = some Ls') (k : Go p e below s Q mc ms m T pc' Ls' rest) : Go p e below s Q mc ms m T pc Ls (v :: rest) := by
  subst hp; exact Go.of (fun _ q => XS.astore X.here hx rfl (hb hby hd) rfl hv hl q) k
theorem g_iconst (X : Stand p l e R s m args below meth c T locs cells slots) (hx : p.tables.exec = Jvm.exec) (hby : c.code = bc) {i : Int} {n : Int32} (hd : decode bc pc = .ok (.iconst i, 1)) (hp : pc + 1 = pc') (hn : Int32.ofInt i = n) (k : Go p e below s Q mc ms m T pc' Ls (.int n :: st)) : Go p e below s Q mc ms m T pc Ls st := by
  subst hp; exact Go.of (fun _ q => XS.iconst X.here hx rfl (hb hby hd) (by rw [hn]; exact q)) k
theorem g_bipush (X : Stand p l e R s m args below meth c T locs cells slots) (hx : p.tables.exec = Jvm.exec) (hby : c.code = bc) {i : Int} {n : Int32} (hd : decode bc pc = .ok (.bipush i, 2)) (hp : pc + 2 = pc') (hn : (Int8.ofInt i).toInt32 = n) (k : Go p e below s Q mc ms m T pc' Ls (.int n :: st)) : Go p e below s Q mc ms m T pc Ls st := by
  subst hp; exact Go.of (fun _ q => XS.bipush X.here hx rfl (hb hby hd) (by rw [hn]; exact q)) k
theorem g_iadd (X : Stand p l e R s m args below meth c T locs cells slots) (hx : p.tables.exec = Jvm.exec) (hby : c.code = bc) {x y : Int32} (hd : decode bc pc = .ok (.iadd, 1)) (hp : pc + 1 = pc')  (k : Go p e below s Q mc ms m T pc' Ls (.int (x + y) :: rest)) : Go p e below s Q mc ms m T pc Ls (.int y :: .int x :: rest) := by
  subst hp; exact Go.of (fun _ q => XS.iadd X.here hx rfl (hb hby hd) rfl q) k
theorem g_isub (X : Stand p l e R s m args below meth c T locs cells slots) (hx : p.tables.exec = Jvm.exec) (hby : c.code = bc) {x y : Int32} (hd : decode bc pc = .ok (.isub, 1)) (hp : pc + 1 = pc')  (k : Go p e below s Q mc ms m T pc' Ls (.int (x - y) :: rest)) : Go p e below s Q mc ms m T pc Ls (.int y :: .int x :: rest) := by
  subst hp; exact Go.of (fun _ q => XS.isub X.here hx rfl (hb hby hd) rfl q) k
theorem g_iand (X : Stand p l e R s m args below meth c T locs cells slots) (hx : p.tables.exec = Jvm.exec) (hby : c.code = bc) {x y : Int32} (hd : decode bc pc = .ok (.iand, 1)) (hp : pc + 1 = pc')  (k : Go p e below s Q mc ms m T pc' Ls (.int (x &&& y) :: rest)) : Go p e below s Q mc ms m T pc Ls (.int y :: .int x :: rest) := by
  subst hp; exact Go.of (fun _ q => XS.iand X.here hx rfl (hb hby hd) rfl q) k
theorem g_irem (X : Stand p l e R s m args below meth c T locs cells slots) (hx : p.tables.exec = Jvm.exec) (hby : c.code = bc) {x y : Int32} (hd : decode bc pc = .ok (.irem, 1)) (hp : pc + 1 = pc') (hy : y ≠ 0) (k : Go p e below s Q mc ms m T pc' Ls (.int (x % y) :: rest)) : Go p e below s Q mc ms m T pc Ls (.int y :: .int x :: rest) := by
  subst hp; exact Go.of (fun _ q => iremM X hx rfl (hb hby hd) rfl hy q) k
theorem g_iushr (X : Stand p l e R s m args below meth c T locs cells slots) (hx : p.tables.exec = Jvm.exec) (hby : c.code = bc) {x y : Int32} (hd : decode bc pc = .ok (.iushr, 1)) (hp : pc + 1 = pc')  (k : Go p e below s Q mc ms m T pc' Ls (.int ((x.toUInt32 >>> (y &&& 31).toUInt32).toInt32) :: rest)) : Go p e below s Q mc ms m T pc Ls (.int y :: .int x :: rest) := by
  subst hp; exact Go.of (fun _ q => XS.iushr X.here hx rfl (hb hby hd) rfl q) k
theorem g_goto (X : Stand p l e R s m args below meth c T locs cells slots) (hx : p.tables.exec = Jvm.exec) (hby : c.code = bc) {i : Int} (hd : decode bc pc = .ok (.goto i, 3)) (ho : 0 ≤ (pc : Int) + i) (hp : ((pc : Int) + i).toNat = pc') (k : Go p e below s Q mc ms m T pc' Ls st) : Go p e below s Q mc ms m T pc Ls st := Go.of (fun _ q => XS.goto X.here hx rfl rfl (hb hby hd) ho hp q) k
theorem own_hlt (x y : Int32) : if_icmp.holds .lt x y = decide (x.toInt < y.toInt) := by simp [if_icmp.holds, Int32.lt_iff_toInt_lt]
theorem own_hge (x y : Int32) : if_icmp.holds .ge x y = decide (y.toInt ≤ x.toInt) := by simp [if_icmp.holds, Int32.le_iff_toInt_le]
theorem own_hgt (x y : Int32) : if_icmp.holds .gt x y = decide (y.toInt < x.toInt) := by simp [if_icmp.holds, Int32.lt_iff_toInt_lt]
theorem g_icmp (X : Stand p l e R s m args below meth c T locs cells slots) (hx : p.tables.exec = Jvm.exec) (hby : c.code = bc) {cd : ClassFile.Cond} {i : Int} {x y : Int32} {P : Prop} [Decidable P] (hP : if_icmp.holds cd x y = decide P) (hd : decode bc pc = .ok (.if_icmp cd i, 3)) (ho : 0 ≤ (pc : Int) + i) (hp : ((pc : Int) + i).toNat = pt) (hf : pc + 3 = pf) (ky : P → Go p e below s Q mc ms m T pt Ls rest) (kn : ¬ P → Go p e below s Q mc ms m T pf Ls rest) : Go p e below s Q mc ms m T pc Ls (.int y :: .int x :: rest) := by
  subst hf
  by_cases q : P
  · exact Go.of (fun _ z => XS.icmpYes X.here hx rfl rfl (hb hby hd) rfl (by rw [hP]; exact decide_eq_true q) ho hp z) (ky q)
  · exact Go.of (fun _ z => XS.icmpNo X.here hx rfl (hb hby hd) rfl (by rw [hP]; exact decide_eq_false q) z) (kn q)
theorem g_ifc (X : Stand p l e R s m args below meth c T locs cells slots) (hx : p.tables.exec = Jvm.exec) (hby : c.code = bc) {cd : ClassFile.Cond} {i : Int} {x : Int32} {P : Prop} [Decidable P] (hP : if_icmp.holds cd x 0 = decide P) (hd : decode bc pc = .ok (.ifCond cd i, 3)) (ho : 0 ≤ (pc : Int) + i) (hp : ((pc : Int) + i).toNat = pt) (hf : pc + 3 = pf) (ky : P → Go p e below s Q mc ms m T pt Ls rest) (kn : ¬ P → Go p e below s Q mc ms m T pf Ls rest) : Go p e below s Q mc ms m T pc Ls (.int x :: rest) := by
  subst hf
  by_cases q : P
  · exact Go.of (fun _ z => XS.ifYes X.here hx rfl rfl (hb hby hd) rfl (by rw [if0, hP]; exact decide_eq_true q) ho hp z) (ky q)
  · exact Go.of (fun _ z => XS.ifNo X.here hx rfl (hb hby hd) rfl (by rw [if0, hP]; exact decide_eq_false q) z) (kn q)
theorem g_icmplt (X : Stand p l e R s m args below meth c T locs cells slots) (hx : p.tables.exec = Jvm.exec) (hby : c.code = bc) {i : Int} {x y : Int32} (hd : decode bc pc = .ok (.if_icmp .lt i, 3)) (ho : 0 ≤ (pc : Int) + i) (hp : ((pc : Int) + i).toNat = pt) (hf : pc + 3 = pf) (ky : x.toInt < y.toInt → Go p e below s Q mc ms m T pt Ls rest) (kn : y.toInt ≤ x.toInt → Go p e below s Q mc ms m T pf Ls rest) : Go p e below s Q mc ms m T pc Ls (.int y :: .int x :: rest) :=
  g_icmp X hx hby (own_hlt x y) hd ho hp hf ky (fun q => kn (Int.not_lt.mp q))
theorem g_icmpge (X : Stand p l e R s m args below meth c T locs cells slots) (hx : p.tables.exec = Jvm.exec) (hby : c.code = bc) {i : Int} {x y : Int32} (hd : decode bc pc = .ok (.if_icmp .ge i, 3)) (ho : 0 ≤ (pc : Int) + i) (hp : ((pc : Int) + i).toNat = pt) (hf : pc + 3 = pf) (ky : y.toInt ≤ x.toInt → Go p e below s Q mc ms m T pt Ls rest) (kn : x.toInt < y.toInt → Go p e below s Q mc ms m T pf Ls rest) : Go p e below s Q mc ms m T pc Ls (.int y :: .int x :: rest) :=
  g_icmp X hx hby (own_hge x y) hd ho hp hf ky (fun q => kn (Int.not_le.mp q))
theorem g_icmpgt (X : Stand p l e R s m args below meth c T locs cells slots) (hx : p.tables.exec = Jvm.exec) (hby : c.code = bc) {i : Int} {x y : Int32} (hd : decode bc pc = .ok (.if_icmp .gt i, 3)) (ho : 0 ≤ (pc : Int) + i) (hp : ((pc : Int) + i).toNat = pt) (hf : pc + 3 = pf) (ky : y.toInt < x.toInt → Go p e below s Q mc ms m T pt Ls rest) (kn : x.toInt ≤ y.toInt → Go p e below s Q mc ms m T pf Ls rest) : Go p e below s Q mc ms m T pc Ls (.int y :: .int x :: rest) :=
  g_icmp X hx hby (own_hgt x y) hd ho hp hf ky (fun q => kn (Int.not_lt.mp q))
theorem g_ifgt (X : Stand p l e R s m args below meth c T locs cells slots) (hx : p.tables.exec = Jvm.exec) (hby : c.code = bc) {i : Int} {x : Int32} (hd : decode bc pc = .ok (.ifCond .gt i, 3)) (ho : 0 ≤ (pc : Int) + i) (hp : ((pc : Int) + i).toNat = pt) (hf : pc + 3 = pf) (ky : 0 < x.toInt → Go p e below s Q mc ms m T pt Ls rest) (kn : x.toInt ≤ 0 → Go p e below s Q mc ms m T pf Ls rest) : Go p e below s Q mc ms m T pc Ls (.int x :: rest) :=
  g_ifc X hx hby (own_hgt x 0) hd ho hp hf ky (fun q => kn (Int.not_lt.mp q))
theorem g_ret (X : Stand p l e R s m args below meth c T locs cells slots) (hx : p.tables.exec = Jvm.exec) (hby : c.code = bc) (hlk : meth.locks = false) {t : FieldType} {w : Value} {i : Instr} (hret : meth.sig.returnType = some t) (hn : narrow t w = w) (hi : (i = .ireturn ∧ (t = .int ∨ t = .boolean ∨ t = .byte ∨ t = .char ∨ t = .short) ∧ ∃ z, w = .int z) ∨ (i = .lreturn ∧ t = .long ∧ ∃ z, w = .long z) ∨ (i = .dreturn ∧ t = .double ∧ ∃ z, w = .double z) ∨ (i = .freturn ∧ t = .float ∧ ∃ z, w = .float z) ∨ (i = .areturn ∧ t.isReference = true ∧ w.isRef = true)) (hd : decode bc pc = .ok (i, 1)) (hc : cells ≤ mc) (hs : slots ≤ ms) (hq : Q (some w) T.heap locs) : Go p e below s Q mc ms m T pc Ls (w :: rest) := by
  obtain ⟨fs, hr, hrun, hended, hW, hsame⟩ := X.leave (v := some w) (fun h => by rw [hret] at h; cases h) hlk
  exact ⟨_, _, retOut X hx hret hn hi (hb hby hd) hr, hrun, hended, _, _, rfl, hq, ⟨_, rfl⟩, hW, hsame.mono hc hs⟩
theorem g_retI (X : Stand p l e R s m args below meth c T locs cells slots) (hx : p.tables.exec = Jvm.exec) (hby : c.code = bc) (hlk : meth.locks = false) {z : Int32} (hret : meth.sig.returnType = some .int) (hd : decode bc pc = .ok (.ireturn, 1)) (hc : cells ≤ mc) (hs : slots ≤ ms) (hq : Q (some (.int z)) T.heap locs) : Go p e below s Q mc ms m T pc Ls (.int z :: rest) := g_ret X hx hby hlk hret rfl (Or.inl ⟨rfl, Or.inl rfl, _, rfl⟩) hd hc hs hq
theorem g_retZ (X : Stand p l e R s m args below meth c T locs cells slots) (hx : p.tables.exec = Jvm.exec) (hby : c.code = bc) (hlk : meth.locks = false) {z : Int32} (hz : z = 0 ∨ z = 1) (hret : meth.sig.returnType = some .boolean) (hd : decode bc pc = .ok (.ireturn, 1)) (hc : cells ≤ mc) (hs : slots ≤ ms) (hq : Q (some (.int z)) T.heap locs) : Go p e below s Q mc ms m T pc Ls (.int z :: rest) := g_ret X hx hby hlk hret (by rcases hz with rfl | rfl <;> rfl) (Or.inl ⟨rfl, Or.inr (Or.inl rfl), _, rfl⟩) hd hc hs hq
theorem g_ldcI (X : Stand p l e R s m args below meth c T locs cells slots) (hx : p.tables.exec = Jvm.exec) (hby : c.code = bc) (hZ : Z.Warmed39 s.vm) {own : String} (hown : s.vm.findClass own = some m.cls) {n : Nat} {v : Int32} (w : (Jvm.Cond.constant own n v).before a0 Z = true) (hd : decode bc pc = .ok (.ldc n, 2)) (hp : pc + 2 = pc') (k : Go p e below s Q mc ms m T pc' Ls (.int v :: st)) : Go p e below s Q mc ms m T pc Ls st := by
  subst hp; exact Go.of (X.ldcInt hx hown (mvT hZ w) (g := mkF m pc Ls st) rfl (hb hby hd)) k
theorem g_newP (X : Stand p l e R s m args below meth c T locs cells slots) (hx : p.tables.exec = Jvm.exec) (hby : c.code = bc) (hZ : Z.Warmed39 s.vm) (eT : T.heap = h) {aty : ArrayType} {n : Int32} (w : (Jvm.Cond.arrayClass (newarray.typeOf aty)).before a0 Z = true) (hd : decode bc pc = .ok (.newarray aty, 2)) (hp : pc + 2 = pc') (hn : ¬ n < 0) {cap : Nat} (hcap : n.toNatClampNeg ≤ cap) (hbig : cap * 8 ≤ 536870912) (hc : cells + 1 ≤ R.cells) (hl : slots + cap ≤ R.slots) (k : ∀ T' h' b cA, b = h.size → Stand p l e R s m args below meth c T' locs (cells + 1) (slots + cap) → T'.heap = h' → Ext h h' → Arv Z h' b cA (newarray.typeOf aty) n [] (defaultValue (newarray.typeOf aty)) → Go p e below s Q mc ms m T' pc' Ls (.ref b :: rest)) : Go p e below s Q mc ms m T pc Ls (.int n :: rest) := by
  subst hp
  obtain ⟨T', h', cA, X', e', E', A', st'⟩ := newP X hx hZ w eT (g := mkF m pc Ls (.int n :: rest)) rfl (hb hby hd) rfl hn hcap hbig hc hl
  exact Go.of st' (k T' h' _ cA rfl X' e' E' (Arv.new A' hn))
theorem g_iastore (X : Stand p l e R s m args below meth c T locs cells slots) (hx : p.tables.exec = Jvm.exec) (hby : c.code = bc) (hZ : Z.Warmed39 s.vm) (eT : T.heap = h) {a : Addr} {cl : Cell} (A : Arr Z h a cl .int) {j : Int32} {x : Int32} (hj : ¬ (j < 0 ∨ cl.slots.size ≤ j.toNatClampNeg)) (hd : decode bc pc = .ok (.iastore, 1)) (hp : pc + 1 = pc') (k : ∀ T' h', Stand p l e R s m args below meth c T' (locs ++ [⟨a, j.toNatClampNeg⟩]) cells slots → T'.heap = h' → Wr h h' a j.toNatClampNeg (.int x) → Go p e below s Q mc ms m T' pc' Ls rest) : Go p e below s Q mc ms m T pc Ls (.int x :: .int j :: .ref a :: rest) := by
  subst hp
  obtain ⟨T', h', X', e', W', st'⟩ := stI X hx hZ eT A (j := j) hj (g := mkF m pc Ls (.int x :: .int j :: .ref a :: rest)) rfl rfl (hb hby hd)
  exact Go.of st' (k T' h' X' e' W')
theorem g_iaload (X : Stand p l e R s m args below meth c T locs cells slots) (hx : p.tables.exec = Jvm.exec) (hby : c.code = bc) (hZ : Z.Warmed39 s.vm) (eT : T.heap = h) {a : Addr} {cl : Cell} (A : Arr Z h a cl .int) {j : Int32} {v : Value} (hj : ¬ (j < 0 ∨ cl.slots.size ≤ j.toNatClampNeg)) (hv : cl.slots[j.toNatClampNeg]? = some v) (hd : decode bc pc = .ok (.iaload, 1)) (hp : pc + 1 = pc') (k : Go p e below s Q mc ms m T pc' Ls (v :: rest)) : Go p e below s Q mc ms m T pc Ls (.int j :: .ref a :: rest) := by
  subst hp
  exact Go.of (fun _ q => X.iaload hx (j := j) (v := v) (by rw [eT]; exact A.1) (State.isArrayOf_alike hZ.alike A.2.1) A.2.2 hj hv (g := mkF m pc Ls (.int j :: .ref a :: rest)) rfl rfl (hb hby hd) _ q) k
/-- in heap h the array at a (of kind ty) has n places; place j holds f j -/
def Ara (Z : State) (h : Heap) (a : Addr) (ty : FieldType) (n : Nat) (f : Nat → Value) : Prop := ∃ cl : Cell, Arr Z h a cl ty ∧ cl.slots.size = n ∧ n < 2147483648 ∧ ∀ j, j < n → cl.slots[j]? = some (f j)
def own_up (f : Nat → Value) (k : Nat) (v : Value) : Nat → Value := fun j => if j = k then v else f j
theorem own_up_self (f : Nat → Value) (k : Nat) (v : Value) : own_up f k v k = v := if_pos rfl
theorem own_up_ne (f : Nat → Value) {k j : Nat} (v : Value) (q : j ≠ k) : own_up f k v j = f j := if_neg q
theorem Ara.lt {h : Heap} {a : Addr} {ty : FieldType} {n : Nat} {f : Nat → Value} (V : Ara Z h a ty n f) : a < h.size := by obtain ⟨_, A, _⟩ := V; exact A.lt
theorem Ara.set {h h' : Heap} {a : Addr} {ty : FieldType} {n k : Nat} {f : Nat → Value} {v : Value} (V : Ara Z h a ty n f) (W : Wr h h' a k v) : Ara Z h' a ty n (own_up f k v) := by
  obtain ⟨c, A, hs, hn, hf⟩ := V
  refine ⟨_, A.same W, by rw [sz_set]; exact hs, hn, fun j hj => ?_⟩
  by_cases q : k = j
  · subst q; rw [own_up_self]; simp [Cell.setSlot, hs, hj]
  · rw [own_up_ne f v (Ne.symm q), ← hf j hj]; exact Array.getElem?_setIfInBounds_ne q
theorem Ara.eq {h : Heap} {a : Addr} {ty : FieldType} {n : Nat} {f f' : Nat → Value} (V : Ara Z h a ty n f) (q : ∀ j, j < n → f j = f' j) : Ara Z h a ty n f' := by obtain ⟨c, A, hs, hn, hf⟩ := V; exact ⟨c, A, hs, hn, fun j hj => by rw [← q j hj]; exact hf j hj⟩
def own_ui (g : Nat → Int32) (k : Nat) (x : Int32) : Nat → Int32 := fun j => if j = k then x else g j
theorem Ara.setI {h h' : Heap} {a : Addr} {ty : FieldType} {n k : Nat} {g : Nat → Int32} {x : Int32} (V : Ara Z h a ty n (fun j => .int (g j))) (W : Wr h h' a k (.int x)) : Ara Z h' a ty n (fun j => .int (own_ui g k x j)) := (V.set W).eq fun j _ => by
  by_cases q : j = k <;> simp [own_up, own_ui, q]
theorem own_in {cl : Cell} {j : Int32} {n : Nat} (hs : cl.slots.size = n) (h0 : 0 ≤ j.toInt) (h1 : j.toInt < n) : ¬ (j < 0 ∨ cl.slots.size ≤ j.toNatClampNeg) := by
  rw [Int32.lt_iff_toInt_lt, hs]
  show ¬ (j.toInt < 0 ∨ n ≤ j.toInt.toNat)
  omega
theorem g_newA (X : Stand p l e R s m args below meth c T locs cells slots) (hx : p.tables.exec = Jvm.exec) (hby : c.code = bc) (hZ : Z.Warmed39 s.vm) (eT : T.heap = h) {aty : ArrayType} {n : Int32} {N : Nat} (w : (Jvm.Cond.arrayClass (newarray.typeOf aty)).before a0 Z = true) (hd : decode bc pc = .ok (.newarray aty, 2)) (hp : pc + 2 = pc') (hn : n.toInt = N) {cap : Nat} (hcap : N ≤ cap) (hbig : cap * 8 ≤ 536870912) (hc : cells + 1 ≤ R.cells) (hl : slots + cap ≤ R.slots) (k : ∀ T' h' b, b = h.size → Stand p l e R s m args below meth c T' locs (cells + 1) (slots + cap) → T'.heap = h' → Ext h h' → Ara Z h' b (newarray.typeOf aty) N (fun _ => defaultValue (newarray.typeOf aty)) → Go p e below s Q mc ms m T' pc' Ls (.ref b :: rest)) : Go p e below s Q mc ms m T pc Ls (.int n :: rest) := by
  have h1 : n.toNatClampNeg = N := by show n.toInt.toNat = N; omega
  have h2 : ¬ n < 0 := by rw [Int32.lt_iff_toInt_lt]; show ¬ n.toInt < 0; omega
  have h3 := rng32 n
  refine g_newP X hx hby hZ eT w hd hp h2 (cap := cap) (by omega) hbig hc hl (fun T' h' b cA hb' X' e' E' V => k T' h' b hb' X' e' E' ?_)
  obtain ⟨cl, A, -, hs, -, hH, -⟩ := V
  exact ⟨cl, A, by rw [hs, h1], by omega, fun j hj => by rw [hH j (by rw [hs, h1]; exact hj)]; simp⟩
theorem a_iastore (X : Stand p l e R s m args below meth c T locs cells slots) (hx : p.tables.exec = Jvm.exec) (hby : c.code = bc) (hZ : Z.Warmed39 s.vm) (eT : T.heap = h) {a : Addr} {n : Nat} {f : Nat → Value} (A : Ara Z h a .int n f) {j : Int32} {x : Int32} (h0 : 0 ≤ j.toInt) (h1 : j.toInt < n) (hd : decode bc pc = .ok (.iastore, 1)) (hp : pc + 1 = pc') (k : ∀ T' h', Stand p l e R s m args below meth c T' (locs ++ [⟨a, j.toInt.toNat⟩]) cells slots → T'.heap = h' → Wr h h' a j.toInt.toNat (.int x) → Go p e below s Q mc ms m T' pc' Ls rest) : Go p e below s Q mc ms m T pc Ls (.int x :: .int j :: .ref a :: rest) := by
  obtain ⟨cl, A, hs, hn, hf⟩ := A
  exact g_iastore X hx hby hZ eT A (own_in hs h0 h1) hd hp k
theorem a_iaload (X : Stand p l e R s m args below meth c T locs cells slots) (hx : p.tables.exec = Jvm.exec) (hby : c.code = bc) (hZ : Z.Warmed39 s.vm) (eT : T.heap = h) {a : Addr} {n : Nat} {f : Nat → Value} (A : Ara Z h a .int n f) {j : Int32} {v : Value} (h0 : 0 ≤ j.toInt) (h1 : j.toInt < n) (hv : f j.toInt.toNat = v) (hd : decode bc pc = .ok (.iaload, 1)) (hp : pc + 1 = pc') (k : Go p e below s Q mc ms m T pc' Ls (v :: rest)) : Go p e below s Q mc ms m T pc Ls (.int j :: .ref a :: rest) := by
  obtain ⟨cl, A, hs, hn, hf⟩ := A
  exact g_iaload X hx hby hZ eT A (own_in hs h0 h1) (by show cl.slots[j.toInt.toNat]? = some v; rw [hf _ (by omega), hv]) hd hp k
theorem g_static (X : Stand p l e R s m args below meth c T locs cells slots) (hx : p.tables.exec = Jvm.exec) (hby : c.code = bc) (hZ : Z.Warmed39 s.vm) {own : String} (hown : s.vm.findClass own = some m.cls) {i ML : Nat} {y : MethodName} {bytes : ByteArray} {maxL : Nat} {ret : Option FieldType} {rm : Room} {as' : Array Value} {QC : Option Value → Heap → List Loc → Prop} (hml : c.maxLocals = ML) (hls : Ls.size = ML) (w1 : (Jvm.Cond.methodLink own i y).before a0 Z = true) (w2 : (Jvm.Cond.static y).before a0 Z = true) (w3 : (Jvm.Cond.initialized y.cls).before a0 Z = true) (w4 : (Jvm.Cond.code y bytes maxL ret).before a0 Z = true) (hy : y.cls ≠ "java/lang/invoke/MethodHandle" ∧ y.cls ≠ "java/lang/invoke/VarHandle") (eT : T.heap = h) (M : Ct l Z y bytes maxL ret rm as' h QC) {ps : List FieldType} {r : Option FieldType} (pd : parseMethodDescriptor y.desc = some ⟨ps, r⟩) {argsL : List Value} (hl : argsL.length = ps.length) (has : argsL.toArray = as') (hst : st = argsL.reverse ++ rest) (hd : decode bc pc = .ok (.invokestatic i, 3)) (hp : pc + 3 = pc') (hf : rm.frames + 1 ≤ R.frames) (hlo : (rest.map fun v => v.category).sum + (maxL + 11) + rm.locals ≤ R.locals) (hc : cells + rm.cells ≤ R.cells) (hs : slots + rm.slots ≤ R.slots)
    (k : ∀ (T' : State) (v : Option Value) (L : List Loc), Stand p l e R s m args below meth c T' (locs ++ L) (cells + rm.cells) (slots + rm.slots) → QC v T'.heap L → Go p e below s Q mc ms m T' pc' Ls (v.toList ++ rest)) : Go p e below s Q mc ms m T pc Ls st := by
  subst hp has hst
  obtain ⟨v, vm₁, ⟨U, L', c', s'⟩, -, X', ⟨L, hQ, l1, l2, l3⟩, st⟩ := Jvm.LawKit.callS X hx (y := y) hown (mvT hZ w1) (mvT hZ w2) (mvT hZ w3) (mvT hZ w4) hy (backOf (W := (rest.map fun v => v.category).sum) M hZ w4 w3 hf hlo) (g := mkF m pc Ls (argsL.reverse ++ rest)) rfl (by rw [hml]; exact hls) (argsL := argsL) (rest := rest) (lenOf pd hl) rfl (by show 2 * 0 + _ ≤ _; omega) (hb hby hd) (fun _ _ => ⟨rfl, eT, hc, hs⟩)
  dsimp only at X' l1 l2 l3 st hQ
  subst l1 l2 l3
  exact Go.of st (k _ _ _ X' hQ)
end OwnKit
section OwnLib
/-- b is 1 where P holds, 0 where it doesn't -/
def own_bool (b : Int32) (P : Prop) : Prop := (b = 1 ∧ P) ∨ (b = 0 ∧ ¬ P)
theorem own_bool_01 {b : Int32} {P : Prop} (h : own_bool b P) : b = 0 ∨ b = 1 := h.elim (fun q => Or.inr q.1) (fun q => Or.inl q.1)
theorem own_bool_iff {b : Int32} {P : Prop} (h : own_bool b P) : b = 1 ↔ P := h.elim (fun q => ⟨fun _ => q.2, fun _ => q.1⟩) (fun q => ⟨fun z => absurd (q.1.symm.trans z) (by decide), fun z => absurd z q.2⟩)
theorem own_bool_zero {b : Int32} {P : Prop} (h : own_bool b P) : b = 0 ↔ ¬ P := h.elim (fun q => ⟨fun z => absurd (q.1.symm.trans z) (by decide), fun z => absurd q.2 z⟩) (fun q => ⟨fun _ => q.2, fun _ => q.1⟩)
theorem own_bool_eq {a b : Int32} {P P' : Prop} (h : own_bool a P) (h' : own_bool b P') (i : P ↔ P') : a = b := by
  rcases h with ⟨rfl, q⟩ | ⟨rfl, q⟩ <;> rcases h' with ⟨rfl, q'⟩ | ⟨rfl, q'⟩ <;> first | rfl | exact absurd (i.mp q) q' | exact absurd (i.mpr q') q
theorem own_inc (i : Int32) (h : i.toInt < 2147483647) : (i + 1).toInt = i.toInt + 1 := by
  have a := c_iadd i 1
  have e : (1 : Int32).toInt = 1 := rfl
  rw [e] at a
  have b := rng32 i
  have b' := rng32 (i + 1)
  omega
theorem own_dec (i : Int32) (h : -2147483648 < i.toInt) : (i - 1).toInt = i.toInt - 1 := by
  have a := c_isub i 1
  have e : (1 : Int32).toInt = 1 := rfl
  rw [e] at a
  have b := rng32 i
  have b' := rng32 (i - 1)
  omega
theorem own_add (x y : Int32) (h1 : -2147483648 ≤ x.toInt + y.toInt) (h2 : x.toInt + y.toInt < 2147483648) : (x + y).toInt = x.toInt + y.toInt := by
  have a := c_iadd x y
  have b := rng32 (x + y)
  omega
theorem own_sub (x y : Int32) (h1 : -2147483648 ≤ x.toInt - y.toInt) (h2 : x.toInt - y.toInt < 2147483648) : (x - y).toInt = x.toInt - y.toInt := by
  have a := c_isub x y
  have b := rng32 (x - y)
  omega
/-- (u & 0x7fffffff) % n lies from 0 up to n - 1 -/
theorem own_modr (u n : Int32) (hn : 0 < n.toInt) : 0 ≤ ((u &&& 2147483647) % n).toInt ∧ ((u &&& 2147483647) % n).toInt < n.toInt := by
  have a1 := c_mask u 2147483647 31 (by decide) (by decide)
  have a2 := (c_iremV (u &&& 2147483647) n).1 (by omega) hn
  omega
def QI (h0 : Heap) (P : Int32 → Prop) : Option Value → Heap → List Loc → Prop := fun v h L => (∃ r, v = some (.int r) ∧ P r) ∧ h = h0 ∧ L = []
def QL (h0 : Heap) (P : Int64 → Prop) : Option Value → Heap → List Loc → Prop := fun v h L => (∃ r, v = some (.long r) ∧ P r) ∧ h = h0 ∧ L = []
def QV (h0 : Heap) : Option Value → Heap → List Loc → Prop := fun v h L => v = none ∧ h = h0 ∧ L = []
/-- what the law leaves -/
def Q0 (n0 : Nat) : Option Value → Heap → List Loc → Prop := fun v h L => v = some (.int 1) ∧ Fr n0 L
end OwnLib
theorem own_mono (g : Nat → Int32) (n : Nat) (h : ∀ k, k < n → (g k).toInt ≤ (g (k + 1)).toInt) (i : Nat) : ∀ j, i ≤ j → j ≤ n → (g i).toInt ≤ (g j).toInt := by
  intro j
  induction j with
  | zero => intro a _; rw [Nat.le_zero.mp a]; exact Int.le_refl _
  | succ j ih =>
    intro a b
    by_cases q : i = j + 1
    · rw [q]; exact Int.le_refl _
    · exact Int.le_trans (ih (by omega) (by omega)) (h j (by omega))
theorem own_d7 (u y w : Int32) (h : w = u + (y &&& (7 : Int32))) (hu : u.toInt ≤ 2147483640) : u.toInt ≤ w.toInt ∧ w.toInt ≤ u.toInt + 7 := by
  have a := c_mask y 7 3 (by decide) (by decide)
  have b := own_add u (y &&& 7) (by have := rng32 u; omega) (by omega)
  rw [← h] at b; omega
theorem own_six (f : Int32) (hf : 0 ≤ f.toInt ∧ f.toInt < 6) : ((6 : Int32) - f).toInt = 6 - f.toInt := by
  have e : (6 : Int32).toInt = 6 := rfl
  have b := own_sub 6 f (by omega) (by omega)
  omega
theorem own_six0 (f : Int32) (hf : 0 ≤ f.toInt ∧ f.toInt < 6) : ((6 : Int32) - f) ≠ 0 := fun q => by
  have a := own_six f hf
  rw [q] at a
  have e : (0 : Int32).toInt = 0 := rfl
  omega
theorem own_to (f d t : Int32) (hf : 0 ≤ f.toInt ∧ f.toInt < 6) (h : t = (f + (1 : Int32)) + ((d &&& (2147483647 : Int32)) % ((6 : Int32) - f))) : f.toInt < t.toInt ∧ t.toInt ≤ 6 := by
  have a := own_six f hf
  have b := own_modr d (6 - f) (by omega)
  have i1 := own_inc f (by omega)
  have i2 := own_add (f + 1) ((d &&& 2147483647) % (6 - f)) (by omega) (by omega)
  rw [← h] at i2
  omega
theorem own_ix (f t s q ix : Int32) (h1 : f.toInt ≤ t.toInt) (h2 : t.toInt ≤ f.toInt + 42) (hs : s = t - f) (h0 : 0 < s.toInt) (h : ix = f + ((q &&& (2147483647 : Int32)) % s)) : f.toInt ≤ ix.toInt ∧ ix.toInt < t.toInt := by
  have a := own_sub t f (by omega) (by omega)
  rw [← hs] at a
  have b := own_modr q s h0
  have r := rng32 f
  have r2 := rng32 t
  have i2 := own_add f ((q &&& 2147483647) % s) (by omega) (by omega)
  rw [← h] at i2
  omega
theorem own_mid (lo hi md : Int32) (h0 : 0 ≤ lo.toInt) (h1 : lo.toInt < hi.toInt) (h2 : hi.toInt < 100) (h : md = (((lo + hi) + (1 : Int32)).toUInt32 >>> ((1 : Int32) &&& 31).toUInt32).toInt32) : lo.toInt < md.toInt ∧ md.toInt ≤ hi.toInt := by
  have a := own_add lo hi (by omega) (by omega)
  have b := own_inc (lo + hi) (by omega)
  have d := c_iushr ((lo + hi) + 1) 1 1 (by decide) (by decide)
  rw [← h] at d
  omega
theorem ef_1 (m : MethodId) (u : Int32) (w : Int32) : entryFrame m #[(.int u), (.int w)] 2 = mkF m 0 #[.val (.int u), .val (.int w)] [] := by first | (simp [entryFrame, mkF, argsToLocals, Value.category]; done) | rfl
theorem d1_0 : decode jdk_29_method_69_code 0 = .ok (.iload_n 0, 1) := by decide +kernel
theorem d1_1 : decode jdk_29_method_69_code 1 = .ok (.iload_n 1, 1) := by decide +kernel
theorem d1_2 : decode jdk_29_method_69_code 2 = .ok (.if_icmp .gt 7, 3) := by decide +kernel
theorem d1_9 : decode jdk_29_method_69_code 9 = .ok (.iload_n 1, 1) := by decide +kernel
theorem d1_10 : decode jdk_29_method_69_code 10 = .ok (.ireturn, 1) := by decide +kernel
theorem d1_5 : decode jdk_29_method_69_code 5 = .ok (.iload_n 0, 1) := by decide +kernel
theorem d1_6 : decode jdk_29_method_69_code 6 = .ok (.goto 4, 3) := by decide +kernel
set_option maxRecDepth 65536 in
set_option maxHeartbeats 40000000 in
theorem rm1 (l : Launch) (Z : State) (a0 : Array Value) (hw : ∀ d ∈ tables_1, d.before a0 Z = true) (u : Int32) (w : Int32) (h0 : Heap)  :
    Ct l Z (⟨"java/lang/Math", "min", "(II)I"⟩ : MethodName) jdk_29_method_69_code 2 (some .int) ({ frames := 0, cells := 0, slots := 0, locals := 0 } : Room) #[(.int u), (.int w)] h0 (QI h0 (fun r => r.toInt = min u.toInt w.toInt)) := by
  refine own_met (Jvm.Free.JP.mathPlain rfl (by decide +kernel)) (fun m => ef_1 m u w) ?_
  intro p e s m below meth c T0 X0 hx hby hml hown hnm hret hlk hZ e0
  refine g_iloadN X0 hx hby d1_0 (pc' := 1) rfl rfl ?_
  refine g_iloadN X0 hx hby d1_1 (pc' := 2) rfl rfl ?_
  refine g_icmpgt X0 hx hby d1_2 (pt := 9) (pf := 5) (by decide) (by decide) rfl (fun (h2 : w.toInt < u.toInt) => ?_) (fun (h2 : u.toInt ≤ w.toInt) => ?_)
  · refine g_iloadN X0 hx hby d1_9 (pc' := 10) rfl rfl ?_
    exact g_retI X0 hx hby hlk hret d1_10 (by decide) (by decide) (⟨⟨_, rfl, by omega⟩, e0, rfl⟩)
  · refine g_iloadN X0 hx hby d1_5 (pc' := 6) rfl rfl ?_
    refine g_goto X0 hx hby d1_6 (pc' := 10) (by decide) (by decide) ?_
    exact g_retI X0 hx hby hlk hret d1_10 (by decide) (by decide) (⟨⟨_, rfl, by omega⟩, e0, rfl⟩)
theorem ef_2 (m : MethodId) (a : Addr) (fr : Int32) (tt : Int32) (ix : Int32) : entryFrame m #[(.ref a), (.int fr), (.int tt), (.int ix)] 7 = mkF m 0 #[.val (.ref a), .val (.int fr), .val (.int tt), .val (.int ix), .unset, .unset, .unset] [] := by first | (simp [entryFrame, mkF, argsToLocals, Value.category]; done) | rfl
theorem pn_2 : plainName "com/example/switchbox/switchbox/Groups" = true := by first | (simp [plainName, overriddenIn]; done) | decide +kernel
theorem d2_0 : decode prog_27_method_2_code 0 = .ok (.iload_n 1, 1) := by decide +kernel
theorem d2_1 : decode prog_27_method_2_code 1 = .ok (.istore 4, 2) := by decide +kernel
theorem d2_3 : decode prog_27_method_2_code 3 = .ok (.iload_n 2, 1) := by decide +kernel
theorem d2_4 : decode prog_27_method_2_code 4 = .ok (.iconst 1, 1) := by decide +kernel
theorem d2_5 : decode prog_27_method_2_code 5 = .ok (.isub, 1) := by decide +kernel
theorem d2_6 : decode prog_27_method_2_code 6 = .ok (.istore 5, 2) := by decide +kernel
theorem d2_8 : decode prog_27_method_2_code 8 = .ok (.iload 4, 2) := by decide +kernel
theorem d2_10 : decode prog_27_method_2_code 10 = .ok (.iload 5, 2) := by decide +kernel
theorem d2_12 : decode prog_27_method_2_code 12 = .ok (.if_icmp .ge 38, 3) := by decide +kernel
theorem d2_50 : decode prog_27_method_2_code 50 = .ok (.iload 4, 2) := by decide +kernel
theorem d2_52 : decode prog_27_method_2_code 52 = .ok (.ireturn, 1) := by decide +kernel
theorem d2_15 : decode prog_27_method_2_code 15 = .ok (.iload 4, 2) := by decide +kernel
theorem d2_17 : decode prog_27_method_2_code 17 = .ok (.iload 5, 2) := by decide +kernel
theorem d2_19 : decode prog_27_method_2_code 19 = .ok (.iadd, 1) := by decide +kernel
theorem d2_20 : decode prog_27_method_2_code 20 = .ok (.iconst 1, 1) := by decide +kernel
theorem d2_21 : decode prog_27_method_2_code 21 = .ok (.iadd, 1) := by decide +kernel
theorem d2_22 : decode prog_27_method_2_code 22 = .ok (.iconst 1, 1) := by decide +kernel
theorem d2_23 : decode prog_27_method_2_code 23 = .ok (.iushr, 1) := by decide +kernel
theorem d2_24 : decode prog_27_method_2_code 24 = .ok (.istore 6, 2) := by decide +kernel
theorem d2_26 : decode prog_27_method_2_code 26 = .ok (.aload_n 0, 1) := by decide +kernel
theorem d2_27 : decode prog_27_method_2_code 27 = .ok (.iload 6, 2) := by decide +kernel
theorem d2_29 : decode prog_27_method_2_code 29 = .ok (.iaload, 1) := by decide +kernel
theorem d2_30 : decode prog_27_method_2_code 30 = .ok (.iload_n 3, 1) := by decide +kernel
theorem d2_31 : decode prog_27_method_2_code 31 = .ok (.if_icmp .gt 10, 3) := by decide +kernel
theorem d2_41 : decode prog_27_method_2_code 41 = .ok (.iload 6, 2) := by decide +kernel
theorem d2_43 : decode prog_27_method_2_code 43 = .ok (.iconst 1, 1) := by decide +kernel
theorem d2_44 : decode prog_27_method_2_code 44 = .ok (.isub, 1) := by decide +kernel
theorem d2_45 : decode prog_27_method_2_code 45 = .ok (.istore 5, 2) := by decide +kernel
theorem d2_47 : decode prog_27_method_2_code 47 = .ok (.goto (-39), 3) := by decide +kernel
theorem d2_34 : decode prog_27_method_2_code 34 = .ok (.iload 6, 2) := by decide +kernel
theorem d2_36 : decode prog_27_method_2_code 36 = .ok (.istore 4, 2) := by decide +kernel
theorem d2_38 : decode prog_27_method_2_code 38 = .ok (.goto 9, 3) := by decide +kernel
set_option maxRecDepth 65536 in
set_option maxHeartbeats 40000000 in
theorem rm2 (l : Launch) (Z : State) (a0 : Array Value) (hw : ∀ d ∈ tables_1, d.before a0 Z = true) (a : Addr) (fr : Int32) (tt : Int32) (ix : Int32) (g : Nat → Int32) (h0 : Heap) (A_a : Ara Z h0 a .int 7 (fun k => .int (g k))) (hft : 0 ≤ fr.toInt ∧ fr.toInt < tt.toInt ∧ tt.toInt ≤ 6) (h1 : (g fr.toInt.toNat).toInt ≤ ix.toInt) (h2 : ix.toInt < (g tt.toInt.toNat).toInt) :
    Ct l Z (⟨"com/example/switchbox/switchbox/Groups", "of", "([IIII)I"⟩ : MethodName) prog_27_method_2_code 7 (some .int) ({ frames := 0, cells := 0, slots := 0, locals := 0 } : Room) #[(.ref a), (.int fr), (.int tt), (.int ix)] h0 (QI h0 (fun r => fr.toInt ≤ r.toInt ∧ r.toInt < tt.toInt ∧ (g r.toInt.toNat).toInt ≤ ix.toInt ∧ ix.toInt < (g (r.toInt.toNat + 1)).toInt)) := by
  refine own_met (plainFor_of_name pn_2) (fun m => ef_2 m a fr tt ix) ?_
  intro p e s m below meth c T0 X0 hx hby hml hown hnm hret hlk hZ e0
  refine g_iloadN X0 hx hby d2_0 (pc' := 1) rfl rfl ?_
  refine g_istore X0 hx hby d2_1 (pc' := 3) rfl (Ls' := #[.val (.ref a), .val (.int fr), .val (.int tt), .val (.int ix), .val (.int fr), .unset, .unset]) rfl ?_
  refine g_iloadN X0 hx hby d2_3 (pc' := 4) rfl rfl ?_
  refine g_iconst X0 hx hby d2_4 (pc' := 5) rfl (n := (1 : Int32)) (by first | rfl | decide) ?_
  refine g_isub X0 hx hby d2_5 (pc' := 6) rfl ?_
  refine g_istore X0 hx hby d2_6 (pc' := 8) rfl (Ls' := #[.val (.ref a), .val (.int fr), .val (.int tt), .val (.int ix), .val (.int fr), .val (.int (tt - (1 : Int32))), .unset]) rfl ?_
  suffices J8_1 : ∀ (nn : Nat) (lo : Int32) (hi : Int32) (s6 : Slot) (o6 : One s6) (hr : fr.toInt ≤ lo.toInt ∧ lo.toInt ≤ hi.toInt ∧ hi.toInt < tt.toInt) (q1 : (g lo.toInt.toNat).toInt ≤ ix.toInt) (q2 : ix.toInt < (g (hi.toInt.toNat + 1)).toInt) (hnn : (hi.toInt - lo.toInt).toNat = nn), Go p e below s (QI h0 (fun r => fr.toInt ≤ r.toInt ∧ r.toInt < tt.toInt ∧ (g r.toInt.toNat).toInt ≤ ix.toInt ∧ ix.toInt < (g (r.toInt.toNat + 1)).toInt)) ({ frames := 0, cells := 0, slots := 0, locals := 0 } : Room).cells ({ frames := 0, cells := 0, slots := 0, locals := 0 } : Room).slots m T0 8 #[.val (.ref a), .val (.int fr), .val (.int tt), .val (.int ix), .val (.int lo), .val (.int hi), s6] [] by
    have hd := own_dec tt (by omega)
    exact J8_1 _ fr _ .unset One.u (by omega) h1 (by rw [show (tt - 1).toInt.toNat + 1 = tt.toInt.toNat by omega]; exact h2) rfl
  intro nn
  induction nn using Nat.strongRecOn with
  | _ nn ih =>
    intro lo hi s6 o6 hr q1 q2 hnn
    refine g_iload X0 hx hby d2_8 (pc' := 10) rfl rfl ?_
    refine g_iload X0 hx hby d2_10 (pc' := 12) rfl rfl ?_
    refine g_icmpge X0 hx hby d2_12 (pt := 50) (pf := 15) (by decide) (by decide) rfl (fun (h12 : hi.toInt ≤ lo.toInt) => ?_) (fun (h12 : lo.toInt < hi.toInt) => ?_)
    · refine g_iload X0 hx hby d2_50 (pc' := 52) rfl rfl ?_
      exact g_retI X0 hx hby hlk hret d2_52 (by decide) (by decide) (⟨⟨_, rfl, by omega, by omega, q1, by rw [show lo.toInt.toNat = hi.toInt.toNat by omega]; exact q2⟩, e0, rfl⟩)
    · refine g_iload X0 hx hby d2_15 (pc' := 17) rfl rfl ?_
      refine g_iload X0 hx hby d2_17 (pc' := 19) rfl rfl ?_
      refine g_iadd X0 hx hby d2_19 (pc' := 20) rfl ?_
      refine g_iconst X0 hx hby d2_20 (pc' := 21) rfl (n := (1 : Int32)) (by first | rfl | decide) ?_
      refine g_iadd X0 hx hby d2_21 (pc' := 22) rfl ?_
      refine g_iconst X0 hx hby d2_22 (pc' := 23) rfl (n := (1 : Int32)) (by first | rfl | decide) ?_
      refine g_iushr X0 hx hby d2_23 (pc' := 24) rfl ?_
      refine g_nameI (fun md h_md => ?_)
      have hmd := own_mid lo hi md (by omega) (by omega) (by omega) h_md
      refine g_istore X0 hx hby d2_24 (pc' := 26) rfl (Ls' := #[.val (.ref a), .val (.int fr), .val (.int tt), .val (.int ix), .val (.int lo), .val (.int hi), .val (.int md)]) ((XS.store1 (o := s6) rfl o6 rfl).trans rfl) ?_
      refine g_aloadN X0 hx hby d2_26 (pc' := 27) rfl rfl rfl ?_
      refine g_iload X0 hx hby d2_27 (pc' := 29) rfl rfl ?_
      refine a_iaload X0 hx hby hZ e0 A_a (by omega) (by omega) (v := (.int (g md.toInt.toNat))) (rfl) d2_29 (pc' := 30) rfl ?_
      refine g_iloadN X0 hx hby d2_30 (pc' := 31) rfl rfl ?_
      refine g_icmpgt X0 hx hby d2_31 (pt := 41) (pf := 34) (by decide) (by decide) rfl (fun (h31 : ix.toInt < (g md.toInt.toNat).toInt) => ?_) (fun (h31 : (g md.toInt.toNat).toInt ≤ ix.toInt) => ?_)
      · refine g_iload X0 hx hby d2_41 (pc' := 43) rfl rfl ?_
        refine g_iconst X0 hx hby d2_43 (pc' := 44) rfl (n := (1 : Int32)) (by first | rfl | decide) ?_
        refine g_isub X0 hx hby d2_44 (pc' := 45) rfl ?_
        refine g_istore X0 hx hby d2_45 (pc' := 47) rfl (Ls' := #[.val (.ref a), .val (.int fr), .val (.int tt), .val (.int ix), .val (.int lo), .val (.int (md - (1 : Int32))), .val (.int md)]) rfl ?_
        refine g_goto X0 hx hby d2_47 (pc' := 8) (by decide) (by decide) ?_
        have hd := own_dec md (by omega)
        exact ih _ (by omega) lo _ _ (One.val rfl) (by omega) q1 (by rw [show (md - 1).toInt.toNat + 1 = md.toInt.toNat by omega]; exact h31) rfl
      · refine g_iload X0 hx hby d2_34 (pc' := 36) rfl rfl ?_
        refine g_istore X0 hx hby d2_36 (pc' := 38) rfl (Ls' := #[.val (.ref a), .val (.int fr), .val (.int tt), .val (.int ix), .val (.int md), .val (.int hi), .val (.int md)]) rfl ?_
        refine g_goto X0 hx hby d2_38 (pc' := 47) (by decide) (by decide) ?_
        refine g_goto X0 hx hby d2_47 (pc' := 8) (by decide) (by decide) ?_
        skip
        exact ih _ (by omega) md hi _ (One.val rfl) (by omega) h31 q2 rfl
theorem ef_0 (m : MethodId) (ua : Int32) (ub : Int32) (uc : Int32) (ud : Int32) (ue : Int32) : entryFrame m #[(.int ua), (.int ub), (.int uc), (.int ud), (.int ue)] maxLocals = mkF m 0 #[.val (.int ua), .val (.int ub), .val (.int uc), .val (.int ud), .val (.int ue), .unset, .unset, .unset, .unset, .unset, .unset, .unset] [] := by first | (simp [entryFrame, mkF, argsToLocals, Value.category, maxLocals]; done) | rfl
theorem pn_0 : plainName "com/example/switchbox/switchbox/GroupsOfPinLaw" = true := by first | (simp [plainName, overriddenIn]; done) | decide +kernel
theorem pd__II_I_300 : parseMethodDescriptor "(II)I" = some ⟨[.int, .int], some .int⟩ := by decide +kernel
theorem pd___IIII_I_537 : parseMethodDescriptor "([IIII)I" = some ⟨[(.array .int), .int, .int, .int], some .int⟩ := by decide +kernel
set_option maxRecDepth 65536 in
set_option maxHeartbeats 40000000 in
theorem law0 (l : Launch) (Z : State) (a0 : Array Value) (hw : ∀ d ∈ tables_1, d.before a0 Z = true) (ws : List Jvm.Cond) (ua : Int32) (ub : Int32) (uc : Int32) (ud : Int32) (ue : Int32) (n0 : Nat) (h0 : Heap) (Z0 : n0 ≤ h0.size) :
    MetFree l x (head1 (Jvm.Cond.code x code maxLocals ret :: ws) room_1) (fun a U => a = #[(.int ua), (.int ub), (.int uc), (.int ud), (.int ue)] ∧ Z.Warmed39 U.vm ∧ U.heap = h0) (fun _ _ _ _ _ => True) (fun _ U o U' => ∃ v L, o = .returned v ∧ (Q0 n0) v U'.heap L ∧ FrameEnd U o U' L room_1.cells room_1.slots) := by
  refine own_met (plainFor_of_name pn_0) (fun m => ef_0 m ua ub uc ud ue) ?_
  intro p e s m below meth c T0 X0 hx hby hml hown hnm hret hlk hZ e0
  have N0 := Fr.nil n0
  refine g_iloadN X0 hx hby at_0 (pc' := 1) rfl rfl ?_
  refine g_ldcI X0 hx hby hZ hown (hw _ (List.mem_of_getElem? (i := 0) rfl)) at_1 (pc' := 3) rfl ?_
  refine g_static X0 hx hby hZ hown hml rfl (hw _ (List.mem_of_getElem? (i := 1) rfl)) (hw _ (List.mem_of_getElem? (i := 2) rfl)) (hw _ (List.mem_of_getElem? (i := 3) rfl)) (hw _ (List.mem_of_getElem? (i := 4) rfl)) (by decide) e0 (rm1 l Z a0 hw ua (2147483605 : Int32) h0 ) pd__II_I_300 (argsL := [(.int ua), (.int (2147483605 : Int32))]) (rest := []) rfl rfl rfl at_3 (pc' := 6) rfl (by decide) (Nat.le_of_ble_eq_true rfl) (by decide) (by decide) ?_
  intro Tp3 vp3 Lp3 Xp3 qp3
  obtain ⟨⟨rp3, rfl, h_rp3⟩, ep3, rfl⟩ := qp3
  rw [List.append_nil] at Xp3
  replace Xp3 : Stand p l e room_1 s m _ below meth c Tp3 _ 0 0 := Xp3
  show Go p e below s (Q0 n0) room_1.cells room_1.slots m Tp3 6 #[.val (.int ua), .val (.int ub), .val (.int uc), .val (.int ud), .val (.int ue), .unset, .unset, .unset, .unset, .unset, .unset, .unset] [(.int rp3)]
  refine g_istore Xp3 hx hby at_6 (pc' := 8) rfl (Ls' := #[.val (.int ua), .val (.int ub), .val (.int uc), .val (.int ud), .val (.int ue), .val (.int rp3), .unset, .unset, .unset, .unset, .unset, .unset]) rfl ?_
  replace h_rp3 : rp3.toInt = min ua.toInt 2147483605 := h_rp3
  refine g_bipush Xp3 hx hby at_8 (pc' := 10) rfl (n := (7 : Int32)) (by first | rfl | decide) ?_
  refine g_newA Xp3 hx hby hZ ep3 (N := 7) (hw _ (List.mem_of_getElem? (i := 5) rfl)) at_10 (pc' := 12) rfl rfl (cap := 7) (Nat.le_refl _) (by decide) (by decide) (by decide) (fun T1 h1 va g1 X1 e1 E1 A_va => ?_)
  have g2 : n0 ≤ va := by rw [g1]; exact Z0
  have Z3 : n0 ≤ h1.size := Nat.le_trans Z0 E1.1
  replace X1 : Stand p l e room_1 s m _ below meth c T1 _ 1 7 := X1
  replace A_va : Ara Z h1 va .int 7 (fun jz => .int ((fun _ => (0 : Int32)) jz)) := A_va
  refine g_astore X1 hx hby at_12 (pc' := 14) rfl rfl (Ls' := #[.val (.int ua), .val (.int ub), .val (.int uc), .val (.int ud), .val (.int ue), .val (.int rp3), .val (.ref va), .unset, .unset, .unset, .unset, .unset]) rfl ?_
  refine g_aload X1 hx hby at_14 (pc' := 16) rfl rfl rfl ?_
  refine g_iconst X1 hx hby at_16 (pc' := 17) rfl (n := (0 : Int32)) (by first | rfl | decide) ?_
  refine g_iload X1 hx hby at_17 (pc' := 19) rfl rfl ?_
  refine a_iastore X1 hx hby hZ e1 A_va (by decide) (by decide) at_19 (pc' := 20) rfl (fun T4 h4 X4 e4 W4 => ?_)
  have Z5 : n0 ≤ h4.size := by rw [W4.size]; exact Z3
  have N6 := Fr.snoc X4 N0 g2
  replace A_va : Ara Z h4 va .int 7 (fun jz => .int ((own_ui (fun _ => (0 : Int32)) 0 rp3) jz)) := A_va.setI W4
  refine g_aload X4 hx hby at_20 (pc' := 22) rfl rfl rfl ?_
  refine g_iconst X4 hx hby at_22 (pc' := 23) rfl (n := (1 : Int32)) (by first | rfl | decide) ?_
  refine g_aload X4 hx hby at_23 (pc' := 25) rfl rfl rfl ?_
  refine g_iconst X4 hx hby at_25 (pc' := 26) rfl (n := (0 : Int32)) (by first | rfl | decide) ?_
  refine a_iaload X4 hx hby hZ e4 A_va (by decide) (by decide) (v := (.int rp3)) (rfl) at_26 (pc' := 27) rfl ?_
  refine g_iloadN X4 hx hby at_27 (pc' := 28) rfl rfl ?_
  refine g_bipush X4 hx hby at_28 (pc' := 30) rfl (n := (7 : Int32)) (by first | rfl | decide) ?_
  refine g_iand X4 hx hby at_30 (pc' := 31) rfl ?_
  refine g_iadd X4 hx hby at_31 (pc' := 32) rfl ?_
  refine g_nameI (fun sv1 h_sv1 => ?_)
  have hs1 := own_d7 rp3 _ sv1 h_sv1 (by omega)
  refine a_iastore X4 hx hby hZ e4 A_va (by decide) (by decide) at_32 (pc' := 33) rfl (fun T7 h7 X7 e7 W7 => ?_)
  have Z8 : n0 ≤ h7.size := by rw [W7.size]; exact Z5
  have N9 := Fr.snoc X7 N6 g2
  replace A_va : Ara Z h7 va .int 7 (fun jz => .int ((own_ui (own_ui (fun _ => (0 : Int32)) 0 rp3) 1 sv1) jz)) := A_va.setI W7
  refine g_aload X7 hx hby at_33 (pc' := 35) rfl rfl rfl ?_
  refine g_iconst X7 hx hby at_35 (pc' := 36) rfl (n := (2 : Int32)) (by first | rfl | decide) ?_
  refine g_aload X7 hx hby at_36 (pc' := 38) rfl rfl rfl ?_
  refine g_iconst X7 hx hby at_38 (pc' := 39) rfl (n := (1 : Int32)) (by first | rfl | decide) ?_
  refine a_iaload X7 hx hby hZ e7 A_va (by decide) (by decide) (v := (.int sv1)) (rfl) at_39 (pc' := 40) rfl ?_
  refine g_iloadN X7 hx hby at_40 (pc' := 41) rfl rfl ?_
  refine g_iconst X7 hx hby at_41 (pc' := 42) rfl (n := (3 : Int32)) (by first | rfl | decide) ?_
  refine g_iushr X7 hx hby at_42 (pc' := 43) rfl ?_
  refine g_bipush X7 hx hby at_43 (pc' := 45) rfl (n := (7 : Int32)) (by first | rfl | decide) ?_
  refine g_iand X7 hx hby at_45 (pc' := 46) rfl ?_
  refine g_iadd X7 hx hby at_46 (pc' := 47) rfl ?_
  refine g_nameI (fun sv2 h_sv2 => ?_)
  have hs2 := own_d7 sv1 _ sv2 h_sv2 (by omega)
  refine a_iastore X7 hx hby hZ e7 A_va (by decide) (by decide) at_47 (pc' := 48) rfl (fun T10 h10 X10 e10 W10 => ?_)
  have Z11 : n0 ≤ h10.size := by rw [W10.size]; exact Z8
  have N12 := Fr.snoc X10 N9 g2
  replace A_va : Ara Z h10 va .int 7 (fun jz => .int ((own_ui (own_ui (own_ui (fun _ => (0 : Int32)) 0 rp3) 1 sv1) 2 sv2) jz)) := A_va.setI W10
  refine g_aload X10 hx hby at_48 (pc' := 50) rfl rfl rfl ?_
  refine g_iconst X10 hx hby at_50 (pc' := 51) rfl (n := (3 : Int32)) (by first | rfl | decide) ?_
  refine g_aload X10 hx hby at_51 (pc' := 53) rfl rfl rfl ?_
  refine g_iconst X10 hx hby at_53 (pc' := 54) rfl (n := (2 : Int32)) (by first | rfl | decide) ?_
  refine a_iaload X10 hx hby hZ e10 A_va (by decide) (by decide) (v := (.int sv2)) (rfl) at_54 (pc' := 55) rfl ?_
  refine g_iloadN X10 hx hby at_55 (pc' := 56) rfl rfl ?_
  refine g_bipush X10 hx hby at_56 (pc' := 58) rfl (n := (6 : Int32)) (by first | rfl | decide) ?_
  refine g_iushr X10 hx hby at_58 (pc' := 59) rfl ?_
  refine g_bipush X10 hx hby at_59 (pc' := 61) rfl (n := (7 : Int32)) (by first | rfl | decide) ?_
  refine g_iand X10 hx hby at_61 (pc' := 62) rfl ?_
  refine g_iadd X10 hx hby at_62 (pc' := 63) rfl ?_
  refine g_nameI (fun sv3 h_sv3 => ?_)
  have hs3 := own_d7 sv2 _ sv3 h_sv3 (by omega)
  refine a_iastore X10 hx hby hZ e10 A_va (by decide) (by decide) at_63 (pc' := 64) rfl (fun T13 h13 X13 e13 W13 => ?_)
  have Z14 : n0 ≤ h13.size := by rw [W13.size]; exact Z11
  have N15 := Fr.snoc X13 N12 g2
  replace A_va : Ara Z h13 va .int 7 (fun jz => .int ((own_ui (own_ui (own_ui (own_ui (fun _ => (0 : Int32)) 0 rp3) 1 sv1) 2 sv2) 3 sv3) jz)) := A_va.setI W13
  refine g_aload X13 hx hby at_64 (pc' := 66) rfl rfl rfl ?_
  refine g_iconst X13 hx hby at_66 (pc' := 67) rfl (n := (4 : Int32)) (by first | rfl | decide) ?_
  refine g_aload X13 hx hby at_67 (pc' := 69) rfl rfl rfl ?_
  refine g_iconst X13 hx hby at_69 (pc' := 70) rfl (n := (3 : Int32)) (by first | rfl | decide) ?_
  refine a_iaload X13 hx hby hZ e13 A_va (by decide) (by decide) (v := (.int sv3)) (rfl) at_70 (pc' := 71) rfl ?_
  refine g_iloadN X13 hx hby at_71 (pc' := 72) rfl rfl ?_
  refine g_bipush X13 hx hby at_72 (pc' := 74) rfl (n := (9 : Int32)) (by first | rfl | decide) ?_
  refine g_iushr X13 hx hby at_74 (pc' := 75) rfl ?_
  refine g_bipush X13 hx hby at_75 (pc' := 77) rfl (n := (7 : Int32)) (by first | rfl | decide) ?_
  refine g_iand X13 hx hby at_77 (pc' := 78) rfl ?_
  refine g_iadd X13 hx hby at_78 (pc' := 79) rfl ?_
  refine g_nameI (fun sv4 h_sv4 => ?_)
  have hs4 := own_d7 sv3 _ sv4 h_sv4 (by omega)
  refine a_iastore X13 hx hby hZ e13 A_va (by decide) (by decide) at_79 (pc' := 80) rfl (fun T16 h16 X16 e16 W16 => ?_)
  have Z17 : n0 ≤ h16.size := by rw [W16.size]; exact Z14
  have N18 := Fr.snoc X16 N15 g2
  replace A_va : Ara Z h16 va .int 7 (fun jz => .int ((own_ui (own_ui (own_ui (own_ui (own_ui (fun _ => (0 : Int32)) 0 rp3) 1 sv1) 2 sv2) 3 sv3) 4 sv4) jz)) := A_va.setI W16
  refine g_aload X16 hx hby at_80 (pc' := 82) rfl rfl rfl ?_
  refine g_iconst X16 hx hby at_82 (pc' := 83) rfl (n := (5 : Int32)) (by first | rfl | decide) ?_
  refine g_aload X16 hx hby at_83 (pc' := 85) rfl rfl rfl ?_
  refine g_iconst X16 hx hby at_85 (pc' := 86) rfl (n := (4 : Int32)) (by first | rfl | decide) ?_
  refine a_iaload X16 hx hby hZ e16 A_va (by decide) (by decide) (v := (.int sv4)) (rfl) at_86 (pc' := 87) rfl ?_
  refine g_iloadN X16 hx hby at_87 (pc' := 88) rfl rfl ?_
  refine g_bipush X16 hx hby at_88 (pc' := 90) rfl (n := (12 : Int32)) (by first | rfl | decide) ?_
  refine g_iushr X16 hx hby at_90 (pc' := 91) rfl ?_
  refine g_bipush X16 hx hby at_91 (pc' := 93) rfl (n := (7 : Int32)) (by first | rfl | decide) ?_
  refine g_iand X16 hx hby at_93 (pc' := 94) rfl ?_
  refine g_iadd X16 hx hby at_94 (pc' := 95) rfl ?_
  refine g_nameI (fun sv5 h_sv5 => ?_)
  have hs5 := own_d7 sv4 _ sv5 h_sv5 (by omega)
  refine a_iastore X16 hx hby hZ e16 A_va (by decide) (by decide) at_95 (pc' := 96) rfl (fun T19 h19 X19 e19 W19 => ?_)
  have Z20 : n0 ≤ h19.size := by rw [W19.size]; exact Z17
  have N21 := Fr.snoc X19 N18 g2
  replace A_va : Ara Z h19 va .int 7 (fun jz => .int ((own_ui (own_ui (own_ui (own_ui (own_ui (own_ui (fun _ => (0 : Int32)) 0 rp3) 1 sv1) 2 sv2) 3 sv3) 4 sv4) 5 sv5) jz)) := A_va.setI W19
  refine g_aload X19 hx hby at_96 (pc' := 98) rfl rfl rfl ?_
  refine g_bipush X19 hx hby at_98 (pc' := 100) rfl (n := (6 : Int32)) (by first | rfl | decide) ?_
  refine g_aload X19 hx hby at_100 (pc' := 102) rfl rfl rfl ?_
  refine g_iconst X19 hx hby at_102 (pc' := 103) rfl (n := (5 : Int32)) (by first | rfl | decide) ?_
  refine a_iaload X19 hx hby hZ e19 A_va (by decide) (by decide) (v := (.int sv5)) (rfl) at_103 (pc' := 104) rfl ?_
  refine g_iloadN X19 hx hby at_104 (pc' := 105) rfl rfl ?_
  refine g_bipush X19 hx hby at_105 (pc' := 107) rfl (n := (15 : Int32)) (by first | rfl | decide) ?_
  refine g_iushr X19 hx hby at_107 (pc' := 108) rfl ?_
  refine g_bipush X19 hx hby at_108 (pc' := 110) rfl (n := (7 : Int32)) (by first | rfl | decide) ?_
  refine g_iand X19 hx hby at_110 (pc' := 111) rfl ?_
  refine g_iadd X19 hx hby at_111 (pc' := 112) rfl ?_
  refine g_nameI (fun sv6 h_sv6 => ?_)
  have hs6 := own_d7 sv5 _ sv6 h_sv6 (by omega)
  refine a_iastore X19 hx hby hZ e19 A_va (by decide) (by decide) at_112 (pc' := 113) rfl (fun T22 h22 X22 e22 W22 => ?_)
  have Z23 : n0 ≤ h22.size := by rw [W22.size]; exact Z20
  have N24 := Fr.snoc X22 N21 g2
  replace A_va : Ara Z h22 va .int 7 (fun jz => .int ((own_ui (own_ui (own_ui (own_ui (own_ui (own_ui (own_ui (fun _ => (0 : Int32)) 0 rp3) 1 sv1) 2 sv2) 3 sv3) 4 sv4) 5 sv5) 6 sv6) jz)) := A_va.setI W22
  obtain ⟨gg, hgg⟩ : ∃ gg : Nat → Int32, gg = (own_ui (own_ui (own_ui (own_ui (own_ui (own_ui (own_ui (fun _ => (0 : Int32)) 0 rp3) 1 sv1) 2 sv2) 3 sv3) 4 sv4) 5 sv5) 6 sv6) := ⟨_, rfl⟩
  replace A_va : Ara Z h22 va .int 7 (fun jz => .int (gg jz)) := by rw [hgg]; exact A_va
  have hm := own_mono gg 6 (fun k hk => by
    have e : k = 0 ∨ k = 1 ∨ k = 2 ∨ k = 3 ∨ k = 4 ∨ k = 5 := by omega
    rw [hgg]
    rcases e with rfl | rfl | rfl | rfl | rfl | rfl
    · exact hs1.1
    · exact hs2.1
    · exact hs3.1
    · exact hs4.1
    · exact hs5.1
    · exact hs6.1)
  have hg0 : (gg 0) = rp3 := by rw [hgg]; rfl
  have hg6 : (gg 6) = sv6 := by rw [hgg]; rfl
  have hsp : (gg 6).toInt ≤ (gg 0).toInt + 42 := by rw [hg0, hg6]; omega
  refine g_iloadN X22 hx hby at_113 (pc' := 114) rfl rfl ?_
  refine g_ldcI X22 hx hby hZ hown (hw _ (List.mem_of_getElem? (i := 6) rfl)) at_114 (pc' := 116) rfl ?_
  refine g_iand X22 hx hby at_116 (pc' := 117) rfl ?_
  refine g_bipush X22 hx hby at_117 (pc' := 119) rfl (n := (6 : Int32)) (by first | rfl | decide) ?_
  refine g_irem X22 hx hby at_119 (pc' := 120) rfl (by decide) ?_
  refine g_nameI (fun fr h_fr => ?_)
  have hfr := own_modr uc 6 (by decide)
  rw [← h_fr] at hfr
  replace hfr : 0 ≤ fr.toInt ∧ fr.toInt < 6 := hfr
  refine g_istore X22 hx hby at_120 (pc' := 122) rfl (Ls' := #[.val (.int ua), .val (.int ub), .val (.int uc), .val (.int ud), .val (.int ue), .val (.int rp3), .val (.ref va), .val (.int fr), .unset, .unset, .unset, .unset]) rfl ?_
  refine g_iload X22 hx hby at_122 (pc' := 124) rfl rfl ?_
  refine g_iconst X22 hx hby at_124 (pc' := 125) rfl (n := (1 : Int32)) (by first | rfl | decide) ?_
  refine g_iadd X22 hx hby at_125 (pc' := 126) rfl ?_
  refine g_iloadN X22 hx hby at_126 (pc' := 127) rfl rfl ?_
  refine g_ldcI X22 hx hby hZ hown (hw _ (List.mem_of_getElem? (i := 6) rfl)) at_127 (pc' := 129) rfl ?_
  refine g_iand X22 hx hby at_129 (pc' := 130) rfl ?_
  refine g_bipush X22 hx hby at_130 (pc' := 132) rfl (n := (6 : Int32)) (by first | rfl | decide) ?_
  refine g_iload X22 hx hby at_132 (pc' := 134) rfl rfl ?_
  refine g_isub X22 hx hby at_134 (pc' := 135) rfl ?_
  refine g_irem X22 hx hby at_135 (pc' := 136) rfl (own_six0 fr hfr) ?_
  refine g_iadd X22 hx hby at_136 (pc' := 137) rfl ?_
  refine g_nameI (fun tt h_tt => ?_)
  have htt := own_to fr ud tt hfr h_tt
  have hmf := hm 0 fr.toInt.toNat (by omega) (by omega)
  have hmt := hm fr.toInt.toNat tt.toInt.toNat (by omega) (by omega)
  have hmu := hm tt.toInt.toNat 6 (by omega) (by omega)
  refine g_istore X22 hx hby at_137 (pc' := 139) rfl (Ls' := #[.val (.int ua), .val (.int ub), .val (.int uc), .val (.int ud), .val (.int ue), .val (.int rp3), .val (.ref va), .val (.int fr), .val (.int tt), .unset, .unset, .unset]) rfl ?_
  refine g_aload X22 hx hby at_139 (pc' := 141) rfl rfl rfl ?_
  refine g_iload X22 hx hby at_141 (pc' := 143) rfl rfl ?_
  refine a_iaload X22 hx hby hZ e22 A_va (by omega) (by omega) (v := (.int (gg tt.toInt.toNat))) (rfl) at_143 (pc' := 144) rfl ?_
  refine g_aload X22 hx hby at_144 (pc' := 146) rfl rfl rfl ?_
  refine g_iload X22 hx hby at_146 (pc' := 148) rfl rfl ?_
  refine a_iaload X22 hx hby hZ e22 A_va (by omega) (by omega) (v := (.int (gg fr.toInt.toNat))) (rfl) at_148 (pc' := 149) rfl ?_
  refine g_isub X22 hx hby at_149 (pc' := 150) rfl ?_
  refine g_nameI (fun sp h_sp => ?_)
  refine g_istore X22 hx hby at_150 (pc' := 152) rfl (Ls' := #[.val (.int ua), .val (.int ub), .val (.int uc), .val (.int ud), .val (.int ue), .val (.int rp3), .val (.ref va), .val (.int fr), .val (.int tt), .val (.int sp), .unset, .unset]) rfl ?_
  refine g_iload X22 hx hby at_152 (pc' := 154) rfl rfl ?_
  refine g_ifgt X22 hx hby at_154 (pt := 159) (pf := 157) (by decide) (by decide) rfl (fun (h154 : 0 < sp.toInt) => ?_) (fun (h154 : sp.toInt ≤ 0) => ?_)
  · refine g_aload X22 hx hby at_159 (pc' := 161) rfl rfl rfl ?_
    refine g_iload X22 hx hby at_161 (pc' := 163) rfl rfl ?_
    refine a_iaload X22 hx hby hZ e22 A_va (by omega) (by omega) (v := (.int (gg fr.toInt.toNat))) (rfl) at_163 (pc' := 164) rfl ?_
    refine g_iload X22 hx hby at_164 (pc' := 166) rfl rfl ?_
    refine g_ldcI X22 hx hby hZ hown (hw _ (List.mem_of_getElem? (i := 6) rfl)) at_166 (pc' := 168) rfl ?_
    refine g_iand X22 hx hby at_168 (pc' := 169) rfl ?_
    refine g_iload X22 hx hby at_169 (pc' := 171) rfl rfl ?_
    refine g_irem X22 hx hby at_171 (pc' := 172) rfl (fun q => by rw [q] at h154; revert h154; decide) ?_
    refine g_iadd X22 hx hby at_172 (pc' := 173) rfl ?_
    refine g_nameI (fun ix h_ix => ?_)
    have hix := own_ix (gg fr.toInt.toNat) (gg tt.toInt.toNat) sp ue ix (by omega) (by omega) h_sp (by omega) h_ix
    refine g_istore X22 hx hby at_173 (pc' := 175) rfl (Ls' := #[.val (.int ua), .val (.int ub), .val (.int uc), .val (.int ud), .val (.int ue), .val (.int rp3), .val (.ref va), .val (.int fr), .val (.int tt), .val (.int sp), .val (.int ix), .unset]) rfl ?_
    refine g_aload X22 hx hby at_175 (pc' := 177) rfl rfl rfl ?_
    refine g_iload X22 hx hby at_177 (pc' := 179) rfl rfl ?_
    refine g_iload X22 hx hby at_179 (pc' := 181) rfl rfl ?_
    refine g_iload X22 hx hby at_181 (pc' := 183) rfl rfl ?_
    refine g_static X22 hx hby hZ hown hml rfl (hw _ (List.mem_of_getElem? (i := 7) rfl)) (hw _ (List.mem_of_getElem? (i := 8) rfl)) (hw _ (List.mem_of_getElem? (i := 9) rfl)) (hw _ (List.mem_of_getElem? (i := 10) rfl)) (by decide) e22 (rm2 l Z a0 hw va fr tt ix gg h22 A_va ⟨hfr.1, htt.1, htt.2⟩ hix.1 hix.2) pd___IIII_I_537 (argsL := [(.ref va), (.int fr), (.int tt), (.int ix)]) (rest := []) rfl rfl rfl at_183 (pc' := 186) rfl (by decide) (Nat.le_of_ble_eq_true rfl) (by decide) (by decide) ?_
    intro Tp183 vp183 Lp183 Xp183 qp183
    obtain ⟨⟨rp183, rfl, h_rp183⟩, ep183, rfl⟩ := qp183
    rw [List.append_nil] at Xp183
    replace Xp183 : Stand p l e room_1 s m _ below meth c Tp183 _ 1 7 := Xp183
    show Go p e below s (Q0 n0) room_1.cells room_1.slots m Tp183 186 #[.val (.int ua), .val (.int ub), .val (.int uc), .val (.int ud), .val (.int ue), .val (.int rp3), .val (.ref va), .val (.int fr), .val (.int tt), .val (.int sp), .val (.int ix), .unset] [(.int rp183)]
    refine g_istore Xp183 hx hby at_186 (pc' := 188) rfl (Ls' := #[.val (.int ua), .val (.int ub), .val (.int uc), .val (.int ud), .val (.int ue), .val (.int rp3), .val (.ref va), .val (.int fr), .val (.int tt), .val (.int sp), .val (.int ix), .val (.int rp183)]) rfl ?_
    refine g_iload Xp183 hx hby at_188 (pc' := 190) rfl rfl ?_
    refine g_iload Xp183 hx hby at_190 (pc' := 192) rfl rfl ?_
    refine g_icmplt Xp183 hx hby at_192 (pt := 228) (pf := 195) (by decide) (by decide) rfl (fun (h192 : rp183.toInt < fr.toInt) => (by exfalso; omega)) (fun (h192 : fr.toInt ≤ rp183.toInt) => ?_)
    refine g_iload Xp183 hx hby at_195 (pc' := 197) rfl rfl ?_
    refine g_iload Xp183 hx hby at_197 (pc' := 199) rfl rfl ?_
    refine g_icmpge Xp183 hx hby at_199 (pt := 228) (pf := 202) (by decide) (by decide) rfl (fun (h199 : tt.toInt ≤ rp183.toInt) => (by exfalso; omega)) (fun (h199 : rp183.toInt < tt.toInt) => ?_)
    refine g_aload Xp183 hx hby at_202 (pc' := 204) rfl rfl rfl ?_
    refine g_iload Xp183 hx hby at_204 (pc' := 206) rfl rfl ?_
    refine a_iaload Xp183 hx hby hZ ep183 A_va (by omega) (by omega) (v := (.int (gg rp183.toInt.toNat))) (rfl) at_206 (pc' := 207) rfl ?_
    refine g_iload Xp183 hx hby at_207 (pc' := 209) rfl rfl ?_
    refine g_icmpgt Xp183 hx hby at_209 (pt := 228) (pf := 212) (by decide) (by decide) rfl (fun (h209 : ix.toInt < (gg rp183.toInt.toNat).toInt) => (by exfalso; omega)) (fun (h209 : (gg rp183.toInt.toNat).toInt ≤ ix.toInt) => ?_)
    refine g_iload Xp183 hx hby at_212 (pc' := 214) rfl rfl ?_
    refine g_aload Xp183 hx hby at_214 (pc' := 216) rfl rfl rfl ?_
    refine g_iload Xp183 hx hby at_216 (pc' := 218) rfl rfl ?_
    refine g_iconst Xp183 hx hby at_218 (pc' := 219) rfl (n := (1 : Int32)) (by first | rfl | decide) ?_
    refine g_iadd Xp183 hx hby at_219 (pc' := 220) rfl ?_
    have hi1 := own_inc rp183 (by omega)
    refine a_iaload Xp183 hx hby hZ ep183 A_va (by omega) (by omega) (v := (.int (gg (rp183 + (1 : Int32)).toInt.toNat))) (rfl) at_220 (pc' := 221) rfl ?_
    refine g_icmpge Xp183 hx hby at_221 (pt := 228) (pf := 224) (by decide) (by decide) rfl (fun (h221 : (gg (rp183 + (1 : Int32)).toInt.toNat).toInt ≤ ix.toInt) => (by exfalso; rw [hi1, show (rp183.toInt + 1).toNat = rp183.toInt.toNat + 1 by omega] at h221; omega)) (fun (h221 : ix.toInt < (gg (rp183 + (1 : Int32)).toInt.toNat).toInt) => ?_)
    refine g_iconst Xp183 hx hby at_224 (pc' := 225) rfl (n := (1 : Int32)) (by first | rfl | decide) ?_
    refine g_goto Xp183 hx hby at_225 (pc' := 229) (by decide) (by decide) ?_
    exact g_retZ Xp183 hx hby hlk (Or.inr rfl) hret at_229 (by decide) (by decide) (⟨rfl, N24⟩)
  · refine g_iconst X22 hx hby at_157 (pc' := 158) rfl (n := (1 : Int32)) (by first | rfl | decide) ?_
    exact g_retZ X22 hx hby hlk (Or.inr rfl) hret at_158 (by decide) (by decide) (⟨rfl, N24⟩)
set_option maxRecDepth 65536 in
set_option maxHeartbeats 40000000 in
theorem comes_1 {Post : Tables → Env → Array Value → State → Outcome → State → Prop} (hpost : ∀ tb e args s v u, (limb_1_1.after args s (.returned v) u = true ∧ limb_1_2.after args s (.returned v) u = true ∧ True) → FrameEnd s (.returned v) u (Jvm.fieldLocs frame_1_writes args s ++ Jvm.arrayLocs frame_1_arrays args s ++ Jvm.staticLocs frame_1_statics s) 16 128 → Post tb e args s (.returned v) u) :
    ArmFor flags0 classFile x code maxLocals ret World_1 tables_1 room_1 Calls_1 rest_1 Pre_1 Post := by
  intro l hfl _ _ p e ha hc hk s m args below hf hA hF happ hP
  obtain ⟨hcalls, hrest, hpre⟩ := hP
  obtain ⟨-, -, -, hnamed, -, -, -, hat⟩ := (Spec.applies_iff hf).mp happ
  obtain ⟨hg, hn⟩ := and_e (Cond.before_iff.mp (show (Jvm.Cond.and given_1 narrow_1).before args s = true from hpre))
  obtain ⟨g1, g2⟩ := and_e hg
  obtain ⟨g3, g4⟩ := and_e g2
  obtain ⟨g5, g6⟩ := and_e g4
  obtain ⟨g7, g8⟩ := and_e g6
  obtain ⟨g9, g10⟩ := and_e g8
  obtain ⟨w0, w1, w2, w3, w4, rfl⟩ : ∃ w0 w1 w2 w3 w4 : Value, args = #[w0, w1, w2, w3, w4] := by
    have hs : args.size = 5 := by simpa [Cond.value, given_1] using g1
    obtain ⟨L⟩ := args
    match L, hs with
    | [w0, w1, w2, w3, w4], _ => exact ⟨w0, w1, w2, w3, w4, rfl⟩
  have hw := fun d (hd : d ∈ tables_1) => atoms_spec (ws := Jvm.Cond.code x code maxLocals ret :: tables_1) hat d (List.mem_cons_of_mem _ hd)
  have hfit : Fit s := fun {y c} hc i hi => by
    obtain ⟨ha, rfl⟩ := Array.getElem?_eq_some_iff.mp hc
    have q := List.all_eq_true.mp ((Array.all_eq_true_iff_forall_mem.mp hF) _ (Array.getElem_mem ha)) i (List.mem_range.mpr hi)
    simpa [Array.getElem?_eq_getElem hi] using q
  obtain ⟨i0, ei0⟩ := is_v g3
  obtain rfl : w0 = (.int i0) := Option.some.inj ei0
  obtain ⟨i1, ei1⟩ := is_v g5
  obtain rfl : w1 = (.int i1) := Option.some.inj ei1
  obtain ⟨i2, ei2⟩ := is_v g7
  obtain rfl : w2 = (.int i2) := Option.some.inj ei2
  obtain ⟨i3, ei3⟩ := is_v g9
  obtain rfl : w3 = (.int i3) := Option.some.inj ei3
  obtain ⟨i4, ei4⟩ := is_v g10
  obtain rfl : w4 = (.int i4) := Option.some.inj ei4
  obtain ⟨n, o, h1, h2, h3, _, L, rfl, ⟨rfl, N⟩, hq⟩ := law0 l s _ hw tables_1 i0 i1 i2 i3 i4 s.heap.size s.heap (Nat.le_refl _) p e ha hc hk s m _ below hf ((Spec.applies_iff_loose hf).mp happ).1 ⟨rfl, State.Warmed39.refl s, rfl⟩ trivial
  refine ⟨n, _, h1, h2, h3, hpost _ _ _ _ _ _ ⟨Cond.after_iff.mpr rfl, Cond.after_iff.mpr (eq_i res_at (Term.int_eval (1)) rfl), trivial⟩ ⟨hq.1, hq.2.1, (hq.2.2.sift fun y hy => Or.inr (N y hy)).mono (by decide) (by decide)⟩⟩
theorem main_1_1 : Claimed_1_1 := comes_1 fun _ _ _ _ _ _ h hF => ⟨h.1, hF⟩
theorem main_1_2 : Claimed_1_2 := comes_1 fun _ _ _ _ _ _ h hF => ⟨h.2.1, hF⟩
end Jvm.Pilot.@@N@@
namespace Jvm.Pilot.@@N@@
open Jvm Jvm.ClassFile Sem Op Lib Jvm.Free Jvm.Stand Jvm.Pilot.@@N@@.Jvm.D
/-! MADE BY PROGRAM (witnessworld.py) out of the Statement's table words and the real class files: 10 classes; the members and pool entries that the words name. The judged class is class 1, her method 1. -/
namespace start1
open Jvm.ClassFile
def u (s : String) : CpInfo := .utf8 (stringToUtf16 s)
/-- a pool by its gaps: so many unusable entries, then the entry; so many at the end -/
def gap : Nat → List CpInfo → List CpInfo
  | 0, r => r
  | n + 1, r => .unusable :: gap n r
def poolList (es : List (Nat × CpInfo)) (last : Nat) : List CpInfo := es.foldr (fun e r => gap e.1 (e.2 :: r)) (gap last [])
def pool (es : List (Nat × CpInfo)) (last : Nat) : Array CpInfo := ⟨poolList es last⟩
def fileOf (pool : Array CpInfo) (this : Nat) (attrs : Array Attribute := #[]) (ms : Array MethodInfo := #[]) (fl : Nat := 33) (sup : Nat := 0) (ifs : Array Nat := #[]) (fds : Array FieldInfo := #[]) : ClassFile where
  minorVersion := 0
  majorVersion := 65
  constantPool := pool
  accessFlags := fl
  thisClass := this
  superClass := sup
  interfaces := ifs
  fields := fds
  methods := ms
  attributes := attrs
def plain (name : String) (sup : Option ClassId) : Class where
  name := name
  kind := .ordinary
  loader := none
  accessFlags := 33
  super := sup
  interfaces := #[]
  cf := none
  fields := #[]
  methods := #[]
  instanceTypes := #[]
  staticTypes := #[]
  resolved := #[]
  callSites := []
  init := .initialized
  statics := none
  mirror := none

def pool0 : Array CpInfo := pool [(5, u "<init>"), (0, u "()V"), (1, .class_ 10), (1, u "java/lang/Object")] 113

def k0m0 : Method := { name := "<init>", desc := "()V", sig := { parameters := [], returnType := none }, accessFlags := 1, code := none }
/-- java/lang/Object -/
def k0 : Class := { plain "java/lang/Object" none with
  accessFlags := 33
  interfaces := #[]
  cf := some (fileOf pool0 8 #[] #[{ accessFlags := 1, nameIndex := 5, descriptorIndex := 6, attributes := #[] }] 33 0 #[] #[])
  fields := #[]
  methods := #[k0m0]
  instanceTypes := #[]
  staticTypes := #[]
  resolved := Array.replicate 124 none
  statics := none }

def pool1 : Array CpInfo := pool [(2, .class_ 4), (1, u "java/lang/Object"), (0, u "<init>"), (0, u "()V"), (2, .integer 2147483605), (0, .methodref 11 12), (0, .class_ 13), (0, .nameAndType 14 15), (0, u "java/lang/Math"), (0, u "min"), (0, u "(II)I"), (0, .integer 2147483647), (0, .methodref 18 19), (0, .class_ 20), (0, .nameAndType 21 22), (0, u "com/example/switchbox/switchbox/Groups"), (0, u "of"), (0, u "([IIII)I"), (0, .class_ 24), (0, u "com/example/switchbox/switchbox/GroupsOfPinLaw"), (2, u "law"), (0, u "(IIIII)Z")] 5

def k1m0 : Method := { name := "<init>", desc := "()V", sig := { parameters := [], returnType := none }, accessFlags := 1, code := none }
def k1c1 : Code := { maxStack := 5, maxLocals := 12, code := code, exceptionTable := #[], attributes := #[] }
def k1m1 : Method := { name := "law", desc := "(IIIII)Z", sig := { parameters := [.int, .int, .int, .int, .int], returnType := some .boolean }, accessFlags := 9, code := some k1c1 }
/-- com/example/switchbox/switchbox/GroupsOfPinLaw -/
def k1 : Class := { plain "com/example/switchbox/switchbox/GroupsOfPinLaw" (some 0) with
  accessFlags := 49
  interfaces := #[]
  cf := some (fileOf pool1 23 #[] #[{ accessFlags := 1, nameIndex := 5, descriptorIndex := 6, attributes := #[] }, { accessFlags := 9, nameIndex := 27, descriptorIndex := 28, attributes := #[] }] 49 2 #[] #[])
  fields := #[]
  methods := #[k1m0, k1m1]
  instanceTypes := #[]
  staticTypes := #[]
  resolved := Array.replicate 34 none
  statics := none }

def pool2 : Array CpInfo := pool [(1, .class_ 2), (0, u "java/lang/Math"), (1, .class_ 6), (1, u "java/lang/Object"), (0, u "<init>"), (0, u "()V"), (89, .class_ 100), (1, u "java/lang/Math$RandomNumberGeneratorHolder"), (71, u "negativeZeroFloatBits"), (0, u "J"), (2, u "negativeZeroDoubleBits"), (24, u "min"), (43, u "$assertionsDisabled"), (0, u "Z"), (88, u "(II)I"), (2, u "twoToTheDoubleScaleDown"), (0, u "D"), (4, u "twoToTheDoubleScaleUp"), (9, u "E"), (3, u "PI"), (2, u "TAU"), (2, u "DEGREES_TO_RADIANS"), (0, u "RADIANS_TO_DEGREES")] 94

def k2m0 : Method := { name := "<init>", desc := "()V", sig := { parameters := [], returnType := none }, accessFlags := 2, code := none }
def k2c1 : Code := { maxStack := 2, maxLocals := 2, code := jdk_29_method_69_code, exceptionTable := #[], attributes := #[] }
def k2m1 : Method := { name := "min", desc := "(II)I", sig := { parameters := [.int, .int], returnType := some .int }, accessFlags := 9, code := some k2c1 }
/-- java/lang/Math -/
def k2 : Class := { plain "java/lang/Math" (some 0) with
  accessFlags := 49
  interfaces := #[]
  cf := some (fileOf pool2 1 #[.nestMembers #[98]] #[{ accessFlags := 2, nameIndex := 7, descriptorIndex := 8, attributes := #[] }, { accessFlags := 9, nameIndex := 201, descriptorIndex := 335, attributes := #[] }] 49 4 #[] #[{ accessFlags := 25, nameIndex := 354, descriptorIndex := 339, attributes := #[] }, { accessFlags := 25, nameIndex := 358, descriptorIndex := 339, attributes := #[] }, { accessFlags := 25, nameIndex := 361, descriptorIndex := 339, attributes := #[] }, { accessFlags := 26, nameIndex := 364, descriptorIndex := 339, attributes := #[] }, { accessFlags := 26, nameIndex := 365, descriptorIndex := 339, attributes := #[] }, { accessFlags := 26, nameIndex := 172, descriptorIndex := 173, attributes := #[] }, { accessFlags := 26, nameIndex := 176, descriptorIndex := 173, attributes := #[] }, { accessFlags := 8, nameIndex := 344, descriptorIndex := 339, attributes := #[] }, { accessFlags := 8, nameIndex := 338, descriptorIndex := 339, attributes := #[] }, { accessFlags := 4120, nameIndex := 245, descriptorIndex := 246, attributes := #[] }])
  fields := #[{ name := "E", type := .double, accessFlags := 25, slot := 0, constantValue := 0 }, { name := "PI", type := .double, accessFlags := 25, slot := 1, constantValue := 0 }, { name := "TAU", type := .double, accessFlags := 25, slot := 2, constantValue := 0 }, { name := "DEGREES_TO_RADIANS", type := .double, accessFlags := 26, slot := 3, constantValue := 0 }, { name := "RADIANS_TO_DEGREES", type := .double, accessFlags := 26, slot := 4, constantValue := 0 }, { name := "negativeZeroFloatBits", type := .long, accessFlags := 26, slot := 5, constantValue := 0 }, { name := "negativeZeroDoubleBits", type := .long, accessFlags := 26, slot := 6, constantValue := 0 }, { name := "twoToTheDoubleScaleUp", type := .double, accessFlags := 8, slot := 7, constantValue := 0 }, { name := "twoToTheDoubleScaleDown", type := .double, accessFlags := 8, slot := 8, constantValue := 0 }, { name := "$assertionsDisabled", type := .boolean, accessFlags := 4120, slot := 9, constantValue := 0 }]
  methods := #[k2m0, k2m1]
  instanceTypes := #[]
  staticTypes := #[.double, .double, .double, .double, .double, .long, .long, .double, .double, .boolean]
  resolved := Array.replicate 460 none
  statics := none }

def pool3 : Array CpInfo := pool [(2, .class_ 4), (1, u "java/lang/Object"), (0, u "<init>"), (0, u "()V"), (1, .class_ 10), (1, u "com/example/switchbox/switchbox/Groups"), (0, u "of"), (0, u "([IIII)I")] 6

def k3m0 : Method := { name := "<init>", desc := "()V", sig := { parameters := [], returnType := none }, accessFlags := 2, code := none }
def k3c1 : Code := { maxStack := 2, maxLocals := 7, code := prog_27_method_2_code, exceptionTable := #[], attributes := #[] }
def k3m1 : Method := { name := "of", desc := "([IIII)I", sig := { parameters := [(.array .int), .int, .int, .int], returnType := some .int }, accessFlags := 8, code := some k3c1 }
/-- com/example/switchbox/switchbox/Groups -/
def k3 : Class := { plain "com/example/switchbox/switchbox/Groups" (some 0) with
  accessFlags := 48
  interfaces := #[]
  cf := some (fileOf pool3 8 #[] #[{ accessFlags := 2, nameIndex := 5, descriptorIndex := 6, attributes := #[] }, { accessFlags := 8, nameIndex := 11, descriptorIndex := 12, attributes := #[] }] 48 2 #[] #[])
  fields := #[]
  methods := #[k3m0, k3m1]
  instanceTypes := #[]
  staticTypes := #[]
  resolved := Array.replicate 19 none
  statics := none }

def pool4 : Array CpInfo := pool [(1, u "java/lang/Cloneable"), (0, .class_ 1), (0, u "java/lang/Object"), (0, .class_ 3)] 3

/-- java/lang/Cloneable -/
def k4 : Class := { plain "java/lang/Cloneable" (some 0) with
  accessFlags := 1537
  interfaces := #[]
  cf := some (fileOf pool4 2 #[] #[] 1537 4 #[] #[])
  fields := #[]
  methods := #[]
  instanceTypes := #[]
  staticTypes := #[]
  resolved := Array.replicate 8 none
  statics := none }

def pool5 : Array CpInfo := pool [(1, u "java/io/Serializable"), (0, .class_ 1), (0, u "java/lang/Object"), (0, .class_ 3)] 3

/-- java/io/Serializable -/
def k5 : Class := { plain "java/io/Serializable" (some 0) with
  accessFlags := 1537
  interfaces := #[]
  cf := some (fileOf pool5 2 #[] #[] 1537 4 #[] #[])
  fields := #[]
  methods := #[]
  instanceTypes := #[]
  staticTypes := #[]
  resolved := Array.replicate 8 none
  statics := none }

/-- the primitive byte -/
def k6 : Class := { plain "byte" none with kind := .primitive 'B', accessFlags := 0x411 }
/-- [B -/
def k7 : Class := { plain "[B" (some 0) with kind := .array 6 .byte, interfaces := #[4, 5], accessFlags := 1041 }

/-- the primitive int -/
def k8 : Class := { plain "int" none with kind := .primitive 'I', accessFlags := 0x411 }
/-- [I -/
def k9 : Class := { plain "[I" (some 0) with kind := .array 8 .int, interfaces := #[4, 5], accessFlags := 1041 }

def heap : Heap := #[]
def classes : Array Class := #[k0, k1, k2, k3, k4, k5, k6, k7, k8, k9]
def interned : List (Array UInt16 × Addr) := []
def slotsUsed : Nat := 0
def theMethod : MethodId := ⟨1, 1⟩
def args0 : Array Value := #[.int 5, .int 777777, .int 1, .int 9, .int 3]
def aboutOver (below : List Frame) : State where
  vm := { classes := classes, interned := interned.toArray }
  heap := heap
  slotsUsed := slotsUsed
  threads := #[{ frames := .invoking theMethod args0 :: below }]
def below0 : List Frame := [.native { method := ⟨0, 0⟩, args := #[] }]
def about1 : State := aboutOver below0
def p0 : Program := .bare "" "" ""
def e0 : Env := launch0.env 0 0 0
theorem w_frames : about1.frames = Frame.invoking theMethod args0 :: below0 := rfl
set_option maxRecDepth 65536 in
theorem w_args : argsFit about1.vm theMethod args0 = true := by decide +kernel
set_option maxRecDepth 65536 in
theorem w_heap : heapFits about1 = true := by decide +kernel
set_option maxRecDepth 65536 in
theorem w_runnable : about1.curStatus? = some .runnable := by decide +kernel
set_option maxRecDepth 65536 in
theorem w_alone : about1.alone = true := by decide +kernel
set_option maxRecDepth 65536 in
theorem w_named : about1.methodNamed? x = some theMethod := by decide +kernel
set_option maxRecDepth 65536 in
theorem w_hears : about1.hears theMethod below0 = true := by decide +kernel
set_option maxRecDepth 65536 in
theorem w_ripe : about1.ripe theMethod args0 below0 = true := by decide +kernel
theorem w_running : about1.status = .running := rfl
set_option maxRecDepth 65536 in
theorem w_room : about1.hasRoom e0.platform room_1 = true :=
  launch0.hasRoom_least _ room_1 (by decide +kernel) (by decide +kernel) (by decide +kernel) (by decide +kernel) (by decide +kernel) (by decide +kernel)
theorem allAtoms_all (ts : List Jvm.Cond) (a : Array Jvm.Value) (st : Jvm.State) : (allAtoms ts).before a st = ts.all (fun c => c.before a st) := by
  induction ts with
  | nil => rfl
  | cons c t ih =>
    show (Jvm.Cond.and c (allAtoms t)).before a st = _
    rw [Jvm.Cond.before_and, ih, List.all_cons]
def words1 : List Jvm.Cond := Jvm.Cond.code x code maxLocals ret :: tables_1
/-- a 'code' word, met by the world's own term for the bytes: nothing is compared byte by byte -/
theorem code_word {y : MethodName} {bytes : ByteArray} {mx : Nat} {rt : Option FieldType} {a : Array Value} {s : State} {m : MethodId} {meth : Method} {c : Code} (h1 : s.methodNamed? y = some m) (h2 : s.vm.method? m = some meth) (h3 : meth.code = some c) (h4 : c.code = bytes)
    (h5 : (c.maxLocals == mx && c.exceptionTable.isEmpty && decide (c.maxStack ≤ mostOperands) && decide (meth.sig.returnType = rt) && !meth.locks && decide (parseMethodDescriptor y.desc = some meth.sig)) = true) : (Jvm.Cond.code y bytes mx rt).before a s = true := by
  simp only [Bool.and_eq_true, beq_iff_eq, Bool.not_eq_true', decide_eq_true_eq] at h5
  obtain ⟨⟨⟨⟨⟨g1, g2⟩, g3⟩, g4⟩, g5⟩, g6⟩ := h5
  simp [Cond.before, Cond.holds, Cond.value, h1, h2, h3, h4, g1, g2, g3, g4, g5, g6]
def isCode : Jvm.Cond → Bool
  | .code _ _ _ _ => true
  | _ => false
theorem all_split {L : List Jvm.Cond} {P : Jvm.Cond → Bool} (h1 : L.all (fun c => isCode c || P c) = true) (h2 : ∀ c ∈ L.filter isCode, P c = true) : L.all P = true := by
  refine List.all_eq_true.mpr fun c hc => ?_
  have h := List.all_eq_true.mp h1 c hc
  rcases Bool.eq_false_or_eq_true (isCode c) with hi | hi
  · exact h2 c (List.mem_filter.mpr ⟨hc, hi⟩)
  · simpa [hi] using h
set_option maxRecDepth 65536 in
theorem w_c0 : (Jvm.Cond.code x code maxLocals ret).before args0 about1 = true := code_word (m := ⟨1, 1⟩) (meth := k1m1) (c := k1c1) (by decide +kernel) rfl rfl rfl (by decide +kernel)
set_option maxRecDepth 65536 in
theorem w_c1 : (Jvm.Cond.code ({ cls := "java/lang/Math", name := "min", desc := "(II)I" } : Jvm.MethodName) jdk_29_method_69_code (2 : Nat) (Option.some Jvm.ClassFile.FieldType.int)).before args0 about1 = true := code_word (m := ⟨2, 1⟩) (meth := k2m1) (c := k2c1) (by decide +kernel) rfl rfl rfl (by decide +kernel)
set_option maxRecDepth 65536 in
theorem w_c2 : (Jvm.Cond.code ({ cls := "com/example/switchbox/switchbox/Groups", name := "of", desc := "([IIII)I" } : Jvm.MethodName) prog_27_method_2_code (7 : Nat) (Option.some Jvm.ClassFile.FieldType.int)).before args0 about1 = true := code_word (m := ⟨3, 1⟩) (meth := k3m1) (c := k3c1) (by decide +kernel) rfl rfl rfl (by decide +kernel)
def codes1 : List Jvm.Cond := [Jvm.Cond.code x code maxLocals ret, Jvm.Cond.code ({ cls := "java/lang/Math", name := "min", desc := "(II)I" } : Jvm.MethodName) jdk_29_method_69_code (2 : Nat) (Option.some Jvm.ClassFile.FieldType.int), Jvm.Cond.code ({ cls := "com/example/switchbox/switchbox/Groups", name := "of", desc := "([IIII)I" } : Jvm.MethodName) prog_27_method_2_code (7 : Nat) (Option.some Jvm.ClassFile.FieldType.int)]
set_option maxRecDepth 65536 in
theorem codes_eq : words1.filter isCode = codes1 := rfl
theorem w_codes : ∀ c ∈ words1.filter isCode, c.before args0 about1 = true := by
  rw [codes_eq]
  intro c hc
  simp only [codes1, List.mem_cons, List.not_mem_nil, or_false] at hc
  rcases hc with rfl | rfl | rfl
  · exact w_c0
  · exact w_c1
  · exact w_c2
set_option maxRecDepth 65536 in
theorem w_t1 : words1.all (fun c => isCode c || c.before args0 about1) = true := by decide +kernel
theorem w_tables : (allAtoms (Jvm.Cond.code x code maxLocals ret :: tables_1)).before args0 about1 = true := by
  rw [allAtoms_all]
  show words1.all (fun c => c.before args0 about1) = true
  refine all_split ?_ w_codes
  rw [w_t1]
set_option maxRecDepth 65536 in
theorem w_case : (Jvm.Cond.and given_1 narrow_1).before args0 about1 = true := by decide +kernel
theorem w_applies : (headSpec (Jvm.Cond.code x code maxLocals ret :: tables_1) room_1).applies x e0.platform about1 = true :=
  (Spec.applies_iff w_frames).mpr ⟨w_running, w_runnable, w_alone, w_named, w_hears, w_ripe, w_room, w_tables⟩
theorem atStart : AtStart classFile x code maxLocals ret World_1 tables_1 room_1 Calls_1 rest_1 Pre_1 launch0 p0 e0 about1 theMethod args0 below0 :=
  ⟨lists_1, trivial, launch0.admits_env _ _ _, launch0.least_env, fairChoices_fair.cas, fairChoices_fair.clock, w_frames, w_args, w_heap, w_applies, trivial, trivial, w_case⟩
end start1
theorem witness_1 : WitnessClaimed_1 := ⟨start1.p0, start1.e0, start1.about1, start1.theMethod, start1.args0, start1.below0, start1.atStart⟩
end Jvm.Pilot.@@N@@
