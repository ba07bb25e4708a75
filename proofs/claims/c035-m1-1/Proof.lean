import JvmDerived
import JvmDerived.Pilot.@@N@@Statement
import JvmDerived.Pilot.@@N@@Code
set_option linter.unusedVariables false
set_option linter.unusedSimpArgs false
namespace Jvm.Pilot.@@N@@
open Jvm Jvm.ClassFile Sem Op Lib Jvm.Free Jvm.Stand Jvm.LawKit Jvm.RoadKit Bundle Jvm.Pilot.@@N@@.Jvm.D
section OwnKit
variable {p : Program} {l : Launch} {e : Env} {R : Room} {s : State} {m : MethodId} {args : Array Value} {below : List Frame} {meth : Method} {c : Code} {T : State} {locs : List Loc} {cells slots : Nat} {bc : ByteArray} {Q : Option Value → Heap → List Loc → Prop} {mc ms : Nat} {Z : State} {a0 : Array Value} {h : Heap} {pc pc' pt pf : Nat} {Ls : Array Slot} {st rest : List Value}
/-- from this frame over T the invocation comes to its end by returning, and Q holds there -/
def Go (p : Program) (e : Env) (below : List Frame) (s : State) (Q : Option Value → Heap → List Loc → Prop) (mc ms : Nat) (m : MethodId) (T : State) (pc : Nat) (Ls : Array Slot) (st : List Value) : Prop :=
  ∃ s₂ o, Steps p.tables e below (T.setTop (mkF m pc Ls st)) s₂ ∧ s₂.status = .running ∧ Ended s₂ below o ∧ ∃ v L, o = .returned v ∧ Q v s₂.heap L ∧ FrameEnd s o s₂ L mc ms
theorem Go.of {T' : State} {Ls' : Array Slot} {st' : List Value} (k : ∀ t, Steps p.tables e below (T'.setTop (mkF m pc' Ls' st')) t → Steps p.tables e below (T.setTop (mkF m pc Ls st)) t) (g : Go p e below s Q mc ms m T' pc' Ls' st') : Go p e below s Q mc ms m T pc Ls st := by
  obtain ⟨s₂, o, h1, h2⟩ := g
  exact ⟨s₂, o, k _ h1, h2⟩
/-- a method's contract, as a caller takes it -/
def Ct (l : Launch) (Z : State) (y : MethodName) (bytes : ByteArray) (maxL : Nat) (ret : Option FieldType) (rm : Room) (as' : Array Value) (h : Heap) (Q : Option Value → Heap → List Loc → Prop) : Prop :=
  MetFree l y (head1 [Jvm.Cond.code y bytes maxL ret] rm) (fun a U => a = as' ∧ Z.Warmed39 U.vm ∧ U.heap = h) (fun _ _ _ _ _ => True) (fun _ U o U' => ∃ v L, o = .returned v ∧ Q v U'.heap L ∧ FrameEnd U o U' L rm.cells rm.slots)
theorem own_met {y : MethodName} {bytes : ByteArray} {maxL : Nat} {ret : Option FieldType} {ws : List Jvm.Cond} {rm : Room} {as' : Array Value}
    (hpl : plainFor y = true) (hef : ∀ m, entryFrame m as' maxL = mkF m 0 Ls [])
    (body : ∀ (p : Program) (e : Env) (s : State) (m : MethodId) (below : List Frame) (meth : Method) (c : Code) (T : State), Stand p l e rm s m as' below meth c T [] 0 0 → p.tables.exec = Jvm.exec → c.code = bytes → c.maxLocals = maxL →
      s.vm.findClass y.cls = some m.cls → meth.name = y.name → meth.sig.returnType = ret → meth.locks = false → Z.Warmed39 s.vm → T.heap = h → Go p e below s Q mc ms m T 0 Ls []) :
    MetFree l y (head1 (Jvm.Cond.code y bytes maxL ret :: ws) rm) (fun a U => a = as' ∧ Z.Warmed39 U.vm ∧ U.heap = h) (fun _ _ _ _ _ => True) (fun _ U o U' => ∃ v L, o = .returned v ∧ Q v U'.heap L ∧ FrameEnd U o U' L mc ms) := by
  refine MetFree.of_bodySF hpl hisR ?_
  intro p e s m args below meth c s₁ Bd hml0 hP hK
  obtain ⟨rfl, hZ, hh⟩ := hP
  obtain ⟨s₂, o, h1, h2, h3, v, L, h4, h5, h6⟩ := body p e s m below meth c s₁ (Stand.of_body Bd) Bd.exec Bd.bytes hml0 (findClass_of_methodNamed Bd.named) (name_of_methodNamed Bd.named Bd.method).1 Bd.returns Bd.notSynchronized hZ (by rw [← hh, Bd.state]; rfl)
  exact ⟨s₂, o, castTop (hef m) h1, h2, h3, v, L, h4, h5, h6⟩
theorem g_nameL {x : Int64} (k : ∀ z : Int64, z = x → Go p e below s Q mc ms m T pc Ls (.long z :: rest)) : Go p e below s Q mc ms m T pc Ls (.long x :: rest) := k x rfl
theorem g_lloadN (X : Stand p l e R s m args below meth c T locs cells slots) (hx : p.tables.exec = Jvm.exec) (hby : c.code = bc) {n : Fin 4} {v : Int64} (hd : decode bc pc = .ok (.lload_n n, 1)) (hp : pc + 1 = pc') (hl : Ls[n.val]? = some (.val (.long v))) (k : Go p e below s Q mc ms m T pc' Ls (.long v :: st)) : Go p e below s Q mc ms m T pc Ls st := by
  subst hp; exact Go.of (fun _ q => XS.lloadN X.here hx rfl (hb hby hd) hl q) k
theorem g_lstoreN (X : Stand p l e R s m args below meth c T locs cells slots) (hx : p.tables.exec = Jvm.exec) (hby : c.code = bc) {n : Fin 4} {v : Int64} {Ls' : Array Slot} (hd : decode bc pc = .ok (.lstore_n n, 1)) (hp : pc + 1 = pc') (hl : storeLocals Ls n.val (.long v) = some Ls') (k : Go p e below s Q mc ms m T pc' Ls' rest) : Go p e below s Q mc ms m T pc Ls (.long v :: rest) := by
  subst hp; exact Go.of (fun _ q => XS.lstoreN X.here hx rfl (hb hby hd) rfl hl q) k
theorem g_iconst (X : Stand p l e R s m args below meth c T locs cells slots) (hx : p.tables.exec = Jvm.exec) (hby : c.code = bc) {i : Int} {n : Int32} (hd : decode bc pc = .ok (.iconst i, 1)) (hp : pc + 1 = pc') (hn : Int32.ofInt i = n) (k : Go p e below s Q mc ms m T pc' Ls (.int n :: st)) : Go p e below s Q mc ms m T pc Ls st := by
  subst hp; exact Go.of (fun _ q => XS.iconst X.here hx rfl (hb hby hd) (by rw [hn]; exact q)) k
theorem g_bipush (X : Stand p l e R s m args below meth c T locs cells slots) (hx : p.tables.exec = Jvm.exec) (hby : c.code = bc) {i : Int} {n : Int32} (hd : decode bc pc = .ok (.bipush i, 2)) (hp : pc + 2 = pc') (hn : (Int8.ofInt i).toInt32 = n) (k : Go p e below s Q mc ms m T pc' Ls (.int n :: st)) : Go p e below s Q mc ms m T pc Ls st := by
  subst hp; exact Go.of (fun _ q => XS.bipush X.here hx rfl (hb hby hd) (by rw [hn]; exact q)) k
theorem g_lsub (X : Stand p l e R s m args below meth c T locs cells slots) (hx : p.tables.exec = Jvm.exec) (hby : c.code = bc) {x y : Int64} (hd : decode bc pc = .ok (.lsub, 1)) (hp : pc + 1 = pc')  (k : Go p e below s Q mc ms m T pc' Ls (.long (x - y) :: rest)) : Go p e below s Q mc ms m T pc Ls (.long y :: .long x :: rest) := by
  subst hp; exact Go.of (fun _ q => XS.lsub X.here hx rfl (hb hby hd) rfl q) k
theorem g_lmul (X : Stand p l e R s m args below meth c T locs cells slots) (hx : p.tables.exec = Jvm.exec) (hby : c.code = bc) {x y : Int64} (hd : decode bc pc = .ok (.lmul, 1)) (hp : pc + 1 = pc')  (k : Go p e below s Q mc ms m T pc' Ls (.long (x * y) :: rest)) : Go p e below s Q mc ms m T pc Ls (.long y :: .long x :: rest) := by
  subst hp; exact Go.of (fun _ q => XS.lmul X.here hx rfl (hb hby hd) rfl q) k
theorem g_lxor (X : Stand p l e R s m args below meth c T locs cells slots) (hx : p.tables.exec = Jvm.exec) (hby : c.code = bc) {x y : Int64} (hd : decode bc pc = .ok (.lxor, 1)) (hp : pc + 1 = pc')  (k : Go p e below s Q mc ms m T pc' Ls (.long (x ^^^ y) :: rest)) : Go p e below s Q mc ms m T pc Ls (.long y :: .long x :: rest) := by
  subst hp; exact Go.of (fun _ q => XS.lxor X.here hx rfl (hb hby hd) rfl q) k
theorem g_lushr (X : Stand p l e R s m args below meth c T locs cells slots) (hx : p.tables.exec = Jvm.exec) (hby : c.code = bc) {x : Int64} {y : Int32} (hd : decode bc pc = .ok (.lushr, 1)) (hp : pc + 1 = pc')  (k : Go p e below s Q mc ms m T pc' Ls (.long (XT.ushrL x y) :: rest)) : Go p e below s Q mc ms m T pc Ls (.int y :: .long x :: rest) := by
  subst hp; exact Go.of (fun _ q => XT.lushr X.here hx rfl (hb hby hd) rfl q) k
theorem g_goto (X : Stand p l e R s m args below meth c T locs cells slots) (hx : p.tables.exec = Jvm.exec) (hby : c.code = bc) {i : Int} (hd : decode bc pc = .ok (.goto i, 3)) (ho : 0 ≤ (pc : Int) + i) (hp : ((pc : Int) + i).toNat = pc') (k : Go p e below s Q mc ms m T pc' Ls st) : Go p e below s Q mc ms m T pc Ls st := Go.of (fun _ q => XS.goto X.here hx rfl rfl (hb hby hd) ho hp q) k
theorem own_hne (x y : Int32) : if_icmp.holds .ne x y = decide (¬ x = y) := by by_cases q : x = y <;> simp [if_icmp.holds, q]
theorem g_ifc (X : Stand p l e R s m args below meth c T locs cells slots) (hx : p.tables.exec = Jvm.exec) (hby : c.code = bc) {cd : ClassFile.Cond} {i : Int} {x : Int32} {P : Prop} [Decidable P] (hP : if_icmp.holds cd x 0 = decide P) (hd : decode bc pc = .ok (.ifCond cd i, 3)) (ho : 0 ≤ (pc : Int) + i) (hp : ((pc : Int) + i).toNat = pt) (hf : pc + 3 = pf) (ky : P → Go p e below s Q mc ms m T pt Ls rest) (kn : ¬ P → Go p e below s Q mc ms m T pf Ls rest) : Go p e below s Q mc ms m T pc Ls (.int x :: rest) := by
  subst hf
  by_cases q : P
  · exact Go.of (fun _ z => XS.ifYes X.here hx rfl rfl (hb hby hd) rfl (by rw [if0, hP]; exact decide_eq_true q) ho hp z) (ky q)
  · exact Go.of (fun _ z => XS.ifNo X.here hx rfl (hb hby hd) rfl (by rw [if0, hP]; exact decide_eq_false q) z) (kn q)
theorem g_ifne (X : Stand p l e R s m args below meth c T locs cells slots) (hx : p.tables.exec = Jvm.exec) (hby : c.code = bc) {i : Int} {x : Int32} (hd : decode bc pc = .ok (.ifCond .ne i, 3)) (ho : 0 ≤ (pc : Int) + i) (hp : ((pc : Int) + i).toNat = pt) (hf : pc + 3 = pf) (ky : ¬ x = 0 → Go p e below s Q mc ms m T pt Ls rest) (kn : x = 0 → Go p e below s Q mc ms m T pf Ls rest) : Go p e below s Q mc ms m T pc Ls (.int x :: rest) :=
  g_ifc X hx hby (own_hne x 0) hd ho hp hf ky (fun q => kn (Decidable.not_not.mp q))
theorem own_cmp (x y : Int64) : XT.cmpL x y = lcmpW x y := by simp only [XT.cmpL, lcmpW, gt_iff_lt]
theorem own_lc (x y : Int64) : ((lcmpW x y).toInt < 0 ↔ x.toInt < y.toInt) ∧ (0 < (lcmpW x y).toInt ↔ y.toInt < x.toInt) ∧ (lcmpW x y = 0 ↔ x = y) := by
  refine ⟨?_, ?_, lw_eq x y⟩
  · rw [← Int64.lt_iff_toInt_lt, ← lw_lt, Int32.lt_iff_toInt_lt]; rfl
  · rw [← Int64.lt_iff_toInt_lt, ← lw_gt, Int32.lt_iff_toInt_lt]; rfl
theorem g_lcmpne (X : Stand p l e R s m args below meth c T locs cells slots) (hx : p.tables.exec = Jvm.exec) (hby : c.code = bc) {i : Int} {x y : Int64} (hd : decode bc pc = .ok (.lcmp, 1)) (hp1 : pc + 1 = pc') (hd' : decode bc pc' = .ok (.ifCond .ne i, 3)) (ho : 0 ≤ (pc' : Int) + i) (hp : ((pc' : Int) + i).toNat = pt) (hf : pc' + 3 = pf) (ky : ¬ x = y → Go p e below s Q mc ms m T pt Ls rest) (kn : x = y → Go p e below s Q mc ms m T pf Ls rest) : Go p e below s Q mc ms m T pc Ls (.long y :: .long x :: rest) := by
  subst hp1
  refine Go.of (fun _ q => XT.lcmp X.here hx rfl (hb hby hd) rfl (by rw [own_cmp]; exact q)) (g_ifne X hx hby hd' ho hp hf (fun q => ky (fun z => q ((own_lc x y).2.2.mpr z))) (fun q => kn ((own_lc x y).2.2.mp q)))
theorem g_ret (X : Stand p l e R s m args below meth c T locs cells slots) (hx : p.tables.exec = Jvm.exec) (hby : c.code = bc) (hlk : meth.locks = false) {t : FieldType} {w : Value} {i : Instr} (hret : meth.sig.returnType = some t) (hn : narrow t w = w) (hi : (i = .ireturn ∧ (t = .int ∨ t = .boolean ∨ t = .byte ∨ t = .char ∨ t = .short) ∧ ∃ z, w = .int z) ∨ (i = .lreturn ∧ t = .long ∧ ∃ z, w = .long z) ∨ (i = .dreturn ∧ t = .double ∧ ∃ z, w = .double z) ∨ (i = .freturn ∧ t = .float ∧ ∃ z, w = .float z) ∨ (i = .areturn ∧ t.isReference = true ∧ w.isRef = true)) (hd : decode bc pc = .ok (i, 1)) (hc : cells ≤ mc) (hs : slots ≤ ms) (hq : Q (some w) T.heap locs) : Go p e below s Q mc ms m T pc Ls (w :: rest) := by
  obtain ⟨fs, hr, hrun, hended, hW, hsame⟩ := X.leave (v := some w) (fun h => by rw [hret] at h; cases h) hlk
  exact ⟨_, _, retOut X hx hret hn hi (hb hby hd) hr, hrun, hended, _, _, rfl, hq, ⟨_, rfl⟩, hW, hsame.mono hc hs⟩
theorem g_retL (X : Stand p l e R s m args below meth c T locs cells slots) (hx : p.tables.exec = Jvm.exec) (hby : c.code = bc) (hlk : meth.locks = false) {z : Int64} (hret : meth.sig.returnType = some .long) (hd : decode bc pc = .ok (.lreturn, 1)) (hc : cells ≤ mc) (hs : slots ≤ ms) (hq : Q (some (.long z)) T.heap locs) : Go p e below s Q mc ms m T pc Ls (.long z :: rest) := g_ret X hx hby hlk hret rfl (Or.inr (Or.inl ⟨rfl, rfl, _, rfl⟩)) hd hc hs hq
theorem g_retZ (X : Stand p l e R s m args below meth c T locs cells slots) (hx : p.tables.exec = Jvm.exec) (hby : c.code = bc) (hlk : meth.locks = false) {z : Int32} (hz : z = 0 ∨ z = 1) (hret : meth.sig.returnType = some .boolean) (hd : decode bc pc = .ok (.ireturn, 1)) (hc : cells ≤ mc) (hs : slots ≤ ms) (hq : Q (some (.int z)) T.heap locs) : Go p e below s Q mc ms m T pc Ls (.int z :: rest) := g_ret X hx hby hlk hret (by rcases hz with rfl | rfl <;> rfl) (Or.inl ⟨rfl, Or.inr (Or.inl rfl), _, rfl⟩) hd hc hs hq
theorem g_ldcL (X : Stand p l e R s m args below meth c T locs cells slots) (hx : p.tables.exec = Jvm.exec) (hby : c.code = bc) (hZ : Z.Warmed39 s.vm) {own : String} (hown : s.vm.findClass own = some m.cls) {n : Nat} {v : Int64} (w : (Jvm.Cond.constantLong own n v).before a0 Z = true) (hd : decode bc pc = .ok (.ldc2_w n, 3)) (hp : pc + 3 = pc') (k : Go p e below s Q mc ms m T pc' Ls (.long v :: st)) : Go p e below s Q mc ms m T pc Ls st := by
  subst hp; exact Go.of (X.ldc2Long hx hown (mvT hZ w) (g := mkF m pc Ls st) rfl (hb hby hd)) k
theorem g_static (X : Stand p l e R s m args below meth c T locs cells slots) (hx : p.tables.exec = Jvm.exec) (hby : c.code = bc) (hZ : Z.Warmed39 s.vm) {own : String} (hown : s.vm.findClass own = some m.cls) {i ML : Nat} {y : MethodName} {bytes : ByteArray} {maxL : Nat} {ret : Option FieldType} {rm : Room} {as' : Array Value} {QC : Option Value → Heap → List Loc → Prop} (hml : c.maxLocals = ML) (hls : Ls.size = ML) (w1 : (Jvm.Cond.methodLink own i y).before a0 Z = true) (w2 : (Jvm.Cond.static y).before a0 Z = true) (w3 : (Jvm.Cond.initialized y.cls).before a0 Z = true) (w4 : (Jvm.Cond.code y bytes maxL ret).before a0 Z = true) (hy : y.cls ≠ "java/lang/invoke/MethodHandle" ∧ y.cls ≠ "java/lang/invoke/VarHandle") (eT : T.heap = h) (M : Ct l Z y bytes maxL ret rm as' h QC) {ps : List FieldType} {r : Option FieldType} (pd : parseMethodDescriptor y.desc = some ⟨ps, r⟩) {argsL : List Value} (hl : argsL.length = ps.length) (has : argsL.toArray = as') (hst : st = argsL.reverse ++ rest) (hd : decode bc pc = .ok (.invokestatic i, 3)) (hp : pc + 3 = pc') (hf : rm.frames + 1 ≤ R.frames) (hlo : (rest.map fun v => v.category).sum + (maxL + 11) + rm.locals ≤ R.locals) (hc : cells + rm.cells ≤ R.cells) (hs : slots + rm.slots ≤ R.slots)
    (k : ∀ (T' : State) (v : Option Value) (L : List Loc), Stand p l e R s m args below meth c T' (locs ++ L) (cells + rm.cells) (slots + rm.slots) → QC v T'.heap L → Go p e below s Q mc ms m T' pc' Ls (v.toList ++ rest)) : Go p e below s Q mc ms m T pc Ls st := by
  subst hp has hst
  obtain ⟨v, vm₁, ⟨U, L', c', s'⟩, -, X', ⟨L, hQ, l1, l2, l3⟩, st⟩ := Jvm.LawKit.callS X hx (y := y) hown (mvT hZ w1) (mvT hZ w2) (mvT hZ w3) (mvT hZ w4) hy (backOf (W := (rest.map fun v => v.category).sum) M hZ w4 w3 hf hlo) (g := mkF m pc Ls (argsL.reverse ++ rest)) rfl (by rw [hml]; exact hls) (argsL := argsL) (rest := rest) (lenOf pd hl) rfl (by show 2 * 0 + _ ≤ _; omega) (hb hby hd) (fun _ _ => ⟨rfl, eT, hc, hs⟩)
  dsimp only at X' l1 l2 l3 st hQ
  subst l1 l2 l3
  exact Go.of st (k _ _ _ X' hQ)
end OwnKit
section OwnLib
/-- b is 1 where P holds, 0 where it doesn't -/
def own_bool (b : Int32) (P : Prop) : Prop := (b = 1 ∧ P) ∨ (b = 0 ∧ ¬ P)
theorem own_bool_01 {b : Int32} {P : Prop} (h : own_bool b P) : b = 0 ∨ b = 1 := h.elim (fun q => Or.inr q.1) (fun q => Or.inl q.1)
theorem own_bool_iff {b : Int32} {P : Prop} (h : own_bool b P) : b = 1 ↔ P := h.elim (fun q => ⟨fun _ => q.2, fun _ => q.1⟩) (fun q => ⟨fun z => absurd (q.1.symm.trans z) (by decide), fun z => absurd z q.2⟩)
theorem own_bool_zero {b : Int32} {P : Prop} (h : own_bool b P) : b = 0 ↔ ¬ P := h.elim (fun q => ⟨fun z => absurd (q.1.symm.trans z) (by decide), fun z => absurd q.2 z⟩) (fun q => ⟨fun _ => q.2, fun _ => q.1⟩)
theorem own_bool_eq {a b : Int32} {P P' : Prop} (h : own_bool a P) (h' : own_bool b P') (i : P ↔ P') : a = b := by
  rcases h with ⟨rfl, q⟩ | ⟨rfl, q⟩ <;> rcases h' with ⟨rfl, q'⟩ | ⟨rfl, q'⟩ <;> first | rfl | exact absurd (i.mp q) q' | exact absurd (i.mpr q') q
theorem own_inc (i : Int32) (h : i.toInt < 2147483647) : (i + 1).toInt = i.toInt + 1 := by
  have a := c_iadd i 1
  have e : (1 : Int32).toInt = 1 := rfl
  rw [e] at a
  have b := rng32 i
  have b' := rng32 (i + 1)
  omega
theorem own_dec (i : Int32) (h : -2147483648 < i.toInt) : (i - 1).toInt = i.toInt - 1 := by
  have a := c_isub i 1
  have e : (1 : Int32).toInt = 1 := rfl
  rw [e] at a
  have b := rng32 i
  have b' := rng32 (i - 1)
  omega
theorem own_add (x y : Int32) (h1 : -2147483648 ≤ x.toInt + y.toInt) (h2 : x.toInt + y.toInt < 2147483648) : (x + y).toInt = x.toInt + y.toInt := by
  have a := c_iadd x y
  have b := rng32 (x + y)
  omega
theorem own_sub (x y : Int32) (h1 : -2147483648 ≤ x.toInt - y.toInt) (h2 : x.toInt - y.toInt < 2147483648) : (x - y).toInt = x.toInt - y.toInt := by
  have a := c_isub x y
  have b := rng32 (x - y)
  omega
/-- (u & 0x7fffffff) % n lies from 0 up to n - 1 -/
theorem own_modr (u n : Int32) (hn : 0 < n.toInt) : 0 ≤ ((u &&& 2147483647) % n).toInt ∧ ((u &&& 2147483647) % n).toInt < n.toInt := by
  have a1 := c_mask u 2147483647 31 (by decide) (by decide)
  have a2 := (c_iremV (u &&& 2147483647) n).1 (by omega) hn
  omega
def QI (h0 : Heap) (P : Int32 → Prop) : Option Value → Heap → List Loc → Prop := fun v h L => (∃ r, v = some (.int r) ∧ P r) ∧ h = h0 ∧ L = []
def QL (h0 : Heap) (P : Int64 → Prop) : Option Value → Heap → List Loc → Prop := fun v h L => (∃ r, v = some (.long r) ∧ P r) ∧ h = h0 ∧ L = []
def QV (h0 : Heap) : Option Value → Heap → List Loc → Prop := fun v h L => v = none ∧ h = h0 ∧ L = []
/-- what the law leaves -/
def Q0 (n0 : Nat) : Option Value → Heap → List Loc → Prop := fun v h L => v = some (.int 1) ∧ Fr n0 L
end OwnLib
def own_mix (a : Int64) : Int64 :=
  let b := (a ^^^ XT.ushrL a 30) * (-4658895280553007687 : Int64)
  let d := (b ^^^ XT.ushrL b 27) * (-7723592293110705685 : Int64)
  d ^^^ XT.ushrL d 31
def own_n (w r : Int64) : Int64 := r * ((2 : Int64) - (w * r))
def own_inv (w : Int64) : Int64 := own_n w (own_n w (own_n w (own_n w (own_n w w))))
def own_un (a : Int64) : Int64 :=
  let b := ((a ^^^ XT.ushrL a 31) ^^^ XT.ushrL a 62) * own_inv (-7723592293110705685 : Int64)
  let d := ((b ^^^ XT.ushrL b 27) ^^^ XT.ushrL b 54) * own_inv (-4658895280553007687 : Int64)
  (d ^^^ XT.ushrL d 30) ^^^ XT.ushrL d 60
theorem own_sh (a : Int64) (k : Int32) (n : Nat) (hk : (k.toInt64 &&& 63).toBitVec.toNat = n) (hn : n < 64) : (XT.ushrL a k).toBitVec = a.toBitVec >>> n := by
  have e : (k.toInt64.toUInt64 &&& Int64.toUInt64 63).toBitVec.toNat = n := hk
  show (a.toUInt64 >>> (k.toInt64.toUInt64 &&& Int64.toUInt64 63)).toBitVec = _
  rw [UInt64.toBitVec_shiftRight, BitVec.ushiftRight_eq']
  have q : ((k.toInt64.toUInt64 &&& Int64.toUInt64 63).toBitVec % 64).toNat = n := by
    rw [BitVec.toNat_umod, e]; exact Nat.mod_eq_of_lt hn
  rw [q]; rfl
theorem own_undo (a : BitVec 64) (n : Nat) (h : 64 ≤ 3 * n) : ((a ^^^ (a >>> n)) ^^^ ((a ^^^ (a >>> n)) >>> n)) ^^^ ((a ^^^ (a >>> n)) >>> (2 * n)) = a := by
  apply BitVec.eq_of_getLsbD_eq
  intro i hi
  simp only [BitVec.getLsbD_xor, BitVec.getLsbD_ushiftRight]
  have e1 : a.getLsbD (n + (n + i)) = a.getLsbD (2 * n + i) := by congr 1; omega
  have e2 : a.getLsbD (n + (2 * n + i)) = false := BitVec.getLsbD_of_ge _ _ (by omega)
  rw [e1, e2]
  cases a.getLsbD i <;> cases a.getLsbD (n + i) <;> cases a.getLsbD (2 * n + i) <;> rfl
theorem own_u (a : Int64) (k k2 : Int32) (n : Nat) (hk : (k.toInt64 &&& 63).toBitVec.toNat = n) (hk2 : (k2.toInt64 &&& 63).toBitVec.toNat = 2 * n) (h : 64 ≤ 3 * n) (h2 : 2 * n < 64) : ((a ^^^ XT.ushrL a k) ^^^ XT.ushrL (a ^^^ XT.ushrL a k) k) ^^^ XT.ushrL (a ^^^ XT.ushrL a k) k2 = a := by
  apply Int64.toBitVec_inj.mp
  simp only [Int64.toBitVec_xor, own_sh _ k n hk (by omega), own_sh _ k2 (2 * n) hk2 h2]
  exact own_undo _ n h
theorem own_i1 : (-7723592293110705685 : Int64) * own_inv (-7723592293110705685 : Int64) = 1 := by decide +kernel
theorem own_i2 : (-4658895280553007687 : Int64) * own_inv (-4658895280553007687 : Int64) = 1 := by decide +kernel
theorem own_law (a : Int64) : own_un (own_mix a) = a := by
  simp only [own_un, own_mix]
  rw [own_u _ 31 62 31 (by decide) (by decide) (by decide) (by decide), Int64.mul_assoc, own_i1, Int64.mul_one, own_u _ 27 54 27 (by decide) (by decide) (by decide) (by decide), Int64.mul_assoc, own_i2, Int64.mul_one, own_u _ 30 60 30 (by decide) (by decide) (by decide) (by decide)]
theorem ef_1 (m : MethodId) (u : Int64) : entryFrame m #[(.long u)] 4 = mkF m 0 #[.val (.long u), .second, .unset, .unset] [] := by first | (simp [entryFrame, mkF, argsToLocals, Value.category]; done) | rfl
theorem pn_1 : plainName "com/example/turnstone/turnstone/sketch/Hashes" = true := by first | (simp [plainName, overriddenIn]; done) | decide +kernel
theorem d1_0 : decode prog_17_method_2_code 0 = .ok (.lload_n 0, 1) := by decide +kernel
theorem d1_1 : decode prog_17_method_2_code 1 = .ok (.lstore_n 2, 1) := by decide +kernel
theorem d1_2 : decode prog_17_method_2_code 2 = .ok (.lload_n 2, 1) := by decide +kernel
theorem d1_3 : decode prog_17_method_2_code 3 = .ok (.lload_n 2, 1) := by decide +kernel
theorem d1_4 : decode prog_17_method_2_code 4 = .ok (.bipush 30, 2) := by decide +kernel
theorem d1_6 : decode prog_17_method_2_code 6 = .ok (.lushr, 1) := by decide +kernel
theorem d1_7 : decode prog_17_method_2_code 7 = .ok (.lxor, 1) := by decide +kernel
theorem d1_8 : decode prog_17_method_2_code 8 = .ok (.ldc2_w 7, 3) := by decide +kernel
theorem d1_11 : decode prog_17_method_2_code 11 = .ok (.lmul, 1) := by decide +kernel
theorem d1_12 : decode prog_17_method_2_code 12 = .ok (.lstore_n 2, 1) := by decide +kernel
theorem d1_13 : decode prog_17_method_2_code 13 = .ok (.lload_n 2, 1) := by decide +kernel
theorem d1_14 : decode prog_17_method_2_code 14 = .ok (.lload_n 2, 1) := by decide +kernel
theorem d1_15 : decode prog_17_method_2_code 15 = .ok (.bipush 27, 2) := by decide +kernel
theorem d1_17 : decode prog_17_method_2_code 17 = .ok (.lushr, 1) := by decide +kernel
theorem d1_18 : decode prog_17_method_2_code 18 = .ok (.lxor, 1) := by decide +kernel
theorem d1_19 : decode prog_17_method_2_code 19 = .ok (.ldc2_w 9, 3) := by decide +kernel
theorem d1_22 : decode prog_17_method_2_code 22 = .ok (.lmul, 1) := by decide +kernel
theorem d1_23 : decode prog_17_method_2_code 23 = .ok (.lstore_n 2, 1) := by decide +kernel
theorem d1_24 : decode prog_17_method_2_code 24 = .ok (.lload_n 2, 1) := by decide +kernel
theorem d1_25 : decode prog_17_method_2_code 25 = .ok (.lload_n 2, 1) := by decide +kernel
theorem d1_26 : decode prog_17_method_2_code 26 = .ok (.bipush 31, 2) := by decide +kernel
theorem d1_28 : decode prog_17_method_2_code 28 = .ok (.lushr, 1) := by decide +kernel
theorem d1_29 : decode prog_17_method_2_code 29 = .ok (.lxor, 1) := by decide +kernel
theorem d1_30 : decode prog_17_method_2_code 30 = .ok (.lreturn, 1) := by decide +kernel
set_option maxRecDepth 65536 in
set_option maxHeartbeats 40000000 in
theorem rm1 (l : Launch) (Z : State) (a0 : Array Value) (hw : ∀ d ∈ tables_1, d.before a0 Z = true) (u : Int64) (h0 : Heap)  :
    Ct l Z (⟨"com/example/turnstone/turnstone/sketch/Hashes", "mix", "(J)J"⟩ : MethodName) prog_17_method_2_code 4 (some .long) ({ frames := 0, cells := 0, slots := 0, locals := 0 } : Room) #[(.long u)] h0 (QL h0 (fun r => r = own_mix u)) := by
  refine own_met (plainFor_of_name pn_1) (fun m => ef_1 m u) ?_
  intro p e s m below meth c T0 X0 hx hby hml hown hnm hret hlk hZ e0
  refine g_lloadN X0 hx hby d1_0 (pc' := 1) rfl rfl ?_
  refine g_lstoreN X0 hx hby d1_1 (pc' := 2) rfl (Ls' := #[.val (.long u), .second, .val (.long u), .second]) rfl ?_
  refine g_lloadN X0 hx hby d1_2 (pc' := 3) rfl rfl ?_
  refine g_lloadN X0 hx hby d1_3 (pc' := 4) rfl rfl ?_
  refine g_bipush X0 hx hby d1_4 (pc' := 6) rfl (n := (30 : Int32)) (by first | rfl | decide) ?_
  refine g_lushr X0 hx hby d1_6 (pc' := 7) rfl ?_
  refine g_lxor X0 hx hby d1_7 (pc' := 8) rfl ?_
  refine g_ldcL X0 hx hby hZ hown (hw _ (List.mem_of_getElem? (i := 4) rfl)) d1_8 (pc' := 11) rfl ?_
  refine g_lmul X0 hx hby d1_11 (pc' := 12) rfl ?_
  refine g_nameL (fun z1 h_z1 => ?_)
  refine g_lstoreN X0 hx hby d1_12 (pc' := 13) rfl (Ls' := #[.val (.long u), .second, .val (.long z1), .second]) rfl ?_
  refine g_lloadN X0 hx hby d1_13 (pc' := 14) rfl rfl ?_
  refine g_lloadN X0 hx hby d1_14 (pc' := 15) rfl rfl ?_
  refine g_bipush X0 hx hby d1_15 (pc' := 17) rfl (n := (27 : Int32)) (by first | rfl | decide) ?_
  refine g_lushr X0 hx hby d1_17 (pc' := 18) rfl ?_
  refine g_lxor X0 hx hby d1_18 (pc' := 19) rfl ?_
  refine g_ldcL X0 hx hby hZ hown (hw _ (List.mem_of_getElem? (i := 5) rfl)) d1_19 (pc' := 22) rfl ?_
  refine g_lmul X0 hx hby d1_22 (pc' := 23) rfl ?_
  refine g_nameL (fun z2 h_z2 => ?_)
  refine g_lstoreN X0 hx hby d1_23 (pc' := 24) rfl (Ls' := #[.val (.long u), .second, .val (.long z2), .second]) rfl ?_
  refine g_lloadN X0 hx hby d1_24 (pc' := 25) rfl rfl ?_
  refine g_lloadN X0 hx hby d1_25 (pc' := 26) rfl rfl ?_
  refine g_bipush X0 hx hby d1_26 (pc' := 28) rfl (n := (31 : Int32)) (by first | rfl | decide) ?_
  refine g_lushr X0 hx hby d1_28 (pc' := 29) rfl ?_
  refine g_lxor X0 hx hby d1_29 (pc' := 30) rfl ?_
  exact g_retL X0 hx hby hlk hret d1_30 (by decide) (by decide) (⟨⟨_, rfl, by subst h_z2; subst h_z1; rfl⟩, e0, rfl⟩)
theorem ef_3 (m : MethodId) (u : Int64) : entryFrame m #[(.long u)] 4 = mkF m 0 #[.val (.long u), .second, .unset, .unset] [] := by first | (simp [entryFrame, mkF, argsToLocals, Value.category]; done) | rfl
theorem pn_3 : plainName "com/example/turnstone/turnstone/sketch/HashesMixPinLaw" = true := by first | (simp [plainName, overriddenIn]; done) | decide +kernel
theorem d3_0 : decode method_2_code 0 = .ok (.lload_n 0, 1) := by decide +kernel
theorem d3_1 : decode method_2_code 1 = .ok (.lstore_n 2, 1) := by decide +kernel
theorem d3_2 : decode method_2_code 2 = .ok (.lload_n 2, 1) := by decide +kernel
theorem d3_3 : decode method_2_code 3 = .ok (.ldc2_w 7, 3) := by decide +kernel
theorem d3_6 : decode method_2_code 6 = .ok (.lload_n 0, 1) := by decide +kernel
theorem d3_7 : decode method_2_code 7 = .ok (.lload_n 2, 1) := by decide +kernel
theorem d3_8 : decode method_2_code 8 = .ok (.lmul, 1) := by decide +kernel
theorem d3_9 : decode method_2_code 9 = .ok (.lsub, 1) := by decide +kernel
theorem d3_10 : decode method_2_code 10 = .ok (.lmul, 1) := by decide +kernel
theorem d3_11 : decode method_2_code 11 = .ok (.lstore_n 2, 1) := by decide +kernel
theorem d3_12 : decode method_2_code 12 = .ok (.lload_n 2, 1) := by decide +kernel
theorem d3_13 : decode method_2_code 13 = .ok (.ldc2_w 7, 3) := by decide +kernel
theorem d3_16 : decode method_2_code 16 = .ok (.lload_n 0, 1) := by decide +kernel
theorem d3_17 : decode method_2_code 17 = .ok (.lload_n 2, 1) := by decide +kernel
theorem d3_18 : decode method_2_code 18 = .ok (.lmul, 1) := by decide +kernel
theorem d3_19 : decode method_2_code 19 = .ok (.lsub, 1) := by decide +kernel
theorem d3_20 : decode method_2_code 20 = .ok (.lmul, 1) := by decide +kernel
theorem d3_21 : decode method_2_code 21 = .ok (.lstore_n 2, 1) := by decide +kernel
theorem d3_22 : decode method_2_code 22 = .ok (.lload_n 2, 1) := by decide +kernel
theorem d3_23 : decode method_2_code 23 = .ok (.ldc2_w 7, 3) := by decide +kernel
theorem d3_26 : decode method_2_code 26 = .ok (.lload_n 0, 1) := by decide +kernel
theorem d3_27 : decode method_2_code 27 = .ok (.lload_n 2, 1) := by decide +kernel
theorem d3_28 : decode method_2_code 28 = .ok (.lmul, 1) := by decide +kernel
theorem d3_29 : decode method_2_code 29 = .ok (.lsub, 1) := by decide +kernel
theorem d3_30 : decode method_2_code 30 = .ok (.lmul, 1) := by decide +kernel
theorem d3_31 : decode method_2_code 31 = .ok (.lstore_n 2, 1) := by decide +kernel
theorem d3_32 : decode method_2_code 32 = .ok (.lload_n 2, 1) := by decide +kernel
theorem d3_33 : decode method_2_code 33 = .ok (.ldc2_w 7, 3) := by decide +kernel
theorem d3_36 : decode method_2_code 36 = .ok (.lload_n 0, 1) := by decide +kernel
theorem d3_37 : decode method_2_code 37 = .ok (.lload_n 2, 1) := by decide +kernel
theorem d3_38 : decode method_2_code 38 = .ok (.lmul, 1) := by decide +kernel
theorem d3_39 : decode method_2_code 39 = .ok (.lsub, 1) := by decide +kernel
theorem d3_40 : decode method_2_code 40 = .ok (.lmul, 1) := by decide +kernel
theorem d3_41 : decode method_2_code 41 = .ok (.lstore_n 2, 1) := by decide +kernel
theorem d3_42 : decode method_2_code 42 = .ok (.lload_n 2, 1) := by decide +kernel
theorem d3_43 : decode method_2_code 43 = .ok (.ldc2_w 7, 3) := by decide +kernel
theorem d3_46 : decode method_2_code 46 = .ok (.lload_n 0, 1) := by decide +kernel
theorem d3_47 : decode method_2_code 47 = .ok (.lload_n 2, 1) := by decide +kernel
theorem d3_48 : decode method_2_code 48 = .ok (.lmul, 1) := by decide +kernel
theorem d3_49 : decode method_2_code 49 = .ok (.lsub, 1) := by decide +kernel
theorem d3_50 : decode method_2_code 50 = .ok (.lmul, 1) := by decide +kernel
theorem d3_51 : decode method_2_code 51 = .ok (.lstore_n 2, 1) := by decide +kernel
theorem d3_52 : decode method_2_code 52 = .ok (.lload_n 2, 1) := by decide +kernel
theorem d3_53 : decode method_2_code 53 = .ok (.lreturn, 1) := by decide +kernel
set_option maxRecDepth 65536 in
set_option maxHeartbeats 40000000 in
theorem rm3 (l : Launch) (Z : State) (a0 : Array Value) (hw : ∀ d ∈ tables_1, d.before a0 Z = true) (u : Int64) (h0 : Heap)  :
    Ct l Z (⟨"com/example/turnstone/turnstone/sketch/HashesMixPinLaw", "inverse", "(J)J"⟩ : MethodName) method_2_code 4 (some .long) ({ frames := 0, cells := 0, slots := 0, locals := 0 } : Room) #[(.long u)] h0 (QL h0 (fun r => r = own_inv u)) := by
  refine own_met (plainFor_of_name pn_3) (fun m => ef_3 m u) ?_
  intro p e s m below meth c T0 X0 hx hby hml hown hnm hret hlk hZ e0
  refine g_lloadN X0 hx hby d3_0 (pc' := 1) rfl rfl ?_
  refine g_lstoreN X0 hx hby d3_1 (pc' := 2) rfl (Ls' := #[.val (.long u), .second, .val (.long u), .second]) rfl ?_
  refine g_lloadN X0 hx hby d3_2 (pc' := 3) rfl rfl ?_
  refine g_ldcL X0 hx hby hZ hown (hw _ (List.mem_of_getElem? (i := 14) rfl)) d3_3 (pc' := 6) rfl ?_
  refine g_lloadN X0 hx hby d3_6 (pc' := 7) rfl rfl ?_
  refine g_lloadN X0 hx hby d3_7 (pc' := 8) rfl rfl ?_
  refine g_lmul X0 hx hby d3_8 (pc' := 9) rfl ?_
  refine g_lsub X0 hx hby d3_9 (pc' := 10) rfl ?_
  refine g_lmul X0 hx hby d3_10 (pc' := 11) rfl ?_
  refine g_nameL (fun z1 h_z1 => ?_)
  refine g_lstoreN X0 hx hby d3_11 (pc' := 12) rfl (Ls' := #[.val (.long u), .second, .val (.long z1), .second]) rfl ?_
  refine g_lloadN X0 hx hby d3_12 (pc' := 13) rfl rfl ?_
  refine g_ldcL X0 hx hby hZ hown (hw _ (List.mem_of_getElem? (i := 14) rfl)) d3_13 (pc' := 16) rfl ?_
  refine g_lloadN X0 hx hby d3_16 (pc' := 17) rfl rfl ?_
  refine g_lloadN X0 hx hby d3_17 (pc' := 18) rfl rfl ?_
  refine g_lmul X0 hx hby d3_18 (pc' := 19) rfl ?_
  refine g_lsub X0 hx hby d3_19 (pc' := 20) rfl ?_
  refine g_lmul X0 hx hby d3_20 (pc' := 21) rfl ?_
  refine g_nameL (fun z2 h_z2 => ?_)
  refine g_lstoreN X0 hx hby d3_21 (pc' := 22) rfl (Ls' := #[.val (.long u), .second, .val (.long z2), .second]) rfl ?_
  refine g_lloadN X0 hx hby d3_22 (pc' := 23) rfl rfl ?_
  refine g_ldcL X0 hx hby hZ hown (hw _ (List.mem_of_getElem? (i := 14) rfl)) d3_23 (pc' := 26) rfl ?_
  refine g_lloadN X0 hx hby d3_26 (pc' := 27) rfl rfl ?_
  refine g_lloadN X0 hx hby d3_27 (pc' := 28) rfl rfl ?_
  refine g_lmul X0 hx hby d3_28 (pc' := 29) rfl ?_
  refine g_lsub X0 hx hby d3_29 (pc' := 30) rfl ?_
  refine g_lmul X0 hx hby d3_30 (pc' := 31) rfl ?_
  refine g_nameL (fun z3 h_z3 => ?_)
  refine g_lstoreN X0 hx hby d3_31 (pc' := 32) rfl (Ls' := #[.val (.long u), .second, .val (.long z3), .second]) rfl ?_
  refine g_lloadN X0 hx hby d3_32 (pc' := 33) rfl rfl ?_
  refine g_ldcL X0 hx hby hZ hown (hw _ (List.mem_of_getElem? (i := 14) rfl)) d3_33 (pc' := 36) rfl ?_
  refine g_lloadN X0 hx hby d3_36 (pc' := 37) rfl rfl ?_
  refine g_lloadN X0 hx hby d3_37 (pc' := 38) rfl rfl ?_
  refine g_lmul X0 hx hby d3_38 (pc' := 39) rfl ?_
  refine g_lsub X0 hx hby d3_39 (pc' := 40) rfl ?_
  refine g_lmul X0 hx hby d3_40 (pc' := 41) rfl ?_
  refine g_nameL (fun z4 h_z4 => ?_)
  refine g_lstoreN X0 hx hby d3_41 (pc' := 42) rfl (Ls' := #[.val (.long u), .second, .val (.long z4), .second]) rfl ?_
  refine g_lloadN X0 hx hby d3_42 (pc' := 43) rfl rfl ?_
  refine g_ldcL X0 hx hby hZ hown (hw _ (List.mem_of_getElem? (i := 14) rfl)) d3_43 (pc' := 46) rfl ?_
  refine g_lloadN X0 hx hby d3_46 (pc' := 47) rfl rfl ?_
  refine g_lloadN X0 hx hby d3_47 (pc' := 48) rfl rfl ?_
  refine g_lmul X0 hx hby d3_48 (pc' := 49) rfl ?_
  refine g_lsub X0 hx hby d3_49 (pc' := 50) rfl ?_
  refine g_lmul X0 hx hby d3_50 (pc' := 51) rfl ?_
  refine g_nameL (fun z5 h_z5 => ?_)
  refine g_lstoreN X0 hx hby d3_51 (pc' := 52) rfl (Ls' := #[.val (.long u), .second, .val (.long z5), .second]) rfl ?_
  refine g_lloadN X0 hx hby d3_52 (pc' := 53) rfl rfl ?_
  exact g_retL X0 hx hby hlk hret d3_53 (by decide) (by decide) (⟨⟨_, rfl, by subst h_z5; subst h_z4; subst h_z3; subst h_z2; subst h_z1; rfl⟩, e0, rfl⟩)
theorem ef_2 (m : MethodId) (u : Int64) : entryFrame m #[(.long u)] 4 = mkF m 0 #[.val (.long u), .second, .unset, .unset] [] := by first | (simp [entryFrame, mkF, argsToLocals, Value.category]; done) | rfl
theorem pn_2 : plainName "com/example/turnstone/turnstone/sketch/HashesMixPinLaw" = true := by first | (simp [plainName, overriddenIn]; done) | decide +kernel
theorem d2_0 : decode method_3_code 0 = .ok (.lload_n 0, 1) := by decide +kernel
theorem d2_1 : decode method_3_code 1 = .ok (.lstore_n 2, 1) := by decide +kernel
theorem d2_2 : decode method_3_code 2 = .ok (.lload_n 2, 1) := by decide +kernel
theorem d2_3 : decode method_3_code 3 = .ok (.lload_n 2, 1) := by decide +kernel
theorem d2_4 : decode method_3_code 4 = .ok (.bipush 31, 2) := by decide +kernel
theorem d2_6 : decode method_3_code 6 = .ok (.lushr, 1) := by decide +kernel
theorem d2_7 : decode method_3_code 7 = .ok (.lxor, 1) := by decide +kernel
theorem d2_8 : decode method_3_code 8 = .ok (.lload_n 2, 1) := by decide +kernel
theorem d2_9 : decode method_3_code 9 = .ok (.bipush 62, 2) := by decide +kernel
theorem d2_11 : decode method_3_code 11 = .ok (.lushr, 1) := by decide +kernel
theorem d2_12 : decode method_3_code 12 = .ok (.lxor, 1) := by decide +kernel
theorem d2_13 : decode method_3_code 13 = .ok (.ldc2_w 9, 3) := by decide +kernel
theorem d2_16 : decode method_3_code 16 = .ok (.invokestatic 11, 3) := by decide +kernel
theorem pd__J_J_229 : parseMethodDescriptor "(J)J" = some ⟨[.long], some .long⟩ := by decide +kernel
theorem d2_19 : decode method_3_code 19 = .ok (.lmul, 1) := by decide +kernel
theorem d2_20 : decode method_3_code 20 = .ok (.lstore_n 2, 1) := by decide +kernel
theorem d2_21 : decode method_3_code 21 = .ok (.lload_n 2, 1) := by decide +kernel
theorem d2_22 : decode method_3_code 22 = .ok (.lload_n 2, 1) := by decide +kernel
theorem d2_23 : decode method_3_code 23 = .ok (.bipush 27, 2) := by decide +kernel
theorem d2_25 : decode method_3_code 25 = .ok (.lushr, 1) := by decide +kernel
theorem d2_26 : decode method_3_code 26 = .ok (.lxor, 1) := by decide +kernel
theorem d2_27 : decode method_3_code 27 = .ok (.lload_n 2, 1) := by decide +kernel
theorem d2_28 : decode method_3_code 28 = .ok (.bipush 54, 2) := by decide +kernel
theorem d2_30 : decode method_3_code 30 = .ok (.lushr, 1) := by decide +kernel
theorem d2_31 : decode method_3_code 31 = .ok (.lxor, 1) := by decide +kernel
theorem d2_32 : decode method_3_code 32 = .ok (.ldc2_w 17, 3) := by decide +kernel
theorem d2_35 : decode method_3_code 35 = .ok (.invokestatic 11, 3) := by decide +kernel
theorem d2_38 : decode method_3_code 38 = .ok (.lmul, 1) := by decide +kernel
theorem d2_39 : decode method_3_code 39 = .ok (.lstore_n 2, 1) := by decide +kernel
theorem d2_40 : decode method_3_code 40 = .ok (.lload_n 2, 1) := by decide +kernel
theorem d2_41 : decode method_3_code 41 = .ok (.lload_n 2, 1) := by decide +kernel
theorem d2_42 : decode method_3_code 42 = .ok (.bipush 30, 2) := by decide +kernel
theorem d2_44 : decode method_3_code 44 = .ok (.lushr, 1) := by decide +kernel
theorem d2_45 : decode method_3_code 45 = .ok (.lxor, 1) := by decide +kernel
theorem d2_46 : decode method_3_code 46 = .ok (.lload_n 2, 1) := by decide +kernel
theorem d2_47 : decode method_3_code 47 = .ok (.bipush 60, 2) := by decide +kernel
theorem d2_49 : decode method_3_code 49 = .ok (.lushr, 1) := by decide +kernel
theorem d2_50 : decode method_3_code 50 = .ok (.lxor, 1) := by decide +kernel
theorem d2_51 : decode method_3_code 51 = .ok (.lreturn, 1) := by decide +kernel
set_option maxRecDepth 65536 in
set_option maxHeartbeats 40000000 in
theorem rm2 (l : Launch) (Z : State) (a0 : Array Value) (hw : ∀ d ∈ tables_1, d.before a0 Z = true) (u : Int64) (h0 : Heap)  :
    Ct l Z (⟨"com/example/turnstone/turnstone/sketch/HashesMixPinLaw", "unmix", "(J)J"⟩ : MethodName) method_3_code 4 (some .long) ({ frames := 1, cells := 0, slots := 0, locals := 24 } : Room) #[(.long u)] h0 (QL h0 (fun r => r = own_un u)) := by
  refine own_met (plainFor_of_name pn_2) (fun m => ef_2 m u) ?_
  intro p e s m below meth c T0 X0 hx hby hml hown hnm hret hlk hZ e0
  refine g_lloadN X0 hx hby d2_0 (pc' := 1) rfl rfl ?_
  refine g_lstoreN X0 hx hby d2_1 (pc' := 2) rfl (Ls' := #[.val (.long u), .second, .val (.long u), .second]) rfl ?_
  refine g_lloadN X0 hx hby d2_2 (pc' := 3) rfl rfl ?_
  refine g_lloadN X0 hx hby d2_3 (pc' := 4) rfl rfl ?_
  refine g_bipush X0 hx hby d2_4 (pc' := 6) rfl (n := (31 : Int32)) (by first | rfl | decide) ?_
  refine g_lushr X0 hx hby d2_6 (pc' := 7) rfl ?_
  refine g_lxor X0 hx hby d2_7 (pc' := 8) rfl ?_
  refine g_lloadN X0 hx hby d2_8 (pc' := 9) rfl rfl ?_
  refine g_bipush X0 hx hby d2_9 (pc' := 11) rfl (n := (62 : Int32)) (by first | rfl | decide) ?_
  refine g_lushr X0 hx hby d2_11 (pc' := 12) rfl ?_
  refine g_lxor X0 hx hby d2_12 (pc' := 13) rfl ?_
  refine g_ldcL X0 hx hby hZ hown (hw _ (List.mem_of_getElem? (i := 10) rfl)) d2_13 (pc' := 16) rfl ?_
  refine g_static X0 hx hby hZ hown hml rfl (hw _ (List.mem_of_getElem? (i := 11) rfl)) (hw _ (List.mem_of_getElem? (i := 12) rfl)) (hw _ (List.mem_of_getElem? (i := 8) rfl)) (hw _ (List.mem_of_getElem? (i := 13) rfl)) (by decide) e0 (rm3 l Z a0 hw (-7723592293110705685 : Int64) h0 ) pd__J_J_229 (argsL := [(.long (-7723592293110705685 : Int64))]) (rest := [(.long ((u ^^^ (XT.ushrL u (31 : Int32))) ^^^ (XT.ushrL u (62 : Int32))))]) rfl rfl rfl d2_16 (pc' := 19) rfl (by decide) (Nat.le_of_ble_eq_true rfl) (by decide) (by decide) ?_
  intro Tp16 vp16 Lp16 Xp16 qp16
  obtain ⟨⟨rp16, rfl, h_rp16⟩, ep16, rfl⟩ := qp16
  rw [List.append_nil] at Xp16
  replace Xp16 : Stand p l e ({ frames := 1, cells := 0, slots := 0, locals := 24 } : Room) s m _ below meth c Tp16 _ 0 0 := Xp16
  show Go p e below s (QL h0 (fun r => r = own_un u)) ({ frames := 1, cells := 0, slots := 0, locals := 24 } : Room).cells ({ frames := 1, cells := 0, slots := 0, locals := 24 } : Room).slots m Tp16 19 #[.val (.long u), .second, .val (.long u), .second] [(.long rp16), (.long ((u ^^^ (XT.ushrL u (31 : Int32))) ^^^ (XT.ushrL u (62 : Int32))))]
  refine g_lmul Xp16 hx hby d2_19 (pc' := 20) rfl ?_
  refine g_nameL (fun z1 h_z1 => ?_)
  refine g_lstoreN Xp16 hx hby d2_20 (pc' := 21) rfl (Ls' := #[.val (.long u), .second, .val (.long z1), .second]) rfl ?_
  refine g_lloadN Xp16 hx hby d2_21 (pc' := 22) rfl rfl ?_
  refine g_lloadN Xp16 hx hby d2_22 (pc' := 23) rfl rfl ?_
  refine g_bipush Xp16 hx hby d2_23 (pc' := 25) rfl (n := (27 : Int32)) (by first | rfl | decide) ?_
  refine g_lushr Xp16 hx hby d2_25 (pc' := 26) rfl ?_
  refine g_lxor Xp16 hx hby d2_26 (pc' := 27) rfl ?_
  refine g_lloadN Xp16 hx hby d2_27 (pc' := 28) rfl rfl ?_
  refine g_bipush Xp16 hx hby d2_28 (pc' := 30) rfl (n := (54 : Int32)) (by first | rfl | decide) ?_
  refine g_lushr Xp16 hx hby d2_30 (pc' := 31) rfl ?_
  refine g_lxor Xp16 hx hby d2_31 (pc' := 32) rfl ?_
  refine g_ldcL Xp16 hx hby hZ hown (hw _ (List.mem_of_getElem? (i := 15) rfl)) d2_32 (pc' := 35) rfl ?_
  refine g_static Xp16 hx hby hZ hown hml rfl (hw _ (List.mem_of_getElem? (i := 11) rfl)) (hw _ (List.mem_of_getElem? (i := 12) rfl)) (hw _ (List.mem_of_getElem? (i := 8) rfl)) (hw _ (List.mem_of_getElem? (i := 13) rfl)) (by decide) ep16 (rm3 l Z a0 hw (-4658895280553007687 : Int64) h0 ) pd__J_J_229 (argsL := [(.long (-4658895280553007687 : Int64))]) (rest := [(.long ((z1 ^^^ (XT.ushrL z1 (27 : Int32))) ^^^ (XT.ushrL z1 (54 : Int32))))]) rfl rfl rfl d2_35 (pc' := 38) rfl (by decide) (Nat.le_of_ble_eq_true rfl) (by decide) (by decide) ?_
  intro Tp35 vp35 Lp35 Xp35 qp35
  obtain ⟨⟨rp35, rfl, h_rp35⟩, ep35, rfl⟩ := qp35
  rw [List.append_nil] at Xp35
  replace Xp35 : Stand p l e ({ frames := 1, cells := 0, slots := 0, locals := 24 } : Room) s m _ below meth c Tp35 _ 0 0 := Xp35
  show Go p e below s (QL h0 (fun r => r = own_un u)) ({ frames := 1, cells := 0, slots := 0, locals := 24 } : Room).cells ({ frames := 1, cells := 0, slots := 0, locals := 24 } : Room).slots m Tp35 38 #[.val (.long u), .second, .val (.long z1), .second] [(.long rp35), (.long ((z1 ^^^ (XT.ushrL z1 (27 : Int32))) ^^^ (XT.ushrL z1 (54 : Int32))))]
  refine g_lmul Xp35 hx hby d2_38 (pc' := 39) rfl ?_
  refine g_nameL (fun z2 h_z2 => ?_)
  refine g_lstoreN Xp35 hx hby d2_39 (pc' := 40) rfl (Ls' := #[.val (.long u), .second, .val (.long z2), .second]) rfl ?_
  refine g_lloadN Xp35 hx hby d2_40 (pc' := 41) rfl rfl ?_
  refine g_lloadN Xp35 hx hby d2_41 (pc' := 42) rfl rfl ?_
  refine g_bipush Xp35 hx hby d2_42 (pc' := 44) rfl (n := (30 : Int32)) (by first | rfl | decide) ?_
  refine g_lushr Xp35 hx hby d2_44 (pc' := 45) rfl ?_
  refine g_lxor Xp35 hx hby d2_45 (pc' := 46) rfl ?_
  refine g_lloadN Xp35 hx hby d2_46 (pc' := 47) rfl rfl ?_
  refine g_bipush Xp35 hx hby d2_47 (pc' := 49) rfl (n := (60 : Int32)) (by first | rfl | decide) ?_
  refine g_lushr Xp35 hx hby d2_49 (pc' := 50) rfl ?_
  refine g_lxor Xp35 hx hby d2_50 (pc' := 51) rfl ?_
  exact g_retL Xp35 hx hby hlk hret d2_51 (by decide) (by decide) (⟨⟨_, rfl, by subst h_z2; subst h_rp35; subst h_z1; subst h_rp16; rfl⟩, ep35, rfl⟩)
theorem ef_0 (m : MethodId) (u : Int64) : entryFrame m #[(.long u)] maxLocals = mkF m 0 #[.val (.long u), .second] [] := by first | (simp [entryFrame, mkF, argsToLocals, Value.category, maxLocals]; done) | rfl
theorem pn_0 : plainName "com/example/turnstone/turnstone/sketch/HashesMixPinLaw" = true := by first | (simp [plainName, overriddenIn]; done) | decide +kernel
set_option maxRecDepth 65536 in
set_option maxHeartbeats 40000000 in
theorem law0 (l : Launch) (Z : State) (a0 : Array Value) (hw : ∀ d ∈ tables_1, d.before a0 Z = true) (ws : List Jvm.Cond) (u : Int64) (n0 : Nat) (h0 : Heap)  :
    MetFree l x (head1 (Jvm.Cond.code x code maxLocals ret :: ws) room_1) (fun a U => a = #[(.long u)] ∧ Z.Warmed39 U.vm ∧ U.heap = h0) (fun _ _ _ _ _ => True) (fun _ U o U' => ∃ v L, o = .returned v ∧ (Q0 n0) v U'.heap L ∧ FrameEnd U o U' L room_1.cells room_1.slots) := by
  refine own_met (plainFor_of_name pn_0) (fun m => ef_0 m u) ?_
  intro p e s m below meth c T0 X0 hx hby hml hown hnm hret hlk hZ e0
  refine g_lloadN X0 hx hby at_0 (pc' := 1) rfl rfl ?_
  refine g_static X0 hx hby hZ hown hml rfl (hw _ (List.mem_of_getElem? (i := 0) rfl)) (hw _ (List.mem_of_getElem? (i := 1) rfl)) (hw _ (List.mem_of_getElem? (i := 2) rfl)) (hw _ (List.mem_of_getElem? (i := 3) rfl)) (by decide) e0 (rm1 l Z a0 hw u h0 ) pd__J_J_229 (argsL := [(.long u)]) (rest := []) rfl rfl rfl at_1 (pc' := 4) rfl (by decide) (Nat.le_of_ble_eq_true rfl) (by decide) (by decide) ?_
  intro Tp1 vp1 Lp1 Xp1 qp1
  obtain ⟨⟨rp1, rfl, h_rp1⟩, ep1, rfl⟩ := qp1
  rw [List.append_nil] at Xp1
  replace Xp1 : Stand p l e room_1 s m _ below meth c Tp1 _ 0 0 := Xp1
  show Go p e below s (Q0 n0) room_1.cells room_1.slots m Tp1 4 #[.val (.long u), .second] [(.long rp1)]
  refine g_static Xp1 hx hby hZ hown hml rfl (hw _ (List.mem_of_getElem? (i := 6) rfl)) (hw _ (List.mem_of_getElem? (i := 7) rfl)) (hw _ (List.mem_of_getElem? (i := 8) rfl)) (hw _ (List.mem_of_getElem? (i := 9) rfl)) (by decide) ep1 (rm2 l Z a0 hw rp1 h0 ) pd__J_J_229 (argsL := [(.long rp1)]) (rest := []) rfl rfl rfl at_4 (pc' := 7) rfl (by decide) (Nat.le_of_ble_eq_true rfl) (by decide) (by decide) ?_
  intro Tp4 vp4 Lp4 Xp4 qp4
  obtain ⟨⟨rp4, rfl, h_rp4⟩, ep4, rfl⟩ := qp4
  rw [List.append_nil] at Xp4
  replace Xp4 : Stand p l e room_1 s m _ below meth c Tp4 _ 0 0 := Xp4
  show Go p e below s (Q0 n0) room_1.cells room_1.slots m Tp4 7 #[.val (.long u), .second] [(.long rp4)]
  refine g_lloadN Xp4 hx hby at_7 (pc' := 8) rfl rfl ?_
  refine g_lcmpne Xp4 hx hby at_8 (pc' := 9) rfl at_9 (pt := 16) (pf := 12) (by decide) (by decide) rfl (fun (h9 : ¬ rp4 = u) => (by exfalso; exact h9 (by rw [h_rp4, h_rp1]; exact own_law u))) (fun (h9 : rp4 = u) => ?_)
  have h9i : rp4.toInt = u.toInt := congrArg Int64.toInt h9
  refine g_iconst Xp4 hx hby at_12 (pc' := 13) rfl (n := (1 : Int32)) (by first | rfl | decide) ?_
  refine g_goto Xp4 hx hby at_13 (pc' := 17) (by decide) (by decide) ?_
  exact g_retZ Xp4 hx hby hlk (Or.inr rfl) hret at_17 (by decide) (by decide) (⟨rfl, Fr.nil n0⟩)
set_option maxRecDepth 65536 in
set_option maxHeartbeats 40000000 in
theorem comes_1 {Post : Tables → Env → Array Value → State → Outcome → State → Prop} (hpost : ∀ tb e args s v u, (limb_1_1.after args s (.returned v) u = true ∧ limb_1_2.after args s (.returned v) u = true ∧ True) → FrameEnd s (.returned v) u (Jvm.fieldLocs frame_1_writes args s ++ Jvm.arrayLocs frame_1_arrays args s ++ Jvm.staticLocs frame_1_statics s) 0 0 → Post tb e args s (.returned v) u) :
    ArmFor flags0 classFile x code maxLocals ret World_1 tables_1 room_1 Calls_1 rest_1 Pre_1 Post := by
  intro l hfl _ _ p e ha hc hk s m args below hf hA hF happ hP
  obtain ⟨hcalls, hrest, hpre⟩ := hP
  obtain ⟨-, -, -, hnamed, -, -, -, hat⟩ := (Spec.applies_iff hf).mp happ
  obtain ⟨hg, hn⟩ := and_e (Cond.before_iff.mp (show (Jvm.Cond.and given_1 narrow_1).before args s = true from hpre))
  obtain ⟨g1, g2⟩ := and_e hg
  obtain ⟨w0, rfl⟩ : ∃ w0 : Value, args = #[w0] := by
    have hs : args.size = 1 := by simpa [Cond.value, given_1] using g1
    obtain ⟨L⟩ := args
    match L, hs with
    | [w0], _ => exact ⟨w0, rfl⟩
  have hw := fun d (hd : d ∈ tables_1) => atoms_spec (ws := Jvm.Cond.code x code maxLocals ret :: tables_1) hat d (List.mem_cons_of_mem _ hd)
  have hfit : Fit s := fun {y c} hc i hi => by
    obtain ⟨ha, rfl⟩ := Array.getElem?_eq_some_iff.mp hc
    have q := List.all_eq_true.mp ((Array.all_eq_true_iff_forall_mem.mp hF) _ (Array.getElem_mem ha)) i (List.mem_range.mpr hi)
    simpa [Array.getElem?_eq_getElem hi] using q
  obtain ⟨i0, ei0⟩ := isL_v g2
  obtain rfl : w0 = (.long i0) := Option.some.inj ei0
  obtain ⟨n, o, h1, h2, h3, _, L, rfl, ⟨rfl, N⟩, hq⟩ := law0 l s _ hw tables_1 i0 s.heap.size s.heap  p e ha hc hk s m _ below hf ((Spec.applies_iff_loose hf).mp happ).1 ⟨rfl, State.Warmed39.refl s, rfl⟩ trivial
  refine ⟨n, _, h1, h2, h3, hpost _ _ _ _ _ _ ⟨Cond.after_iff.mpr rfl, Cond.after_iff.mpr (eq_i res_at (Term.int_eval (1)) rfl), trivial⟩ ⟨hq.1, hq.2.1, (hq.2.2.sift fun y hy => Or.inr (N y hy)).mono (by decide) (by decide)⟩⟩
theorem main_1_1 : Claimed_1_1 := comes_1 fun _ _ _ _ _ _ h hF => ⟨h.1, hF⟩
theorem main_1_2 : Claimed_1_2 := comes_1 fun _ _ _ _ _ _ h hF => ⟨h.2.1, hF⟩
end Jvm.Pilot.@@N@@
namespace Jvm.Pilot.@@N@@
open Jvm Jvm.ClassFile Sem Op Lib Jvm.Free Jvm.Stand Jvm.Pilot.@@N@@.Jvm.D
/-! MADE BY PROGRAM (witnessworld.py) out of the Statement's table words and the real class files: 9 classes; the members and pool entries that the words name. The judged class is class 1, her method 3. -/
namespace start1
open Jvm.ClassFile
def u (s : String) : CpInfo := .utf8 (stringToUtf16 s)
/-- a pool by its gaps: so many unusable entries, then the entry; so many at the end -/
def gap : Nat → List CpInfo → List CpInfo
  | 0, r => r
  | n + 1, r => .unusable :: gap n r
def poolList (es : List (Nat × CpInfo)) (last : Nat) : List CpInfo := es.foldr (fun e r => gap e.1 (e.2 :: r)) (gap last [])
def pool (es : List (Nat × CpInfo)) (last : Nat) : Array CpInfo := ⟨poolList es last⟩
def fileOf (pool : Array CpInfo) (this : Nat) (attrs : Array Attribute := #[]) (ms : Array MethodInfo := #[]) (fl : Nat := 33) (sup : Nat := 0) (ifs : Array Nat := #[]) (fds : Array FieldInfo := #[]) : ClassFile where
  minorVersion := 0
  majorVersion := 65
  constantPool := pool
  accessFlags := fl
  thisClass := this
  superClass := sup
  interfaces := ifs
  fields := fds
  methods := ms
  attributes := attrs
def plain (name : String) (sup : Option ClassId) : Class where
  name := name
  kind := .ordinary
  loader := none
  accessFlags := 33
  super := sup
  interfaces := #[]
  cf := none
  fields := #[]
  methods := #[]
  instanceTypes := #[]
  staticTypes := #[]
  resolved := #[]
  callSites := []
  init := .initialized
  statics := none
  mirror := none

def pool0 : Array CpInfo := pool [(5, u "<init>"), (0, u "()V"), (1, .class_ 10), (1, u "java/lang/Object")] 113

def k0m0 : Method := { name := "<init>", desc := "()V", sig := { parameters := [], returnType := none }, accessFlags := 1, code := none }
/-- java/lang/Object -/
def k0 : Class := { plain "java/lang/Object" none with
  accessFlags := 33
  interfaces := #[]
  cf := some (fileOf pool0 8 #[] #[{ accessFlags := 1, nameIndex := 5, descriptorIndex := 6, attributes := #[] }] 33 0 #[] #[])
  fields := #[]
  methods := #[k0m0]
  instanceTypes := #[]
  staticTypes := #[]
  resolved := Array.replicate 124 none
  statics := none }

def pool1 : Array CpInfo := pool [(2, .class_ 4), (1, u "java/lang/Object"), (0, u "<init>"), (0, u "()V"), (0, .long 2), (1, .long 10723151780598845931), (1, .methodref 12 13), (0, .class_ 14), (0, .nameAndType 15 16), (0, u "com/example/turnstone/turnstone/sketch/HashesMixPinLaw"), (0, u "inverse"), (0, u "(J)J"), (0, .long 13787848793156543929), (1, .methodref 20 21), (0, .class_ 22), (0, .nameAndType 23 16), (0, u "com/example/turnstone/turnstone/sketch/Hashes"), (0, u "mix"), (0, .methodref 12 25), (0, .nameAndType 26 16), (0, u "unmix"), (2, u "law"), (0, u "(J)Z")] 3

def k1m0 : Method := { name := "<init>", desc := "()V", sig := { parameters := [], returnType := none }, accessFlags := 2, code := none }
def k1c1 : Code := { maxStack := 8, maxLocals := 4, code := method_2_code, exceptionTable := #[], attributes := #[] }
def k1m1 : Method := { name := "inverse", desc := "(J)J", sig := { parameters := [.long], returnType := some .long }, accessFlags := 10, code := some k1c1 }
def k1c2 : Code := { maxStack := 5, maxLocals := 4, code := method_3_code, exceptionTable := #[], attributes := #[] }
def k1m2 : Method := { name := "unmix", desc := "(J)J", sig := { parameters := [.long], returnType := some .long }, accessFlags := 10, code := some k1c2 }
def k1c3 : Code := { maxStack := 4, maxLocals := 2, code := code, exceptionTable := #[], attributes := #[] }
def k1m3 : Method := { name := "law", desc := "(J)Z", sig := { parameters := [.long], returnType := some .boolean }, accessFlags := 9, code := some k1c3 }
/-- com/example/turnstone/turnstone/sketch/HashesMixPinLaw -/
def k1 : Class := { plain "com/example/turnstone/turnstone/sketch/HashesMixPinLaw" (some 0) with
  accessFlags := 49
  interfaces := #[]
  cf := some (fileOf pool1 12 #[] #[{ accessFlags := 2, nameIndex := 5, descriptorIndex := 6, attributes := #[] }, { accessFlags := 10, nameIndex := 15, descriptorIndex := 16, attributes := #[] }, { accessFlags := 10, nameIndex := 26, descriptorIndex := 16, attributes := #[] }, { accessFlags := 9, nameIndex := 29, descriptorIndex := 30, attributes := #[] }] 49 2 #[] #[])
  fields := #[]
  methods := #[k1m0, k1m1, k1m2, k1m3]
  instanceTypes := #[]
  staticTypes := #[]
  resolved := Array.replicate 34 none
  statics := none }

def pool2 : Array CpInfo := pool [(2, .class_ 4), (1, u "java/lang/Object"), (0, u "<init>"), (0, u "()V"), (0, .long 13787848793156543929), (1, .long 10723151780598845931), (1, .class_ 12), (0, u "com/example/turnstone/turnstone/sketch/Hashes"), (4, u "mix"), (0, u "(J)J"), (16, u "GOLDEN_GAMMA"), (0, u "J"), (1, u "FNV_PRIME")] 13

def k2m0 : Method := { name := "<init>", desc := "()V", sig := { parameters := [], returnType := none }, accessFlags := 2, code := none }
def k2c1 : Code := { maxStack := 5, maxLocals := 4, code := prog_17_method_2_code, exceptionTable := #[], attributes := #[] }
def k2m1 : Method := { name := "mix", desc := "(J)J", sig := { parameters := [.long], returnType := some .long }, accessFlags := 8, code := some k2c1 }
/-- com/example/turnstone/turnstone/sketch/Hashes -/
def k2 : Class := { plain "com/example/turnstone/turnstone/sketch/Hashes" (some 0) with
  accessFlags := 48
  interfaces := #[]
  cf := some (fileOf pool2 11 #[] #[{ accessFlags := 2, nameIndex := 5, descriptorIndex := 6, attributes := #[] }, { accessFlags := 8, nameIndex := 17, descriptorIndex := 18, attributes := #[] }] 48 2 #[] #[{ accessFlags := 26, nameIndex := 35, descriptorIndex := 36, attributes := #[] }, { accessFlags := 26, nameIndex := 38, descriptorIndex := 36, attributes := #[] }])
  fields := #[{ name := "GOLDEN_GAMMA", type := .long, accessFlags := 26, slot := 0, constantValue := 0 }, { name := "FNV_PRIME", type := .long, accessFlags := 26, slot := 1, constantValue := 0 }]
  methods := #[k2m0, k2m1]
  instanceTypes := #[]
  staticTypes := #[.long, .long]
  resolved := Array.replicate 52 none
  statics := none }

def pool3 : Array CpInfo := pool [(1, u "java/lang/Cloneable"), (0, .class_ 1), (0, u "java/lang/Object"), (0, .class_ 3)] 3

/-- java/lang/Cloneable -/
def k3 : Class := { plain "java/lang/Cloneable" (some 0) with
  accessFlags := 1537
  interfaces := #[]
  cf := some (fileOf pool3 2 #[] #[] 1537 4 #[] #[])
  fields := #[]
  methods := #[]
  instanceTypes := #[]
  staticTypes := #[]
  resolved := Array.replicate 8 none
  statics := none }

def pool4 : Array CpInfo := pool [(1, u "java/io/Serializable"), (0, .class_ 1), (0, u "java/lang/Object"), (0, .class_ 3)] 3

/-- java/io/Serializable -/
def k4 : Class := { plain "java/io/Serializable" (some 0) with
  accessFlags := 1537
  interfaces := #[]
  cf := some (fileOf pool4 2 #[] #[] 1537 4 #[] #[])
  fields := #[]
  methods := #[]
  instanceTypes := #[]
  staticTypes := #[]
  resolved := Array.replicate 8 none
  statics := none }

/-- the primitive byte -/
def k5 : Class := { plain "byte" none with kind := .primitive 'B', accessFlags := 0x411 }
/-- [B -/
def k6 : Class := { plain "[B" (some 0) with kind := .array 5 .byte, interfaces := #[3, 4], accessFlags := 1041 }

/-- the primitive int -/
def k7 : Class := { plain "int" none with kind := .primitive 'I', accessFlags := 0x411 }
/-- [I -/
def k8 : Class := { plain "[I" (some 0) with kind := .array 7 .int, interfaces := #[3, 4], accessFlags := 1041 }

def heap : Heap := #[]
def classes : Array Class := #[k0, k1, k2, k3, k4, k5, k6, k7, k8]
def interned : List (Array UInt16 × Addr) := []
def slotsUsed : Nat := 0
def theMethod : MethodId := ⟨1, 3⟩
def args0 : Array Value := #[.long 5]
def aboutOver (below : List Frame) : State where
  vm := { classes := classes, interned := interned.toArray }
  heap := heap
  slotsUsed := slotsUsed
  threads := #[{ frames := .invoking theMethod args0 :: below }]
def below0 : List Frame := [.native { method := ⟨0, 0⟩, args := #[] }]
def about1 : State := aboutOver below0
def p0 : Program := .bare "" "" ""
def e0 : Env := launch0.env 0 0 0
theorem w_frames : about1.frames = Frame.invoking theMethod args0 :: below0 := rfl
set_option maxRecDepth 65536 in
theorem w_args : argsFit about1.vm theMethod args0 = true := by decide +kernel
set_option maxRecDepth 65536 in
theorem w_heap : heapFits about1 = true := by decide +kernel
set_option maxRecDepth 65536 in
theorem w_runnable : about1.curStatus? = some .runnable := by decide +kernel
set_option maxRecDepth 65536 in
theorem w_alone : about1.alone = true := by decide +kernel
set_option maxRecDepth 65536 in
theorem w_named : about1.methodNamed? x = some theMethod := by decide +kernel
set_option maxRecDepth 65536 in
theorem w_hears : about1.hears theMethod below0 = true := by decide +kernel
set_option maxRecDepth 65536 in
theorem w_ripe : about1.ripe theMethod args0 below0 = true := by decide +kernel
theorem w_running : about1.status = .running := rfl
set_option maxRecDepth 65536 in
theorem w_room : about1.hasRoom e0.platform room_1 = true :=
  launch0.hasRoom_least _ room_1 (by decide +kernel) (by decide +kernel) (by decide +kernel) (by decide +kernel) (by decide +kernel) (by decide +kernel)
theorem allAtoms_all (ts : List Jvm.Cond) (a : Array Jvm.Value) (st : Jvm.State) : (allAtoms ts).before a st = ts.all (fun c => c.before a st) := by
  induction ts with
  | nil => rfl
  | cons c t ih =>
    show (Jvm.Cond.and c (allAtoms t)).before a st = _
    rw [Jvm.Cond.before_and, ih, List.all_cons]
def words1 : List Jvm.Cond := Jvm.Cond.code x code maxLocals ret :: tables_1
/-- a 'code' word, met by the world's own term for the bytes: nothing is compared byte by byte -/
theorem code_word {y : MethodName} {bytes : ByteArray} {mx : Nat} {rt : Option FieldType} {a : Array Value} {s : State} {m : MethodId} {meth : Method} {c : Code} (h1 : s.methodNamed? y = some m) (h2 : s.vm.method? m = some meth) (h3 : meth.code = some c) (h4 : c.code = bytes)
    (h5 : (c.maxLocals == mx && c.exceptionTable.isEmpty && decide (c.maxStack ≤ mostOperands) && decide (meth.sig.returnType = rt) && !meth.locks && decide (parseMethodDescriptor y.desc = some meth.sig)) = true) : (Jvm.Cond.code y bytes mx rt).before a s = true := by
  simp only [Bool.and_eq_true, beq_iff_eq, Bool.not_eq_true', decide_eq_true_eq] at h5
  obtain ⟨⟨⟨⟨⟨g1, g2⟩, g3⟩, g4⟩, g5⟩, g6⟩ := h5
  simp [Cond.before, Cond.holds, Cond.value, h1, h2, h3, h4, g1, g2, g3, g4, g5, g6]
def isCode : Jvm.Cond → Bool
  | .code _ _ _ _ => true
  | _ => false
theorem all_split {L : List Jvm.Cond} {P : Jvm.Cond → Bool} (h1 : L.all (fun c => isCode c || P c) = true) (h2 : ∀ c ∈ L.filter isCode, P c = true) : L.all P = true := by
  refine List.all_eq_true.mpr fun c hc => ?_
  have h := List.all_eq_true.mp h1 c hc
  rcases Bool.eq_false_or_eq_true (isCode c) with hi | hi
  · exact h2 c (List.mem_filter.mpr ⟨hc, hi⟩)
  · simpa [hi] using h
set_option maxRecDepth 65536 in
theorem w_c0 : (Jvm.Cond.code x code maxLocals ret).before args0 about1 = true := code_word (m := ⟨1, 3⟩) (meth := k1m3) (c := k1c3) (by decide +kernel) rfl rfl rfl (by decide +kernel)
set_option maxRecDepth 65536 in
theorem w_c1 : (Jvm.Cond.code ({ cls := "com/example/turnstone/turnstone/sketch/Hashes", name := "mix", desc := "(J)J" } : Jvm.MethodName) prog_17_method_2_code (4 : Nat) (Option.some Jvm.ClassFile.FieldType.long)).before args0 about1 = true := code_word (m := ⟨2, 1⟩) (meth := k2m1) (c := k2c1) (by decide +kernel) rfl rfl rfl (by decide +kernel)
set_option maxRecDepth 65536 in
theorem w_c2 : (Jvm.Cond.code ({ cls := "com/example/turnstone/turnstone/sketch/HashesMixPinLaw", name := "unmix", desc := "(J)J" } : Jvm.MethodName) method_3_code (4 : Nat) (Option.some Jvm.ClassFile.FieldType.long)).before args0 about1 = true := code_word (m := ⟨1, 2⟩) (meth := k1m2) (c := k1c2) (by decide +kernel) rfl rfl rfl (by decide +kernel)
set_option maxRecDepth 65536 in
theorem w_c3 : (Jvm.Cond.code ({ cls := "com/example/turnstone/turnstone/sketch/HashesMixPinLaw", name := "inverse", desc := "(J)J" } : Jvm.MethodName) method_2_code (4 : Nat) (Option.some Jvm.ClassFile.FieldType.long)).before args0 about1 = true := code_word (m := ⟨1, 1⟩) (meth := k1m1) (c := k1c1) (by decide +kernel) rfl rfl rfl (by decide +kernel)
def codes1 : List Jvm.Cond := [Jvm.Cond.code x code maxLocals ret, Jvm.Cond.code ({ cls := "com/example/turnstone/turnstone/sketch/Hashes", name := "mix", desc := "(J)J" } : Jvm.MethodName) prog_17_method_2_code (4 : Nat) (Option.some Jvm.ClassFile.FieldType.long), Jvm.Cond.code ({ cls := "com/example/turnstone/turnstone/sketch/HashesMixPinLaw", name := "unmix", desc := "(J)J" } : Jvm.MethodName) method_3_code (4 : Nat) (Option.some Jvm.ClassFile.FieldType.long), Jvm.Cond.code ({ cls := "com/example/turnstone/turnstone/sketch/HashesMixPinLaw", name := "inverse", desc := "(J)J" } : Jvm.MethodName) method_2_code (4 : Nat) (Option.some Jvm.ClassFile.FieldType.long)]
set_option maxRecDepth 65536 in
theorem codes_eq : words1.filter isCode = codes1 := rfl
theorem w_codes : ∀ c ∈ words1.filter isCode, c.before args0 about1 = true := by
  rw [codes_eq]
  intro c hc
  simp only [codes1, List.mem_cons, List.not_mem_nil, or_false] at hc
  rcases hc with rfl | rfl | rfl | rfl
  · exact w_c0
  · exact w_c1
  · exact w_c2
  · exact w_c3
set_option maxRecDepth 65536 in
theorem w_t1 : words1.all (fun c => isCode c || c.before args0 about1) = true := by decide +kernel
theorem w_tables : (allAtoms (Jvm.Cond.code x code maxLocals ret :: tables_1)).before args0 about1 = true := by
  rw [allAtoms_all]
  show words1.all (fun c => c.before args0 about1) = true
  refine all_split ?_ w_codes
  rw [w_t1]
set_option maxRecDepth 65536 in
theorem w_case : (Jvm.Cond.and given_1 narrow_1).before args0 about1 = true := by decide +kernel
theorem w_applies : (headSpec (Jvm.Cond.code x code maxLocals ret :: tables_1) room_1).applies x e0.platform about1 = true :=
  (Spec.applies_iff w_frames).mpr ⟨w_running, w_runnable, w_alone, w_named, w_hears, w_ripe, w_room, w_tables⟩
theorem atStart : AtStart classFile x code maxLocals ret World_1 tables_1 room_1 Calls_1 rest_1 Pre_1 launch0 p0 e0 about1 theMethod args0 below0 :=
  ⟨lists_1, trivial, launch0.admits_env _ _ _, launch0.least_env, fairChoices_fair.cas, fairChoices_fair.clock, w_frames, w_args, w_heap, w_applies, trivial, trivial, w_case⟩
end start1
theorem witness_1 : WitnessClaimed_1 := ⟨start1.p0, start1.e0, start1.about1, start1.theMethod, start1.args0, start1.below0, start1.atStart⟩
end Jvm.Pilot.@@N@@
