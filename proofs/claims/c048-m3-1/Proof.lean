import JvmDerived
import JvmDerived.Pilot.@@N@@Statement
import JvmDerived.Pilot.@@N@@Code
set_option linter.unusedVariables false
set_option linter.unusedSimpArgs false
namespace Jvm.Pilot.@@N@@
open Jvm Jvm.ClassFile Sem Op Lib Jvm.Free Jvm.Stand Jvm.LawKit Jvm.RoadKit Bundle Jvm.Pilot.@@N@@.Jvm.D
section OwnKit
variable {p : Program} {l : Launch} {e : Env} {R : Room} {s : State} {m : MethodId} {args : Array Value} {below : List Frame} {meth : Method} {c : Code} {T : State} {locs : List Loc} {cells slots : Nat} {bc : ByteArray} {Q : Option Value → Heap → List Loc → Prop} {mc ms : Nat} {Z : State} {a0 : Array Value} {h : Heap} {pc pc' pt pf : Nat} {Ls : Array Slot} {st rest : List Value}
/-- from this frame over T the invocation comes to its end by returning, and Q holds there -/
def Go (p : Program) (e : Env) (below : List Frame) (s : State) (Q : Option Value → Heap → List Loc → Prop) (mc ms : Nat) (m : MethodId) (T : State) (pc : Nat) (Ls : Array Slot) (st : List Value) : Prop :=
  ∃ s₂ o, Steps p.tables e below (T.setTop (mkF m pc Ls st)) s₂ ∧ s₂.status = .running ∧ Ended s₂ below o ∧ ∃ v L, o = .returned v ∧ Q v s₂.heap L ∧ FrameEnd s o s₂ L mc ms
theorem Go.of {T' : State} {Ls' : Array Slot} {st' : List Value} (k : ∀ t, Steps p.tables e below (T'.setTop (mkF m pc' Ls' st')) t → Steps p.tables e below (T.setTop (mkF m pc Ls st)) t) (g : Go p e below s Q mc ms m T' pc' Ls' st') : Go p e below s Q mc ms m T pc Ls st := by
  obtain ⟨s₂, o, h1, h2⟩ := g
  exact ⟨s₂, o, k _ h1, h2⟩
/-- a method's contract, as a caller takes it -/
def Ct (l : Launch) (Z : State) (y : MethodName) (bytes : ByteArray) (maxL : Nat) (ret : Option FieldType) (rm : Room) (as' : Array Value) (h : Heap) (Q : Option Value → Heap → List Loc → Prop) : Prop :=
  MetFree l y (head1 [Jvm.Cond.code y bytes maxL ret] rm) (fun a U => a = as' ∧ Z.Warmed39 U.vm ∧ U.heap = h) (fun _ _ _ _ _ => True) (fun _ U o U' => ∃ v L, o = .returned v ∧ Q v U'.heap L ∧ FrameEnd U o U' L rm.cells rm.slots)
theorem own_met {y : MethodName} {bytes : ByteArray} {maxL : Nat} {ret : Option FieldType} {ws : List Jvm.Cond} {rm : Room} {as' : Array Value}
    (hpl : plainFor y = true) (hef : ∀ m, entryFrame m as' maxL = mkF m 0 Ls [])
    (body : ∀ (p : Program) (e : Env) (s : State) (m : MethodId) (below : List Frame) (meth : Method) (c : Code) (T : State), Stand p l e rm s m as' below meth c T [] 0 0 → p.tables.exec = Jvm.exec → c.code = bytes → c.maxLocals = maxL →
      s.vm.findClass y.cls = some m.cls → meth.name = y.name → meth.sig.returnType = ret → meth.locks = false → Z.Warmed39 s.vm → T.heap = h → Go p e below s Q mc ms m T 0 Ls []) :
    MetFree l y (head1 (Jvm.Cond.code y bytes maxL ret :: ws) rm) (fun a U => a = as' ∧ Z.Warmed39 U.vm ∧ U.heap = h) (fun _ _ _ _ _ => True) (fun _ U o U' => ∃ v L, o = .returned v ∧ Q v U'.heap L ∧ FrameEnd U o U' L mc ms) := by
  refine MetFree.of_bodySF hpl hisR ?_
  intro p e s m args below meth c s₁ Bd hml0 hP hK
  obtain ⟨rfl, hZ, hh⟩ := hP
  obtain ⟨s₂, o, h1, h2, h3, v, L, h4, h5, h6⟩ := body p e s m below meth c s₁ (Stand.of_body Bd) Bd.exec Bd.bytes hml0 (findClass_of_methodNamed Bd.named) (name_of_methodNamed Bd.named Bd.method).1 Bd.returns Bd.notSynchronized hZ (by rw [← hh, Bd.state]; rfl)
  exact ⟨s₂, o, castTop (hef m) h1, h2, h3, v, L, h4, h5, h6⟩
theorem g_nameL {x : Int64} (k : ∀ z : Int64, z = x → Go p e below s Q mc ms m T pc Ls (.long z :: rest)) : Go p e below s Q mc ms m T pc Ls (.long x :: rest) := k x rfl
theorem g_iloadN (X : Stand p l e R s m args below meth c T locs cells slots) (hx : p.tables.exec = Jvm.exec) (hby : c.code = bc) {n : Fin 4} {v : Int32} (hd : decode bc pc = .ok (.iload_n n, 1)) (hp : pc + 1 = pc') (hl : Ls[n.val]? = some (.val (.int v))) (k : Go p e below s Q mc ms m T pc' Ls (.int v :: st)) : Go p e below s Q mc ms m T pc Ls st := by
  subst hp; exact Go.of (fun _ q => XS.iloadN X.here hx rfl (hb hby hd) hl q) k
theorem g_lloadN (X : Stand p l e R s m args below meth c T locs cells slots) (hx : p.tables.exec = Jvm.exec) (hby : c.code = bc) {n : Fin 4} {v : Int64} (hd : decode bc pc = .ok (.lload_n n, 1)) (hp : pc + 1 = pc') (hl : Ls[n.val]? = some (.val (.long v))) (k : Go p e below s Q mc ms m T pc' Ls (.long v :: st)) : Go p e below s Q mc ms m T pc Ls st := by
  subst hp; exact Go.of (fun _ q => XS.lloadN X.here hx rfl (hb hby hd) hl q) k
theorem g_lstoreN (X : Stand p l e R s m args below meth c T locs cells slots) (hx : p.tables.exec = Jvm.exec) (hby : c.code = bc) {n : Fin 4} {v : Int64} {Ls' : Array Slot} (hd : decode bc pc = .ok (.lstore_n n, 1)) (hp : pc + 1 = pc') (hl : storeLocals Ls n.val (.long v) = some Ls') (k : Go p e below s Q mc ms m T pc' Ls' rest) : Go p e below s Q mc ms m T pc Ls (.long v :: rest) := by
  subst hp; exact Go.of (fun _ q => XS.lstoreN X.here hx rfl (hb hby hd) rfl hl q) k
theorem g_iconst (X : Stand p l e R s m args below meth c T locs cells slots) (hx : p.tables.exec = Jvm.exec) (hby : c.code = bc) {i : Int} {n : Int32} (hd : decode bc pc = .ok (.iconst i, 1)) (hp : pc + 1 = pc') (hn : Int32.ofInt i = n) (k : Go p e below s Q mc ms m T pc' Ls (.int n :: st)) : Go p e below s Q mc ms m T pc Ls st := by
  subst hp; exact Go.of (fun _ q => XS.iconst X.here hx rfl (hb hby hd) (by rw [hn]; exact q)) k
theorem g_ladd (X : Stand p l e R s m args below meth c T locs cells slots) (hx : p.tables.exec = Jvm.exec) (hby : c.code = bc) {x y : Int64} (hd : decode bc pc = .ok (.ladd, 1)) (hp : pc + 1 = pc')  (k : Go p e below s Q mc ms m T pc' Ls (.long (x + y) :: rest)) : Go p e below s Q mc ms m T pc Ls (.long y :: .long x :: rest) := by
  subst hp; exact Go.of (fun _ q => XS.ladd X.here hx rfl (hb hby hd) rfl q) k
theorem g_lmul (X : Stand p l e R s m args below meth c T locs cells slots) (hx : p.tables.exec = Jvm.exec) (hby : c.code = bc) {x y : Int64} (hd : decode bc pc = .ok (.lmul, 1)) (hp : pc + 1 = pc')  (k : Go p e below s Q mc ms m T pc' Ls (.long (x * y) :: rest)) : Go p e below s Q mc ms m T pc Ls (.long y :: .long x :: rest) := by
  subst hp; exact Go.of (fun _ q => XS.lmul X.here hx rfl (hb hby hd) rfl q) k
theorem g_ldiv (X : Stand p l e R s m args below meth c T locs cells slots) (hx : p.tables.exec = Jvm.exec) (hby : c.code = bc) {x y : Int64} (hd : decode bc pc = .ok (.ldiv, 1)) (hp : pc + 1 = pc') (hy : y ≠ 0) (k : Go p e below s Q mc ms m T pc' Ls (.long (x / y) :: rest)) : Go p e below s Q mc ms m T pc Ls (.long y :: .long x :: rest) := by
  subst hp; exact Go.of (fun _ q => XS.ldiv X.here hx rfl (hb hby hd) rfl hy q) k
theorem g_i2l (X : Stand p l e R s m args below meth c T locs cells slots) (hx : p.tables.exec = Jvm.exec) (hby : c.code = bc) {x : Int32} (hd : decode bc pc = .ok (.i2l, 1)) (hp : pc + 1 = pc')  (k : Go p e below s Q mc ms m T pc' Ls (.long (x.toInt64) :: rest)) : Go p e below s Q mc ms m T pc Ls (.int x :: rest) := by
  subst hp; exact Go.of (fun _ q => XS.i2l X.here hx rfl (hb hby hd) rfl q) k
theorem g_goto (X : Stand p l e R s m args below meth c T locs cells slots) (hx : p.tables.exec = Jvm.exec) (hby : c.code = bc) {i : Int} (hd : decode bc pc = .ok (.goto i, 3)) (ho : 0 ≤ (pc : Int) + i) (hp : ((pc : Int) + i).toNat = pc') (k : Go p e below s Q mc ms m T pc' Ls st) : Go p e below s Q mc ms m T pc Ls st := Go.of (fun _ q => XS.goto X.here hx rfl rfl (hb hby hd) ho hp q) k
theorem own_hne (x y : Int32) : if_icmp.holds .ne x y = decide (¬ x = y) := by by_cases q : x = y <;> simp [if_icmp.holds, q]
theorem g_ifc (X : Stand p l e R s m args below meth c T locs cells slots) (hx : p.tables.exec = Jvm.exec) (hby : c.code = bc) {cd : ClassFile.Cond} {i : Int} {x : Int32} {P : Prop} [Decidable P] (hP : if_icmp.holds cd x 0 = decide P) (hd : decode bc pc = .ok (.ifCond cd i, 3)) (ho : 0 ≤ (pc : Int) + i) (hp : ((pc : Int) + i).toNat = pt) (hf : pc + 3 = pf) (ky : P → Go p e below s Q mc ms m T pt Ls rest) (kn : ¬ P → Go p e below s Q mc ms m T pf Ls rest) : Go p e below s Q mc ms m T pc Ls (.int x :: rest) := by
  subst hf
  by_cases q : P
  · exact Go.of (fun _ z => XS.ifYes X.here hx rfl rfl (hb hby hd) rfl (by rw [if0, hP]; exact decide_eq_true q) ho hp z) (ky q)
  · exact Go.of (fun _ z => XS.ifNo X.here hx rfl (hb hby hd) rfl (by rw [if0, hP]; exact decide_eq_false q) z) (kn q)
theorem g_ifne (X : Stand p l e R s m args below meth c T locs cells slots) (hx : p.tables.exec = Jvm.exec) (hby : c.code = bc) {i : Int} {x : Int32} (hd : decode bc pc = .ok (.ifCond .ne i, 3)) (ho : 0 ≤ (pc : Int) + i) (hp : ((pc : Int) + i).toNat = pt) (hf : pc + 3 = pf) (ky : ¬ x = 0 → Go p e below s Q mc ms m T pt Ls rest) (kn : x = 0 → Go p e below s Q mc ms m T pf Ls rest) : Go p e below s Q mc ms m T pc Ls (.int x :: rest) :=
  g_ifc X hx hby (own_hne x 0) hd ho hp hf ky (fun q => kn (Decidable.not_not.mp q))
theorem own_cmp (x y : Int64) : XT.cmpL x y = lcmpW x y := by simp only [XT.cmpL, lcmpW, gt_iff_lt]
theorem own_lc (x y : Int64) : ((lcmpW x y).toInt < 0 ↔ x.toInt < y.toInt) ∧ (0 < (lcmpW x y).toInt ↔ y.toInt < x.toInt) ∧ (lcmpW x y = 0 ↔ x = y) := by
  refine ⟨?_, ?_, lw_eq x y⟩
  · rw [← Int64.lt_iff_toInt_lt, ← lw_lt, Int32.lt_iff_toInt_lt]; rfl
  · rw [← Int64.lt_iff_toInt_lt, ← lw_gt, Int32.lt_iff_toInt_lt]; rfl
theorem g_lcmpne (X : Stand p l e R s m args below meth c T locs cells slots) (hx : p.tables.exec = Jvm.exec) (hby : c.code = bc) {i : Int} {x y : Int64} (hd : decode bc pc = .ok (.lcmp, 1)) (hp1 : pc + 1 = pc') (hd' : decode bc pc' = .ok (.ifCond .ne i, 3)) (ho : 0 ≤ (pc' : Int) + i) (hp : ((pc' : Int) + i).toNat = pt) (hf : pc' + 3 = pf) (ky : ¬ x = y → Go p e below s Q mc ms m T pt Ls rest) (kn : x = y → Go p e below s Q mc ms m T pf Ls rest) : Go p e below s Q mc ms m T pc Ls (.long y :: .long x :: rest) := by
  subst hp1
  refine Go.of (fun _ q => XT.lcmp X.here hx rfl (hb hby hd) rfl (by rw [own_cmp]; exact q)) (g_ifne X hx hby hd' ho hp hf (fun q => ky (fun z => q ((own_lc x y).2.2.mpr z))) (fun q => kn ((own_lc x y).2.2.mp q)))
theorem g_ret (X : Stand p l e R s m args below meth c T locs cells slots) (hx : p.tables.exec = Jvm.exec) (hby : c.code = bc) (hlk : meth.locks = false) {t : FieldType} {w : Value} {i : Instr} (hret : meth.sig.returnType = some t) (hn : narrow t w = w) (hi : (i = .ireturn ∧ (t = .int ∨ t = .boolean ∨ t = .byte ∨ t = .char ∨ t = .short) ∧ ∃ z, w = .int z) ∨ (i = .lreturn ∧ t = .long ∧ ∃ z, w = .long z) ∨ (i = .dreturn ∧ t = .double ∧ ∃ z, w = .double z) ∨ (i = .freturn ∧ t = .float ∧ ∃ z, w = .float z) ∨ (i = .areturn ∧ t.isReference = true ∧ w.isRef = true)) (hd : decode bc pc = .ok (i, 1)) (hc : cells ≤ mc) (hs : slots ≤ ms) (hq : Q (some w) T.heap locs) : Go p e below s Q mc ms m T pc Ls (w :: rest) := by
  obtain ⟨fs, hr, hrun, hended, hW, hsame⟩ := X.leave (v := some w) (fun h => by rw [hret] at h; cases h) hlk
  exact ⟨_, _, retOut X hx hret hn hi (hb hby hd) hr, hrun, hended, _, _, rfl, hq, ⟨_, rfl⟩, hW, hsame.mono hc hs⟩
theorem g_retL (X : Stand p l e R s m args below meth c T locs cells slots) (hx : p.tables.exec = Jvm.exec) (hby : c.code = bc) (hlk : meth.locks = false) {z : Int64} (hret : meth.sig.returnType = some .long) (hd : decode bc pc = .ok (.lreturn, 1)) (hc : cells ≤ mc) (hs : slots ≤ ms) (hq : Q (some (.long z)) T.heap locs) : Go p e below s Q mc ms m T pc Ls (.long z :: rest) := g_ret X hx hby hlk hret rfl (Or.inr (Or.inl ⟨rfl, rfl, _, rfl⟩)) hd hc hs hq
theorem g_retZ (X : Stand p l e R s m args below meth c T locs cells slots) (hx : p.tables.exec = Jvm.exec) (hby : c.code = bc) (hlk : meth.locks = false) {z : Int32} (hz : z = 0 ∨ z = 1) (hret : meth.sig.returnType = some .boolean) (hd : decode bc pc = .ok (.ireturn, 1)) (hc : cells ≤ mc) (hs : slots ≤ ms) (hq : Q (some (.int z)) T.heap locs) : Go p e below s Q mc ms m T pc Ls (.int z :: rest) := g_ret X hx hby hlk hret (by rcases hz with rfl | rfl <;> rfl) (Or.inl ⟨rfl, Or.inr (Or.inl rfl), _, rfl⟩) hd hc hs hq
theorem g_ldcL (X : Stand p l e R s m args below meth c T locs cells slots) (hx : p.tables.exec = Jvm.exec) (hby : c.code = bc) (hZ : Z.Warmed39 s.vm) {own : String} (hown : s.vm.findClass own = some m.cls) {n : Nat} {v : Int64} (w : (Jvm.Cond.constantLong own n v).before a0 Z = true) (hd : decode bc pc = .ok (.ldc2_w n, 3)) (hp : pc + 3 = pc') (k : Go p e below s Q mc ms m T pc' Ls (.long v :: st)) : Go p e below s Q mc ms m T pc Ls st := by
  subst hp; exact Go.of (X.ldc2Long hx hown (mvT hZ w) (g := mkF m pc Ls st) rfl (hb hby hd)) k
theorem g_getS (X : Stand p l e R s m args below meth c T locs cells slots) (hx : p.tables.exec = Jvm.exec) (hby : c.code = bc) (hZ : Z.Warmed39 s.vm) {own : String} (hown : s.vm.findClass own = some m.cls) (eT : T.heap = h) {i : Nat} {O n d : String} {v : Value} (w : (Jvm.Cond.fieldLink own i O n d).before a0 Z = true) (F : Sta Z h O n d v) (hd : decode bc pc = .ok (.getstatic i, 3)) (hp : pc + 3 = pc') (k : ∀ T', Stand p l e R s m args below meth c T' locs cells slots → T'.heap = h → Go p e below s Q mc ms m T' pc' Ls (v :: st)) : Go p e below s Q mc ms m T pc Ls st := by
  subst hp
  obtain ⟨T', X', e', st'⟩ := getS2 X hx hZ hown (host := "") (Or.inl w) Via.refl eT F (g := mkF m pc Ls st) rfl (hb hby hd)
  exact Go.of st' (k T' X' e')
theorem g_static (X : Stand p l e R s m args below meth c T locs cells slots) (hx : p.tables.exec = Jvm.exec) (hby : c.code = bc) (hZ : Z.Warmed39 s.vm) {own : String} (hown : s.vm.findClass own = some m.cls) {i ML : Nat} {y : MethodName} {bytes : ByteArray} {maxL : Nat} {ret : Option FieldType} {rm : Room} {as' : Array Value} {QC : Option Value → Heap → List Loc → Prop} (hml : c.maxLocals = ML) (hls : Ls.size = ML) (w1 : (Jvm.Cond.methodLink own i y).before a0 Z = true) (w2 : (Jvm.Cond.static y).before a0 Z = true) (w3 : (Jvm.Cond.initialized y.cls).before a0 Z = true) (w4 : (Jvm.Cond.code y bytes maxL ret).before a0 Z = true) (hy : y.cls ≠ "java/lang/invoke/MethodHandle" ∧ y.cls ≠ "java/lang/invoke/VarHandle") (eT : T.heap = h) (M : Ct l Z y bytes maxL ret rm as' h QC) {ps : List FieldType} {r : Option FieldType} (pd : parseMethodDescriptor y.desc = some ⟨ps, r⟩) {argsL : List Value} (hl : argsL.length = ps.length) (has : argsL.toArray = as') (hst : st = argsL.reverse ++ rest) (hd : decode bc pc = .ok (.invokestatic i, 3)) (hp : pc + 3 = pc') (hf : rm.frames + 1 ≤ R.frames) (hlo : (rest.map fun v => v.category).sum + (maxL + 11) + rm.locals ≤ R.locals) (hc : cells + rm.cells ≤ R.cells) (hs : slots + rm.slots ≤ R.slots)
    (k : ∀ (T' : State) (v : Option Value) (L : List Loc), Stand p l e R s m args below meth c T' (locs ++ L) (cells + rm.cells) (slots + rm.slots) → QC v T'.heap L → Go p e below s Q mc ms m T' pc' Ls (v.toList ++ rest)) : Go p e below s Q mc ms m T pc Ls st := by
  subst hp has hst
  obtain ⟨v, vm₁, ⟨U, L', c', s'⟩, -, X', ⟨L, hQ, l1, l2, l3⟩, st⟩ := Jvm.LawKit.callS X hx (y := y) hown (mvT hZ w1) (mvT hZ w2) (mvT hZ w3) (mvT hZ w4) hy (backOf (W := (rest.map fun v => v.category).sum) M hZ w4 w3 hf hlo) (g := mkF m pc Ls (argsL.reverse ++ rest)) rfl (by rw [hml]; exact hls) (argsL := argsL) (rest := rest) (lenOf pd hl) rfl (by show 2 * 0 + _ ≤ _; omega) (hb hby hd) (fun _ _ => ⟨rfl, eT, hc, hs⟩)
  dsimp only at X' l1 l2 l3 st hQ
  subst l1 l2 l3
  exact Go.of st (k _ _ _ X' hQ)
end OwnKit
section OwnLib
/-- b is 1 where P holds, 0 where it doesn't -/
def own_bool (b : Int32) (P : Prop) : Prop := (b = 1 ∧ P) ∨ (b = 0 ∧ ¬ P)
theorem own_bool_01 {b : Int32} {P : Prop} (h : own_bool b P) : b = 0 ∨ b = 1 := h.elim (fun q => Or.inr q.1) (fun q => Or.inl q.1)
theorem own_bool_iff {b : Int32} {P : Prop} (h : own_bool b P) : b = 1 ↔ P := h.elim (fun q => ⟨fun _ => q.2, fun _ => q.1⟩) (fun q => ⟨fun z => absurd (q.1.symm.trans z) (by decide), fun z => absurd z q.2⟩)
theorem own_bool_zero {b : Int32} {P : Prop} (h : own_bool b P) : b = 0 ↔ ¬ P := h.elim (fun q => ⟨fun z => absurd (q.1.symm.trans z) (by decide), fun z => absurd q.2 z⟩) (fun q => ⟨fun _ => q.2, fun _ => q.1⟩)
theorem own_bool_eq {a b : Int32} {P P' : Prop} (h : own_bool a P) (h' : own_bool b P') (i : P ↔ P') : a = b := by
  rcases h with ⟨rfl, q⟩ | ⟨rfl, q⟩ <;> rcases h' with ⟨rfl, q'⟩ | ⟨rfl, q'⟩ <;> first | rfl | exact absurd (i.mp q) q' | exact absurd (i.mpr q') q
theorem own_inc (i : Int32) (h : i.toInt < 2147483647) : (i + 1).toInt = i.toInt + 1 := by
  have a := c_iadd i 1
  have e : (1 : Int32).toInt = 1 := rfl
  rw [e] at a
  have b := rng32 i
  have b' := rng32 (i + 1)
  omega
theorem own_dec (i : Int32) (h : -2147483648 < i.toInt) : (i - 1).toInt = i.toInt - 1 := by
  have a := c_isub i 1
  have e : (1 : Int32).toInt = 1 := rfl
  rw [e] at a
  have b := rng32 i
  have b' := rng32 (i - 1)
  omega
theorem own_add (x y : Int32) (h1 : -2147483648 ≤ x.toInt + y.toInt) (h2 : x.toInt + y.toInt < 2147483648) : (x + y).toInt = x.toInt + y.toInt := by
  have a := c_iadd x y
  have b := rng32 (x + y)
  omega
theorem own_sub (x y : Int32) (h1 : -2147483648 ≤ x.toInt - y.toInt) (h2 : x.toInt - y.toInt < 2147483648) : (x - y).toInt = x.toInt - y.toInt := by
  have a := c_isub x y
  have b := rng32 (x - y)
  omega
/-- (u & 0x7fffffff) % n lies from 0 up to n - 1 -/
theorem own_modr (u n : Int32) (hn : 0 < n.toInt) : 0 ≤ ((u &&& 2147483647) % n).toInt ∧ ((u &&& 2147483647) % n).toInt < n.toInt := by
  have a1 := c_mask u 2147483647 31 (by decide) (by decide)
  have a2 := (c_iremV (u &&& 2147483647) n).1 (by omega) hn
  omega
def QI (h0 : Heap) (P : Int32 → Prop) : Option Value → Heap → List Loc → Prop := fun v h L => (∃ r, v = some (.int r) ∧ P r) ∧ h = h0 ∧ L = []
def QL (h0 : Heap) (P : Int64 → Prop) : Option Value → Heap → List Loc → Prop := fun v h L => (∃ r, v = some (.long r) ∧ P r) ∧ h = h0 ∧ L = []
def QV (h0 : Heap) : Option Value → Heap → List Loc → Prop := fun v h L => v = none ∧ h = h0 ∧ L = []
/-- what the law leaves -/
def Q0 (n0 : Nat) : Option Value → Heap → List Loc → Prop := fun v h L => v = some (.int 1) ∧ Fr n0 L
end OwnLib
theorem own_most (u : Int32) (q r : Int64) (hq : q = (u.toInt64 * (8 : Int64)) / ((2 : Int32).toInt64)) (hr : r = ((2 : Int64) * u.toInt64) + (q * (12 : Int64))) : r.toInt = 50 * u.toInt := by
  have a0 := rng32 u
  have a1 := c_i2l u
  have a2 := c_lmul u.toInt64 8
  have a3 := c_ldiv (u.toInt64 * 8) ((2 : Int32).toInt64) 2 rfl (by decide)
  have a4 := c_lmul 2 u.toInt64
  have a5 := c_lmul q 12
  have a6 := c_ladd (2 * u.toInt64) (q * 12)
  have e8 : (8 : Int64).toInt = 8 := rfl
  have e2 : (2 : Int64).toInt = 2 := rfl
  have e12 : (12 : Int64).toInt = 12 := rfl
  rw [← hr] at a6
  rw [← hq] at a3
  have b1 := rng64 (u.toInt64 * 8)
  have b2 := rng64 (2 * u.toInt64)
  have b3 := rng64 (q * 12)
  have b4 := rng64 r
  rw [a1, e8] at a2
  rw [a1, e2] at a4
  rw [e12] at a5
  omega
theorem own_fifty (u : Int32) (w : Int64) (hw : w = (50 : Int64) * u.toInt64) : w.toInt = 50 * u.toInt := by
  have a0 := rng32 u
  have a1 := c_i2l u
  have a2 := c_lmul 50 u.toInt64
  have e5 : (50 : Int64).toInt = 50 := rfl
  rw [← hw, a1, e5] at a2
  have b4 := rng64 w
  omega
theorem ef_1 (m : MethodId) (u : Int32) : entryFrame m #[(.int u)] 3 = mkF m 0 #[.val (.int u), .unset, .unset] [] := by first | (simp [entryFrame, mkF, argsToLocals, Value.category]; done) | rfl
theorem pn_1 : plainName "com/example/mid_label/midlabel/Label" = true := by first | (simp [plainName, overriddenIn]; done) | decide +kernel
theorem d1_0 : decode prog_34_method_12_code 0 = .ok (.iload_n 0, 1) := by decide +kernel
theorem d1_1 : decode prog_34_method_12_code 1 = .ok (.i2l, 1) := by decide +kernel
theorem d1_2 : decode prog_34_method_12_code 2 = .ok (.ldc2_w 197, 3) := by decide +kernel
theorem d1_5 : decode prog_34_method_12_code 5 = .ok (.lmul, 1) := by decide +kernel
theorem d1_6 : decode prog_34_method_12_code 6 = .ok (.getstatic 199, 3) := by decide +kernel
theorem d1_9 : decode prog_34_method_12_code 9 = .ok (.i2l, 1) := by decide +kernel
theorem d1_10 : decode prog_34_method_12_code 10 = .ok (.ldiv, 1) := by decide +kernel
theorem d1_11 : decode prog_34_method_12_code 11 = .ok (.lstore_n 1, 1) := by decide +kernel
theorem d1_12 : decode prog_34_method_12_code 12 = .ok (.ldc2_w 202, 3) := by decide +kernel
theorem d1_15 : decode prog_34_method_12_code 15 = .ok (.iload_n 0, 1) := by decide +kernel
theorem d1_16 : decode prog_34_method_12_code 16 = .ok (.i2l, 1) := by decide +kernel
theorem d1_17 : decode prog_34_method_12_code 17 = .ok (.lmul, 1) := by decide +kernel
theorem d1_18 : decode prog_34_method_12_code 18 = .ok (.lload_n 1, 1) := by decide +kernel
theorem d1_19 : decode prog_34_method_12_code 19 = .ok (.ldc2_w 204, 3) := by decide +kernel
theorem d1_22 : decode prog_34_method_12_code 22 = .ok (.lmul, 1) := by decide +kernel
theorem d1_23 : decode prog_34_method_12_code 23 = .ok (.ladd, 1) := by decide +kernel
theorem d1_24 : decode prog_34_method_12_code 24 = .ok (.lreturn, 1) := by decide +kernel
set_option maxRecDepth 65536 in
set_option maxHeartbeats 40000000 in
theorem rm1 (l : Launch) (Z : State) (a0 : Array Value) (hw : ∀ d ∈ tables_1, d.before a0 Z = true) (u : Int32) (h0 : Heap) (SF : Sta Z h0 "com/example/mid_label/midlabel/Label" "FEWEST_BITS_A_COMPONENT" "I" (.int 2)) :
    Ct l Z (⟨"com/example/mid_label/midlabel/Label", "mostTextLength", "(I)J"⟩ : MethodName) prog_34_method_12_code 3 (some .long) ({ frames := 0, cells := 0, slots := 0, locals := 0 } : Room) #[(.int u)] h0 (QL h0 (fun r => r.toInt = 50 * u.toInt)) := by
  refine own_met (plainFor_of_name pn_1) (fun m => ef_1 m u) ?_
  intro p e s m below meth c T0 X0 hx hby hml hown hnm hret hlk hZ e0
  refine g_iloadN X0 hx hby d1_0 (pc' := 1) rfl rfl ?_
  refine g_i2l X0 hx hby d1_1 (pc' := 2) rfl ?_
  refine g_ldcL X0 hx hby hZ hown (hw _ (List.mem_of_getElem? (i := 5) rfl)) d1_2 (pc' := 5) rfl ?_
  refine g_lmul X0 hx hby d1_5 (pc' := 6) rfl ?_
  refine g_getS X0 hx hby hZ hown e0 (hw _ (List.mem_of_getElem? (i := 6) rfl)) SF d1_6 (pc' := 9) rfl (fun T1 X1 e1 => ?_)
  refine g_i2l X1 hx hby d1_9 (pc' := 10) rfl ?_
  refine g_ldiv X1 hx hby d1_10 (pc' := 11) rfl (by decide) ?_
  refine g_nameL (fun q h_q => ?_)
  refine g_lstoreN X1 hx hby d1_11 (pc' := 12) rfl (Ls' := #[.val (.int u), .val (.long q), .second]) rfl ?_
  refine g_ldcL X1 hx hby hZ hown (hw _ (List.mem_of_getElem? (i := 8) rfl)) d1_12 (pc' := 15) rfl ?_
  refine g_iloadN X1 hx hby d1_15 (pc' := 16) rfl rfl ?_
  refine g_i2l X1 hx hby d1_16 (pc' := 17) rfl ?_
  refine g_lmul X1 hx hby d1_17 (pc' := 18) rfl ?_
  refine g_lloadN X1 hx hby d1_18 (pc' := 19) rfl rfl ?_
  refine g_ldcL X1 hx hby hZ hown (hw _ (List.mem_of_getElem? (i := 9) rfl)) d1_19 (pc' := 22) rfl ?_
  refine g_lmul X1 hx hby d1_22 (pc' := 23) rfl ?_
  refine g_ladd X1 hx hby d1_23 (pc' := 24) rfl ?_
  refine g_nameL (fun r h_r => ?_)
  exact g_retL X1 hx hby hlk hret d1_24 (by decide) (by decide) (⟨⟨_, rfl, own_most u q r h_q h_r⟩, e1, rfl⟩)
theorem ef_0 (m : MethodId) (u : Int32) : entryFrame m #[(.int u)] maxLocals = mkF m 0 #[.val (.int u), .unset, .unset] [] := by first | (simp [entryFrame, mkF, argsToLocals, Value.category, maxLocals]; done) | rfl
theorem pn_0 : plainName "com/example/mid_label/midlabel/LabelMostTextLengthPinLaw" = true := by first | (simp [plainName, overriddenIn]; done) | decide +kernel
theorem pd__I_J_228 : parseMethodDescriptor "(I)J" = some ⟨[.int], some .long⟩ := by decide +kernel
set_option maxRecDepth 65536 in
set_option maxHeartbeats 40000000 in
theorem law0 (l : Launch) (Z : State) (a0 : Array Value) (hw : ∀ d ∈ tables_1, d.before a0 Z = true) (ws : List Jvm.Cond) (u : Int32) (n0 : Nat) (h0 : Heap) (SF : Sta Z h0 "com/example/mid_label/midlabel/Label" "FEWEST_BITS_A_COMPONENT" "I" (.int 2)) :
    MetFree l x (head1 (Jvm.Cond.code x code maxLocals ret :: ws) room_1) (fun a U => a = #[(.int u)] ∧ Z.Warmed39 U.vm ∧ U.heap = h0) (fun _ _ _ _ _ => True) (fun _ U o U' => ∃ v L, o = .returned v ∧ (Q0 n0) v U'.heap L ∧ FrameEnd U o U' L room_1.cells room_1.slots) := by
  refine own_met (plainFor_of_name pn_0) (fun m => ef_0 m u) ?_
  intro p e s m below meth c T0 X0 hx hby hml hown hnm hret hlk hZ e0
  refine g_ldcL X0 hx hby hZ hown (hw _ (List.mem_of_getElem? (i := 0) rfl)) at_0 (pc' := 3) rfl ?_
  refine g_iloadN X0 hx hby at_3 (pc' := 4) rfl rfl ?_
  refine g_i2l X0 hx hby at_4 (pc' := 5) rfl ?_
  refine g_lmul X0 hx hby at_5 (pc' := 6) rfl ?_
  refine g_nameL (fun w h_w => ?_)
  have hw5 := own_fifty u w h_w
  refine g_lstoreN X0 hx hby at_6 (pc' := 7) rfl (Ls' := #[.val (.int u), .val (.long w), .second]) rfl ?_
  refine g_iloadN X0 hx hby at_7 (pc' := 8) rfl rfl ?_
  refine g_static X0 hx hby hZ hown hml rfl (hw _ (List.mem_of_getElem? (i := 1) rfl)) (hw _ (List.mem_of_getElem? (i := 2) rfl)) (hw _ (List.mem_of_getElem? (i := 3) rfl)) (hw _ (List.mem_of_getElem? (i := 4) rfl)) (by decide) e0 (rm1 l Z a0 hw u h0 SF) pd__I_J_228 (argsL := [(.int u)]) (rest := []) rfl rfl rfl at_8 (pc' := 11) rfl (by decide) (Nat.le_of_ble_eq_true rfl) (by decide) (by decide) ?_
  intro Tp8 vp8 Lp8 Xp8 qp8
  obtain ⟨⟨rp8, rfl, h_rp8⟩, ep8, rfl⟩ := qp8
  rw [List.append_nil] at Xp8
  replace Xp8 : Stand p l e room_1 s m _ below meth c Tp8 _ 0 0 := Xp8
  show Go p e below s (Q0 n0) room_1.cells room_1.slots m Tp8 11 #[.val (.int u), .val (.long w), .second] [(.long rp8)]
  refine g_lloadN Xp8 hx hby at_11 (pc' := 12) rfl rfl ?_
  refine g_lcmpne Xp8 hx hby at_12 (pc' := 13) rfl at_13 (pt := 20) (pf := 16) (by decide) (by decide) rfl (fun (h13 : ¬ rp8 = w) => (by exfalso; exact h13 (Int64.toInt_inj.mp (h_rp8.trans hw5.symm)))) (fun (h13 : rp8 = w) => ?_)
  have h13i : rp8.toInt = w.toInt := congrArg Int64.toInt h13
  refine g_iconst Xp8 hx hby at_16 (pc' := 17) rfl (n := (1 : Int32)) (by first | rfl | decide) ?_
  refine g_goto Xp8 hx hby at_17 (pc' := 21) (by decide) (by decide) ?_
  exact g_retZ Xp8 hx hby hlk (Or.inr rfl) hret at_21 (by decide) (by decide) (⟨rfl, Fr.nil n0⟩)
set_option maxRecDepth 65536 in
set_option maxHeartbeats 40000000 in
theorem comes_1 {Post : Tables → Env → Array Value → State → Outcome → State → Prop} (hpost : ∀ tb e args s v u, (limb_1_1.after args s (.returned v) u = true ∧ limb_1_2.after args s (.returned v) u = true ∧ True) → FrameEnd s (.returned v) u (Jvm.fieldLocs frame_1_writes args s ++ Jvm.arrayLocs frame_1_arrays args s ++ Jvm.staticLocs frame_1_statics s) 0 0 → Post tb e args s (.returned v) u) :
    ArmFor flags0 classFile x code maxLocals ret World_1 tables_1 room_1 Calls_1 rest_1 Pre_1 Post := by
  intro l hfl _ _ p e ha hc hk s m args below hf hA hF happ hP
  obtain ⟨hcalls, hrest, hpre⟩ := hP
  obtain ⟨-, -, -, hnamed, -, -, -, hat⟩ := (Spec.applies_iff hf).mp happ
  obtain ⟨hg, hn⟩ := and_e (Cond.before_iff.mp (show (Jvm.Cond.and given_1 narrow_1).before args s = true from hpre))
  obtain ⟨g1, g2⟩ := and_e hg
  obtain ⟨w0, rfl⟩ : ∃ w0 : Value, args = #[w0] := by
    have hs : args.size = 1 := by simpa [Cond.value, given_1] using g1
    obtain ⟨L⟩ := args
    match L, hs with
    | [w0], _ => exact ⟨w0, rfl⟩
  have hw := fun d (hd : d ∈ tables_1) => atoms_spec (ws := Jvm.Cond.code x code maxLocals ret :: tables_1) hat d (List.mem_cons_of_mem _ hd)
  have hfit : Fit s := fun {y c} hc i hi => by
    obtain ⟨ha, rfl⟩ := Array.getElem?_eq_some_iff.mp hc
    have q := List.all_eq_true.mp ((Array.all_eq_true_iff_forall_mem.mp hF) _ (Array.getElem_mem ha)) i (List.mem_range.mpr hi)
    simpa [Array.getElem?_eq_getElem hi] using q
  obtain ⟨i0, ei0⟩ := is_v g2
  obtain rfl : w0 = (.int i0) := Option.some.inj ei0
  have SF : Sta s s.heap "com/example/mid_label/midlabel/Label" "FEWEST_BITS_A_COMPONENT" "I" (.int 2) := by
    have wi := hw _ (List.mem_of_getElem? (i := 3) rfl)
    have wl := hw _ (List.mem_of_getElem? (i := 7) rfl)
    obtain ⟨v, ev, fv⟩ := static_fit hfit wl (ty := .int) (by decide)
    obtain ⟨z, rfl⟩ := fit_I fv (Or.inl rfl)
    have hz : z = 2 := gotT (Cond.eq_ints ev (Term.int_eval (2))) hn
    subst hz
    exact Sta.start ev (Or.inr ⟨wi, wl⟩)
  obtain ⟨n, o, h1, h2, h3, _, L, rfl, ⟨rfl, N⟩, hq⟩ := law0 l s _ hw tables_1 i0 s.heap.size s.heap SF p e ha hc hk s m _ below hf ((Spec.applies_iff_loose hf).mp happ).1 ⟨rfl, State.Warmed39.refl s, rfl⟩ trivial
  refine ⟨n, _, h1, h2, h3, hpost _ _ _ _ _ _ ⟨Cond.after_iff.mpr rfl, Cond.after_iff.mpr (eq_i res_at (Term.int_eval (1)) rfl), trivial⟩ ⟨hq.1, hq.2.1, (hq.2.2.sift fun y hy => Or.inr (N y hy)).mono (by decide) (by decide)⟩⟩
theorem main_1_1 : Claimed_1_1 := comes_1 fun _ _ _ _ _ _ h hF => ⟨h.1, hF⟩
theorem main_1_2 : Claimed_1_2 := comes_1 fun _ _ _ _ _ _ h hF => ⟨h.2.1, hF⟩
end Jvm.Pilot.@@N@@
namespace Jvm.Pilot.@@N@@
open Jvm Jvm.ClassFile Sem Op Lib Jvm.Free Jvm.Stand Jvm.Pilot.@@N@@.Jvm.D
/-! MADE BY PROGRAM (witnessworld.py) out of the Statement's table words and the real class files: 10 classes; the members and pool entries that the words name. The judged class is class 1, her method 1. -/
namespace start1
open Jvm.ClassFile
def u (s : String) : CpInfo := .utf8 (stringToUtf16 s)
/-- a pool by its gaps: so many unusable entries, then the entry; so many at the end -/
def gap : Nat → List CpInfo → List CpInfo
  | 0, r => r
  | n + 1, r => .unusable :: gap n r
def poolList (es : List (Nat × CpInfo)) (last : Nat) : List CpInfo := es.foldr (fun e r => gap e.1 (e.2 :: r)) (gap last [])
def pool (es : List (Nat × CpInfo)) (last : Nat) : Array CpInfo := ⟨poolList es last⟩
def fileOf (pool : Array CpInfo) (this : Nat) (attrs : Array Attribute := #[]) (ms : Array MethodInfo := #[]) (fl : Nat := 33) (sup : Nat := 0) (ifs : Array Nat := #[]) (fds : Array FieldInfo := #[]) : ClassFile where
  minorVersion := 0
  majorVersion := 65
  constantPool := pool
  accessFlags := fl
  thisClass := this
  superClass := sup
  interfaces := ifs
  fields := fds
  methods := ms
  attributes := attrs
def plain (name : String) (sup : Option ClassId) : Class where
  name := name
  kind := .ordinary
  loader := none
  accessFlags := 33
  super := sup
  interfaces := #[]
  cf := none
  fields := #[]
  methods := #[]
  instanceTypes := #[]
  staticTypes := #[]
  resolved := #[]
  callSites := []
  init := .initialized
  statics := none
  mirror := none

def pool0 : Array CpInfo := pool [(5, u "<init>"), (0, u "()V"), (1, .class_ 10), (1, u "java/lang/Object")] 113

def k0m0 : Method := { name := "<init>", desc := "()V", sig := { parameters := [], returnType := none }, accessFlags := 1, code := none }
/-- java/lang/Object -/
def k0 : Class := { plain "java/lang/Object" none with
  accessFlags := 33
  interfaces := #[]
  cf := some (fileOf pool0 8 #[] #[{ accessFlags := 1, nameIndex := 5, descriptorIndex := 6, attributes := #[] }] 33 0 #[] #[])
  fields := #[]
  methods := #[k0m0]
  instanceTypes := #[]
  staticTypes := #[]
  resolved := Array.replicate 124 none
  statics := none }

def pool1 : Array CpInfo := pool [(2, .class_ 4), (1, u "java/lang/Object"), (0, u "<init>"), (0, u "()V"), (0, .long 50), (1, .methodref 10 11), (0, .class_ 12), (0, .nameAndType 13 14), (0, u "com/example/mid_label/midlabel/Label"), (0, u "mostTextLength"), (0, u "(I)J"), (0, .class_ 16), (0, u "com/example/mid_label/midlabel/LabelMostTextLengthPinLaw"), (2, u "law"), (0, u "(I)Z")] 3

def k1m0 : Method := { name := "<init>", desc := "()V", sig := { parameters := [], returnType := none }, accessFlags := 2, code := none }
def k1c1 : Code := { maxStack := 4, maxLocals := 3, code := code, exceptionTable := #[], attributes := #[] }
def k1m1 : Method := { name := "law", desc := "(I)Z", sig := { parameters := [.int], returnType := some .boolean }, accessFlags := 9, code := some k1c1 }
/-- com/example/mid_label/midlabel/LabelMostTextLengthPinLaw -/
def k1 : Class := { plain "com/example/mid_label/midlabel/LabelMostTextLengthPinLaw" (some 0) with
  accessFlags := 49
  interfaces := #[]
  cf := some (fileOf pool1 15 #[] #[{ accessFlags := 2, nameIndex := 5, descriptorIndex := 6, attributes := #[] }, { accessFlags := 9, nameIndex := 19, descriptorIndex := 20, attributes := #[] }] 49 2 #[] #[])
  fields := #[]
  methods := #[k1m0, k1m1]
  instanceTypes := #[]
  staticTypes := #[]
  resolved := Array.replicate 24 none
  statics := none }

def pool2 : Array CpInfo := pool [(1, .class_ 2), (0, u "java/lang/Comparable"), (0, .class_ 4), (0, u "java/lang/Object")] 7

/-- java/lang/Comparable -/
def k2 : Class := { plain "java/lang/Comparable" (some 0) with
  accessFlags := 1537
  interfaces := #[]
  cf := some (fileOf pool2 1 #[] #[] 1537 3 #[] #[])
  fields := #[]
  methods := #[]
  instanceTypes := #[]
  staticTypes := #[]
  resolved := Array.replicate 12 none
  statics := none }

def pool3 : Array CpInfo := pool [(6, .class_ 8), (1, u "java/lang/Object"), (3, .class_ 14), (1, u "com/example/mid_label/midlabel/Label"), (0, u "m_components"), (0, u "[I"), (68, .class_ 87), (1, u "com/example/mid_label/midlabel/Label$Row"), (21, u "I"), (41, u "HEX"), (0, u "Ljava/util/HexFormat;"), (44, .long 8), (1, .fieldref 12 200), (0, .nameAndType 201 109), (0, u "FEWEST_BITS_A_COMPONENT"), (0, .long 2), (1, .long 12), (9, u "BYTE_SHIFT"), (5, .class_ 221), (0, u "com/example/mid_label/midlabel/Label$Spelling"), (127, u "(I)J"), (15, u "ROW_OF_ONE"), (2, u "ROW_BY_LENGTH"), (5, u "ROWS"), (0, u "[Lcom/example/mid_label/midlabel/Label$Row;"), (6, u "ROWS_BY_CODE"), (2, u "LONGEST_CODE"), (2, u "UNUSED_CODES"), (0, u "[Ljava/lang/String;"), (122, .class_ 513), (0, u "java/lang/Comparable"), (0, u "LAST_COMPONENT"), (1, u "FIRST_COMPONENT"), (0, u "MAX_PADDING_BITS"), (1, u "MAX_PARSED_DIGITS"), (1, u "TENTH_MULTIPLIER"), (0, u "J"), (0, u "TENTH_SHIFT"), (1, u "MOST_BYTES_A_COMPONENT"), (0, u "MOST_DOTTED_CHARACTERS"), (1, u "LONGEST_LOOPED_PREFIX"), (1, u "NODE_ROLE"), (0, u "Ljava/lang/String;"), (9, u "mostTextLength")] 76

def k3c0 : Code := { maxStack := 6, maxLocals := 3, code := prog_34_method_12_code, exceptionTable := #[], attributes := #[] }
def k3m0 : Method := { name := "mostTextLength", desc := "(I)J", sig := { parameters := [.int], returnType := some .long }, accessFlags := 8, code := some k3c0 }
/-- com/example/mid_label/midlabel/Label -/
def k3 : Class := { plain "com/example/mid_label/midlabel/Label" (some 0) with
  accessFlags := 49
  interfaces := #[2]
  cf := some (fileOf pool3 12 #[.nestMembers #[85, 220]] #[{ accessFlags := 8, nameIndex := 541, descriptorIndex := 349, attributes := #[] }] 49 6 #[512] #[{ accessFlags := 24, nameIndex := 514, descriptorIndex := 109, attributes := #[] }, { accessFlags := 26, nameIndex := 516, descriptorIndex := 109, attributes := #[] }, { accessFlags := 26, nameIndex := 374, descriptorIndex := 375, attributes := #[] }, { accessFlags := 26, nameIndex := 365, descriptorIndex := 109, attributes := #[] }, { accessFlags := 26, nameIndex := 368, descriptorIndex := 16, attributes := #[] }, { accessFlags := 26, nameIndex := 385, descriptorIndex := 109, attributes := #[] }, { accessFlags := 26, nameIndex := 382, descriptorIndex := 375, attributes := #[] }, { accessFlags := 26, nameIndex := 388, descriptorIndex := 389, attributes := #[] }, { accessFlags := 26, nameIndex := 517, descriptorIndex := 109, attributes := #[] }, { accessFlags := 26, nameIndex := 214, descriptorIndex := 109, attributes := #[] }, { accessFlags := 26, nameIndex := 151, descriptorIndex := 152, attributes := #[] }, { accessFlags := 26, nameIndex := 519, descriptorIndex := 109, attributes := #[] }, { accessFlags := 26, nameIndex := 521, descriptorIndex := 522, attributes := #[] }, { accessFlags := 26, nameIndex := 523, descriptorIndex := 109, attributes := #[] }, { accessFlags := 26, nameIndex := 525, descriptorIndex := 109, attributes := #[] }, { accessFlags := 26, nameIndex := 526, descriptorIndex := 109, attributes := #[] }, { accessFlags := 26, nameIndex := 201, descriptorIndex := 109, attributes := #[] }, { accessFlags := 26, nameIndex := 528, descriptorIndex := 109, attributes := #[] }, { accessFlags := 26, nameIndex := 530, descriptorIndex := 531, attributes := #[] }, { accessFlags := 18, nameIndex := 15, descriptorIndex := 16, attributes := #[] }])
  fields := #[{ name := "LAST_COMPONENT", type := .int, accessFlags := 24, slot := 0, constantValue := 0 }, { name := "FIRST_COMPONENT", type := .int, accessFlags := 26, slot := 1, constantValue := 0 }, { name := "ROWS", type := (.array (.object "com/example/mid_label/midlabel/Label$Row")), accessFlags := 26, slot := 2, constantValue := 0 }, { name := "ROW_OF_ONE", type := .int, accessFlags := 26, slot := 3, constantValue := 0 }, { name := "ROW_BY_LENGTH", type := (.array .int), accessFlags := 26, slot := 4, constantValue := 0 }, { name := "LONGEST_CODE", type := .int, accessFlags := 26, slot := 5, constantValue := 0 }, { name := "ROWS_BY_CODE", type := (.array (.object "com/example/mid_label/midlabel/Label$Row")), accessFlags := 26, slot := 6, constantValue := 0 }, { name := "UNUSED_CODES", type := (.array (.object "java/lang/String")), accessFlags := 26, slot := 7, constantValue := 0 }, { name := "MAX_PADDING_BITS", type := .int, accessFlags := 26, slot := 8, constantValue := 0 }, { name := "BYTE_SHIFT", type := .int, accessFlags := 26, slot := 9, constantValue := 0 }, { name := "HEX", type := (.object "java/util/HexFormat"), accessFlags := 26, slot := 10, constantValue := 0 }, { name := "MAX_PARSED_DIGITS", type := .int, accessFlags := 26, slot := 11, constantValue := 0 }, { name := "TENTH_MULTIPLIER", type := .long, accessFlags := 26, slot := 12, constantValue := 0 }, { name := "TENTH_SHIFT", type := .int, accessFlags := 26, slot := 13, constantValue := 0 }, { name := "MOST_BYTES_A_COMPONENT", type := .int, accessFlags := 26, slot := 14, constantValue := 0 }, { name := "MOST_DOTTED_CHARACTERS", type := .int, accessFlags := 26, slot := 15, constantValue := 0 }, { name := "FEWEST_BITS_A_COMPONENT", type := .int, accessFlags := 26, slot := 16, constantValue := 0 }, { name := "LONGEST_LOOPED_PREFIX", type := .int, accessFlags := 26, slot := 17, constantValue := 0 }, { name := "NODE_ROLE", type := (.object "java/lang/String"), accessFlags := 26, slot := 18, constantValue := 0 }, { name := "m_components", type := (.array .int), accessFlags := 18, slot := 0, constantValue := 0 }]
  methods := #[k3m0]
  instanceTypes := #[(.array .int)]
  staticTypes := #[.int, .int, (.array (.object "com/example/mid_label/midlabel/Label$Row")), .int, (.array .int), .int, (.array (.object "com/example/mid_label/midlabel/Label$Row")), (.array (.object "java/lang/String")), .int, .int, (.object "java/util/HexFormat"), .int, .long, .int, .int, .int, .int, .int, (.object "java/lang/String")]
  resolved := Array.replicate 618 none
  statics := some 0 }

def pool4 : Array CpInfo := pool [(1, u "java/lang/Cloneable"), (0, .class_ 1), (0, u "java/lang/Object"), (0, .class_ 3)] 3

/-- java/lang/Cloneable -/
def k4 : Class := { plain "java/lang/Cloneable" (some 0) with
  accessFlags := 1537
  interfaces := #[]
  cf := some (fileOf pool4 2 #[] #[] 1537 4 #[] #[])
  fields := #[]
  methods := #[]
  instanceTypes := #[]
  staticTypes := #[]
  resolved := Array.replicate 8 none
  statics := none }

def pool5 : Array CpInfo := pool [(1, u "java/io/Serializable"), (0, .class_ 1), (0, u "java/lang/Object"), (0, .class_ 3)] 3

/-- java/io/Serializable -/
def k5 : Class := { plain "java/io/Serializable" (some 0) with
  accessFlags := 1537
  interfaces := #[]
  cf := some (fileOf pool5 2 #[] #[] 1537 4 #[] #[])
  fields := #[]
  methods := #[]
  instanceTypes := #[]
  staticTypes := #[]
  resolved := Array.replicate 8 none
  statics := none }

/-- the primitive byte -/
def k6 : Class := { plain "byte" none with kind := .primitive 'B', accessFlags := 0x411 }
/-- [B -/
def k7 : Class := { plain "[B" (some 0) with kind := .array 6 .byte, interfaces := #[4, 5], accessFlags := 1041 }

/-- the primitive int -/
def k8 : Class := { plain "int" none with kind := .primitive 'I', accessFlags := 0x411 }
/-- [I -/
def k9 : Class := { plain "[I" (some 0) with kind := .array 8 .int, interfaces := #[4, 5], accessFlags := 1041 }

def heap : Heap := #[{ cls := 3, slots := #[.int 0, .int 0, .null, .int 0, .null, .int 0, .null, .null, .int 0, .int 0, .null, .int 0, .long 0, .int 0, .int 0, .int 0, .int 2, .int 0, .null], vm := .statics 3 }]
def classes : Array Class := #[k0, k1, k2, k3, k4, k5, k6, k7, k8, k9]
def interned : List (Array UInt16 × Addr) := []
def slotsUsed : Nat := 19
def theMethod : MethodId := ⟨1, 1⟩
def args0 : Array Value := #[.int 5]
def aboutOver (below : List Frame) : State where
  vm := { classes := classes, interned := interned.toArray }
  heap := heap
  slotsUsed := slotsUsed
  threads := #[{ frames := .invoking theMethod args0 :: below }]
def below0 : List Frame := [.native { method := ⟨0, 0⟩, args := #[] }]
def about1 : State := aboutOver below0
def p0 : Program := .bare "" "" ""
def e0 : Env := launch0.env 0 0 0
theorem w_frames : about1.frames = Frame.invoking theMethod args0 :: below0 := rfl
set_option maxRecDepth 65536 in
theorem w_args : argsFit about1.vm theMethod args0 = true := by decide +kernel
set_option maxRecDepth 65536 in
theorem w_heap : heapFits about1 = true := by decide +kernel
set_option maxRecDepth 65536 in
theorem w_runnable : about1.curStatus? = some .runnable := by decide +kernel
set_option maxRecDepth 65536 in
theorem w_alone : about1.alone = true := by decide +kernel
set_option maxRecDepth 65536 in
theorem w_named : about1.methodNamed? x = some theMethod := by decide +kernel
set_option maxRecDepth 65536 in
theorem w_hears : about1.hears theMethod below0 = true := by decide +kernel
set_option maxRecDepth 65536 in
theorem w_ripe : about1.ripe theMethod args0 below0 = true := by decide +kernel
theorem w_running : about1.status = .running := rfl
set_option maxRecDepth 65536 in
theorem w_room : about1.hasRoom e0.platform room_1 = true :=
  launch0.hasRoom_least _ room_1 (by decide +kernel) (by decide +kernel) (by decide +kernel) (by decide +kernel) (by decide +kernel) (by decide +kernel)
theorem allAtoms_all (ts : List Jvm.Cond) (a : Array Jvm.Value) (st : Jvm.State) : (allAtoms ts).before a st = ts.all (fun c => c.before a st) := by
  induction ts with
  | nil => rfl
  | cons c t ih =>
    show (Jvm.Cond.and c (allAtoms t)).before a st = _
    rw [Jvm.Cond.before_and, ih, List.all_cons]
def words1 : List Jvm.Cond := Jvm.Cond.code x code maxLocals ret :: tables_1
/-- a 'code' word, met by the world's own term for the bytes: nothing is compared byte by byte -/
theorem code_word {y : MethodName} {bytes : ByteArray} {mx : Nat} {rt : Option FieldType} {a : Array Value} {s : State} {m : MethodId} {meth : Method} {c : Code} (h1 : s.methodNamed? y = some m) (h2 : s.vm.method? m = some meth) (h3 : meth.code = some c) (h4 : c.code = bytes)
    (h5 : (c.maxLocals == mx && c.exceptionTable.isEmpty && decide (c.maxStack ≤ mostOperands) && decide (meth.sig.returnType = rt) && !meth.locks && decide (parseMethodDescriptor y.desc = some meth.sig)) = true) : (Jvm.Cond.code y bytes mx rt).before a s = true := by
  simp only [Bool.and_eq_true, beq_iff_eq, Bool.not_eq_true', decide_eq_true_eq] at h5
  obtain ⟨⟨⟨⟨⟨g1, g2⟩, g3⟩, g4⟩, g5⟩, g6⟩ := h5
  simp [Cond.before, Cond.holds, Cond.value, h1, h2, h3, h4, g1, g2, g3, g4, g5, g6]
def isCode : Jvm.Cond → Bool
  | .code _ _ _ _ => true
  | _ => false
theorem all_split {L : List Jvm.Cond} {P : Jvm.Cond → Bool} (h1 : L.all (fun c => isCode c || P c) = true) (h2 : ∀ c ∈ L.filter isCode, P c = true) : L.all P = true := by
  refine List.all_eq_true.mpr fun c hc => ?_
  have h := List.all_eq_true.mp h1 c hc
  rcases Bool.eq_false_or_eq_true (isCode c) with hi | hi
  · exact h2 c (List.mem_filter.mpr ⟨hc, hi⟩)
  · simpa [hi] using h
set_option maxRecDepth 65536 in
theorem w_c0 : (Jvm.Cond.code x code maxLocals ret).before args0 about1 = true := code_word (m := ⟨1, 1⟩) (meth := k1m1) (c := k1c1) (by decide +kernel) rfl rfl rfl (by decide +kernel)
set_option maxRecDepth 65536 in
theorem w_c1 : (Jvm.Cond.code ({ cls := "com/example/mid_label/midlabel/Label", name := "mostTextLength", desc := "(I)J" } : Jvm.MethodName) prog_34_method_12_code (3 : Nat) (Option.some Jvm.ClassFile.FieldType.long)).before args0 about1 = true := code_word (m := ⟨3, 0⟩) (meth := k3m0) (c := k3c0) (by decide +kernel) rfl rfl rfl (by decide +kernel)
def codes1 : List Jvm.Cond := [Jvm.Cond.code x code maxLocals ret, Jvm.Cond.code ({ cls := "com/example/mid_label/midlabel/Label", name := "mostTextLength", desc := "(I)J" } : Jvm.MethodName) prog_34_method_12_code (3 : Nat) (Option.some Jvm.ClassFile.FieldType.long)]
set_option maxRecDepth 65536 in
theorem codes_eq : words1.filter isCode = codes1 := rfl
theorem w_codes : ∀ c ∈ words1.filter isCode, c.before args0 about1 = true := by
  rw [codes_eq]
  intro c hc
  simp only [codes1, List.mem_cons, List.not_mem_nil, or_false] at hc
  rcases hc with rfl | rfl
  · exact w_c0
  · exact w_c1
set_option maxRecDepth 65536 in
theorem w_t1 : words1.all (fun c => isCode c || c.before args0 about1) = true := by decide +kernel
theorem w_tables : (allAtoms (Jvm.Cond.code x code maxLocals ret :: tables_1)).before args0 about1 = true := by
  rw [allAtoms_all]
  show words1.all (fun c => c.before args0 about1) = true
  refine all_split ?_ w_codes
  rw [w_t1]
set_option maxRecDepth 65536 in
theorem w_case : (Jvm.Cond.and given_1 narrow_1).before args0 about1 = true := by decide +kernel
theorem w_applies : (headSpec (Jvm.Cond.code x code maxLocals ret :: tables_1) room_1).applies x e0.platform about1 = true :=
  (Spec.applies_iff w_frames).mpr ⟨w_running, w_runnable, w_alone, w_named, w_hears, w_ripe, w_room, w_tables⟩
theorem atStart : AtStart classFile x code maxLocals ret World_1 tables_1 room_1 Calls_1 rest_1 Pre_1 launch0 p0 e0 about1 theMethod args0 below0 :=
  ⟨lists_1, trivial, launch0.admits_env _ _ _, launch0.least_env, fairChoices_fair.cas, fairChoices_fair.clock, w_frames, w_args, w_heap, w_applies, trivial, trivial, w_case⟩
end start1
theorem witness_1 : WitnessClaimed_1 := ⟨start1.p0, start1.e0, start1.about1, start1.theMethod, start1.args0, start1.below0, start1.atStart⟩
end Jvm.Pilot.@@N@@
