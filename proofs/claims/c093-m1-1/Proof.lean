import JvmDerived
import JvmDerived.Pilot.@@N@@Statement
import JvmDerived.Pilot.@@N@@Code
set_option linter.unusedVariables false
set_option linter.unusedSimpArgs false
namespace Jvm.Pilot.@@N@@
open Jvm Jvm.ClassFile Sem Op Lib Jvm.Free Jvm.Stand Jvm.LawKit Jvm.RoadKit Bundle Jvm.Pilot.@@N@@.Jvm.D
section OwnKit
variable {p : Program} {l : Launch} {e : Env} {R : Room} {s : State} {m : MethodId} {args : Array Value} {below : List Frame} {meth : Method} {c : Code} {T : State} {locs : List Loc} {cells slots : Nat} {bc : ByteArray} {Q : Option Value → Heap → List Loc → Prop} {mc ms : Nat} {Z : State} {a0 : Array Value} {h : Heap} {pc pc' pt pf : Nat} {Ls : Array Slot} {st rest : List Value}
/-- from this frame over T the invocation comes to its end by returning, and Q holds there -/
def Go (p : Program) (e : Env) (below : List Frame) (s : State) (Q : Option Value → Heap → List Loc → Prop) (mc ms : Nat) (m : MethodId) (T : State) (pc : Nat) (Ls : Array Slot) (st : List Value) : Prop :=
  ∃ s₂ o, Steps p.tables e below (T.setTop (mkF m pc Ls st)) s₂ ∧ s₂.status = .running ∧ Ended s₂ below o ∧ ∃ v L, o = .returned v ∧ Q v s₂.heap L ∧ FrameEnd s o s₂ L mc ms
theorem Go.of {T' : State} {Ls' : Array Slot} {st' : List Value} (k : ∀ t, Steps p.tables e below (T'.setTop (mkF m pc' Ls' st')) t → Steps p.tables e below (T.setTop (mkF m pc Ls st)) t) (g : Go p e below s Q mc ms m T' pc' Ls' st') : Go p e below s Q mc ms m T pc Ls st := by
  obtain ⟨s₂, o, h1, h2⟩ := g
  exact ⟨s₂, o, k _ h1, h2⟩
/-- a method's contract, as a caller takes it -/
def Ct (l : Launch) (Z : State) (y : MethodName) (bytes : ByteArray) (maxL : Nat) (ret : Option FieldType) (rm : Room) (as' : Array Value) (h : Heap) (Q : Option Value → Heap → List Loc → Prop) : Prop :=
  MetFree l y (head1 [Jvm.Cond.code y bytes maxL ret] rm) (fun a U => a = as' ∧ Z.Warmed39 U.vm ∧ U.heap = h) (fun _ _ _ _ _ => True) (fun _ U o U' => ∃ v L, o = .returned v ∧ Q v U'.heap L ∧ FrameEnd U o U' L rm.cells rm.slots)
theorem own_met {y : MethodName} {bytes : ByteArray} {maxL : Nat} {ret : Option FieldType} {ws : List Jvm.Cond} {rm : Room} {as' : Array Value}
    (hpl : plainFor y = true) (hef : ∀ m, entryFrame m as' maxL = mkF m 0 Ls [])
    (body : ∀ (p : Program) (e : Env) (s : State) (m : MethodId) (below : List Frame) (meth : Method) (c : Code) (T : State), Stand p l e rm s m as' below meth c T [] 0 0 → p.tables.exec = Jvm.exec → c.code = bytes → c.maxLocals = maxL →
      s.vm.findClass y.cls = some m.cls → meth.name = y.name → meth.sig.returnType = ret → meth.locks = false → Z.Warmed39 s.vm → T.heap = h → Go p e below s Q mc ms m T 0 Ls []) :
    MetFree l y (head1 (Jvm.Cond.code y bytes maxL ret :: ws) rm) (fun a U => a = as' ∧ Z.Warmed39 U.vm ∧ U.heap = h) (fun _ _ _ _ _ => True) (fun _ U o U' => ∃ v L, o = .returned v ∧ Q v U'.heap L ∧ FrameEnd U o U' L mc ms) := by
  refine MetFree.of_bodySF hpl hisR ?_
  intro p e s m args below meth c s₁ Bd hml0 hP hK
  obtain ⟨rfl, hZ, hh⟩ := hP
  obtain ⟨s₂, o, h1, h2, h3, v, L, h4, h5, h6⟩ := body p e s m below meth c s₁ (Stand.of_body Bd) Bd.exec Bd.bytes hml0 (findClass_of_methodNamed Bd.named) (name_of_methodNamed Bd.named Bd.method).1 Bd.returns Bd.notSynchronized hZ (by rw [← hh, Bd.state]; rfl)
  exact ⟨s₂, o, castTop (hef m) h1, h2, h3, v, L, h4, h5, h6⟩
theorem g_nameI {x : Int32} (k : ∀ z : Int32, z = x → Go p e below s Q mc ms m T pc Ls (.int z :: rest)) : Go p e below s Q mc ms m T pc Ls (.int x :: rest) := k x rfl
theorem g_iloadN (X : Stand p l e R s m args below meth c T locs cells slots) (hx : p.tables.exec = Jvm.exec) (hby : c.code = bc) {n : Fin 4} {v : Int32} (hd : decode bc pc = .ok (.iload_n n, 1)) (hp : pc + 1 = pc') (hl : Ls[n.val]? = some (.val (.int v))) (k : Go p e below s Q mc ms m T pc' Ls (.int v :: st)) : Go p e below s Q mc ms m T pc Ls st := by
  subst hp; exact Go.of (fun _ q => XS.iloadN X.here hx rfl (hb hby hd) hl q) k
theorem g_iload (X : Stand p l e R s m args below meth c T locs cells slots) (hx : p.tables.exec = Jvm.exec) (hby : c.code = bc) {n : Nat} {v : Int32} (hd : decode bc pc = .ok (.iload n, 2)) (hp : pc + 2 = pc') (hl : Ls[n]? = some (.val (.int v))) (k : Go p e below s Q mc ms m T pc' Ls (.int v :: st)) : Go p e below s Q mc ms m T pc Ls st := by
  subst hp; exact Go.of (fun _ q => XS.iload X.here hx rfl (hb hby hd) hl q) k
theorem g_istoreN (X : Stand p l e R s m args below meth c T locs cells slots) (hx : p.tables.exec = Jvm.exec) (hby : c.code = bc) {n : Fin 4} {v : Int32} {Ls' : Array Slot} (hd : decode bc pc = .ok (.istore_n n, 1)) (hp : pc + 1 = pc') (hl : storeLocals Ls n.val (.int v) = some Ls') (k : Go p e below s Q mc ms m T pc' Ls' rest) : Go p e below s Q mc ms m T pc Ls (.int v :: rest) := by
  subst hp; exact Go.of (fun _ q => XS.istoreN X.here hx rfl (hb hby hd) rfl hl q) k
theorem g_istore (X : Stand p l e R s m args below meth c T locs cells slots) (hx : p.tables.exec = Jvm.exec) (hby : c.code = bc) {n : Nat} {v : Int32} {Ls' : Array Slot} (hd : decode bc pc = .ok (.istore n, 2)) (hp : pc + 2 = pc') (hl : storeLocals Ls n (.int v) = some Ls') (k : Go p e below s Q mc ms m T pc' Ls' rest) : Go p e below s Q mc ms m T pc Ls (.int v :: rest) := by
  subst hp; exact Go.of (fun _ q => XS.istore X.here hx rfl (hb hby hd) rfl hl q) k
theorem g_aloadN (X : Stand p l e R s m args below meth c T locs cells slots) (hx : p.tables.exec = Jvm.exec) (hby : c.code = bc) {n : Fin 4} {v : Value} (hd : decode bc pc = .ok (.aload_n n, 1)) (hp : pc + 1 = pc') (hl : Ls[n.val]? = some (.val v)) (hv : v.isRef = true) (k : Go p e below s Q mc ms m T pc' Ls (v :: st)) : Go p e below s Q mc ms m T pc Ls st := by
  subst hp; exact Go.of (fun _ q => XS.aloadN X.here hx rfl (hb hby hd) hl hv q) k
theorem g_aload (X : Stand p l e R s m args below meth c T locs cells slots) (hx : p.tables.exec = Jvm.exec) (hby : c.code = bc) {n : Nat} {v : Value} (hd : decode bc pc = .ok (.aload n, 2)) (hp : pc + 2 = pc') (hl : Ls[n]? = some (.val v)) (hv : v.isRef = true) (k : Go p e below s Q mc ms m T pc' Ls (v :: st)) : Go p e below s Q mc ms m T pc Ls st := by
  subst hp; exact Go.of (fun _ q => XS.aload X.here hx rfl (hb hby hd) hl hv q) k
theorem g_astore (X : Stand p l e R s m args below meth c T locs cells slots) (hx : p.tables.exec = Jvm.exec) (hby : c.code = bc) {n : Nat} {v : Value} {Ls' : Array Slot} (hd : decode bc pc = .ok (.astore n, 2)) (hp : pc + 2 = pc') (hv : v.isRef = true) (hl : storeLocals Ls n v = some Ls') (k : Go p e below s Q mc ms m T pc' Ls' rest) : Go p e below s Q mc ms m T pc Ls (v :: rest) := by
  subst hp; exact Go.of (fun _ q => XS.astore X.here hx rfl (hb hby hd) rfl hv hl q) k
theorem g_iconst (X : Stand p l e R s m args below meth c T locs cells slots) (hx : p.tables.exec = Jvm.exec) (hby : c.code = bc) {i : Int} {n : Int32} (hd : decode bc pc = .ok (.iconst i, 1)) (hp : pc + 1 = pc') (hn : Int32.ofInt i = n) (k : Go p e below s Q mc ms m T pc' Ls (.int n :: st)) : Go p e below s Q mc ms m T pc Ls st := by
  subst hp; exact Go.of (fun _ q => XS.iconst X.here hx rfl (hb hby hd) (by rw [hn]; exact q)) k
theorem g_iand (X : Stand p l e R s m args below meth c T locs cells slots) (hx : p.tables.exec = Jvm.exec) (hby : c.code = bc) {x y : Int32} (hd : decode bc pc = .ok (.iand, 1)) (hp : pc + 1 = pc')  (k : Go p e below s Q mc ms m T pc' Ls (.int (x &&& y) :: rest)) : Go p e below s Q mc ms m T pc Ls (.int y :: .int x :: rest) := by
  subst hp; exact Go.of (fun _ q => XS.iand X.here hx rfl (hb hby hd) rfl q) k
theorem g_dup (X : Stand p l e R s m args below meth c T locs cells slots) (hx : p.tables.exec = Jvm.exec) (hby : c.code = bc) {x : Value} (hd : decode bc pc = .ok (.dup, 1)) (hp : pc + 1 = pc') (hc : x.category = 1) (k : Go p e below s Q mc ms m T pc' Ls (x :: x :: rest)) : Go p e below s Q mc ms m T pc Ls (x :: rest) := by
  subst hp; exact Go.of (fun _ q => XS.dup X.here hx rfl (hb hby hd) rfl hc q) k
theorem g_goto (X : Stand p l e R s m args below meth c T locs cells slots) (hx : p.tables.exec = Jvm.exec) (hby : c.code = bc) {i : Int} (hd : decode bc pc = .ok (.goto i, 3)) (ho : 0 ≤ (pc : Int) + i) (hp : ((pc : Int) + i).toNat = pc') (k : Go p e below s Q mc ms m T pc' Ls st) : Go p e below s Q mc ms m T pc Ls st := Go.of (fun _ q => XS.goto X.here hx rfl rfl (hb hby hd) ho hp q) k
theorem own_hne (x y : Int32) : if_icmp.holds .ne x y = decide (¬ x = y) := by by_cases q : x = y <;> simp [if_icmp.holds, q]
theorem g_icmp (X : Stand p l e R s m args below meth c T locs cells slots) (hx : p.tables.exec = Jvm.exec) (hby : c.code = bc) {cd : ClassFile.Cond} {i : Int} {x y : Int32} {P : Prop} [Decidable P] (hP : if_icmp.holds cd x y = decide P) (hd : decode bc pc = .ok (.if_icmp cd i, 3)) (ho : 0 ≤ (pc : Int) + i) (hp : ((pc : Int) + i).toNat = pt) (hf : pc + 3 = pf) (ky : P → Go p e below s Q mc ms m T pt Ls rest) (kn : ¬ P → Go p e below s Q mc ms m T pf Ls rest) : Go p e below s Q mc ms m T pc Ls (.int y :: .int x :: rest) := by
  subst hf
  by_cases q : P
  · exact Go.of (fun _ z => XS.icmpYes X.here hx rfl rfl (hb hby hd) rfl (by rw [hP]; exact decide_eq_true q) ho hp z) (ky q)
  · exact Go.of (fun _ z => XS.icmpNo X.here hx rfl (hb hby hd) rfl (by rw [hP]; exact decide_eq_false q) z) (kn q)
theorem g_icmpne (X : Stand p l e R s m args below meth c T locs cells slots) (hx : p.tables.exec = Jvm.exec) (hby : c.code = bc) {i : Int} {x y : Int32} (hd : decode bc pc = .ok (.if_icmp .ne i, 3)) (ho : 0 ≤ (pc : Int) + i) (hp : ((pc : Int) + i).toNat = pt) (hf : pc + 3 = pf) (ky : ¬ x = y → Go p e below s Q mc ms m T pt Ls rest) (kn : x = y → Go p e below s Q mc ms m T pf Ls rest) : Go p e below s Q mc ms m T pc Ls (.int y :: .int x :: rest) :=
  g_icmp X hx hby (own_hne x y) hd ho hp hf ky (fun q => kn (Decidable.not_not.mp q))
theorem g_ret (X : Stand p l e R s m args below meth c T locs cells slots) (hx : p.tables.exec = Jvm.exec) (hby : c.code = bc) (hlk : meth.locks = false) {t : FieldType} {w : Value} {i : Instr} (hret : meth.sig.returnType = some t) (hn : narrow t w = w) (hi : (i = .ireturn ∧ (t = .int ∨ t = .boolean ∨ t = .byte ∨ t = .char ∨ t = .short) ∧ ∃ z, w = .int z) ∨ (i = .lreturn ∧ t = .long ∧ ∃ z, w = .long z) ∨ (i = .dreturn ∧ t = .double ∧ ∃ z, w = .double z) ∨ (i = .freturn ∧ t = .float ∧ ∃ z, w = .float z) ∨ (i = .areturn ∧ t.isReference = true ∧ w.isRef = true)) (hd : decode bc pc = .ok (i, 1)) (hc : cells ≤ mc) (hs : slots ≤ ms) (hq : Q (some w) T.heap locs) : Go p e below s Q mc ms m T pc Ls (w :: rest) := by
  obtain ⟨fs, hr, hrun, hended, hW, hsame⟩ := X.leave (v := some w) (fun h => by rw [hret] at h; cases h) hlk
  exact ⟨_, _, retOut X hx hret hn hi (hb hby hd) hr, hrun, hended, _, _, rfl, hq, ⟨_, rfl⟩, hW, hsame.mono hc hs⟩
theorem g_retI (X : Stand p l e R s m args below meth c T locs cells slots) (hx : p.tables.exec = Jvm.exec) (hby : c.code = bc) (hlk : meth.locks = false) {z : Int32} (hret : meth.sig.returnType = some .int) (hd : decode bc pc = .ok (.ireturn, 1)) (hc : cells ≤ mc) (hs : slots ≤ ms) (hq : Q (some (.int z)) T.heap locs) : Go p e below s Q mc ms m T pc Ls (.int z :: rest) := g_ret X hx hby hlk hret rfl (Or.inl ⟨rfl, Or.inl rfl, _, rfl⟩) hd hc hs hq
theorem g_retZ (X : Stand p l e R s m args below meth c T locs cells slots) (hx : p.tables.exec = Jvm.exec) (hby : c.code = bc) (hlk : meth.locks = false) {z : Int32} (hz : z = 0 ∨ z = 1) (hret : meth.sig.returnType = some .boolean) (hd : decode bc pc = .ok (.ireturn, 1)) (hc : cells ≤ mc) (hs : slots ≤ ms) (hq : Q (some (.int z)) T.heap locs) : Go p e below s Q mc ms m T pc Ls (.int z :: rest) := g_ret X hx hby hlk hret (by rcases hz with rfl | rfl <;> rfl) (Or.inl ⟨rfl, Or.inr (Or.inl rfl), _, rfl⟩) hd hc hs hq
theorem g_retV (X : Stand p l e R s m args below meth c T locs cells slots) (hx : p.tables.exec = Jvm.exec) (hby : c.code = bc) (hlk : meth.locks = false) (hret : meth.sig.returnType = none) (hd : decode bc pc = .ok (.return_, 1)) (hc : cells ≤ mc) (hs : slots ≤ ms) (hq : Q none T.heap locs) : Go p e below s Q mc ms m T pc Ls [] := by
  obtain ⟨fs, hr, hrun, hended, hW, hsame⟩ := X.leave (v := none) (fun _ => rfl) hlk
  exact ⟨_, _, X.returnOut hx hret (hb hby hd) hr, hrun, hended, _, _, rfl, hq, ⟨_, rfl⟩, hW, hsame.mono hc hs⟩
theorem g_newP (X : Stand p l e R s m args below meth c T locs cells slots) (hx : p.tables.exec = Jvm.exec) (hby : c.code = bc) (hZ : Z.Warmed39 s.vm) (eT : T.heap = h) {aty : ArrayType} {n : Int32} (w : (Jvm.Cond.arrayClass (newarray.typeOf aty)).before a0 Z = true) (hd : decode bc pc = .ok (.newarray aty, 2)) (hp : pc + 2 = pc') (hn : ¬ n < 0) {cap : Nat} (hcap : n.toNatClampNeg ≤ cap) (hbig : cap * 8 ≤ 536870912) (hc : cells + 1 ≤ R.cells) (hl : slots + cap ≤ R.slots) (k : ∀ T' h' b cA, b = h.size → Stand p l e R s m args below meth c T' locs (cells + 1) (slots + cap) → T'.heap = h' → Ext h h' → Arv Z h' b cA (newarray.typeOf aty) n [] (defaultValue (newarray.typeOf aty)) → Go p e below s Q mc ms m T' pc' Ls (.ref b :: rest)) : Go p e below s Q mc ms m T pc Ls (.int n :: rest) := by
  subst hp
  obtain ⟨T', h', cA, X', e', E', A', st'⟩ := newP X hx hZ w eT (g := mkF m pc Ls (.int n :: rest)) rfl (hb hby hd) rfl hn hcap hbig hc hl
  exact Go.of st' (k T' h' _ cA rfl X' e' E' (Arv.new A' hn))
theorem g_iastore (X : Stand p l e R s m args below meth c T locs cells slots) (hx : p.tables.exec = Jvm.exec) (hby : c.code = bc) (hZ : Z.Warmed39 s.vm) (eT : T.heap = h) {a : Addr} {cl : Cell} (A : Arr Z h a cl .int) {j : Int32} {x : Int32} (hj : ¬ (j < 0 ∨ cl.slots.size ≤ j.toNatClampNeg)) (hd : decode bc pc = .ok (.iastore, 1)) (hp : pc + 1 = pc') (k : ∀ T' h', Stand p l e R s m args below meth c T' (locs ++ [⟨a, j.toNatClampNeg⟩]) cells slots → T'.heap = h' → Wr h h' a j.toNatClampNeg (.int x) → Go p e below s Q mc ms m T' pc' Ls rest) : Go p e below s Q mc ms m T pc Ls (.int x :: .int j :: .ref a :: rest) := by
  subst hp
  obtain ⟨T', h', X', e', W', st'⟩ := stI X hx hZ eT A (j := j) hj (g := mkF m pc Ls (.int x :: .int j :: .ref a :: rest)) rfl rfl (hb hby hd)
  exact Go.of st' (k T' h' X' e' W')
theorem g_iaload (X : Stand p l e R s m args below meth c T locs cells slots) (hx : p.tables.exec = Jvm.exec) (hby : c.code = bc) (hZ : Z.Warmed39 s.vm) (eT : T.heap = h) {a : Addr} {cl : Cell} (A : Arr Z h a cl .int) {j : Int32} {v : Value} (hj : ¬ (j < 0 ∨ cl.slots.size ≤ j.toNatClampNeg)) (hv : cl.slots[j.toNatClampNeg]? = some v) (hd : decode bc pc = .ok (.iaload, 1)) (hp : pc + 1 = pc') (k : Go p e below s Q mc ms m T pc' Ls (v :: rest)) : Go p e below s Q mc ms m T pc Ls (.int j :: .ref a :: rest) := by
  subst hp
  exact Go.of (fun _ q => X.iaload hx (j := j) (v := v) (by rw [eT]; exact A.1) (State.isArrayOf_alike hZ.alike A.2.1) A.2.2 hj hv (g := mkF m pc Ls (.int j :: .ref a :: rest)) rfl rfl (hb hby hd) _ q) k
theorem g_arraylength (X : Stand p l e R s m args below meth c T locs cells slots) (hx : p.tables.exec = Jvm.exec) (hby : c.code = bc) (hZ : Z.Warmed39 s.vm) (eT : T.heap = h) {a : Addr} {cl : Cell} {ty : FieldType} (A : Arr Z h a cl ty) {n : Int32} (S : cl.slots.size = n.toNatClampNeg) (hn : ¬ n < 0) (hd : decode bc pc = .ok (.arraylength, 1)) (hp : pc + 1 = pc') (k : Go p e below s Q mc ms m T pc' Ls (.int n :: rest)) : Go p e below s Q mc ms m T pc Ls (.ref a :: rest) := by
  subst hp
  exact Go.of (fun _ q => X.arraylength hx (by rw [eT]; exact A.1) (State.isArrayOf_alike hZ.alike A.2.1) (g := mkF m pc Ls (.ref a :: rest)) rfl rfl (hb hby hd) _ (by rw [len_of S hn]; exact q)) k
/-- in heap h the array at a (of kind ty) has n places; place j holds f j -/
def Ara (Z : State) (h : Heap) (a : Addr) (ty : FieldType) (n : Nat) (f : Nat → Value) : Prop := ∃ cl : Cell, Arr Z h a cl ty ∧ cl.slots.size = n ∧ n < 2147483648 ∧ ∀ j, j < n → cl.slots[j]? = some (f j)
def own_up (f : Nat → Value) (k : Nat) (v : Value) : Nat → Value := fun j => if j = k then v else f j
theorem own_up_self (f : Nat → Value) (k : Nat) (v : Value) : own_up f k v k = v := if_pos rfl
theorem own_up_ne (f : Nat → Value) {k j : Nat} (v : Value) (q : j ≠ k) : own_up f k v j = f j := if_neg q
theorem Ara.lt {h : Heap} {a : Addr} {ty : FieldType} {n : Nat} {f : Nat → Value} (V : Ara Z h a ty n f) : a < h.size := by obtain ⟨_, A, _⟩ := V; exact A.lt
theorem Ara.ext {h h' : Heap} {a : Addr} {ty : FieldType} {n : Nat} {f : Nat → Value} (V : Ara Z h a ty n f) (E : Ext h h') : Ara Z h' a ty n f := by obtain ⟨c, A, r⟩ := V; exact ⟨c, A.ext E, r⟩
theorem Ara.other {h h' : Heap} {a b : Addr} {ty : FieldType} {n : Nat} {f : Nat → Value} {sl : Nat} {v : Value} (V : Ara Z h a ty n f) (W : Wr h h' b sl v) (q : a ≠ b) : Ara Z h' a ty n f := by obtain ⟨c, A, r⟩ := V; exact ⟨c, A.other W q, r⟩
theorem Ara.keep {h h' : Heap} {a : Addr} {ty : FieldType} {n : Nat} {f : Nat → Value} {ws : List Addr} (V : Ara Z h a ty n f) (K : Keep h h' ws) (q : a ∉ ws) : Ara Z h' a ty n f := by obtain ⟨c, A, r⟩ := V; exact ⟨c, ⟨K.2.1 a c A.1 q, A.2⟩, r⟩
theorem Ara.set {h h' : Heap} {a : Addr} {ty : FieldType} {n k : Nat} {f : Nat → Value} {v : Value} (V : Ara Z h a ty n f) (W : Wr h h' a k v) : Ara Z h' a ty n (own_up f k v) := by
  obtain ⟨c, A, hs, hn, hf⟩ := V
  refine ⟨_, A.same W, by rw [sz_set]; exact hs, hn, fun j hj => ?_⟩
  by_cases q : k = j
  · subst q; rw [own_up_self]; simp [Cell.setSlot, hs, hj]
  · rw [own_up_ne f v (Ne.symm q), ← hf j hj]; exact Array.getElem?_setIfInBounds_ne q
theorem Ara.eq {h : Heap} {a : Addr} {ty : FieldType} {n : Nat} {f f' : Nat → Value} (V : Ara Z h a ty n f) (q : ∀ j, j < n → f j = f' j) : Ara Z h a ty n f' := by obtain ⟨c, A, hs, hn, hf⟩ := V; exact ⟨c, A, hs, hn, fun j hj => by rw [← q j hj]; exact hf j hj⟩
def own_ui (g : Nat → Int32) (k : Nat) (x : Int32) : Nat → Int32 := fun j => if j = k then x else g j
theorem Ara.setI {h h' : Heap} {a : Addr} {ty : FieldType} {n k : Nat} {g : Nat → Int32} {x : Int32} (V : Ara Z h a ty n (fun j => .int (g j))) (W : Wr h h' a k (.int x)) : Ara Z h' a ty n (fun j => .int (own_ui g k x j)) := (V.set W).eq fun j _ => by
  by_cases q : j = k <;> simp [own_up, own_ui, q]
theorem own_in {cl : Cell} {j : Int32} {n : Nat} (hs : cl.slots.size = n) (h0 : 0 ≤ j.toInt) (h1 : j.toInt < n) : ¬ (j < 0 ∨ cl.slots.size ≤ j.toNatClampNeg) := by
  rw [Int32.lt_iff_toInt_lt, hs]
  show ¬ (j.toInt < 0 ∨ n ≤ j.toInt.toNat)
  omega
theorem g_newA (X : Stand p l e R s m args below meth c T locs cells slots) (hx : p.tables.exec = Jvm.exec) (hby : c.code = bc) (hZ : Z.Warmed39 s.vm) (eT : T.heap = h) {aty : ArrayType} {n : Int32} {N : Nat} (w : (Jvm.Cond.arrayClass (newarray.typeOf aty)).before a0 Z = true) (hd : decode bc pc = .ok (.newarray aty, 2)) (hp : pc + 2 = pc') (hn : n.toInt = N) {cap : Nat} (hcap : N ≤ cap) (hbig : cap * 8 ≤ 536870912) (hc : cells + 1 ≤ R.cells) (hl : slots + cap ≤ R.slots) (k : ∀ T' h' b, b = h.size → Stand p l e R s m args below meth c T' locs (cells + 1) (slots + cap) → T'.heap = h' → Ext h h' → Ara Z h' b (newarray.typeOf aty) N (fun _ => defaultValue (newarray.typeOf aty)) → Go p e below s Q mc ms m T' pc' Ls (.ref b :: rest)) : Go p e below s Q mc ms m T pc Ls (.int n :: rest) := by
  have h1 : n.toNatClampNeg = N := by show n.toInt.toNat = N; omega
  have h2 : ¬ n < 0 := by rw [Int32.lt_iff_toInt_lt]; show ¬ n.toInt < 0; omega
  have h3 := rng32 n
  refine g_newP X hx hby hZ eT w hd hp h2 (cap := cap) (by omega) hbig hc hl (fun T' h' b cA hb' X' e' E' V => k T' h' b hb' X' e' E' ?_)
  obtain ⟨cl, A, -, hs, -, hH, -⟩ := V
  exact ⟨cl, A, by rw [hs, h1], by omega, fun j hj => by rw [hH j (by rw [hs, h1]; exact hj)]; simp⟩
theorem a_iastore (X : Stand p l e R s m args below meth c T locs cells slots) (hx : p.tables.exec = Jvm.exec) (hby : c.code = bc) (hZ : Z.Warmed39 s.vm) (eT : T.heap = h) {a : Addr} {n : Nat} {f : Nat → Value} (A : Ara Z h a .int n f) {j : Int32} {x : Int32} (h0 : 0 ≤ j.toInt) (h1 : j.toInt < n) (hd : decode bc pc = .ok (.iastore, 1)) (hp : pc + 1 = pc') (k : ∀ T' h', Stand p l e R s m args below meth c T' (locs ++ [⟨a, j.toInt.toNat⟩]) cells slots → T'.heap = h' → Wr h h' a j.toInt.toNat (.int x) → Go p e below s Q mc ms m T' pc' Ls rest) : Go p e below s Q mc ms m T pc Ls (.int x :: .int j :: .ref a :: rest) := by
  obtain ⟨cl, A, hs, hn, hf⟩ := A
  exact g_iastore X hx hby hZ eT A (own_in hs h0 h1) hd hp k
theorem a_iaload (X : Stand p l e R s m args below meth c T locs cells slots) (hx : p.tables.exec = Jvm.exec) (hby : c.code = bc) (hZ : Z.Warmed39 s.vm) (eT : T.heap = h) {a : Addr} {n : Nat} {f : Nat → Value} (A : Ara Z h a .int n f) {j : Int32} {v : Value} (h0 : 0 ≤ j.toInt) (h1 : j.toInt < n) (hv : f j.toInt.toNat = v) (hd : decode bc pc = .ok (.iaload, 1)) (hp : pc + 1 = pc') (k : Go p e below s Q mc ms m T pc' Ls (v :: rest)) : Go p e below s Q mc ms m T pc Ls (.int j :: .ref a :: rest) := by
  obtain ⟨cl, A, hs, hn, hf⟩ := A
  exact g_iaload X hx hby hZ eT A (own_in hs h0 h1) (by show cl.slots[j.toInt.toNat]? = some v; rw [hf _ (by omega), hv]) hd hp k
theorem a_arraylength (X : Stand p l e R s m args below meth c T locs cells slots) (hx : p.tables.exec = Jvm.exec) (hby : c.code = bc) (hZ : Z.Warmed39 s.vm) (eT : T.heap = h) {a : Addr} {n : Nat} {f : Nat → Value} {ty : FieldType} (A : Ara Z h a ty n f) {N : Int32} (hN : N.toInt = n) (hd : decode bc pc = .ok (.arraylength, 1)) (hp : pc + 1 = pc') (k : Go p e below s Q mc ms m T pc' Ls (.int N :: rest)) : Go p e below s Q mc ms m T pc Ls (.ref a :: rest) := by
  obtain ⟨cl, A, hs, hn, hf⟩ := A
  exact g_arraylength X hx hby hZ eT A (n := N) (by rw [hs]; show n = N.toInt.toNat; omega) (by rw [Int32.lt_iff_toInt_lt]; show ¬ N.toInt < 0; omega) hd hp k
/-- the array at a takes arrays of ints -/
def Ovi (Z : State) (h : Heap) (a : Addr) : Prop := ∃ cl : Cell, h[a]? = some cl ∧ OvrA Z cl.cls .int "[I"
theorem Ovi.ext {h h' : Heap} {a : Addr} (V : Ovi Z h a) (E : Ext h h') : Ovi Z h' a := by obtain ⟨c, q, r⟩ := V; exact ⟨c, E.2 _ _ q, r⟩
theorem Ovi.wr {h h' : Heap} {a b : Addr} {sl : Nat} {v : Value} (V : Ovi Z h a) (W : Wr h h' b sl v) : Ovi Z h' a := by obtain ⟨c, q, r⟩ := V; obtain ⟨c', q', e, -⟩ := wr_at W q; exact ⟨c', q', e ▸ r⟩
theorem Ovi.keep {h h' : Heap} {a : Addr} {ws : List Addr} (V : Ovi Z h a) (K : Keep h h' ws) : Ovi Z h' a := by obtain ⟨c, q, r⟩ := V; obtain ⟨c', q', e, -⟩ := K.2.2 _ _ q; exact ⟨c', q', e ▸ r⟩
theorem g_static (X : Stand p l e R s m args below meth c T locs cells slots) (hx : p.tables.exec = Jvm.exec) (hby : c.code = bc) (hZ : Z.Warmed39 s.vm) {own : String} (hown : s.vm.findClass own = some m.cls) {i ML : Nat} {y : MethodName} {bytes : ByteArray} {maxL : Nat} {ret : Option FieldType} {rm : Room} {as' : Array Value} {QC : Option Value → Heap → List Loc → Prop} (hml : c.maxLocals = ML) (hls : Ls.size = ML) (w1 : (Jvm.Cond.methodLink own i y).before a0 Z = true) (w2 : (Jvm.Cond.static y).before a0 Z = true) (w3 : (Jvm.Cond.initialized y.cls).before a0 Z = true) (w4 : (Jvm.Cond.code y bytes maxL ret).before a0 Z = true) (hy : y.cls ≠ "java/lang/invoke/MethodHandle" ∧ y.cls ≠ "java/lang/invoke/VarHandle") (eT : T.heap = h) (M : Ct l Z y bytes maxL ret rm as' h QC) {ps : List FieldType} {r : Option FieldType} (pd : parseMethodDescriptor y.desc = some ⟨ps, r⟩) {argsL : List Value} (hl : argsL.length = ps.length) (has : argsL.toArray = as') (hst : st = argsL.reverse ++ rest) (hd : decode bc pc = .ok (.invokestatic i, 3)) (hp : pc + 3 = pc') (hf : rm.frames + 1 ≤ R.frames) (hlo : (rest.map fun v => v.category).sum + (maxL + 11) + rm.locals ≤ R.locals) (hc : cells + rm.cells ≤ R.cells) (hs : slots + rm.slots ≤ R.slots)
    (k : ∀ (T' : State) (v : Option Value) (L : List Loc), Stand p l e R s m args below meth c T' (locs ++ L) (cells + rm.cells) (slots + rm.slots) → QC v T'.heap L → Go p e below s Q mc ms m T' pc' Ls (v.toList ++ rest)) : Go p e below s Q mc ms m T pc Ls st := by
  subst hp has hst
  obtain ⟨v, vm₁, ⟨U, L', c', s'⟩, -, X', ⟨L, hQ, l1, l2, l3⟩, st⟩ := Jvm.LawKit.callS X hx (y := y) hown (mvT hZ w1) (mvT hZ w2) (mvT hZ w3) (mvT hZ w4) hy (backOf (W := (rest.map fun v => v.category).sum) M hZ w4 w3 hf hlo) (g := mkF m pc Ls (argsL.reverse ++ rest)) rfl (by rw [hml]; exact hls) (argsL := argsL) (rest := rest) (lenOf pd hl) rfl (by show 2 * 0 + _ ≤ _; omega) (hb hby hd) (fun _ _ => ⟨rfl, eT, hc, hs⟩)
  dsimp only at X' l1 l2 l3 st hQ
  subst l1 l2 l3
  exact Go.of st (k _ _ _ X' hQ)
end OwnKit
section OwnLib
/-- b is 1 where P holds, 0 where it doesn't -/
def own_bool (b : Int32) (P : Prop) : Prop := (b = 1 ∧ P) ∨ (b = 0 ∧ ¬ P)
theorem own_bool_01 {b : Int32} {P : Prop} (h : own_bool b P) : b = 0 ∨ b = 1 := h.elim (fun q => Or.inr q.1) (fun q => Or.inl q.1)
theorem own_bool_iff {b : Int32} {P : Prop} (h : own_bool b P) : b = 1 ↔ P := h.elim (fun q => ⟨fun _ => q.2, fun _ => q.1⟩) (fun q => ⟨fun z => absurd (q.1.symm.trans z) (by decide), fun z => absurd z q.2⟩)
theorem own_bool_zero {b : Int32} {P : Prop} (h : own_bool b P) : b = 0 ↔ ¬ P := h.elim (fun q => ⟨fun z => absurd (q.1.symm.trans z) (by decide), fun z => absurd q.2 z⟩) (fun q => ⟨fun _ => q.2, fun _ => q.1⟩)
theorem own_bool_eq {a b : Int32} {P P' : Prop} (h : own_bool a P) (h' : own_bool b P') (i : P ↔ P') : a = b := by
  rcases h with ⟨rfl, q⟩ | ⟨rfl, q⟩ <;> rcases h' with ⟨rfl, q'⟩ | ⟨rfl, q'⟩ <;> first | rfl | exact absurd (i.mp q) q' | exact absurd (i.mpr q') q
theorem own_inc (i : Int32) (h : i.toInt < 2147483647) : (i + 1).toInt = i.toInt + 1 := by
  have a := c_iadd i 1
  have e : (1 : Int32).toInt = 1 := rfl
  rw [e] at a
  have b := rng32 i
  have b' := rng32 (i + 1)
  omega
theorem own_dec (i : Int32) (h : -2147483648 < i.toInt) : (i - 1).toInt = i.toInt - 1 := by
  have a := c_isub i 1
  have e : (1 : Int32).toInt = 1 := rfl
  rw [e] at a
  have b := rng32 i
  have b' := rng32 (i - 1)
  omega
theorem own_add (x y : Int32) (h1 : -2147483648 ≤ x.toInt + y.toInt) (h2 : x.toInt + y.toInt < 2147483648) : (x + y).toInt = x.toInt + y.toInt := by
  have a := c_iadd x y
  have b := rng32 (x + y)
  omega
theorem own_sub (x y : Int32) (h1 : -2147483648 ≤ x.toInt - y.toInt) (h2 : x.toInt - y.toInt < 2147483648) : (x - y).toInt = x.toInt - y.toInt := by
  have a := c_isub x y
  have b := rng32 (x - y)
  omega
/-- (u & 0x7fffffff) % n lies from 0 up to n - 1 -/
theorem own_modr (u n : Int32) (hn : 0 < n.toInt) : 0 ≤ ((u &&& 2147483647) % n).toInt ∧ ((u &&& 2147483647) % n).toInt < n.toInt := by
  have a1 := c_mask u 2147483647 31 (by decide) (by decide)
  have a2 := (c_iremV (u &&& 2147483647) n).1 (by omega) hn
  omega
def QI (h0 : Heap) (P : Int32 → Prop) : Option Value → Heap → List Loc → Prop := fun v h L => (∃ r, v = some (.int r) ∧ P r) ∧ h = h0 ∧ L = []
def QL (h0 : Heap) (P : Int64 → Prop) : Option Value → Heap → List Loc → Prop := fun v h L => (∃ r, v = some (.long r) ∧ P r) ∧ h = h0 ∧ L = []
def QV (h0 : Heap) : Option Value → Heap → List Loc → Prop := fun v h L => v = none ∧ h = h0 ∧ L = []
/-- what the law leaves -/
def Q0 (n0 : Nat) : Option Value → Heap → List Loc → Prop := fun v h L => v = some (.int 1) ∧ Fr n0 L
end OwnLib
theorem own_nat {u w : Int32} (h : u.toInt.toNat = w.toInt.toNat) (h1 : 0 ≤ u.toInt) (h2 : 0 ≤ w.toInt) : u = w := Int32.toInt_inj.mp (by omega)
def own_e (g : Nat → Int32) (k i j : Int32) : Int32 := if k = i then g j.toInt.toNat else if k = j then g i.toInt.toNat else g k.toInt.toNat
theorem own_sw (g : Nat → Int32) (k i j : Int32) (hk : 0 ≤ k.toInt) (hi : 0 ≤ i.toInt) (hj : 0 ≤ j.toInt) : own_ui (own_ui g i.toInt.toNat (g j.toInt.toNat)) j.toInt.toNat (g i.toInt.toNat) k.toInt.toNat = own_e g k i j := by
  unfold own_ui own_e
  by_cases a : k = j
  · subst a
    by_cases b : k = i
    · subst b; rw [if_pos rfl, if_pos rfl]
    · rw [if_pos rfl, if_neg b, if_pos rfl]
  · have a' : ¬ k.toInt.toNat = j.toInt.toNat := fun q => a (own_nat q hk hj)
    by_cases b : k = i
    · subst b; rw [if_neg a', if_pos rfl, if_pos rfl]
    · have b' : ¬ k.toInt.toNat = i.toInt.toNat := fun q => b (own_nat q hk hi)
      rw [if_neg a', if_neg b', if_neg b, if_neg a]
theorem own_m3 (u w : Int32) (h : w = (u &&& (3 : Int32))) : 0 ≤ w.toInt ∧ w.toInt < 4 := by
  have a := c_mask u 3 2 (by decide) (by decide)
  rw [← h] at a; omega
def QSw (Z : State) (n0 : Nat) (h0 : Heap) (a : Addr) (g : Nat → Int32) (i j : Int32) : Option Value → Heap → List Loc → Prop := fun v h L => v = none ∧ Fr n0 L ∧ Keep h0 h [a] ∧ Ara Z h a .int 4 (fun k => .int (own_ui (own_ui g i.toInt.toNat (g j.toInt.toNat)) j.toInt.toNat (g i.toInt.toNat) k))
theorem ef_1 (m : MethodId) (a : Addr) (i : Int32) (j : Int32) : entryFrame m #[(.ref a), (.int i), (.int j)] 4 = mkF m 0 #[.val (.ref a), .val (.int i), .val (.int j), .unset] [] := by first | (simp [entryFrame, mkF, argsToLocals, Value.category]; done) | rfl
theorem pn_1 : plainName "com/example/ergorota/ergorota/engine/Draws" = true := by first | (simp [plainName, overriddenIn]; done) | decide +kernel
theorem d1_0 : decode prog_9_method_5_code 0 = .ok (.aload_n 0, 1) := by decide +kernel
theorem d1_1 : decode prog_9_method_5_code 1 = .ok (.iload_n 1, 1) := by decide +kernel
theorem d1_2 : decode prog_9_method_5_code 2 = .ok (.iaload, 1) := by decide +kernel
theorem d1_3 : decode prog_9_method_5_code 3 = .ok (.istore_n 3, 1) := by decide +kernel
theorem d1_4 : decode prog_9_method_5_code 4 = .ok (.aload_n 0, 1) := by decide +kernel
theorem d1_5 : decode prog_9_method_5_code 5 = .ok (.iload_n 1, 1) := by decide +kernel
theorem d1_6 : decode prog_9_method_5_code 6 = .ok (.aload_n 0, 1) := by decide +kernel
theorem d1_7 : decode prog_9_method_5_code 7 = .ok (.iload_n 2, 1) := by decide +kernel
theorem d1_8 : decode prog_9_method_5_code 8 = .ok (.iaload, 1) := by decide +kernel
theorem d1_9 : decode prog_9_method_5_code 9 = .ok (.iastore, 1) := by decide +kernel
theorem d1_10 : decode prog_9_method_5_code 10 = .ok (.aload_n 0, 1) := by decide +kernel
theorem d1_11 : decode prog_9_method_5_code 11 = .ok (.iload_n 2, 1) := by decide +kernel
theorem d1_12 : decode prog_9_method_5_code 12 = .ok (.iload_n 3, 1) := by decide +kernel
theorem d1_13 : decode prog_9_method_5_code 13 = .ok (.iastore, 1) := by decide +kernel
theorem d1_14 : decode prog_9_method_5_code 14 = .ok (.return_, 1) := by decide +kernel
set_option maxRecDepth 65536 in
set_option maxHeartbeats 40000000 in
theorem rm1 (l : Launch) (Z : State) (a0 : Array Value) (hw : ∀ d ∈ tables_1, d.before a0 Z = true) (a : Addr) (i : Int32) (j : Int32) (n0 : Nat) (g : Nat → Int32) (h0 : Heap) (Z0 : n0 ≤ h0.size) (g_a : n0 ≤ a) (A_a : Ara Z h0 a .int 4 (fun k => .int (g k))) (hi : 0 ≤ i.toInt ∧ i.toInt < 4) (hj : 0 ≤ j.toInt ∧ j.toInt < 4) :
    Ct l Z (⟨"com/example/ergorota/ergorota/engine/Draws", "swap", "([III)V"⟩ : MethodName) prog_9_method_5_code 4 none ({ frames := 0, cells := 0, slots := 0, locals := 0 } : Room) #[(.ref a), (.int i), (.int j)] h0 (QSw Z n0 h0 a g i j) := by
  refine own_met (plainFor_of_name pn_1) (fun m => ef_1 m a i j) ?_
  intro p e s m below meth c T0 X0 hx hby hml hown hnm hret hlk hZ e0
  have N0 := Fr.nil n0
  refine g_aloadN X0 hx hby d1_0 (pc' := 1) rfl rfl rfl ?_
  refine g_iloadN X0 hx hby d1_1 (pc' := 2) rfl rfl ?_
  refine a_iaload X0 hx hby hZ e0 A_a (by omega) (by omega) (v := (.int (g i.toInt.toNat))) (rfl) d1_2 (pc' := 3) rfl ?_
  refine g_istoreN X0 hx hby d1_3 (pc' := 4) rfl (Ls' := #[.val (.ref a), .val (.int i), .val (.int j), .val (.int (g i.toInt.toNat))]) rfl ?_
  refine g_aloadN X0 hx hby d1_4 (pc' := 5) rfl rfl rfl ?_
  refine g_iloadN X0 hx hby d1_5 (pc' := 6) rfl rfl ?_
  refine g_aloadN X0 hx hby d1_6 (pc' := 7) rfl rfl rfl ?_
  refine g_iloadN X0 hx hby d1_7 (pc' := 8) rfl rfl ?_
  refine a_iaload X0 hx hby hZ e0 A_a (by omega) (by omega) (v := (.int (g j.toInt.toNat))) (rfl) d1_8 (pc' := 9) rfl ?_
  refine a_iastore X0 hx hby hZ e0 A_a (by omega) (by omega) d1_9 (pc' := 10) rfl (fun T1 h1 X1 e1 W1 => ?_)
  have Z2 : n0 ≤ h1.size := by rw [W1.size]; exact Z0
  have K3 := (Keep.refl h0 [a]).wr W1 (Or.inl (List.mem_of_getElem? (i := 0) rfl))
  have N4 := Fr.snoc X1 N0 g_a
  replace A_a : Ara Z h1 a .int 4 (fun jz => .int ((own_ui g i.toInt.toNat (g j.toInt.toNat)) jz)) := A_a.setI W1
  refine g_aloadN X1 hx hby d1_10 (pc' := 11) rfl rfl rfl ?_
  refine g_iloadN X1 hx hby d1_11 (pc' := 12) rfl rfl ?_
  refine g_iloadN X1 hx hby d1_12 (pc' := 13) rfl rfl ?_
  refine a_iastore X1 hx hby hZ e1 A_a (by omega) (by omega) d1_13 (pc' := 14) rfl (fun T5 h5 X5 e5 W5 => ?_)
  have Z6 : n0 ≤ h5.size := by rw [W5.size]; exact Z2
  have K7 := K3.wr W5 (Or.inl (List.mem_of_getElem? (i := 0) rfl))
  have N8 := Fr.snoc X5 N4 g_a
  replace A_a : Ara Z h5 a .int 4 (fun jz => .int ((own_ui (own_ui g i.toInt.toNat (g j.toInt.toNat)) j.toInt.toNat (g i.toInt.toNat)) jz)) := A_a.setI W5
  exact g_retV X5 hx hby hlk hret d1_14 (by decide) (by decide) (by rw [e5]; exact ⟨rfl, N8, K7, A_a⟩)
theorem ef_2 (m : MethodId) (a : Addr) (k : Int32) (i : Int32) (j : Int32) : entryFrame m #[(.ref a), (.int k), (.int i), (.int j)] 4 = mkF m 0 #[.val (.ref a), .val (.int k), .val (.int i), .val (.int j)] [] := by first | (simp [entryFrame, mkF, argsToLocals, Value.category]; done) | rfl
theorem pn_2 : plainName "com/example/ergorota/ergorota/engine/DrawsSwapPinLaw" = true := by first | (simp [plainName, overriddenIn]; done) | decide +kernel
theorem d2_0 : decode method_2_code 0 = .ok (.iload_n 1, 1) := by decide +kernel
theorem d2_1 : decode method_2_code 1 = .ok (.iload_n 2, 1) := by decide +kernel
theorem d2_2 : decode method_2_code 2 = .ok (.if_icmp .ne 7, 3) := by decide +kernel
theorem d2_9 : decode method_2_code 9 = .ok (.iload_n 1, 1) := by decide +kernel
theorem d2_10 : decode method_2_code 10 = .ok (.iload_n 3, 1) := by decide +kernel
theorem d2_11 : decode method_2_code 11 = .ok (.if_icmp .ne 7, 3) := by decide +kernel
theorem d2_18 : decode method_2_code 18 = .ok (.aload_n 0, 1) := by decide +kernel
theorem d2_19 : decode method_2_code 19 = .ok (.iload_n 1, 1) := by decide +kernel
theorem d2_20 : decode method_2_code 20 = .ok (.iaload, 1) := by decide +kernel
theorem d2_21 : decode method_2_code 21 = .ok (.ireturn, 1) := by decide +kernel
theorem d2_14 : decode method_2_code 14 = .ok (.aload_n 0, 1) := by decide +kernel
theorem d2_15 : decode method_2_code 15 = .ok (.iload_n 2, 1) := by decide +kernel
theorem d2_16 : decode method_2_code 16 = .ok (.iaload, 1) := by decide +kernel
theorem d2_17 : decode method_2_code 17 = .ok (.ireturn, 1) := by decide +kernel
theorem d2_5 : decode method_2_code 5 = .ok (.aload_n 0, 1) := by decide +kernel
theorem d2_6 : decode method_2_code 6 = .ok (.iload_n 3, 1) := by decide +kernel
theorem d2_7 : decode method_2_code 7 = .ok (.iaload, 1) := by decide +kernel
theorem d2_8 : decode method_2_code 8 = .ok (.ireturn, 1) := by decide +kernel
set_option maxRecDepth 65536 in
set_option maxHeartbeats 40000000 in
theorem rm2 (l : Launch) (Z : State) (a0 : Array Value) (hw : ∀ d ∈ tables_1, d.before a0 Z = true) (a : Addr) (k : Int32) (i : Int32) (j : Int32) (g : Nat → Int32) (h0 : Heap) (A_a : Ara Z h0 a .int 4 (fun k => .int (g k))) (hk : 0 ≤ k.toInt ∧ k.toInt < 4) (hi : 0 ≤ i.toInt ∧ i.toInt < 4) (hj : 0 ≤ j.toInt ∧ j.toInt < 4) :
    Ct l Z (⟨"com/example/ergorota/ergorota/engine/DrawsSwapPinLaw", "expected", "([IIII)I"⟩ : MethodName) method_2_code 4 (some .int) ({ frames := 0, cells := 0, slots := 0, locals := 0 } : Room) #[(.ref a), (.int k), (.int i), (.int j)] h0 (QI h0 (fun r => r = own_e g k i j)) := by
  refine own_met (plainFor_of_name pn_2) (fun m => ef_2 m a k i j) ?_
  intro p e s m below meth c T0 X0 hx hby hml hown hnm hret hlk hZ e0
  refine g_iloadN X0 hx hby d2_0 (pc' := 1) rfl rfl ?_
  refine g_iloadN X0 hx hby d2_1 (pc' := 2) rfl rfl ?_
  refine g_icmpne X0 hx hby d2_2 (pt := 9) (pf := 5) (by decide) (by decide) rfl (fun (h2 : ¬ k = i) => ?_) (fun (h2 : k = i) => ?_)
  · have h2i : ¬ k.toInt = i.toInt := fun q => h2 (Int32.toInt_inj.mp q)
    refine g_iloadN X0 hx hby d2_9 (pc' := 10) rfl rfl ?_
    refine g_iloadN X0 hx hby d2_10 (pc' := 11) rfl rfl ?_
    refine g_icmpne X0 hx hby d2_11 (pt := 18) (pf := 14) (by decide) (by decide) rfl (fun (h11 : ¬ k = j) => ?_) (fun (h11 : k = j) => ?_)
    · have h11i : ¬ k.toInt = j.toInt := fun q => h11 (Int32.toInt_inj.mp q)
      refine g_aloadN X0 hx hby d2_18 (pc' := 19) rfl rfl rfl ?_
      refine g_iloadN X0 hx hby d2_19 (pc' := 20) rfl rfl ?_
      refine a_iaload X0 hx hby hZ e0 A_a (by omega) (by omega) (v := (.int (g k.toInt.toNat))) (rfl) d2_20 (pc' := 21) rfl ?_
      exact g_retI X0 hx hby hlk hret d2_21 (by decide) (by decide) (⟨⟨_, rfl, by unfold own_e; rw [if_neg h2, if_neg h11]⟩, e0, rfl⟩)
    · have h11i : k.toInt = j.toInt := congrArg Int32.toInt h11
      refine g_aloadN X0 hx hby d2_14 (pc' := 15) rfl rfl rfl ?_
      refine g_iloadN X0 hx hby d2_15 (pc' := 16) rfl rfl ?_
      refine a_iaload X0 hx hby hZ e0 A_a (by omega) (by omega) (v := (.int (g i.toInt.toNat))) (rfl) d2_16 (pc' := 17) rfl ?_
      exact g_retI X0 hx hby hlk hret d2_17 (by decide) (by decide) (⟨⟨_, rfl, by unfold own_e; rw [if_neg h2, if_pos h11]⟩, e0, rfl⟩)
  · have h2i : k.toInt = i.toInt := congrArg Int32.toInt h2
    refine g_aloadN X0 hx hby d2_5 (pc' := 6) rfl rfl rfl ?_
    refine g_iloadN X0 hx hby d2_6 (pc' := 7) rfl rfl ?_
    refine a_iaload X0 hx hby hZ e0 A_a (by omega) (by omega) (v := (.int (g j.toInt.toNat))) (rfl) d2_7 (pc' := 8) rfl ?_
    exact g_retI X0 hx hby hlk hret d2_8 (by decide) (by decide) (⟨⟨_, rfl, by unfold own_e; rw [if_pos h2]⟩, e0, rfl⟩)
theorem ef_0 (m : MethodId) (ua : Int32) (ub : Int32) (uc : Int32) (ud : Int32) (ui : Int32) (uj : Int32) : entryFrame m #[(.int ua), (.int ub), (.int uc), (.int ud), (.int ui), (.int uj)] maxLocals = mkF m 0 #[.val (.int ua), .val (.int ub), .val (.int uc), .val (.int ud), .val (.int ui), .val (.int uj), .unset, .unset, .unset, .unset] [] := by first | (simp [entryFrame, mkF, argsToLocals, Value.category, maxLocals]; done) | rfl
theorem pn_0 : plainName "com/example/ergorota/ergorota/engine/DrawsSwapPinLaw" = true := by first | (simp [plainName, overriddenIn]; done) | decide +kernel
theorem pd___III_V_477 : parseMethodDescriptor "([III)V" = some ⟨[(.array .int), .int, .int], none⟩ := by decide +kernel
theorem pd___IIII_I_537 : parseMethodDescriptor "([IIII)I" = some ⟨[(.array .int), .int, .int, .int], some .int⟩ := by decide +kernel
set_option maxRecDepth 65536 in
set_option maxHeartbeats 40000000 in
theorem law0 (l : Launch) (Z : State) (a0 : Array Value) (hw : ∀ d ∈ tables_1, d.before a0 Z = true) (ws : List Jvm.Cond) (ua : Int32) (ub : Int32) (uc : Int32) (ud : Int32) (ui : Int32) (uj : Int32) (n0 : Nat) (h0 : Heap) (Z0 : n0 ≤ h0.size) :
    MetFree l x (head1 (Jvm.Cond.code x code maxLocals ret :: ws) room_1) (fun a U => a = #[(.int ua), (.int ub), (.int uc), (.int ud), (.int ui), (.int uj)] ∧ Z.Warmed39 U.vm ∧ U.heap = h0) (fun _ _ _ _ _ => True) (fun _ U o U' => ∃ v L, o = .returned v ∧ (Q0 n0) v U'.heap L ∧ FrameEnd U o U' L room_1.cells room_1.slots) := by
  refine own_met (plainFor_of_name pn_0) (fun m => ef_0 m ua ub uc ud ui uj) ?_
  intro p e s m below meth c T0 X0 hx hby hml hown hnm hret hlk hZ e0
  have N0 := Fr.nil n0
  refine g_iload X0 hx hby at_0 (pc' := 2) rfl rfl ?_
  refine g_iconst X0 hx hby at_2 (pc' := 3) rfl (n := (3 : Int32)) (by first | rfl | decide) ?_
  refine g_iand X0 hx hby at_3 (pc' := 4) rfl ?_
  refine g_nameI (fun one h_one => ?_)
  have hi := own_m3 ui one h_one
  refine g_istore X0 hx hby at_4 (pc' := 6) rfl (Ls' := #[.val (.int ua), .val (.int ub), .val (.int uc), .val (.int ud), .val (.int ui), .val (.int uj), .val (.int one), .unset, .unset, .unset]) rfl ?_
  refine g_iload X0 hx hby at_6 (pc' := 8) rfl rfl ?_
  refine g_iconst X0 hx hby at_8 (pc' := 9) rfl (n := (3 : Int32)) (by first | rfl | decide) ?_
  refine g_iand X0 hx hby at_9 (pc' := 10) rfl ?_
  refine g_nameI (fun oth h_oth => ?_)
  have hj := own_m3 uj oth h_oth
  refine g_istore X0 hx hby at_10 (pc' := 12) rfl (Ls' := #[.val (.int ua), .val (.int ub), .val (.int uc), .val (.int ud), .val (.int ui), .val (.int uj), .val (.int one), .val (.int oth), .unset, .unset]) rfl ?_
  refine g_iconst X0 hx hby at_12 (pc' := 13) rfl (n := (4 : Int32)) (by first | rfl | decide) ?_
  refine g_newA X0 hx hby hZ e0 (N := 4) (hw _ (List.mem_of_getElem? (i := 0) rfl)) at_13 (pc' := 15) rfl rfl (cap := 4) (Nat.le_refl _) (by decide) (by decide) (by decide) (fun T1 h1 va g1 X1 e1 E1 A_va => ?_)
  have g2 : n0 ≤ va := by rw [g1]; exact Z0
  have Z3 : n0 ≤ h1.size := Nat.le_trans Z0 E1.1
  replace X1 : Stand p l e room_1 s m _ below meth c T1 _ 1 4 := X1
  replace A_va : Ara Z h1 va .int 4 (fun jz => .int ((fun _ => (0 : Int32)) jz)) := A_va
  refine g_dup X1 hx hby at_15 (pc' := 16) rfl rfl ?_
  refine g_iconst X1 hx hby at_16 (pc' := 17) rfl (n := (0 : Int32)) (by first | rfl | decide) ?_
  refine g_iloadN X1 hx hby at_17 (pc' := 18) rfl rfl ?_
  refine a_iastore X1 hx hby hZ e1 A_va (by decide) (by decide) at_18 (pc' := 19) rfl (fun T4 h4 X4 e4 W4 => ?_)
  have Z5 : n0 ≤ h4.size := by rw [W4.size]; exact Z3
  have N6 := Fr.snoc X4 N0 g2
  replace A_va : Ara Z h4 va .int 4 (fun jz => .int ((own_ui (fun _ => (0 : Int32)) 0 ua) jz)) := A_va.setI W4
  refine g_dup X4 hx hby at_19 (pc' := 20) rfl rfl ?_
  refine g_iconst X4 hx hby at_20 (pc' := 21) rfl (n := (1 : Int32)) (by first | rfl | decide) ?_
  refine g_iloadN X4 hx hby at_21 (pc' := 22) rfl rfl ?_
  refine a_iastore X4 hx hby hZ e4 A_va (by decide) (by decide) at_22 (pc' := 23) rfl (fun T7 h7 X7 e7 W7 => ?_)
  have Z8 : n0 ≤ h7.size := by rw [W7.size]; exact Z5
  have N9 := Fr.snoc X7 N6 g2
  replace A_va : Ara Z h7 va .int 4 (fun jz => .int ((own_ui (own_ui (fun _ => (0 : Int32)) 0 ua) 1 ub) jz)) := A_va.setI W7
  refine g_dup X7 hx hby at_23 (pc' := 24) rfl rfl ?_
  refine g_iconst X7 hx hby at_24 (pc' := 25) rfl (n := (2 : Int32)) (by first | rfl | decide) ?_
  refine g_iloadN X7 hx hby at_25 (pc' := 26) rfl rfl ?_
  refine a_iastore X7 hx hby hZ e7 A_va (by decide) (by decide) at_26 (pc' := 27) rfl (fun T10 h10 X10 e10 W10 => ?_)
  have Z11 : n0 ≤ h10.size := by rw [W10.size]; exact Z8
  have N12 := Fr.snoc X10 N9 g2
  replace A_va : Ara Z h10 va .int 4 (fun jz => .int ((own_ui (own_ui (own_ui (fun _ => (0 : Int32)) 0 ua) 1 ub) 2 uc) jz)) := A_va.setI W10
  refine g_dup X10 hx hby at_27 (pc' := 28) rfl rfl ?_
  refine g_iconst X10 hx hby at_28 (pc' := 29) rfl (n := (3 : Int32)) (by first | rfl | decide) ?_
  refine g_iloadN X10 hx hby at_29 (pc' := 30) rfl rfl ?_
  refine a_iastore X10 hx hby hZ e10 A_va (by decide) (by decide) at_30 (pc' := 31) rfl (fun T13 h13 X13 e13 W13 => ?_)
  have Z14 : n0 ≤ h13.size := by rw [W13.size]; exact Z11
  have N15 := Fr.snoc X13 N12 g2
  replace A_va : Ara Z h13 va .int 4 (fun jz => .int ((own_ui (own_ui (own_ui (own_ui (fun _ => (0 : Int32)) 0 ua) 1 ub) 2 uc) 3 ud) jz)) := A_va.setI W13
  refine g_astore X13 hx hby at_31 (pc' := 33) rfl rfl (Ls' := #[.val (.int ua), .val (.int ub), .val (.int uc), .val (.int ud), .val (.int ui), .val (.int uj), .val (.int one), .val (.int oth), .val (.ref va), .unset]) rfl ?_
  refine g_iconst X13 hx hby at_33 (pc' := 34) rfl (n := (4 : Int32)) (by first | rfl | decide) ?_
  refine g_newA X13 hx hby hZ e13 (N := 4) (hw _ (List.mem_of_getElem? (i := 0) rfl)) at_34 (pc' := 36) rfl rfl (cap := 4) (Nat.le_refl _) (by decide) (by decide) (by decide) (fun T16 h16 oa g16 X16 e16 E16 A_oa => ?_)
  have ne17 : va ≠ oa := by rw [g16]; exact Nat.ne_of_lt A_va.lt
  have g18 : n0 ≤ oa := by rw [g16]; exact Z14
  replace A_va := A_va.ext E16
  have Z19 : n0 ≤ h16.size := Nat.le_trans Z14 E16.1
  replace X16 : Stand p l e room_1 s m _ below meth c T16 _ 2 8 := X16
  replace A_oa : Ara Z h16 oa .int 4 (fun jz => .int ((fun _ => (0 : Int32)) jz)) := A_oa
  refine g_dup X16 hx hby at_36 (pc' := 37) rfl rfl ?_
  refine g_iconst X16 hx hby at_37 (pc' := 38) rfl (n := (0 : Int32)) (by first | rfl | decide) ?_
  refine g_iloadN X16 hx hby at_38 (pc' := 39) rfl rfl ?_
  refine a_iastore X16 hx hby hZ e16 A_oa (by decide) (by decide) at_39 (pc' := 40) rfl (fun T20 h20 X20 e20 W20 => ?_)
  replace A_va := A_va.other W20 ne17
  have Z21 : n0 ≤ h20.size := by rw [W20.size]; exact Z19
  have N22 := Fr.snoc X20 N15 g18
  replace A_oa : Ara Z h20 oa .int 4 (fun jz => .int ((own_ui (fun _ => (0 : Int32)) 0 ua) jz)) := A_oa.setI W20
  refine g_dup X20 hx hby at_40 (pc' := 41) rfl rfl ?_
  refine g_iconst X20 hx hby at_41 (pc' := 42) rfl (n := (1 : Int32)) (by first | rfl | decide) ?_
  refine g_iloadN X20 hx hby at_42 (pc' := 43) rfl rfl ?_
  refine a_iastore X20 hx hby hZ e20 A_oa (by decide) (by decide) at_43 (pc' := 44) rfl (fun T23 h23 X23 e23 W23 => ?_)
  replace A_va := A_va.other W23 ne17
  have Z24 : n0 ≤ h23.size := by rw [W23.size]; exact Z21
  have N25 := Fr.snoc X23 N22 g18
  replace A_oa : Ara Z h23 oa .int 4 (fun jz => .int ((own_ui (own_ui (fun _ => (0 : Int32)) 0 ua) 1 ub) jz)) := A_oa.setI W23
  refine g_dup X23 hx hby at_44 (pc' := 45) rfl rfl ?_
  refine g_iconst X23 hx hby at_45 (pc' := 46) rfl (n := (2 : Int32)) (by first | rfl | decide) ?_
  refine g_iloadN X23 hx hby at_46 (pc' := 47) rfl rfl ?_
  refine a_iastore X23 hx hby hZ e23 A_oa (by decide) (by decide) at_47 (pc' := 48) rfl (fun T26 h26 X26 e26 W26 => ?_)
  replace A_va := A_va.other W26 ne17
  have Z27 : n0 ≤ h26.size := by rw [W26.size]; exact Z24
  have N28 := Fr.snoc X26 N25 g18
  replace A_oa : Ara Z h26 oa .int 4 (fun jz => .int ((own_ui (own_ui (own_ui (fun _ => (0 : Int32)) 0 ua) 1 ub) 2 uc) jz)) := A_oa.setI W26
  refine g_dup X26 hx hby at_48 (pc' := 49) rfl rfl ?_
  refine g_iconst X26 hx hby at_49 (pc' := 50) rfl (n := (3 : Int32)) (by first | rfl | decide) ?_
  refine g_iloadN X26 hx hby at_50 (pc' := 51) rfl rfl ?_
  refine a_iastore X26 hx hby hZ e26 A_oa (by decide) (by decide) at_51 (pc' := 52) rfl (fun T29 h29 X29 e29 W29 => ?_)
  replace A_va := A_va.other W29 ne17
  have Z30 : n0 ≤ h29.size := by rw [W29.size]; exact Z27
  have N31 := Fr.snoc X29 N28 g18
  replace A_oa : Ara Z h29 oa .int 4 (fun jz => .int ((own_ui (own_ui (own_ui (own_ui (fun _ => (0 : Int32)) 0 ua) 1 ub) 2 uc) 3 ud) jz)) := A_oa.setI W29
  refine g_astore X29 hx hby at_52 (pc' := 54) rfl rfl (Ls' := #[.val (.int ua), .val (.int ub), .val (.int uc), .val (.int ud), .val (.int ui), .val (.int uj), .val (.int one), .val (.int oth), .val (.ref va), .val (.ref oa)]) rfl ?_
  obtain ⟨gg, hgg⟩ : ∃ gg : Nat → Int32, gg = own_ui (own_ui (own_ui (own_ui (fun _ => (0 : Int32)) 0 ua) 1 ub) 2 uc) 3 ud := ⟨_, rfl⟩
  replace A_va : Ara Z h29 va .int 4 (fun jz => .int (gg jz)) := by rw [hgg]; exact A_va
  replace A_oa : Ara Z h29 oa .int 4 (fun jz => .int (gg jz)) := by rw [hgg]; exact A_oa
  refine g_aload X29 hx hby at_54 (pc' := 56) rfl rfl rfl ?_
  refine g_iload X29 hx hby at_56 (pc' := 58) rfl rfl ?_
  refine g_iload X29 hx hby at_58 (pc' := 60) rfl rfl ?_
  refine g_static X29 hx hby hZ hown hml rfl (hw _ (List.mem_of_getElem? (i := 1) rfl)) (hw _ (List.mem_of_getElem? (i := 2) rfl)) (hw _ (List.mem_of_getElem? (i := 3) rfl)) (hw _ (List.mem_of_getElem? (i := 4) rfl)) (by decide) e29 (rm1 l Z a0 hw va one oth n0 gg h29 Z30 g2 A_va hi hj) pd___III_V_477 (argsL := [(.ref va), (.int one), (.int oth)]) (rest := []) rfl rfl rfl at_60 (pc' := 63) rfl (by decide) (Nat.le_of_ble_eq_true rfl) (by decide) (by decide) ?_
  intro Tp60 vp60 Lp60 Xp60 qp60
  obtain ⟨rfl, Nqp60, Kp60, A_va⟩ := qp60
  replace Xp60 : Stand p l e room_1 s m _ below meth c Tp60 _ 2 8 := Xp60
  replace A_oa := A_oa.keep Kp60 (ninS (Ne.symm ne17) nin0)
  have Z32 : n0 ≤ Tp60.heap.size := Nat.le_trans Z30 Kp60.1
  have Np60 := Fr.app N31 Nqp60
  show Go p e below s (Q0 n0) room_1.cells room_1.slots m Tp60 63 #[.val (.int ua), .val (.int ub), .val (.int uc), .val (.int ud), .val (.int ui), .val (.int uj), .val (.int one), .val (.int oth), .val (.ref va), .val (.ref oa)] []
  refine g_aload Xp60 hx hby at_63 (pc' := 65) rfl rfl rfl ?_
  refine a_arraylength Xp60 hx hby hZ rfl A_va (N := (4 : Int32)) rfl at_65 (pc' := 66) rfl ?_
  refine g_iconst Xp60 hx hby at_66 (pc' := 67) rfl (n := (4 : Int32)) (by first | rfl | decide) ?_
  refine g_icmpne Xp60 hx hby at_67 (pt := 142) (pf := 70) (by decide) (by decide) rfl (fun (h67 : ¬ (4 : Int32) = (4 : Int32)) => (by exfalso; revert h67; decide)) (fun (h67 : (4 : Int32) = (4 : Int32)) => ?_)
  refine g_aload Xp60 hx hby at_70 (pc' := 72) rfl rfl rfl ?_
  refine g_iconst Xp60 hx hby at_72 (pc' := 73) rfl (n := (0 : Int32)) (by first | rfl | decide) ?_
  refine a_iaload Xp60 hx hby hZ rfl A_va (by decide) (by decide) (v := (.int ((own_ui (own_ui gg one.toInt.toNat (gg oth.toInt.toNat)) oth.toInt.toNat (gg one.toInt.toNat)) 0))) (rfl) at_73 (pc' := 74) rfl ?_
  refine g_aload Xp60 hx hby at_74 (pc' := 76) rfl rfl rfl ?_
  refine g_iconst Xp60 hx hby at_76 (pc' := 77) rfl (n := (0 : Int32)) (by first | rfl | decide) ?_
  refine g_iload Xp60 hx hby at_77 (pc' := 79) rfl rfl ?_
  refine g_iload Xp60 hx hby at_79 (pc' := 81) rfl rfl ?_
  refine g_static Xp60 hx hby hZ hown hml rfl (hw _ (List.mem_of_getElem? (i := 5) rfl)) (hw _ (List.mem_of_getElem? (i := 6) rfl)) (hw _ (List.mem_of_getElem? (i := 7) rfl)) (hw _ (List.mem_of_getElem? (i := 8) rfl)) (by decide) rfl (rm2 l Z a0 hw oa (0 : Int32) one oth gg Tp60.heap A_oa (by decide) hi hj) pd___IIII_I_537 (argsL := [(.ref oa), (.int (0 : Int32)), (.int one), (.int oth)]) (rest := [(.int ((own_ui (own_ui gg one.toInt.toNat (gg oth.toInt.toNat)) oth.toInt.toNat (gg one.toInt.toNat)) 0))]) rfl rfl rfl at_81 (pc' := 84) rfl (by decide) (Nat.le_of_ble_eq_true rfl) (by decide) (by decide) ?_
  intro Tp81 vp81 Lp81 Xp81 qp81
  obtain ⟨⟨rp81, rfl, h_rp81⟩, ep81, rfl⟩ := qp81
  rw [List.append_nil] at Xp81
  replace Xp81 : Stand p l e room_1 s m _ below meth c Tp81 _ 2 8 := Xp81
  show Go p e below s (Q0 n0) room_1.cells room_1.slots m Tp81 84 #[.val (.int ua), .val (.int ub), .val (.int uc), .val (.int ud), .val (.int ui), .val (.int uj), .val (.int one), .val (.int oth), .val (.ref va), .val (.ref oa)] [(.int rp81), (.int ((own_ui (own_ui gg one.toInt.toNat (gg oth.toInt.toNat)) oth.toInt.toNat (gg one.toInt.toNat)) 0))]
  refine g_icmpne Xp81 hx hby at_84 (pt := 142) (pf := 87) (by decide) (by decide) rfl (fun (h84 : ¬ ((own_ui (own_ui gg one.toInt.toNat (gg oth.toInt.toNat)) oth.toInt.toNat (gg one.toInt.toNat)) 0) = rp81) => (by exfalso; exact h84 ((own_sw gg 0 one oth (by decide) hi.1 hj.1).trans h_rp81.symm))) (fun (h84 : ((own_ui (own_ui gg one.toInt.toNat (gg oth.toInt.toNat)) oth.toInt.toNat (gg one.toInt.toNat)) 0) = rp81) => ?_)
  have h84i : ((own_ui (own_ui gg one.toInt.toNat (gg oth.toInt.toNat)) oth.toInt.toNat (gg one.toInt.toNat)) 0).toInt = rp81.toInt := congrArg Int32.toInt h84
  refine g_aload Xp81 hx hby at_87 (pc' := 89) rfl rfl rfl ?_
  refine g_iconst Xp81 hx hby at_89 (pc' := 90) rfl (n := (1 : Int32)) (by first | rfl | decide) ?_
  refine a_iaload Xp81 hx hby hZ ep81 A_va (by decide) (by decide) (v := (.int ((own_ui (own_ui gg one.toInt.toNat (gg oth.toInt.toNat)) oth.toInt.toNat (gg one.toInt.toNat)) 1))) (rfl) at_90 (pc' := 91) rfl ?_
  refine g_aload Xp81 hx hby at_91 (pc' := 93) rfl rfl rfl ?_
  refine g_iconst Xp81 hx hby at_93 (pc' := 94) rfl (n := (1 : Int32)) (by first | rfl | decide) ?_
  refine g_iload Xp81 hx hby at_94 (pc' := 96) rfl rfl ?_
  refine g_iload Xp81 hx hby at_96 (pc' := 98) rfl rfl ?_
  refine g_static Xp81 hx hby hZ hown hml rfl (hw _ (List.mem_of_getElem? (i := 5) rfl)) (hw _ (List.mem_of_getElem? (i := 6) rfl)) (hw _ (List.mem_of_getElem? (i := 7) rfl)) (hw _ (List.mem_of_getElem? (i := 8) rfl)) (by decide) ep81 (rm2 l Z a0 hw oa (1 : Int32) one oth gg Tp60.heap A_oa (by decide) hi hj) pd___IIII_I_537 (argsL := [(.ref oa), (.int (1 : Int32)), (.int one), (.int oth)]) (rest := [(.int ((own_ui (own_ui gg one.toInt.toNat (gg oth.toInt.toNat)) oth.toInt.toNat (gg one.toInt.toNat)) 1))]) rfl rfl rfl at_98 (pc' := 101) rfl (by decide) (Nat.le_of_ble_eq_true rfl) (by decide) (by decide) ?_
  intro Tp98 vp98 Lp98 Xp98 qp98
  obtain ⟨⟨rp98, rfl, h_rp98⟩, ep98, rfl⟩ := qp98
  rw [List.append_nil] at Xp98
  replace Xp98 : Stand p l e room_1 s m _ below meth c Tp98 _ 2 8 := Xp98
  show Go p e below s (Q0 n0) room_1.cells room_1.slots m Tp98 101 #[.val (.int ua), .val (.int ub), .val (.int uc), .val (.int ud), .val (.int ui), .val (.int uj), .val (.int one), .val (.int oth), .val (.ref va), .val (.ref oa)] [(.int rp98), (.int ((own_ui (own_ui gg one.toInt.toNat (gg oth.toInt.toNat)) oth.toInt.toNat (gg one.toInt.toNat)) 1))]
  refine g_icmpne Xp98 hx hby at_101 (pt := 142) (pf := 104) (by decide) (by decide) rfl (fun (h101 : ¬ ((own_ui (own_ui gg one.toInt.toNat (gg oth.toInt.toNat)) oth.toInt.toNat (gg one.toInt.toNat)) 1) = rp98) => (by exfalso; exact h101 ((own_sw gg 1 one oth (by decide) hi.1 hj.1).trans h_rp98.symm))) (fun (h101 : ((own_ui (own_ui gg one.toInt.toNat (gg oth.toInt.toNat)) oth.toInt.toNat (gg one.toInt.toNat)) 1) = rp98) => ?_)
  have h101i : ((own_ui (own_ui gg one.toInt.toNat (gg oth.toInt.toNat)) oth.toInt.toNat (gg one.toInt.toNat)) 1).toInt = rp98.toInt := congrArg Int32.toInt h101
  refine g_aload Xp98 hx hby at_104 (pc' := 106) rfl rfl rfl ?_
  refine g_iconst Xp98 hx hby at_106 (pc' := 107) rfl (n := (2 : Int32)) (by first | rfl | decide) ?_
  refine a_iaload Xp98 hx hby hZ ep98 A_va (by decide) (by decide) (v := (.int ((own_ui (own_ui gg one.toInt.toNat (gg oth.toInt.toNat)) oth.toInt.toNat (gg one.toInt.toNat)) 2))) (rfl) at_107 (pc' := 108) rfl ?_
  refine g_aload Xp98 hx hby at_108 (pc' := 110) rfl rfl rfl ?_
  refine g_iconst Xp98 hx hby at_110 (pc' := 111) rfl (n := (2 : Int32)) (by first | rfl | decide) ?_
  refine g_iload Xp98 hx hby at_111 (pc' := 113) rfl rfl ?_
  refine g_iload Xp98 hx hby at_113 (pc' := 115) rfl rfl ?_
  refine g_static Xp98 hx hby hZ hown hml rfl (hw _ (List.mem_of_getElem? (i := 5) rfl)) (hw _ (List.mem_of_getElem? (i := 6) rfl)) (hw _ (List.mem_of_getElem? (i := 7) rfl)) (hw _ (List.mem_of_getElem? (i := 8) rfl)) (by decide) ep98 (rm2 l Z a0 hw oa (2 : Int32) one oth gg Tp60.heap A_oa (by decide) hi hj) pd___IIII_I_537 (argsL := [(.ref oa), (.int (2 : Int32)), (.int one), (.int oth)]) (rest := [(.int ((own_ui (own_ui gg one.toInt.toNat (gg oth.toInt.toNat)) oth.toInt.toNat (gg one.toInt.toNat)) 2))]) rfl rfl rfl at_115 (pc' := 118) rfl (by decide) (Nat.le_of_ble_eq_true rfl) (by decide) (by decide) ?_
  intro Tp115 vp115 Lp115 Xp115 qp115
  obtain ⟨⟨rp115, rfl, h_rp115⟩, ep115, rfl⟩ := qp115
  rw [List.append_nil] at Xp115
  replace Xp115 : Stand p l e room_1 s m _ below meth c Tp115 _ 2 8 := Xp115
  show Go p e below s (Q0 n0) room_1.cells room_1.slots m Tp115 118 #[.val (.int ua), .val (.int ub), .val (.int uc), .val (.int ud), .val (.int ui), .val (.int uj), .val (.int one), .val (.int oth), .val (.ref va), .val (.ref oa)] [(.int rp115), (.int ((own_ui (own_ui gg one.toInt.toNat (gg oth.toInt.toNat)) oth.toInt.toNat (gg one.toInt.toNat)) 2))]
  refine g_icmpne Xp115 hx hby at_118 (pt := 142) (pf := 121) (by decide) (by decide) rfl (fun (h118 : ¬ ((own_ui (own_ui gg one.toInt.toNat (gg oth.toInt.toNat)) oth.toInt.toNat (gg one.toInt.toNat)) 2) = rp115) => (by exfalso; exact h118 ((own_sw gg 2 one oth (by decide) hi.1 hj.1).trans h_rp115.symm))) (fun (h118 : ((own_ui (own_ui gg one.toInt.toNat (gg oth.toInt.toNat)) oth.toInt.toNat (gg one.toInt.toNat)) 2) = rp115) => ?_)
  have h118i : ((own_ui (own_ui gg one.toInt.toNat (gg oth.toInt.toNat)) oth.toInt.toNat (gg one.toInt.toNat)) 2).toInt = rp115.toInt := congrArg Int32.toInt h118
  refine g_aload Xp115 hx hby at_121 (pc' := 123) rfl rfl rfl ?_
  refine g_iconst Xp115 hx hby at_123 (pc' := 124) rfl (n := (3 : Int32)) (by first | rfl | decide) ?_
  refine a_iaload Xp115 hx hby hZ ep115 A_va (by decide) (by decide) (v := (.int ((own_ui (own_ui gg one.toInt.toNat (gg oth.toInt.toNat)) oth.toInt.toNat (gg one.toInt.toNat)) 3))) (rfl) at_124 (pc' := 125) rfl ?_
  refine g_aload Xp115 hx hby at_125 (pc' := 127) rfl rfl rfl ?_
  refine g_iconst Xp115 hx hby at_127 (pc' := 128) rfl (n := (3 : Int32)) (by first | rfl | decide) ?_
  refine g_iload Xp115 hx hby at_128 (pc' := 130) rfl rfl ?_
  refine g_iload Xp115 hx hby at_130 (pc' := 132) rfl rfl ?_
  refine g_static Xp115 hx hby hZ hown hml rfl (hw _ (List.mem_of_getElem? (i := 5) rfl)) (hw _ (List.mem_of_getElem? (i := 6) rfl)) (hw _ (List.mem_of_getElem? (i := 7) rfl)) (hw _ (List.mem_of_getElem? (i := 8) rfl)) (by decide) ep115 (rm2 l Z a0 hw oa (3 : Int32) one oth gg Tp60.heap A_oa (by decide) hi hj) pd___IIII_I_537 (argsL := [(.ref oa), (.int (3 : Int32)), (.int one), (.int oth)]) (rest := [(.int ((own_ui (own_ui gg one.toInt.toNat (gg oth.toInt.toNat)) oth.toInt.toNat (gg one.toInt.toNat)) 3))]) rfl rfl rfl at_132 (pc' := 135) rfl (by decide) (Nat.le_of_ble_eq_true rfl) (by decide) (by decide) ?_
  intro Tp132 vp132 Lp132 Xp132 qp132
  obtain ⟨⟨rp132, rfl, h_rp132⟩, ep132, rfl⟩ := qp132
  rw [List.append_nil] at Xp132
  replace Xp132 : Stand p l e room_1 s m _ below meth c Tp132 _ 2 8 := Xp132
  show Go p e below s (Q0 n0) room_1.cells room_1.slots m Tp132 135 #[.val (.int ua), .val (.int ub), .val (.int uc), .val (.int ud), .val (.int ui), .val (.int uj), .val (.int one), .val (.int oth), .val (.ref va), .val (.ref oa)] [(.int rp132), (.int ((own_ui (own_ui gg one.toInt.toNat (gg oth.toInt.toNat)) oth.toInt.toNat (gg one.toInt.toNat)) 3))]
  refine g_icmpne Xp132 hx hby at_135 (pt := 142) (pf := 138) (by decide) (by decide) rfl (fun (h135 : ¬ ((own_ui (own_ui gg one.toInt.toNat (gg oth.toInt.toNat)) oth.toInt.toNat (gg one.toInt.toNat)) 3) = rp132) => (by exfalso; exact h135 ((own_sw gg 3 one oth (by decide) hi.1 hj.1).trans h_rp132.symm))) (fun (h135 : ((own_ui (own_ui gg one.toInt.toNat (gg oth.toInt.toNat)) oth.toInt.toNat (gg one.toInt.toNat)) 3) = rp132) => ?_)
  have h135i : ((own_ui (own_ui gg one.toInt.toNat (gg oth.toInt.toNat)) oth.toInt.toNat (gg one.toInt.toNat)) 3).toInt = rp132.toInt := congrArg Int32.toInt h135
  refine g_iconst Xp132 hx hby at_138 (pc' := 139) rfl (n := (1 : Int32)) (by first | rfl | decide) ?_
  refine g_goto Xp132 hx hby at_139 (pc' := 143) (by decide) (by decide) ?_
  exact g_retZ Xp132 hx hby hlk (Or.inr rfl) hret at_143 (by decide) (by decide) (⟨rfl, Np60⟩)
set_option maxRecDepth 65536 in
set_option maxHeartbeats 40000000 in
theorem comes_1 {Post : Tables → Env → Array Value → State → Outcome → State → Prop} (hpost : ∀ tb e args s v u, (limb_1_1.after args s (.returned v) u = true ∧ limb_1_2.after args s (.returned v) u = true ∧ True) → FrameEnd s (.returned v) u (Jvm.fieldLocs frame_1_writes args s ++ Jvm.arrayLocs frame_1_arrays args s ++ Jvm.staticLocs frame_1_statics s) 16 128 → Post tb e args s (.returned v) u) :
    ArmFor flags0 classFile x code maxLocals ret World_1 tables_1 room_1 Calls_1 rest_1 Pre_1 Post := by
  intro l hfl _ _ p e ha hc hk s m args below hf hA hF happ hP
  obtain ⟨hcalls, hrest, hpre⟩ := hP
  obtain ⟨-, -, -, hnamed, -, -, -, hat⟩ := (Spec.applies_iff hf).mp happ
  obtain ⟨hg, hn⟩ := and_e (Cond.before_iff.mp (show (Jvm.Cond.and given_1 narrow_1).before args s = true from hpre))
  obtain ⟨g1, g2⟩ := and_e hg
  obtain ⟨g3, g4⟩ := and_e g2
  obtain ⟨g5, g6⟩ := and_e g4
  obtain ⟨g7, g8⟩ := and_e g6
  obtain ⟨g9, g10⟩ := and_e g8
  obtain ⟨g11, g12⟩ := and_e g10
  obtain ⟨w0, w1, w2, w3, w4, w5, rfl⟩ : ∃ w0 w1 w2 w3 w4 w5 : Value, args = #[w0, w1, w2, w3, w4, w5] := by
    have hs : args.size = 6 := by simpa [Cond.value, given_1] using g1
    obtain ⟨L⟩ := args
    match L, hs with
    | [w0, w1, w2, w3, w4, w5], _ => exact ⟨w0, w1, w2, w3, w4, w5, rfl⟩
  have hw := fun d (hd : d ∈ tables_1) => atoms_spec (ws := Jvm.Cond.code x code maxLocals ret :: tables_1) hat d (List.mem_cons_of_mem _ hd)
  have hfit : Fit s := fun {y c} hc i hi => by
    obtain ⟨ha, rfl⟩ := Array.getElem?_eq_some_iff.mp hc
    have q := List.all_eq_true.mp ((Array.all_eq_true_iff_forall_mem.mp hF) _ (Array.getElem_mem ha)) i (List.mem_range.mpr hi)
    simpa [Array.getElem?_eq_getElem hi] using q
  obtain ⟨i0, ei0⟩ := is_v g3
  obtain rfl : w0 = (.int i0) := Option.some.inj ei0
  obtain ⟨i1, ei1⟩ := is_v g5
  obtain rfl : w1 = (.int i1) := Option.some.inj ei1
  obtain ⟨i2, ei2⟩ := is_v g7
  obtain rfl : w2 = (.int i2) := Option.some.inj ei2
  obtain ⟨i3, ei3⟩ := is_v g9
  obtain rfl : w3 = (.int i3) := Option.some.inj ei3
  obtain ⟨i4, ei4⟩ := is_v g11
  obtain rfl : w4 = (.int i4) := Option.some.inj ei4
  obtain ⟨i5, ei5⟩ := is_v g12
  obtain rfl : w5 = (.int i5) := Option.some.inj ei5
  obtain ⟨n, o, h1, h2, h3, _, L, rfl, ⟨rfl, N⟩, hq⟩ := law0 l s _ hw tables_1 i0 i1 i2 i3 i4 i5 s.heap.size s.heap (Nat.le_refl _) p e ha hc hk s m _ below hf ((Spec.applies_iff_loose hf).mp happ).1 ⟨rfl, State.Warmed39.refl s, rfl⟩ trivial
  refine ⟨n, _, h1, h2, h3, hpost _ _ _ _ _ _ ⟨Cond.after_iff.mpr rfl, Cond.after_iff.mpr (eq_i res_at (Term.int_eval (1)) rfl), trivial⟩ ⟨hq.1, hq.2.1, (hq.2.2.sift fun y hy => Or.inr (N y hy)).mono (by decide) (by decide)⟩⟩
theorem main_1_1 : Claimed_1_1 := comes_1 fun _ _ _ _ _ _ h hF => ⟨h.1, hF⟩
theorem main_1_2 : Claimed_1_2 := comes_1 fun _ _ _ _ _ _ h hF => ⟨h.2.1, hF⟩
end Jvm.Pilot.@@N@@
namespace Jvm.Pilot.@@N@@
open Jvm Jvm.ClassFile Sem Op Lib Jvm.Free Jvm.Stand Jvm.Pilot.@@N@@.Jvm.D
/-! MADE BY PROGRAM (witnessworld.py) out of the Statement's table words and the real class files: 9 classes; the members and pool entries that the words name. The judged class is class 1, her method 2. -/
namespace start1
open Jvm.ClassFile
def u (s : String) : CpInfo := .utf8 (stringToUtf16 s)
/-- a pool by its gaps: so many unusable entries, then the entry; so many at the end -/
def gap : Nat → List CpInfo → List CpInfo
  | 0, r => r
  | n + 1, r => .unusable :: gap n r
def poolList (es : List (Nat × CpInfo)) (last : Nat) : List CpInfo := es.foldr (fun e r => gap e.1 (e.2 :: r)) (gap last [])
def pool (es : List (Nat × CpInfo)) (last : Nat) : Array CpInfo := ⟨poolList es last⟩
def fileOf (pool : Array CpInfo) (this : Nat) (attrs : Array Attribute := #[]) (ms : Array MethodInfo := #[]) (fl : Nat := 33) (sup : Nat := 0) (ifs : Array Nat := #[]) (fds : Array FieldInfo := #[]) : ClassFile where
  minorVersion := 0
  majorVersion := 65
  constantPool := pool
  accessFlags := fl
  thisClass := this
  superClass := sup
  interfaces := ifs
  fields := fds
  methods := ms
  attributes := attrs
def plain (name : String) (sup : Option ClassId) : Class where
  name := name
  kind := .ordinary
  loader := none
  accessFlags := 33
  super := sup
  interfaces := #[]
  cf := none
  fields := #[]
  methods := #[]
  instanceTypes := #[]
  staticTypes := #[]
  resolved := #[]
  callSites := []
  init := .initialized
  statics := none
  mirror := none

def pool0 : Array CpInfo := pool [(5, u "<init>"), (0, u "()V"), (1, .class_ 10), (1, u "java/lang/Object")] 113

def k0m0 : Method := { name := "<init>", desc := "()V", sig := { parameters := [], returnType := none }, accessFlags := 1, code := none }
/-- java/lang/Object -/
def k0 : Class := { plain "java/lang/Object" none with
  accessFlags := 33
  interfaces := #[]
  cf := some (fileOf pool0 8 #[] #[{ accessFlags := 1, nameIndex := 5, descriptorIndex := 6, attributes := #[] }] 33 0 #[] #[])
  fields := #[]
  methods := #[k0m0]
  instanceTypes := #[]
  staticTypes := #[]
  resolved := Array.replicate 124 none
  statics := none }

def pool1 : Array CpInfo := pool [(2, .class_ 4), (1, u "java/lang/Object"), (0, u "<init>"), (0, u "()V"), (0, .methodref 8 9), (0, .class_ 10), (0, .nameAndType 11 12), (0, u "com/example/ergorota/ergorota/engine/Draws"), (0, u "swap"), (0, u "([III)V"), (0, .methodref 14 15), (0, .class_ 16), (0, .nameAndType 17 18), (0, u "com/example/ergorota/ergorota/engine/DrawsSwapPinLaw"), (0, u "expected"), (0, u "([IIII)I"), (3, u "law"), (0, u "(IIIIII)Z")] 4

def k1m0 : Method := { name := "<init>", desc := "()V", sig := { parameters := [], returnType := none }, accessFlags := 2, code := none }
def k1c1 : Code := { maxStack := 2, maxLocals := 4, code := method_2_code, exceptionTable := #[], attributes := #[] }
def k1m1 : Method := { name := "expected", desc := "([IIII)I", sig := { parameters := [(.array .int), .int, .int, .int], returnType := some .int }, accessFlags := 10, code := some k1c1 }
def k1c2 : Code := { maxStack := 5, maxLocals := 10, code := code, exceptionTable := #[], attributes := #[] }
def k1m2 : Method := { name := "law", desc := "(IIIIII)Z", sig := { parameters := [.int, .int, .int, .int, .int, .int], returnType := some .boolean }, accessFlags := 9, code := some k1c2 }
/-- com/example/ergorota/ergorota/engine/DrawsSwapPinLaw -/
def k1 : Class := { plain "com/example/ergorota/ergorota/engine/DrawsSwapPinLaw" (some 0) with
  accessFlags := 49
  interfaces := #[]
  cf := some (fileOf pool1 14 #[] #[{ accessFlags := 2, nameIndex := 5, descriptorIndex := 6, attributes := #[] }, { accessFlags := 10, nameIndex := 17, descriptorIndex := 18, attributes := #[] }, { accessFlags := 9, nameIndex := 22, descriptorIndex := 23, attributes := #[] }] 49 2 #[] #[])
  fields := #[]
  methods := #[k1m0, k1m1, k1m2]
  instanceTypes := #[]
  staticTypes := #[]
  resolved := Array.replicate 28 none
  statics := none }

def pool2 : Array CpInfo := pool [(2, .class_ 4), (1, u "java/lang/Object"), (0, u "<init>"), (0, u "()V"), (1, .class_ 10), (1, u "com/example/ergorota/ergorota/engine/Draws"), (10, u "swap"), (0, u "([III)V")] 11

def k2m0 : Method := { name := "<init>", desc := "()V", sig := { parameters := [], returnType := none }, accessFlags := 2, code := none }
def k2c1 : Code := { maxStack := 4, maxLocals := 4, code := prog_9_method_5_code, exceptionTable := #[], attributes := #[] }
def k2m1 : Method := { name := "swap", desc := "([III)V", sig := { parameters := [(.array .int), .int, .int], returnType := none }, accessFlags := 8, code := some k2c1 }
/-- com/example/ergorota/ergorota/engine/Draws -/
def k2 : Class := { plain "com/example/ergorota/ergorota/engine/Draws" (some 0) with
  accessFlags := 48
  interfaces := #[]
  cf := some (fileOf pool2 8 #[] #[{ accessFlags := 2, nameIndex := 5, descriptorIndex := 6, attributes := #[] }, { accessFlags := 8, nameIndex := 21, descriptorIndex := 22, attributes := #[] }] 48 2 #[] #[])
  fields := #[]
  methods := #[k2m0, k2m1]
  instanceTypes := #[]
  staticTypes := #[]
  resolved := Array.replicate 34 none
  statics := none }

def pool3 : Array CpInfo := pool [(1, u "java/lang/Cloneable"), (0, .class_ 1), (0, u "java/lang/Object"), (0, .class_ 3)] 3

/-- java/lang/Cloneable -/
def k3 : Class := { plain "java/lang/Cloneable" (some 0) with
  accessFlags := 1537
  interfaces := #[]
  cf := some (fileOf pool3 2 #[] #[] 1537 4 #[] #[])
  fields := #[]
  methods := #[]
  instanceTypes := #[]
  staticTypes := #[]
  resolved := Array.replicate 8 none
  statics := none }

def pool4 : Array CpInfo := pool [(1, u "java/io/Serializable"), (0, .class_ 1), (0, u "java/lang/Object"), (0, .class_ 3)] 3

/-- java/io/Serializable -/
def k4 : Class := { plain "java/io/Serializable" (some 0) with
  accessFlags := 1537
  interfaces := #[]
  cf := some (fileOf pool4 2 #[] #[] 1537 4 #[] #[])
  fields := #[]
  methods := #[]
  instanceTypes := #[]
  staticTypes := #[]
  resolved := Array.replicate 8 none
  statics := none }

/-- the primitive byte -/
def k5 : Class := { plain "byte" none with kind := .primitive 'B', accessFlags := 0x411 }
/-- [B -/
def k6 : Class := { plain "[B" (some 0) with kind := .array 5 .byte, interfaces := #[3, 4], accessFlags := 1041 }

/-- the primitive int -/
def k7 : Class := { plain "int" none with kind := .primitive 'I', accessFlags := 0x411 }
/-- [I -/
def k8 : Class := { plain "[I" (some 0) with kind := .array 7 .int, interfaces := #[3, 4], accessFlags := 1041 }

def heap : Heap := #[]
def classes : Array Class := #[k0, k1, k2, k3, k4, k5, k6, k7, k8]
def interned : List (Array UInt16 × Addr) := []
def slotsUsed : Nat := 0
def theMethod : MethodId := ⟨1, 2⟩
def args0 : Array Value := #[.int 5, .int 7, .int 1, .int 9, .int 1, .int 2]
def aboutOver (below : List Frame) : State where
  vm := { classes := classes, interned := interned.toArray }
  heap := heap
  slotsUsed := slotsUsed
  threads := #[{ frames := .invoking theMethod args0 :: below }]
def below0 : List Frame := [.native { method := ⟨0, 0⟩, args := #[] }]
def about1 : State := aboutOver below0
def p0 : Program := .bare "" "" ""
def e0 : Env := launch0.env 0 0 0
theorem w_frames : about1.frames = Frame.invoking theMethod args0 :: below0 := rfl
set_option maxRecDepth 65536 in
theorem w_args : argsFit about1.vm theMethod args0 = true := by decide +kernel
set_option maxRecDepth 65536 in
theorem w_heap : heapFits about1 = true := by decide +kernel
set_option maxRecDepth 65536 in
theorem w_runnable : about1.curStatus? = some .runnable := by decide +kernel
set_option maxRecDepth 65536 in
theorem w_alone : about1.alone = true := by decide +kernel
set_option maxRecDepth 65536 in
theorem w_named : about1.methodNamed? x = some theMethod := by decide +kernel
set_option maxRecDepth 65536 in
theorem w_hears : about1.hears theMethod below0 = true := by decide +kernel
set_option maxRecDepth 65536 in
theorem w_ripe : about1.ripe theMethod args0 below0 = true := by decide +kernel
theorem w_running : about1.status = .running := rfl
set_option maxRecDepth 65536 in
theorem w_room : about1.hasRoom e0.platform room_1 = true :=
  launch0.hasRoom_least _ room_1 (by decide +kernel) (by decide +kernel) (by decide +kernel) (by decide +kernel) (by decide +kernel) (by decide +kernel)
theorem allAtoms_all (ts : List Jvm.Cond) (a : Array Jvm.Value) (st : Jvm.State) : (allAtoms ts).before a st = ts.all (fun c => c.before a st) := by
  induction ts with
  | nil => rfl
  | cons c t ih =>
    show (Jvm.Cond.and c (allAtoms t)).before a st = _
    rw [Jvm.Cond.before_and, ih, List.all_cons]
def words1 : List Jvm.Cond := Jvm.Cond.code x code maxLocals ret :: tables_1
/-- a 'code' word, met by the world's own term for the bytes: nothing is compared byte by byte -/
theorem code_word {y : MethodName} {bytes : ByteArray} {mx : Nat} {rt : Option FieldType} {a : Array Value} {s : State} {m : MethodId} {meth : Method} {c : Code} (h1 : s.methodNamed? y = some m) (h2 : s.vm.method? m = some meth) (h3 : meth.code = some c) (h4 : c.code = bytes)
    (h5 : (c.maxLocals == mx && c.exceptionTable.isEmpty && decide (c.maxStack ≤ mostOperands) && decide (meth.sig.returnType = rt) && !meth.locks && decide (parseMethodDescriptor y.desc = some meth.sig)) = true) : (Jvm.Cond.code y bytes mx rt).before a s = true := by
  simp only [Bool.and_eq_true, beq_iff_eq, Bool.not_eq_true', decide_eq_true_eq] at h5
  obtain ⟨⟨⟨⟨⟨g1, g2⟩, g3⟩, g4⟩, g5⟩, g6⟩ := h5
  simp [Cond.before, Cond.holds, Cond.value, h1, h2, h3, h4, g1, g2, g3, g4, g5, g6]
def isCode : Jvm.Cond → Bool
  | .code _ _ _ _ => true
  | _ => false
theorem all_split {L : List Jvm.Cond} {P : Jvm.Cond → Bool} (h1 : L.all (fun c => isCode c || P c) = true) (h2 : ∀ c ∈ L.filter isCode, P c = true) : L.all P = true := by
  refine List.all_eq_true.mpr fun c hc => ?_
  have h := List.all_eq_true.mp h1 c hc
  rcases Bool.eq_false_or_eq_true (isCode c) with hi | hi
  · exact h2 c (List.mem_filter.mpr ⟨hc, hi⟩)
  · simpa [hi] using h
set_option maxRecDepth 65536 in
theorem w_c0 : (Jvm.Cond.code x code maxLocals ret).before args0 about1 = true := code_word (m := ⟨1, 2⟩) (meth := k1m2) (c := k1c2) (by decide +kernel) rfl rfl rfl (by decide +kernel)
set_option maxRecDepth 65536 in
theorem w_c1 : (Jvm.Cond.code ({ cls := "com/example/ergorota/ergorota/engine/Draws", name := "swap", desc := "([III)V" } : Jvm.MethodName) prog_9_method_5_code (4 : Nat) (Option.none : Option Jvm.ClassFile.FieldType)).before args0 about1 = true := code_word (m := ⟨2, 1⟩) (meth := k2m1) (c := k2c1) (by decide +kernel) rfl rfl rfl (by decide +kernel)
set_option maxRecDepth 65536 in
theorem w_c2 : (Jvm.Cond.code ({ cls := "com/example/ergorota/ergorota/engine/DrawsSwapPinLaw", name := "expected", desc := "([IIII)I" } : Jvm.MethodName) method_2_code (4 : Nat) (Option.some Jvm.ClassFile.FieldType.int)).before args0 about1 = true := code_word (m := ⟨1, 1⟩) (meth := k1m1) (c := k1c1) (by decide +kernel) rfl rfl rfl (by decide +kernel)
def codes1 : List Jvm.Cond := [Jvm.Cond.code x code maxLocals ret, Jvm.Cond.code ({ cls := "com/example/ergorota/ergorota/engine/Draws", name := "swap", desc := "([III)V" } : Jvm.MethodName) prog_9_method_5_code (4 : Nat) (Option.none : Option Jvm.ClassFile.FieldType), Jvm.Cond.code ({ cls := "com/example/ergorota/ergorota/engine/DrawsSwapPinLaw", name := "expected", desc := "([IIII)I" } : Jvm.MethodName) method_2_code (4 : Nat) (Option.some Jvm.ClassFile.FieldType.int)]
set_option maxRecDepth 65536 in
theorem codes_eq : words1.filter isCode = codes1 := rfl
theorem w_codes : ∀ c ∈ words1.filter isCode, c.before args0 about1 = true := by
  rw [codes_eq]
  intro c hc
  simp only [codes1, List.mem_cons, List.not_mem_nil, or_false] at hc
  rcases hc with rfl | rfl | rfl
  · exact w_c0
  · exact w_c1
  · exact w_c2
set_option maxRecDepth 65536 in
theorem w_t1 : words1.all (fun c => isCode c || c.before args0 about1) = true := by decide +kernel
theorem w_tables : (allAtoms (Jvm.Cond.code x code maxLocals ret :: tables_1)).before args0 about1 = true := by
  rw [allAtoms_all]
  show words1.all (fun c => c.before args0 about1) = true
  refine all_split ?_ w_codes
  rw [w_t1]
set_option maxRecDepth 65536 in
theorem w_case : (Jvm.Cond.and given_1 narrow_1).before args0 about1 = true := by decide +kernel
theorem w_applies : (headSpec (Jvm.Cond.code x code maxLocals ret :: tables_1) room_1).applies x e0.platform about1 = true :=
  (Spec.applies_iff w_frames).mpr ⟨w_running, w_runnable, w_alone, w_named, w_hears, w_ripe, w_room, w_tables⟩
theorem atStart : AtStart classFile x code maxLocals ret World_1 tables_1 room_1 Calls_1 rest_1 Pre_1 launch0 p0 e0 about1 theMethod args0 below0 :=
  ⟨lists_1, trivial, launch0.admits_env _ _ _, launch0.least_env, fairChoices_fair.cas, fairChoices_fair.clock, w_frames, w_args, w_heap, w_applies, trivial, trivial, w_case⟩
end start1
theorem witness_1 : WitnessClaimed_1 := ⟨start1.p0, start1.e0, start1.about1, start1.theMethod, start1.args0, start1.below0, start1.atStart⟩
end Jvm.Pilot.@@N@@
