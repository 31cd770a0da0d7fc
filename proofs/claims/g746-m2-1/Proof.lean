import JvmDerived
import JvmDerived.Pilot.@@N@@Statement
import JvmDerived.Pilot.@@N@@Code
set_option linter.unusedVariables false
set_option linter.unusedSimpArgs false
namespace Jvm.Pilot.@@N@@
open Jvm Jvm.ClassFile Sem Op Lib Jvm.Free Jvm.Stand Jvm.LawKit Jvm.RoadKit Bundle Jvm.Pilot.@@N@@.Jvm.D
section Own
variable {p : Program} {l : Launch} {e : Env} {R : Room} {s : State} {m : MethodId} {args : Array Value} {below : List Frame} {meth : Method} {c : Code} {T : State} {locs : List Loc} {cells slots : Nat} {Z : State} {a0 : Array Value} {h h' : Heap} {Q : Option Value → Heap → List Loc → Prop} {kc ks n0 : Nat}
/-- from the state st the invocation ends as the contract asks -/
def Gl (p : Program) (e : Env) (below : List Frame) (s : State) (Q : Option Value → Heap → List Loc → Prop) (kc ks : Nat) (st : State) : Prop :=
  ∃ s₂ o, Steps p.tables e below st s₂ ∧ s₂.status = .running ∧ Ended s₂ below o ∧ ∃ v L, o = .returned v ∧ Q v s₂.heap L ∧ FrameEnd s o s₂ L kc ks
theorem Gl.st {a b : State} (h : ∀ t, Steps p.tables e below b t → Steps p.tables e below a t) (H : Gl p e below s Q kc ks b) : Gl p e below s Q kc ks a := by
  obtain ⟨s₂, o, h1, r⟩ := H
  exact ⟨s₂, o, h _ h1, r⟩
theorem Gl.cast {g g' : JFrame} (q : g = g') (H : Gl p e below s Q kc ks (T.setTop g')) : Gl p e below s Q kc ks (T.setTop g) := q ▸ H
theorem Gl.ret (X : Stand p l e R s m args below meth c T locs cells slots) {v : Option Value} (hv : meth.sig.returnType = none → v = none) (hlk : meth.locks = false) {g : State}
    (hst : ∀ fs, (∀ (f : JFrame) (acts : List Action), f.method = m → f.locked = none → f.entered = [] → (doReturn e (T.setTop f) acts v).1 = T.setFrames fs) → Steps p.tables e below g (T.setFrames fs))
    (hQ : Q v T.heap locs) (h1 : cells ≤ kc) (h2 : slots ≤ ks) : Gl p e below s Q kc ks g := by
  obtain ⟨fs, hr, hrun, hended, hW, hsame⟩ := X.leave (v := v) hv hlk
  exact ⟨_, _, hst fs hr, hrun, hended, _, _, rfl, hQ, ⟨_, rfl⟩, hW, hsame.mono h1 h2⟩
theorem Gl.retN (X : Stand p l e R s m args below meth c T locs cells slots) (hx : p.tables.exec = Jvm.exec) {pc : Nat} {Ls : Array Slot} {z : Int32} {t : FieldType} {rest : List Value} (hret : meth.sig.returnType = some t) (ht : t = .boolean ∨ t = .byte ∨ t = .char ∨ t = .short)
    (hd : decode c.code pc = .ok (.ireturn, 1)) (hlk : meth.locks = false) (h1 : cells ≤ kc) (h2 : slots ≤ ks) (hQ : Q (some (.int (nar t z))) T.heap locs) : Gl p e below s Q kc ks (T.setTop (mkF m pc Ls (.int z :: rest))) :=
  Gl.ret X (fun q => by rw [hret] at q; cases q) hlk (fun _ hr => Jvm.RoadKit.retN X hx hret ht hd hr) hQ h1 h2
theorem Gl.retI (X : Stand p l e R s m args below meth c T locs cells slots) (hx : p.tables.exec = Jvm.exec) {pc : Nat} {Ls : Array Slot} {z : Int32} {rest : List Value} (hret : meth.sig.returnType = some .int)
    (hd : decode c.code pc = .ok (.ireturn, 1)) (hlk : meth.locks = false) (h1 : cells ≤ kc) (h2 : slots ≤ ks) (hQ : Q (some (.int z)) T.heap locs) : Gl p e below s Q kc ks (T.setTop (mkF m pc Ls (.int z :: rest))) :=
  Gl.ret X (fun q => by rw [hret] at q; cases q) hlk (fun _ hr => retOut X hx hret rfl (Or.inl ⟨rfl, Or.inl rfl, _, rfl⟩) hd hr) hQ h1 h2
theorem Gl.retJ (X : Stand p l e R s m args below meth c T locs cells slots) (hx : p.tables.exec = Jvm.exec) {pc : Nat} {Ls : Array Slot} {z : Int64} {rest : List Value} (hret : meth.sig.returnType = some .long)
    (hd : decode c.code pc = .ok (.lreturn, 1)) (hlk : meth.locks = false) (h1 : cells ≤ kc) (h2 : slots ≤ ks) (hQ : Q (some (.long z)) T.heap locs) : Gl p e below s Q kc ks (T.setTop (mkF m pc Ls (.long z :: rest))) :=
  Gl.ret X (fun q => by rw [hret] at q; cases q) hlk (fun _ hr => retOut X hx hret rfl (Or.inr (Or.inl ⟨rfl, rfl, _, rfl⟩)) hd hr) hQ h1 h2
theorem Gl.retA (X : Stand p l e R s m args below meth c T locs cells slots) (hx : p.tables.exec = Jvm.exec) {pc : Nat} {Ls : Array Slot} {z : Addr} {t : FieldType} {rest : List Value} (hret : meth.sig.returnType = some (.array t))
    (hd : decode c.code pc = .ok (.areturn, 1)) (hlk : meth.locks = false) (h1 : cells ≤ kc) (h2 : slots ≤ ks) (hQ : Q (some (.ref z)) T.heap locs) : Gl p e below s Q kc ks (T.setTop (mkF m pc Ls (.ref z :: rest))) :=
  Gl.ret X (fun q => by rw [hret] at q; cases q) hlk (fun _ hr => retOut X hx hret rfl (Or.inr (Or.inr (Or.inr (Or.inr ⟨rfl, rfl, rfl⟩)))) hd hr) hQ h1 h2
theorem Gl.retV (X : Stand p l e R s m args below meth c T locs cells slots) (hx : p.tables.exec = Jvm.exec) {pc : Nat} {Ls : Array Slot} (hret : meth.sig.returnType = none)
    (hd : decode c.code pc = .ok (.return_, 1)) (hlk : meth.locks = false) (h1 : cells ≤ kc) (h2 : slots ≤ ks) (hQ : Q none T.heap locs) : Gl p e below s Q kc ks (T.setTop (mkF m pc Ls [])) :=
  Gl.ret X (fun _ => rfl) hlk (fun _ hr => X.returnOut hx hret hd hr) hQ h1 h2
/-- what a body that changes nothing leaves: the value w, the heap as it was -/
def QP (n0 : Nat) (h0 : Heap) (w : Value) (v : Option Value) (h : Heap) (L : List Loc) : Prop := v = some w ∧ Fr n0 L ∧ h = h0
/-- a static call by its contract -/
theorem Gl.callS (X : Stand p l e R s m args below meth c T locs cells slots) (hx : p.tables.exec = Jvm.exec) (hZ : Z.Warmed39 s.vm) {own : String} {index : Nat} {y : MethodName} {bytes : ByteArray} {maxL : Nat} {ret : Option FieldType} {rm : Room} {W : Nat} {as' : Array Value} {Qc : Option Value → Heap → List Loc → Prop}
    (hown : s.vm.findClass own = some m.cls) (w1 : (Cond.methodLink own index y).before a0 Z = true) (w2 : (Cond.static y).before a0 Z = true) (w3 : (Cond.initialized y.cls).before a0 Z = true) (w4 : (Cond.code y bytes maxL ret).before a0 Z = true)
    (hy : y.cls ≠ "java/lang/invoke/MethodHandle" ∧ y.cls ≠ "java/lang/invoke/VarHandle")
    (hM : MetFree l y (head1 [Cond.code y bytes maxL ret] rm) (fun a U => a = as' ∧ Z.Warmed39 U.vm ∧ U.heap = h) (fun _ _ _ _ _ => True) (fun _ U o U' => ∃ v L, o = .returned v ∧ Qc v U'.heap L ∧ FrameEnd U o U' L rm.cells rm.slots))
    (hf : rm.frames + 1 ≤ R.frames) (hl : W + (maxL + 11) + rm.locals ≤ R.locals) (eT : T.heap = h) (hc1 : cells + rm.cells ≤ R.cells) (hs1 : slots + rm.slots ≤ R.slots)
    {pc : Nat} {Ls : Array Slot} {stk argsL rest : List Value} (hsz : Ls.size = c.maxLocals) (hlen : ∀ sig, parseMethodDescriptor y.desc = some sig → argsL.length = sig.parameters.length) (hstk : stk = argsL.reverse ++ rest) (has : argsL.toArray = as')
    (hW : (rest.map fun v => v.category).sum ≤ W) (hd : decode c.code pc = .ok (.invokestatic index, 3))
    (K : ∀ (T' : State) (v : Option Value) (L : List Loc), Stand p l e R s m args below meth c T' (locs ++ L) (cells + rm.cells) (slots + rm.slots) → Qc v T'.heap L → Gl p e below s Q kc ks (T'.setTop (mkF m (pc + 3) Ls (v.toList ++ rest)))) :
    Gl p e below s Q kc ks (T.setTop (mkF m pc Ls stk)) := by
  obtain ⟨v, _, ⟨T', L', k', n'⟩, -, X', ⟨Lc, hQ, l1, y1, z1⟩, st⟩ := Jvm.LawKit.callS X hx (y := y) hown (mvT hZ w1) (mvT hZ w2) (mvT hZ w3) (mvT hZ w4) hy (backOf (W := W) hM hZ w4 w3 hf hl) (g := mkF m pc Ls stk) rfl hsz (argsL := argsL) (rest := rest) hlen hstk
    (by show 2 * 0 + _ ≤ _; rw [Nat.mul_zero, Nat.zero_add]; exact hW) hd (fun _ _ => ⟨has, eT, hc1, hs1⟩)
  dsimp only [Pt.U, Pt.locs, Pt.cells, Pt.slots] at X' l1 y1 z1 st hQ
  subst l1 y1 z1
  exact Gl.st (fun t k => st t k) (K T' v Lc X' hQ)
/-- a static call of a body that changes nothing -/
theorem Gl.callP (X : Stand p l e R s m args below meth c T locs cells slots) (hx : p.tables.exec = Jvm.exec) (hZ : Z.Warmed39 s.vm) {own : String} {index : Nat} {y : MethodName} {bytes : ByteArray} {maxL : Nat} {ret : Option FieldType} {fr lo W : Nat} {as' : Array Value} {w : Value}
    (hown : s.vm.findClass own = some m.cls) (w1 : (Cond.methodLink own index y).before a0 Z = true) (w2 : (Cond.static y).before a0 Z = true) (w3 : (Cond.initialized y.cls).before a0 Z = true) (w4 : (Cond.code y bytes maxL ret).before a0 Z = true)
    (hy : y.cls ≠ "java/lang/invoke/MethodHandle" ∧ y.cls ≠ "java/lang/invoke/VarHandle")
    (hM : MetFree l y (head1 [Cond.code y bytes maxL ret] ⟨fr, 0, 0, lo⟩) (fun a U => a = as' ∧ Z.Warmed39 U.vm ∧ U.heap = h) (fun _ _ _ _ _ => True) (fun _ U o U' => ∃ v L, o = .returned v ∧ QP n0 h w v U'.heap L ∧ FrameEnd U o U' L 0 0))
    (hf : fr + 1 ≤ R.frames) (hl : W + (maxL + 11) + lo ≤ R.locals) (eT : T.heap = h) (N : Fr n0 locs) (hc1 : cells ≤ R.cells) (hs1 : slots ≤ R.slots)
    {pc : Nat} {Ls : Array Slot} {stk argsL rest : List Value} (hsz : Ls.size = c.maxLocals) (hlen : ∀ sig, parseMethodDescriptor y.desc = some sig → argsL.length = sig.parameters.length) (hstk : stk = argsL.reverse ++ rest) (has : argsL.toArray = as')
    (hW : (rest.map fun v => v.category).sum ≤ W) (hd : decode c.code pc = .ok (.invokestatic index, 3))
    (K : ∀ (T' : State) (L : List Loc), Stand p l e R s m args below meth c T' L cells slots → T'.heap = h → Fr n0 L → Gl p e below s Q kc ks (T'.setTop (mkF m (pc + 3) Ls (w :: rest)))) :
    Gl p e below s Q kc ks (T.setTop (mkF m pc Ls stk)) :=
  Gl.callS (rm := ⟨fr, 0, 0, lo⟩) X hx hZ hown w1 w2 w3 w4 hy hM hf hl eT hc1 hs1 hsz hlen hstk has hW hd fun T' v L X' hq => by
    obtain ⟨rfl, N', e'⟩ := hq
    exact K T' _ X' e' (N.app N')
end Own
theorem own_ltI {x y : Int32} : x < y ↔ x.toInt < y.toInt := Int32.lt_iff_toInt_lt
theorem own_eqI {x y : Int32} : x = y ↔ x.toInt = y.toInt := ⟨fun h => h ▸ rfl, fun h => Int32.toInt_inj.mp h⟩
theorem own_ltJ {x y : Int64} : x < y ↔ x.toInt < y.toInt := Int64.lt_iff_toInt_lt
theorem own_eqJ {x y : Int64} : x = y ↔ x.toInt = y.toInt := ⟨fun h => h ▸ rfl, fun h => Int64.toInt_inj.mp h⟩
/-- a truth as the int that a boolean method returns -/
def own_b (b : Bool) : Int32 := if b then 1 else 0
theorem own_b1 {b : Bool} (h : b = true) : some (Value.int (nar .boolean 1)) = some (Value.int (own_b b)) := by subst h; rfl
theorem own_b0 {b : Bool} (h : b = false) : some (Value.int (nar .boolean 0)) = some (Value.int (own_b b)) := by subst h; rfl
theorem own_bn (b : Bool) : nar .boolean (own_b b) = own_b b := by cases b <;> rfl
theorem own_bt {b : Bool} (h : b = true) : ¬ own_b b = 0 := by subst h; decide
theorem own_bf {b : Bool} (h : ¬ b = true) : own_b b = 0 := by cases b with | true => exact absurd rfl h | false => rfl
def QL (n0 : Nat) (v : Option Value) (h : Heap) (L : List Loc) : Prop := v = some (.int 1) ∧ Fr n0 L
theorem own_pn0 : plainName "com/example/leafrank/leafrank/core/IgnoredSectionNextPinLaw" = true := by first | (simp [plainName, overriddenIn]; done) | decide +kernel
theorem own_pn1 : plainName "com/example/leafrank/leafrank/core/IgnoredSection" = true := by first | (simp [plainName, overriddenIn]; done) | decide +kernel
theorem own_pd0 : parseMethodDescriptor "(IIII)C" = some ⟨[.int, .int, .int, .int], some .char⟩ := by decide +kernel
theorem own_pd1 : parseMethodDescriptor "()V" = some ⟨[], none⟩ := by decide +kernel
theorem own_pd2 : parseMethodDescriptor "([CI)I" = some ⟨[(.array .char), .int], some .int⟩ := by decide +kernel
theorem own_pd3 : parseMethodDescriptor "(C)Z" = some ⟨[.char], some .boolean⟩ := by decide +kernel
section OwnA
variable {p : Program} {l : Launch} {e : Env} {R : Room} {s : State} {m : MethodId} {args : Array Value} {below : List Frame} {meth : Method} {c : Code} {T : State} {locs : List Loc} {cells slots : Nat} {Z : State} {a0 : Array Value} {h h' : Heap} {Q : Option Value → Heap → List Loc → Prop} {kc ks n0 : Nat} {a b : Addr} {ty : FieldType} {vs : List Value}
/-- the array at a is of the kind ty and holds just vs -/
def Ar (Z : State) (h : Heap) (a : Addr) (ty : FieldType) (vs : List Value) : Prop := ∃ c : Cell, Arr Z h a c ty ∧ c.slots.toList = vs
theorem Ar.lt (F : Ar Z h a ty vs) : a < h.size := by obtain ⟨c, A, -⟩ := F; exact A.lt
theorem Ar.ext (F : Ar Z h a ty vs) (E : Ext h h') : Ar Z h' a ty vs := by obtain ⟨c, A, r⟩ := F; exact ⟨c, A.ext E, r⟩
theorem Ar.other {sl : Nat} {v : Value} (F : Ar Z h b ty vs) (W : Wr h h' a sl v) (q : b ≠ a) : Ar Z h' b ty vs := by obtain ⟨c, A, r⟩ := F; exact ⟨c, A.other W q, r⟩
theorem Ar.keep {ws : List Addr} (F : Ar Z h a ty vs) (K : Keep h h' ws) (q : a ∉ ws) : Ar Z h' a ty vs := by obtain ⟨c, A, r⟩ := F; exact ⟨c, ⟨K.2.1 a c A.1 q, A.2⟩, r⟩
theorem Ar.same {k : Nat} {v : Value} (F : Ar Z h a ty vs) (W : Wr h h' a k v) : Ar Z h' a ty (vs.set k v) := by
  obtain ⟨c, A, r⟩ := F
  exact ⟨c.setSlot k v, A.same W, by subst r; simp [Cell.setSlot]⟩
theorem own_clamp {j : Int32} {k : Nat} (hj : j.toInt = k) : j.toNatClampNeg = k ∧ ¬ j < 0 := by
  refine ⟨?_, fun q => ?_⟩
  · have : j.toNatClampNeg = j.toInt.toNat := rfl
    rw [this, hj]; rfl
  · have := own_ltI.mp q
    have h0 : (0 : Int32).toInt = 0 := by decide
    omega
theorem own_in {cl : Cell} {j : Int32} {k : Nat} (hj : j.toInt = k) (e : cl.slots.toList = vs) (hk : k < vs.length) : ¬ (j < 0 ∨ cl.slots.size ≤ j.toNatClampNeg) := by
  obtain ⟨h1, h2⟩ := own_clamp hj
  have : cl.slots.size = vs.length := by rw [← e]; simp
  rw [h1, this]
  exact fun q => q.elim h2 fun q => absurd q (by omega)
theorem own_at {cl : Cell} {j : Int32} {k : Nat} {v : Value} (hj : j.toInt = k) (e : cl.slots.toList = vs) (hv : vs[k]? = some v) : cl.slots[j.toNatClampNeg]? = some v := by
  rw [(own_clamp hj).1, ← Array.getElem?_toList, e]; exact hv
theorem own_len {k : Nat} {v : Value} (hv : vs[k]? = some v) : k < vs.length := (List.getElem?_eq_some_iff.mp hv).1
theorem Gl.caload (X : Stand p l e R s m args below meth c T locs cells slots) (hx : p.tables.exec = Jvm.exec) (hZ : Z.Warmed39 s.vm) (eT : T.heap = h) (A : Ar Z h a .char vs) {j : Int32} {k : Nat} {v : Value} (hj : j.toInt = k) (hv : vs[k]? = some v)
    {pc : Nat} {Ls : Array Slot} {rest : List Value} (hd : decode c.code pc = .ok (.caload, 1)) (K : Gl p e below s Q kc ks (T.setTop (mkF m (pc + 1) Ls (v :: rest)))) : Gl p e below s Q kc ks (T.setTop (mkF m pc Ls (.int j :: .ref a :: rest))) := by
  obtain ⟨cl, A, q⟩ := A
  exact Gl.st (fun t k => X.caload hx (by rw [eT]; exact A.1) (State.isArrayOf_alike hZ.alike A.2.1) A.2.2 (own_in hj q (own_len hv)) (own_at hj q hv) (g := mkF m pc Ls (.int j :: .ref a :: rest)) rfl rfl hd t k) K
theorem Gl.baload (X : Stand p l e R s m args below meth c T locs cells slots) (hx : p.tables.exec = Jvm.exec) (hZ : Z.Warmed39 s.vm) (eT : T.heap = h) (A : Ar Z h a .byte vs) {j : Int32} {k : Nat} {v : Value} (hj : j.toInt = k) (hv : vs[k]? = some v)
    {pc : Nat} {Ls : Array Slot} {rest : List Value} (hd : decode c.code pc = .ok (.baload, 1)) (K : Gl p e below s Q kc ks (T.setTop (mkF m (pc + 1) Ls (v :: rest)))) : Gl p e below s Q kc ks (T.setTop (mkF m pc Ls (.int j :: .ref a :: rest))) := by
  obtain ⟨cl, A, q⟩ := A
  exact Gl.st (fun t k => X.baloadBytes hx (by rw [eT]; exact A.1) (State.isArrayOf_alike hZ.alike A.2.1) A.2.2 (own_in hj q (own_len hv)) (own_at hj q hv) (g := mkF m pc Ls (.int j :: .ref a :: rest)) rfl rfl hd t k) K
theorem Gl.iaload (X : Stand p l e R s m args below meth c T locs cells slots) (hx : p.tables.exec = Jvm.exec) (hZ : Z.Warmed39 s.vm) (eT : T.heap = h) (A : Ar Z h a .int vs) {j : Int32} {k : Nat} {v : Value} (hj : j.toInt = k) (hv : vs[k]? = some v)
    {pc : Nat} {Ls : Array Slot} {rest : List Value} (hd : decode c.code pc = .ok (.iaload, 1)) (K : Gl p e below s Q kc ks (T.setTop (mkF m (pc + 1) Ls (v :: rest)))) : Gl p e below s Q kc ks (T.setTop (mkF m pc Ls (.int j :: .ref a :: rest))) := by
  obtain ⟨cl, A, q⟩ := A
  exact Gl.st (fun t k => X.iaload hx (by rw [eT]; exact A.1) (State.isArrayOf_alike hZ.alike A.2.1) A.2.2 (own_in hj q (own_len hv)) (own_at hj q hv) (g := mkF m pc Ls (.int j :: .ref a :: rest)) rfl rfl hd t k) K
theorem Gl.laload (X : Stand p l e R s m args below meth c T locs cells slots) (hx : p.tables.exec = Jvm.exec) (hZ : Z.Warmed39 s.vm) (eT : T.heap = h) (A : Ar Z h a .long vs) {j : Int32} {k : Nat} {v : Value} (hj : j.toInt = k) (hv : vs[k]? = some v)
    {pc : Nat} {Ls : Array Slot} {rest : List Value} (hd : decode c.code pc = .ok (.laload, 1)) (K : Gl p e below s Q kc ks (T.setTop (mkF m (pc + 1) Ls (v :: rest)))) : Gl p e below s Q kc ks (T.setTop (mkF m pc Ls (.int j :: .ref a :: rest))) := by
  obtain ⟨cl, A, q⟩ := A
  exact Gl.st (fun t k => X.laload hx (by rw [eT]; exact A.1) (State.isArrayOf_alike hZ.alike A.2.1) A.2.2 (own_in hj q (own_len hv)) (own_at hj q hv) (g := mkF m pc Ls (.int j :: .ref a :: rest)) rfl rfl hd t k) K
theorem Gl.alen (X : Stand p l e R s m args below meth c T locs cells slots) (hx : p.tables.exec = Jvm.exec) (hZ : Z.Warmed39 s.vm) (eT : T.heap = h) (A : Ar Z h a ty vs) {z : Int32} (hz : vs.length.toInt32 = z)
    {pc : Nat} {Ls : Array Slot} {rest : List Value} (hd : decode c.code pc = .ok (.arraylength, 1)) (K : Gl p e below s Q kc ks (T.setTop (mkF m (pc + 1) Ls (.int z :: rest)))) : Gl p e below s Q kc ks (T.setTop (mkF m pc Ls (.ref a :: rest))) := by
  obtain ⟨cl, A, q⟩ := A
  have e1 : cl.slots.size.toInt32 = z := by rw [← hz, ← q]; simp
  exact Gl.st (fun t k => X.arraylength hx (by rw [eT]; exact A.1) (State.isArrayOf_alike hZ.alike A.2.1) (g := mkF m pc Ls (.ref a :: rest)) rfl rfl hd t k) (by rw [e1]; exact K)
theorem Gl.castore (X : Stand p l e R s m args below meth c T locs cells slots) (hx : p.tables.exec = Jvm.exec) (hZ : Z.Warmed39 s.vm) (eT : T.heap = h) (A : Ar Z h a .char vs) (N : Fr n0 locs) (ga : n0 ≤ a) {j x : Int32} {k : Nat} (hj : j.toInt = k) (hk : k < vs.length)
    {pc : Nat} {Ls : Array Slot} {rest : List Value} (hd : decode c.code pc = .ok (.castore, 1))
    (K : ∀ (T' : State) (h' : Heap) (L : List Loc), Stand p l e R s m args below meth c T' L cells slots → T'.heap = h' → Fr n0 L → Wr h h' a k (.int (nar .char x)) → Ar Z h' a .char (vs.set k (.int (nar .char x))) → Gl p e below s Q kc ks (T'.setTop (mkF m (pc + 1) Ls rest))) :
    Gl p e below s Q kc ks (T.setTop (mkF m pc Ls (.int x :: .int j :: .ref a :: rest))) := by
  obtain ⟨cl, B, q⟩ := A
  obtain ⟨T', h', X', e', W', st⟩ := stC X hx hZ eT B (j := j) (x := x) (own_in hj q hk) (g := mkF m pc Ls (.int x :: .int j :: .ref a :: rest)) rfl rfl hd
  have N' := Fr.snoc X' N ga
  rw [(own_clamp hj).1] at W'
  exact Gl.st st (K T' h' _ X' e' N' W' (Ar.same ⟨cl, B, q⟩ W'))
theorem Gl.bastore (X : Stand p l e R s m args below meth c T locs cells slots) (hx : p.tables.exec = Jvm.exec) (hZ : Z.Warmed39 s.vm) (eT : T.heap = h) (A : Ar Z h a .byte vs) (N : Fr n0 locs) (ga : n0 ≤ a) {j x : Int32} {k : Nat} (hj : j.toInt = k) (hk : k < vs.length)
    {pc : Nat} {Ls : Array Slot} {rest : List Value} (hd : decode c.code pc = .ok (.bastore, 1))
    (K : ∀ (T' : State) (h' : Heap) (L : List Loc), Stand p l e R s m args below meth c T' L cells slots → T'.heap = h' → Fr n0 L → Wr h h' a k (.int (nar .byte x)) → Ar Z h' a .byte (vs.set k (.int (nar .byte x))) → Gl p e below s Q kc ks (T'.setTop (mkF m (pc + 1) Ls rest))) :
    Gl p e below s Q kc ks (T.setTop (mkF m pc Ls (.int x :: .int j :: .ref a :: rest))) := by
  obtain ⟨cl, B, q⟩ := A
  obtain ⟨T', h', X', e', W', st⟩ := stB X hx hZ eT B (j := j) (x := x) (own_in hj q hk) (g := mkF m pc Ls (.int x :: .int j :: .ref a :: rest)) rfl rfl hd
  have N' := Fr.snoc X' N ga
  rw [(own_clamp hj).1] at W'
  exact Gl.st st (K T' h' _ X' e' N' W' (Ar.same ⟨cl, B, q⟩ W'))
theorem Gl.iastore (X : Stand p l e R s m args below meth c T locs cells slots) (hx : p.tables.exec = Jvm.exec) (hZ : Z.Warmed39 s.vm) (eT : T.heap = h) (A : Ar Z h a .int vs) (N : Fr n0 locs) (ga : n0 ≤ a) {j x : Int32} {k : Nat} (hj : j.toInt = k) (hk : k < vs.length)
    {pc : Nat} {Ls : Array Slot} {rest : List Value} (hd : decode c.code pc = .ok (.iastore, 1))
    (K : ∀ (T' : State) (h' : Heap) (L : List Loc), Stand p l e R s m args below meth c T' L cells slots → T'.heap = h' → Fr n0 L → Wr h h' a k (.int x) → Ar Z h' a .int (vs.set k (.int x)) → Gl p e below s Q kc ks (T'.setTop (mkF m (pc + 1) Ls rest))) :
    Gl p e below s Q kc ks (T.setTop (mkF m pc Ls (.int x :: .int j :: .ref a :: rest))) := by
  obtain ⟨cl, B, q⟩ := A
  obtain ⟨T', h', X', e', W', st⟩ := stI X hx hZ eT B (j := j) (x := x) (own_in hj q hk) (g := mkF m pc Ls (.int x :: .int j :: .ref a :: rest)) rfl rfl hd
  have N' := Fr.snoc X' N ga
  rw [(own_clamp hj).1] at W'
  exact Gl.st st (K T' h' _ X' e' N' W' (Ar.same ⟨cl, B, q⟩ W'))
theorem Gl.lastore (X : Stand p l e R s m args below meth c T locs cells slots) (hx : p.tables.exec = Jvm.exec) (hZ : Z.Warmed39 s.vm) (eT : T.heap = h) (A : Ar Z h a .long vs) (N : Fr n0 locs) (ga : n0 ≤ a) {j : Int32} {x : Int64} {k : Nat} (hj : j.toInt = k) (hk : k < vs.length)
    {pc : Nat} {Ls : Array Slot} {rest : List Value} (hd : decode c.code pc = .ok (.lastore, 1))
    (K : ∀ (T' : State) (h' : Heap) (L : List Loc), Stand p l e R s m args below meth c T' L cells slots → T'.heap = h' → Fr n0 L → Wr h h' a k (.long x) → Ar Z h' a .long (vs.set k (.long x)) → Gl p e below s Q kc ks (T'.setTop (mkF m (pc + 1) Ls rest))) :
    Gl p e below s Q kc ks (T.setTop (mkF m pc Ls (.long x :: .int j :: .ref a :: rest))) := by
  obtain ⟨cl, B, q⟩ := A
  obtain ⟨T', h', X', e', W', st⟩ := stJ X hx hZ eT B (j := j) (x := x) (own_in hj q hk) (g := mkF m pc Ls (.long x :: .int j :: .ref a :: rest)) rfl rfl hd
  have N' := Fr.snoc X' N ga
  rw [(own_clamp hj).1] at W'
  exact Gl.st st (K T' h' _ X' e' N' W' (Ar.same ⟨cl, B, q⟩ W'))
theorem Gl.newA (X : Stand p l e R s m args below meth c T locs cells slots) (hx : p.tables.exec = Jvm.exec) (hZ : Z.Warmed39 s.vm) {aty : ArrayType} (w : (Cond.arrayClass (newarray.typeOf aty)).before a0 Z = true) (eT : T.heap = h) {n : Int32} {k cap : Nat} (hn : n.toInt = k) (hcap : k ≤ cap) (hb : cap * 8 ≤ 536870912) (hc : cells + 1 ≤ R.cells) (hl : slots + cap ≤ R.slots)
    {pc : Nat} {Ls : Array Slot} {rest : List Value} (hd : decode c.code pc = .ok (.newarray aty, 2))
    (K : ∀ (T' : State) (h' : Heap) (b : Addr), b = h.size → Stand p l e R s m args below meth c T' locs (cells + 1) (slots + cap) → T'.heap = h' → Ext h h' → Ar Z h' b (newarray.typeOf aty) (List.replicate k (defaultValue (newarray.typeOf aty))) → Gl p e below s Q kc ks (T'.setTop (mkF m (pc + 2) Ls (.ref b :: rest)))) :
    Gl p e below s Q kc ks (T.setTop (mkF m pc Ls (.int n :: rest))) := by
  obtain ⟨h1, h2⟩ := own_clamp hn
  obtain ⟨T', h', cA, X', e', E', A', st⟩ := newP X hx hZ w eT (g := mkF m pc Ls (.int n :: rest)) rfl hd rfl h2 (cap := cap) (by rw [h1]; exact hcap) hb hc hl
  exact Gl.st st (K T' h' _ rfl X' e' E' ⟨_, A', by simp [Jvm.RoadKit.newA, h1]⟩)
theorem Gl.getF (X : Stand p l e R s m args below meth c T locs cells slots) (hx : p.tables.exec = Jvm.exec) (hZ : Z.Warmed39 s.vm) {own O n d : String} {index : Nat} (hown : s.vm.findClass own = some m.cls) (w : (Cond.fieldLink own index O n d).before a0 Z = true) (eT : T.heap = h) {v : Value} (F : Fld Z h a O n d v)
    {pc : Nat} {Ls : Array Slot} {rest : List Value} (hd : decode c.code pc = .ok (.getfield index, 3))
    (K : ∀ (T' : State), Stand p l e R s m args below meth c T' locs cells slots → T'.heap = h → Gl p e below s Q kc ks (T'.setTop (mkF m (pc + 3) Ls (v :: rest)))) :
    Gl p e below s Q kc ks (T.setTop (mkF m pc Ls (.ref a :: rest))) := by
  obtain ⟨T', X', e', st⟩ := Jvm.RoadKit.getF X hx hZ hown (host := "") (Or.inl w) Via.refl eT F (g := mkF m pc Ls (.ref a :: rest)) rfl rfl hd
  exact Gl.st st (K T' X' e')
theorem Gl.putF (X : Stand p l e R s m args below meth c T locs cells slots) (hx : p.tables.exec = Jvm.exec) (hZ : Z.Warmed39 s.vm) {own O n d C : String} {index kk : Nat} {ty : FieldType} (hown : s.vm.findClass own = some m.cls) (w : (Cond.fieldLink own index O n d).before a0 Z = true) (eT : T.heap = h) {v old : Value} (F : Fld Z h a O n d old)
    (E : Exa Z h a C) (L : (Cond.lays C O n d).before a0 Z = true ∨ ((Cond.laysFinal C O n d).before a0 Z = true ∧ own = O ∧ meth.name = "<init>")) (wi : (Cond.instantiable C kk).before a0 Z = true) (hty : parseFieldDescriptor d = some ty) (hn : narrow ty v = v) (hf : fits ty v = true) (N : Fr n0 locs) (ga : n0 ≤ a)
    {pc : Nat} {Ls : Array Slot} {rest : List Value} (hd : decode c.code pc = .ok (.putfield index, 3))
    (K : ∀ (T' : State) (h' : Heap) (L : List Loc), Stand p l e R s m args below meth c T' L cells slots → T'.heap = h' → Fr n0 L → Wr h h' a (Jvm.RoadKit.slotOf Z O n d) v → Gl p e below s Q kc ks (T'.setTop (mkF m (pc + 3) Ls rest))) :
    Gl p e below s Q kc ks (T.setTop (mkF m pc Ls (v :: .ref a :: rest))) := by
  obtain ⟨T', h', X', e', W', st⟩ := Jvm.RoadKit.putF X hx hZ hown (host := "") (Or.inl w) Via.refl eT F E L wi hty hn hf (g := mkF m pc Ls (v :: .ref a :: rest)) rfl rfl hd
  exact Gl.st st (K T' h' _ X' e' (Fr.snoc X' N ga) W')
theorem Gl.newO (X : Stand p l e R s m args below meth c T locs cells slots) (hx : p.tables.exec = Jvm.exec) (hZ : Z.Warmed39 s.vm) {own C : String} {index n : Nat} (hown : s.vm.findClass own = some m.cls) (w : (Cond.classLink own index C).before a0 Z = true) (wi : (Cond.instantiable C n).before a0 Z = true) (wz : (Cond.initialized C).before a0 Z = true) (eT : T.heap = h) (hc : cells + 1 ≤ R.cells) (hl : slots + n ≤ R.slots)
    {pc : Nat} {Ls : Array Slot} {rest : List Value} (hd : decode c.code pc = .ok (.new index, 3))
    (K : ∀ (T' : State) (h' : Heap) (b : Addr), b = h.size → Stand p l e R s m args below meth c T' locs (cells + 1) (slots + n) → T'.heap = h' → Ext h h' → Exa Z h' b C → (∀ {O nm d : String} {ty : FieldType}, Laid Z a0 C O nm d → parseFieldDescriptor d = some ty → Fld Z h' b O nm d (defaultValue ty)) → Gl p e below s Q kc ks (T'.setTop (mkF m (pc + 3) Ls (.ref b :: rest)))) :
    Gl p e below s Q kc ks (T.setTop (mkF m pc Ls rest)) := by
  obtain ⟨T', h', X', e', E', A', D', -, st⟩ := Jvm.RoadKit.newO X hx hZ hown w wi wz eT (g := mkF m pc Ls rest) rfl hd hc hl
  exact Gl.st st (K T' h' _ rfl X' e' E' A' D')
/-- a step that a law of the library hands out as 'there is a state' with the heap as it was -/
theorem Gl.ex {g g0 : JFrame} (H : ∃ T', Stand p l e R s m args below meth c T' locs cells slots ∧ T'.heap = h ∧ ∀ target, Steps p.tables e below (T'.setTop g) target → Steps p.tables e below (T.setTop g0) target)
    (K : ∀ (T' : State), Stand p l e R s m args below meth c T' locs cells slots → T'.heap = h → Gl p e below s Q kc ks (T'.setTop g)) : Gl p e below s Q kc ks (T.setTop g0) := by
  obtain ⟨T', X', e', st⟩ := H
  exact Gl.st st (K T' X' e')
/-- a constructor by its contract -/
theorem Gl.callI (X : Stand p l e R s m args below meth c T locs cells slots) (hx : p.tables.exec = Jvm.exec) (hZ : Z.Warmed39 s.vm) {own : String} {index : Nat} {y : MethodName} {bytes : ByteArray} {maxL : Nat} {rm : Room} {W : Nat} {as' : Array Value} {Qc : Option Value → Heap → List Loc → Prop}
    (hy1 : y.name = "<init>") (hown : s.vm.findClass own = some m.cls) (w1 : (Cond.methodLink own index y).before a0 Z = true) (w2 : (Cond.instanceMethod y).before a0 Z = true) (w3 : (Cond.initialized y.cls).before a0 Z = true) (w4 : (Cond.code y bytes maxL none).before a0 Z = true)
    (hy : y.cls ≠ "java/lang/invoke/MethodHandle" ∧ y.cls ≠ "java/lang/invoke/VarHandle")
    (hM : MetFree l y (head1 [Cond.code y bytes maxL none] rm) (fun a U => a = as' ∧ Z.Warmed39 U.vm ∧ U.heap = h) (fun _ _ _ _ _ => True) (fun _ U o U' => ∃ v L, o = .returned v ∧ Qc v U'.heap L ∧ FrameEnd U o U' L rm.cells rm.slots))
    (hf : rm.frames + 1 ≤ R.frames) (hl : W + (maxL + 11) + rm.locals ≤ R.locals) (eT : T.heap = h) (hc1 : cells + rm.cells ≤ R.cells) (hs1 : slots + rm.slots ≤ R.slots)
    {pc : Nat} {Ls : Array Slot} {stk argsL rest : List Value} (hsz : Ls.size = c.maxLocals) (hlen : ∀ sig, parseMethodDescriptor y.desc = some sig → argsL.length = sig.parameters.length) (hstk : stk = argsL.reverse ++ .ref a :: rest) (has : (.ref a :: argsL).toArray = as')
    (hW : (rest.map fun v => v.category).sum ≤ W) (hd : decode c.code pc = .ok (.invokespecial index, 3))
    (K : ∀ (T' : State) (v : Option Value) (L : List Loc), Stand p l e R s m args below meth c T' (locs ++ L) (cells + rm.cells) (slots + rm.slots) → Qc v T'.heap L → Gl p e below s Q kc ks (T'.setTop (mkF m (pc + 3) Ls (v.toList ++ rest)))) :
    Gl p e below s Q kc ks (T.setTop (mkF m pc Ls stk)) := by
  obtain ⟨v, _, ⟨T', L', k', n'⟩, -, X', ⟨Lc, hQ, l1, y1, z1⟩, st⟩ := X.specialBack hx (y := y) hy1 hown (mvT hZ w1) (mvT hZ w2) (mvT hZ w4) hy (backOf (W := W) hM hZ w4 w3 hf hl) (g := mkF m pc Ls stk) rfl hsz (Steps.refl _) (a := a) (argsL := argsL) (rest := rest) hlen hstk
    (by show 2 * 0 + _ ≤ _; rw [Nat.mul_zero, Nat.zero_add]; exact hW) hd (fun _ _ => ⟨has, eT, hc1, hs1⟩)
  dsimp only [Pt.U, Pt.locs, Pt.cells, Pt.slots] at X' l1 y1 z1 st hQ
  subst l1 y1 z1
  exact Gl.st (fun t k => st.trans k) (K T' v Lc X' hQ)
/-- an instance method of the receiver's own class by its contract -/
theorem Gl.callV (X : Stand p l e R s m args below meth c T locs cells slots) (hx : p.tables.exec = Jvm.exec) (hZ : Z.Warmed39 s.vm) {own : String} {index : Nat} {y : MethodName} {bytes : ByteArray} {maxL : Nat} {ret : Option FieldType} {rm : Room} {W : Nat} {as' : Array Value} {Qc : Option Value → Heap → List Loc → Prop}
    (hown : s.vm.findClass own = some m.cls) (w1 : (Cond.methodLink own index y).before a0 Z = true) (w2 : (Cond.declares y).before a0 Z = true) (w5 : (Cond.selects y.cls y y).before a0 Z = true) (w6 : (Cond.instanceMethod y).before a0 Z = true) (w3 : (Cond.initialized y.cls).before a0 Z = true) (w4 : (Cond.code y bytes maxL ret).before a0 Z = true)
    (hy : y.cls ≠ "java/lang/invoke/MethodHandle" ∧ y.cls ≠ "java/lang/invoke/VarHandle")
    (hM : MetFree l y (head1 [Cond.code y bytes maxL ret] rm) (fun a U => a = as' ∧ Z.Warmed39 U.vm ∧ U.heap = h) (fun _ _ _ _ _ => True) (fun _ U o U' => ∃ v L, o = .returned v ∧ Qc v U'.heap L ∧ FrameEnd U o U' L rm.cells rm.slots))
    (hf : rm.frames + 1 ≤ R.frames) (hl : W + (maxL + 11) + rm.locals ≤ R.locals) (eT : T.heap = h) (E : Exa Z h a y.cls) (hc1 : cells + rm.cells ≤ R.cells) (hs1 : slots + rm.slots ≤ R.slots)
    {pc : Nat} {Ls : Array Slot} {stk argsL rest : List Value} (hsz : Ls.size = c.maxLocals) (hlen : ∀ sig, parseMethodDescriptor y.desc = some sig → argsL.length = sig.parameters.length) (hstk : stk = argsL.reverse ++ .ref a :: rest) (has : (.ref a :: argsL).toArray = as')
    (hW : (rest.map fun v => v.category).sum ≤ W) (hd : decode c.code pc = .ok (.invokevirtual index, 3))
    (K : ∀ (T' : State) (v : Option Value) (L : List Loc), Stand p l e R s m args below meth c T' (locs ++ L) (cells + rm.cells) (slots + rm.slots) → Qc v T'.heap L → Gl p e below s Q kc ks (T'.setTop (mkF m (pc + 3) Ls (v.toList ++ rest)))) :
    Gl p e below s Q kc ks (T.setTop (mkF m pc Ls stk)) := by
  obtain ⟨cq, kq, q1, q2, q3⟩ := isOf hZ eT E
  obtain ⟨v, _, ⟨T', L', k', n'⟩, -, X', ⟨Lc, hQ, l1, y1, z1⟩, st⟩ := X.virtualBack hx (y := y) (z := y) hown (mvT hZ w1) (mvT hZ w2) (notFace_of_selects (args := #[]) (mvT hZ w5)) (mvT hZ w5) (mvT hZ w6) hy (backOf (W := W) hM hZ w4 w3 hf hl) q1 q3 (g := mkF m pc Ls stk) rfl hsz (Steps.refl _) (argsL := argsL) (rest := rest) hlen hstk
    (by show 2 * 0 + _ ≤ _; rw [Nat.mul_zero, Nat.zero_add]; exact hW) hd (fun _ _ => ⟨has, eT, hc1, hs1⟩)
  dsimp only [Pt.U, Pt.locs, Pt.cells, Pt.slots] at X' l1 y1 z1 st hQ
  subst l1 y1 z1
  exact Gl.st (fun t k => st.trans k) (K T' v Lc X' hQ)
end OwnA

def QE (n0 : Nat) (h0 : Heap) (v : Option Value) (h : Heap) (L : List Loc) : Prop := ∃ r : Int32, v = some (.int r) ∧ Fr n0 L ∧ h = h0
def own_cl (c cl : Int32) : Int32 := if c.toInt = 93 then cl + (1 : Int32) else (0 : Int32)
def own_op (c op : Int32) : Int32 := if c.toInt = 60 then (1 : Int32) else if c.toInt = 33 ∧ op.toInt = 1 then (2 : Int32) else (0 : Int32)
def own_se (c cl op se : Int32) : Int32 := if c.toInt = 62 ∧ 2 ≤ cl.toInt then se - (1 : Int32) else if c.toInt = 91 ∧ op.toInt = 2 then se + (1 : Int32) else se
def own_d (p2 p1 c : Int) : Int32 := if p2 = 60 ∧ p1 = 33 ∧ c = 91 then (1 : Int32) else if p2 = 93 ∧ p1 = 93 ∧ c = 62 then (-1 : Int32) else (0 : Int32)
def own_ch (cs : List Int32) (i : Int) : Int := (cs.getD i.toNat 0).toInt
def own_dl (cs : List Int32) (j : Int32) : Int32 := if j.toInt < 2 then (0 : Int32) else own_d (own_ch cs (j.toInt - 2)) (own_ch cs (j.toInt - 1)) (own_ch cs j.toInt)
def own_I (p2 p1 n : Int) (cl op : Int32) : Prop := 0 ≤ cl.toInt ∧ cl.toInt ≤ n ∧ (2 ≤ cl.toInt ↔ p1 = 93 ∧ p2 = 93) ∧ (1 ≤ cl.toInt ↔ p1 = 93) ∧ (op.toInt = 2 ↔ p2 = 60 ∧ p1 = 33) ∧ (op.toInt = 1 ↔ p1 = 60)
theorem own_I0 : own_I (-1) (-1) 0 (0 : Int32) (0 : Int32) := by
  have : (0 : Int32).toInt = 0 := by decide
  refine ⟨?_, ?_, ?_, ?_, ?_, ?_⟩ <;> rw [this] <;> omega
theorem own_Is {p2 p1 n : Int} {cl op : Int32} (c : Int32) (h : own_I p2 p1 n cl op) (hn : n ≤ 100) : own_I p1 c.toInt (n + 1) (own_cl c cl) (own_op c op) := by
  obtain ⟨h1, h2, h3, h4, h5, h6⟩ := h
  have k0 : (0 : Int32).toInt = 0 := by decide
  have k1 : (1 : Int32).toInt = 1 := by decide
  have k2 : (2 : Int32).toInt = 2 := by decide
  have hs := c_iadd cl (1 : Int32)
  have hr := rng32 (cl + (1 : Int32))
  have hu : (cl + (1 : Int32)).toInt = cl.toInt + 1 := by omega
  have e1 : (own_cl c cl).toInt = if c.toInt = 93 then cl.toInt + 1 else 0 := by
    unfold own_cl
    split
    · exact hu
    · exact k0
  have e2 : (own_op c op).toInt = if c.toInt = 60 then 1 else if c.toInt = 33 ∧ op.toInt = 1 then 2 else 0 := by
    unfold own_op
    split
    · exact k1
    · split
      · exact k2
      · exact k0
  unfold own_I
  rw [e1, e2]
  by_cases a : c.toInt = 93
  · rw [if_pos a, if_neg (by omega), if_neg (by omega)]; omega
  · rw [if_neg a]
    by_cases b : c.toInt = 60
    · rw [if_pos b]; omega
    · rw [if_neg b]
      by_cases d : c.toInt = 33 ∧ op.toInt = 1
      · rw [if_pos d]; omega
      · rw [if_neg d]; omega
theorem own_Ie {p2 p1 n : Int} {cl op : Int32} (c se : Int32) (h : own_I p2 p1 n cl op) : own_se c cl op se = se + own_d p2 p1 c.toInt := by
  obtain ⟨h1, h2, h3, h4, h5, h6⟩ := h
  unfold own_se own_d
  by_cases a : c.toInt = 62 ∧ 2 ≤ cl.toInt
  · rw [if_pos a, if_neg (by omega), if_pos (by omega), Int32.sub_eq_add_neg]
  · rw [if_neg a]
    by_cases b : c.toInt = 91 ∧ op.toInt = 2
    · rw [if_pos b, if_pos (by omega)]
    · rw [if_neg b, if_neg (by omega), if_neg (by omega), Int32.add_zero]
theorem own_get {cs : List Int32} {k : Nat} (h : k < cs.length) : (cs.map Value.int)[k]? = some (.int (cs.getD k 0)) := by
  rw [List.getElem?_map, List.getElem?_eq_getElem h, List.getD_eq_getElem?_getD, List.getElem?_eq_getElem h]; rfl
def QI (Z : State) (a : Addr) (n0 : Nat) (h0 : Heap) (v : Option Value) (h : Heap) (L : List Loc) : Prop := v = none ∧ Fr n0 L ∧ Keep h0 h [a] ∧ Exa Z h a "com/example/leafrank/leafrank/core/IgnoredSection" ∧ Fld Z h a "com/example/leafrank/leafrank/core/IgnoredSection" "closing" "I" (.int (0 : Int32)) ∧ Fld Z h a "com/example/leafrank/leafrank/core/IgnoredSection" "opening" "I" (.int (0 : Int32)) ∧ Fld Z h a "com/example/leafrank/leafrank/core/IgnoredSection" "sections" "I" (.int (1 : Int32))
def QN (Z : State) (a : Addr) (c cl op se : Int32) (n0 : Nat) (h0 : Heap) (v : Option Value) (h : Heap) (L : List Loc) : Prop := ∃ cl' op' se' : Int32, v = some (.int (own_b (decide (se'.toInt = 0)))) ∧ Fr n0 L ∧ Keep h0 h [a] ∧ Exa Z h a "com/example/leafrank/leafrank/core/IgnoredSection" ∧ Fld Z h a "com/example/leafrank/leafrank/core/IgnoredSection" "closing" "I" (.int cl') ∧ Fld Z h a "com/example/leafrank/leafrank/core/IgnoredSection" "opening" "I" (.int op') ∧ Fld Z h a "com/example/leafrank/leafrank/core/IgnoredSection" "sections" "I" (.int se') ∧ cl' = own_cl c cl ∧ op' = own_op c op ∧ se' = own_se c cl op se

theorem d1_0 : decode method_2_code 0 = .ok (.iload_n 0, 1) := by decide +kernel
theorem d1_1 : decode method_2_code 1 = .ok (.iconst 3, 1) := by decide +kernel
theorem d1_2 : decode method_2_code 2 = .ok (.iload_n 1, 1) := by decide +kernel
theorem d1_3 : decode method_2_code 3 = .ok (.imul, 1) := by decide +kernel
theorem d1_4 : decode method_2_code 4 = .ok (.iushr, 1) := by decide +kernel
theorem d1_5 : decode method_2_code 5 = .ok (.bipush 7, 2) := by decide +kernel
theorem d1_7 : decode method_2_code 7 = .ok (.iand, 1) := by decide +kernel
theorem d1_8 : decode method_2_code 8 = .ok (.istore 4, 2) := by decide +kernel
theorem d1_10 : decode method_2_code 10 = .ok (.iload 4, 2) := by decide +kernel
theorem d1_12 : decode method_2_code 12 = .ok (.ifCond .ne 6, 3) := by decide +kernel
theorem d1_15 : decode method_2_code 15 = .ok (.bipush 60, 2) := by decide +kernel
theorem d1_17 : decode method_2_code 17 = .ok (.ireturn, 1) := by decide +kernel
theorem d1_18 : decode method_2_code 18 = .ok (.iload 4, 2) := by decide +kernel
theorem d1_20 : decode method_2_code 20 = .ok (.iconst 1, 1) := by decide +kernel
theorem d1_21 : decode method_2_code 21 = .ok (.if_icmp .ne 6, 3) := by decide +kernel
theorem d1_24 : decode method_2_code 24 = .ok (.bipush 33, 2) := by decide +kernel
theorem d1_26 : decode method_2_code 26 = .ok (.ireturn, 1) := by decide +kernel
theorem d1_27 : decode method_2_code 27 = .ok (.iload 4, 2) := by decide +kernel
theorem d1_29 : decode method_2_code 29 = .ok (.iconst 2, 1) := by decide +kernel
theorem d1_30 : decode method_2_code 30 = .ok (.if_icmp .ne 6, 3) := by decide +kernel
theorem d1_33 : decode method_2_code 33 = .ok (.bipush 91, 2) := by decide +kernel
theorem d1_35 : decode method_2_code 35 = .ok (.ireturn, 1) := by decide +kernel
theorem d1_36 : decode method_2_code 36 = .ok (.iload 4, 2) := by decide +kernel
theorem d1_38 : decode method_2_code 38 = .ok (.iconst 3, 1) := by decide +kernel
theorem d1_39 : decode method_2_code 39 = .ok (.if_icmp .ne 6, 3) := by decide +kernel
theorem d1_42 : decode method_2_code 42 = .ok (.bipush 93, 2) := by decide +kernel
theorem d1_44 : decode method_2_code 44 = .ok (.ireturn, 1) := by decide +kernel
theorem d1_45 : decode method_2_code 45 = .ok (.iload 4, 2) := by decide +kernel
theorem d1_47 : decode method_2_code 47 = .ok (.iconst 4, 1) := by decide +kernel
theorem d1_48 : decode method_2_code 48 = .ok (.if_icmp .ne 6, 3) := by decide +kernel
theorem d1_51 : decode method_2_code 51 = .ok (.bipush 62, 2) := by decide +kernel
theorem d1_53 : decode method_2_code 53 = .ok (.ireturn, 1) := by decide +kernel
theorem d1_54 : decode method_2_code 54 = .ok (.iload 4, 2) := by decide +kernel
theorem d1_56 : decode method_2_code 56 = .ok (.iconst 5, 1) := by decide +kernel
theorem d1_57 : decode method_2_code 57 = .ok (.if_icmp .ne 6, 3) := by decide +kernel
theorem d1_60 : decode method_2_code 60 = .ok (.iload_n 2, 1) := by decide +kernel
theorem d1_61 : decode method_2_code 61 = .ok (.i2c, 1) := by decide +kernel
theorem d1_62 : decode method_2_code 62 = .ok (.ireturn, 1) := by decide +kernel
theorem d1_63 : decode method_2_code 63 = .ok (.iload 4, 2) := by decide +kernel
theorem d1_65 : decode method_2_code 65 = .ok (.bipush 6, 2) := by decide +kernel
theorem d1_67 : decode method_2_code 67 = .ok (.if_icmp .ne 9, 3) := by decide +kernel
theorem d1_70 : decode method_2_code 70 = .ok (.iload_n 2, 1) := by decide +kernel
theorem d1_71 : decode method_2_code 71 = .ok (.bipush 16, 2) := by decide +kernel
theorem d1_73 : decode method_2_code 73 = .ok (.iushr, 1) := by decide +kernel
theorem d1_74 : decode method_2_code 74 = .ok (.i2c, 1) := by decide +kernel
theorem d1_75 : decode method_2_code 75 = .ok (.ireturn, 1) := by decide +kernel
theorem d1_76 : decode method_2_code 76 = .ok (.iload_n 3, 1) := by decide +kernel
theorem d1_77 : decode method_2_code 77 = .ok (.i2c, 1) := by decide +kernel
theorem d1_78 : decode method_2_code 78 = .ok (.ireturn, 1) := by decide +kernel
theorem ef1 (m : MethodId) (z0 : Int32) (z1 : Int32) (z2 : Int32) (z3 : Int32) : entryFrame m #[(.int z0), (.int z1), (.int z2), (.int z3)] 5 = mkF m 0 #[.val (.int z0), .val (.int z1), .val (.int z2), .val (.int z3), .unset] [] := by first | (simp [entryFrame, mkF, argsToLocals, Value.category]; done) | rfl
set_option maxRecDepth 65536 in
set_option maxHeartbeats 40000000 in
theorem rm1 (l : Launch) (Z : State) (a0 : Array Value) (hw : ∀ d ∈ tables_1, d.before a0 Z = true) (ws : List Jvm.Cond) (z0 : Int32) (z1 : Int32) (z2 : Int32) (z3 : Int32)  (h0 : Heap) (n0 : Nat) (Z0 : n0 ≤ h0.size)  :
    MetFree l (⟨"com/example/leafrank/leafrank/core/IgnoredSectionNextPinLaw", "pick", "(IIII)C"⟩ : MethodName) (head1 (Jvm.Cond.code (⟨"com/example/leafrank/leafrank/core/IgnoredSectionNextPinLaw", "pick", "(IIII)C"⟩ : MethodName) method_2_code 5 (some .char) :: ws) (⟨0, 0, 0, 0⟩ : Room)) (fun a U => a = #[(.int z0), (.int z1), (.int z2), (.int z3)] ∧ Z.Warmed39 U.vm ∧ U.heap = h0) (fun _ _ _ _ _ => True) (fun _ U o U' => ∃ v L, o = .returned v ∧ QE n0 h0 v U'.heap L ∧ FrameEnd U o U' L 0 0) := by
  refine MetFree.of_bodySF (plainFor_of_name own_pn0) hisR ?_
  intro p e s m args below meth c s₁ Bd hml0 hP hK
  obtain ⟨rfl, hZ, hh⟩ := hP
  have hx := Bd.exec
  have hby := Bd.bytes
  have hml : c.maxLocals = 5 := hml0
  have hown : s.vm.findClass "com/example/leafrank/leafrank/core/IgnoredSectionNextPinLaw" = some m.cls := findClass_of_methodNamed Bd.named
  have hnm := (name_of_methodNamed Bd.named Bd.method).1
  have hlk : meth.locks = false := Bd.notSynchronized
  have hret := Bd.returns
  have X0 : Stand p l e (⟨0, 0, 0, 0⟩ : Room) s m #[(.int z0), (.int z1), (.int z2), (.int z3)] below meth c s₁ [] 0 0 := Stand.of_body Bd
  have e0 : s₁.heap = h0 := by rw [← hh, Bd.state]; rfl
  have N0 := Fr.nil n0
  have GOAL : Gl p e below s (QE n0 h0) 0 0 (s₁.setTop (entryFrame m #[(.int z0), (.int z1), (.int z2), (.int z3)] 5)) := by
    refine Gl.cast (ef1 m z0 z1 z2 z3) ?_
    refine Gl.st (b := s₁.setTop (mkF m 1 #[.val (.int z0), .val (.int z1), .val (.int z2), .val (.int z3), .unset] [(.int z0)])) (fun tq kq => XS.iloadN X0.here hx rfl (hb hby d1_0) rfl kq) ?_
    refine Gl.st (b := s₁.setTop (mkF m 2 #[.val (.int z0), .val (.int z1), .val (.int z2), .val (.int z3), .unset] [(.int (3 : Int32)), (.int z0)])) (fun tq kq => XS.iconst X0.here hx rfl (hb hby d1_1) kq) ?_
    refine Gl.st (b := s₁.setTop (mkF m 3 #[.val (.int z0), .val (.int z1), .val (.int z2), .val (.int z3), .unset] [(.int z1), (.int (3 : Int32)), (.int z0)])) (fun tq kq => XS.iloadN X0.here hx rfl (hb hby d1_2) rfl kq) ?_
    refine Gl.st (b := s₁.setTop (mkF m 4 #[.val (.int z0), .val (.int z1), .val (.int z2), .val (.int z3), .unset] [(.int ((3 : Int32) * z1)), (.int z0)])) (fun tq kq => XS.imul X0.here hx rfl (hb hby d1_3) rfl kq) ?_
    refine Gl.st (b := s₁.setTop (mkF m 5 #[.val (.int z0), .val (.int z1), .val (.int z2), .val (.int z3), .unset] [(.int ((z0.toUInt32 >>> (((3 : Int32) * z1) &&& 31).toUInt32).toInt32))])) (fun tq kq => XS.iushr X0.here hx rfl (hb hby d1_4) rfl kq) ?_
    refine Gl.st (b := s₁.setTop (mkF m 7 #[.val (.int z0), .val (.int z1), .val (.int z2), .val (.int z3), .unset] [(.int (7 : Int32)), (.int ((z0.toUInt32 >>> (((3 : Int32) * z1) &&& 31).toUInt32).toInt32))])) (fun tq kq => XS.bipush X0.here hx rfl (hb hby d1_5) kq) ?_
    refine Gl.st (b := s₁.setTop (mkF m 8 #[.val (.int z0), .val (.int z1), .val (.int z2), .val (.int z3), .unset] [(.int (((z0.toUInt32 >>> (((3 : Int32) * z1) &&& 31).toUInt32).toInt32) &&& (7 : Int32)))])) (fun tq kq => XS.iand X0.here hx rfl (hb hby d1_7) rfl kq) ?_
    refine Gl.st (b := s₁.setTop (mkF m 10 #[.val (.int z0), .val (.int z1), .val (.int z2), .val (.int z3), .val (.int (((z0.toUInt32 >>> (((3 : Int32) * z1) &&& 31).toUInt32).toInt32) &&& (7 : Int32)))] [])) (fun tq kq => XS.istore X0.here hx rfl (hb hby d1_8) rfl (l' := #[.val (.int z0), .val (.int z1), .val (.int z2), .val (.int z3), .val (.int (((z0.toUInt32 >>> (((3 : Int32) * z1) &&& 31).toUInt32).toInt32) &&& (7 : Int32)))]) rfl kq) ?_
    refine Gl.st (b := s₁.setTop (mkF m 12 #[.val (.int z0), .val (.int z1), .val (.int z2), .val (.int z3), .val (.int (((z0.toUInt32 >>> (((3 : Int32) * z1) &&& 31).toUInt32).toInt32) &&& (7 : Int32)))] [(.int (((z0.toUInt32 >>> (((3 : Int32) * z1) &&& 31).toUInt32).toInt32) &&& (7 : Int32)))])) (fun tq kq => XS.iload X0.here hx rfl (hb hby d1_10) rfl kq) ?_
    by_cases hc12 : (((z0.toUInt32 >>> (((3 : Int32) * z1) &&& 31).toUInt32).toInt32) &&& (7 : Int32)).toInt = 0
    · -- hc12 True
      refine Gl.st (b := s₁.setTop (mkF m 15 #[.val (.int z0), .val (.int z1), .val (.int z2), .val (.int z3), .val (.int (((z0.toUInt32 >>> (((3 : Int32) * z1) &&& 31).toUInt32).toInt32) &&& (7 : Int32)))] [])) (fun tq kq => XS.ifNo X0.here hx rfl (hb hby d1_12) rfl ((if0 _ _).trans (teq (x := (((z0.toUInt32 >>> (((3 : Int32) * z1) &&& 31).toUInt32).toInt32) &&& (7 : Int32))) (y := (0 : Int32)) (own_eqI.mpr hc12)).2) kq) ?_
      refine Gl.st (b := s₁.setTop (mkF m 17 #[.val (.int z0), .val (.int z1), .val (.int z2), .val (.int z3), .val (.int (((z0.toUInt32 >>> (((3 : Int32) * z1) &&& 31).toUInt32).toInt32) &&& (7 : Int32)))] [(.int (60 : Int32))])) (fun tq kq => XS.bipush X0.here hx rfl (hb hby d1_15) kq) ?_
      exact Gl.retN X0 hx hret (by simp) (hb hby d1_17) hlk (by decide) (by decide) ⟨_, rfl, N0, e0⟩
    · -- hc12 False
      refine Gl.st (b := s₁.setTop (mkF m 18 #[.val (.int z0), .val (.int z1), .val (.int z2), .val (.int z3), .val (.int (((z0.toUInt32 >>> (((3 : Int32) * z1) &&& 31).toUInt32).toInt32) &&& (7 : Int32)))] [])) (fun tq kq => XS.ifYes X0.here hx rfl (pc0 := 12) (pc' := 18) rfl (hb hby d1_12) rfl ((if0 _ _).trans (feq (x := (((z0.toUInt32 >>> (((3 : Int32) * z1) &&& 31).toUInt32).toInt32) &&& (7 : Int32))) (y := (0 : Int32)) (fun q => hc12 (own_eqI.mp q))).2) (by decide) (by decide) kq) ?_
      refine Gl.st (b := s₁.setTop (mkF m 20 #[.val (.int z0), .val (.int z1), .val (.int z2), .val (.int z3), .val (.int (((z0.toUInt32 >>> (((3 : Int32) * z1) &&& 31).toUInt32).toInt32) &&& (7 : Int32)))] [(.int (((z0.toUInt32 >>> (((3 : Int32) * z1) &&& 31).toUInt32).toInt32) &&& (7 : Int32)))])) (fun tq kq => XS.iload X0.here hx rfl (hb hby d1_18) rfl kq) ?_
      refine Gl.st (b := s₁.setTop (mkF m 21 #[.val (.int z0), .val (.int z1), .val (.int z2), .val (.int z3), .val (.int (((z0.toUInt32 >>> (((3 : Int32) * z1) &&& 31).toUInt32).toInt32) &&& (7 : Int32)))] [(.int (1 : Int32)), (.int (((z0.toUInt32 >>> (((3 : Int32) * z1) &&& 31).toUInt32).toInt32) &&& (7 : Int32)))])) (fun tq kq => XS.iconst X0.here hx rfl (hb hby d1_20) kq) ?_
      by_cases hc21 : (((z0.toUInt32 >>> (((3 : Int32) * z1) &&& 31).toUInt32).toInt32) &&& (7 : Int32)).toInt = 1
      · -- hc21 True
        refine Gl.st (b := s₁.setTop (mkF m 24 #[.val (.int z0), .val (.int z1), .val (.int z2), .val (.int z3), .val (.int (((z0.toUInt32 >>> (((3 : Int32) * z1) &&& 31).toUInt32).toInt32) &&& (7 : Int32)))] [])) (fun tq kq => XS.icmpNo X0.here hx rfl (hb hby d1_21) rfl (teq (x := (((z0.toUInt32 >>> (((3 : Int32) * z1) &&& 31).toUInt32).toInt32) &&& (7 : Int32))) (y := (1 : Int32)) (own_eqI.mpr hc21)).2 kq) ?_
        refine Gl.st (b := s₁.setTop (mkF m 26 #[.val (.int z0), .val (.int z1), .val (.int z2), .val (.int z3), .val (.int (((z0.toUInt32 >>> (((3 : Int32) * z1) &&& 31).toUInt32).toInt32) &&& (7 : Int32)))] [(.int (33 : Int32))])) (fun tq kq => XS.bipush X0.here hx rfl (hb hby d1_24) kq) ?_
        exact Gl.retN X0 hx hret (by simp) (hb hby d1_26) hlk (by decide) (by decide) ⟨_, rfl, N0, e0⟩
      · -- hc21 False
        refine Gl.st (b := s₁.setTop (mkF m 27 #[.val (.int z0), .val (.int z1), .val (.int z2), .val (.int z3), .val (.int (((z0.toUInt32 >>> (((3 : Int32) * z1) &&& 31).toUInt32).toInt32) &&& (7 : Int32)))] [])) (fun tq kq => XS.icmpYes X0.here hx rfl (pc0 := 21) (pc' := 27) rfl (hb hby d1_21) rfl (feq (x := (((z0.toUInt32 >>> (((3 : Int32) * z1) &&& 31).toUInt32).toInt32) &&& (7 : Int32))) (y := (1 : Int32)) (fun q => hc21 (own_eqI.mp q))).2 (by decide) (by decide) kq) ?_
        refine Gl.st (b := s₁.setTop (mkF m 29 #[.val (.int z0), .val (.int z1), .val (.int z2), .val (.int z3), .val (.int (((z0.toUInt32 >>> (((3 : Int32) * z1) &&& 31).toUInt32).toInt32) &&& (7 : Int32)))] [(.int (((z0.toUInt32 >>> (((3 : Int32) * z1) &&& 31).toUInt32).toInt32) &&& (7 : Int32)))])) (fun tq kq => XS.iload X0.here hx rfl (hb hby d1_27) rfl kq) ?_
        refine Gl.st (b := s₁.setTop (mkF m 30 #[.val (.int z0), .val (.int z1), .val (.int z2), .val (.int z3), .val (.int (((z0.toUInt32 >>> (((3 : Int32) * z1) &&& 31).toUInt32).toInt32) &&& (7 : Int32)))] [(.int (2 : Int32)), (.int (((z0.toUInt32 >>> (((3 : Int32) * z1) &&& 31).toUInt32).toInt32) &&& (7 : Int32)))])) (fun tq kq => XS.iconst X0.here hx rfl (hb hby d1_29) kq) ?_
        by_cases hc30 : (((z0.toUInt32 >>> (((3 : Int32) * z1) &&& 31).toUInt32).toInt32) &&& (7 : Int32)).toInt = 2
        · -- hc30 True
          refine Gl.st (b := s₁.setTop (mkF m 33 #[.val (.int z0), .val (.int z1), .val (.int z2), .val (.int z3), .val (.int (((z0.toUInt32 >>> (((3 : Int32) * z1) &&& 31).toUInt32).toInt32) &&& (7 : Int32)))] [])) (fun tq kq => XS.icmpNo X0.here hx rfl (hb hby d1_30) rfl (teq (x := (((z0.toUInt32 >>> (((3 : Int32) * z1) &&& 31).toUInt32).toInt32) &&& (7 : Int32))) (y := (2 : Int32)) (own_eqI.mpr hc30)).2 kq) ?_
          refine Gl.st (b := s₁.setTop (mkF m 35 #[.val (.int z0), .val (.int z1), .val (.int z2), .val (.int z3), .val (.int (((z0.toUInt32 >>> (((3 : Int32) * z1) &&& 31).toUInt32).toInt32) &&& (7 : Int32)))] [(.int (91 : Int32))])) (fun tq kq => XS.bipush X0.here hx rfl (hb hby d1_33) kq) ?_
          exact Gl.retN X0 hx hret (by simp) (hb hby d1_35) hlk (by decide) (by decide) ⟨_, rfl, N0, e0⟩
        · -- hc30 False
          refine Gl.st (b := s₁.setTop (mkF m 36 #[.val (.int z0), .val (.int z1), .val (.int z2), .val (.int z3), .val (.int (((z0.toUInt32 >>> (((3 : Int32) * z1) &&& 31).toUInt32).toInt32) &&& (7 : Int32)))] [])) (fun tq kq => XS.icmpYes X0.here hx rfl (pc0 := 30) (pc' := 36) rfl (hb hby d1_30) rfl (feq (x := (((z0.toUInt32 >>> (((3 : Int32) * z1) &&& 31).toUInt32).toInt32) &&& (7 : Int32))) (y := (2 : Int32)) (fun q => hc30 (own_eqI.mp q))).2 (by decide) (by decide) kq) ?_
          refine Gl.st (b := s₁.setTop (mkF m 38 #[.val (.int z0), .val (.int z1), .val (.int z2), .val (.int z3), .val (.int (((z0.toUInt32 >>> (((3 : Int32) * z1) &&& 31).toUInt32).toInt32) &&& (7 : Int32)))] [(.int (((z0.toUInt32 >>> (((3 : Int32) * z1) &&& 31).toUInt32).toInt32) &&& (7 : Int32)))])) (fun tq kq => XS.iload X0.here hx rfl (hb hby d1_36) rfl kq) ?_
          refine Gl.st (b := s₁.setTop (mkF m 39 #[.val (.int z0), .val (.int z1), .val (.int z2), .val (.int z3), .val (.int (((z0.toUInt32 >>> (((3 : Int32) * z1) &&& 31).toUInt32).toInt32) &&& (7 : Int32)))] [(.int (3 : Int32)), (.int (((z0.toUInt32 >>> (((3 : Int32) * z1) &&& 31).toUInt32).toInt32) &&& (7 : Int32)))])) (fun tq kq => XS.iconst X0.here hx rfl (hb hby d1_38) kq) ?_
          by_cases hc39 : (((z0.toUInt32 >>> (((3 : Int32) * z1) &&& 31).toUInt32).toInt32) &&& (7 : Int32)).toInt = 3
          · -- hc39 True
            refine Gl.st (b := s₁.setTop (mkF m 42 #[.val (.int z0), .val (.int z1), .val (.int z2), .val (.int z3), .val (.int (((z0.toUInt32 >>> (((3 : Int32) * z1) &&& 31).toUInt32).toInt32) &&& (7 : Int32)))] [])) (fun tq kq => XS.icmpNo X0.here hx rfl (hb hby d1_39) rfl (teq (x := (((z0.toUInt32 >>> (((3 : Int32) * z1) &&& 31).toUInt32).toInt32) &&& (7 : Int32))) (y := (3 : Int32)) (own_eqI.mpr hc39)).2 kq) ?_
            refine Gl.st (b := s₁.setTop (mkF m 44 #[.val (.int z0), .val (.int z1), .val (.int z2), .val (.int z3), .val (.int (((z0.toUInt32 >>> (((3 : Int32) * z1) &&& 31).toUInt32).toInt32) &&& (7 : Int32)))] [(.int (93 : Int32))])) (fun tq kq => XS.bipush X0.here hx rfl (hb hby d1_42) kq) ?_
            exact Gl.retN X0 hx hret (by simp) (hb hby d1_44) hlk (by decide) (by decide) ⟨_, rfl, N0, e0⟩
          · -- hc39 False
            refine Gl.st (b := s₁.setTop (mkF m 45 #[.val (.int z0), .val (.int z1), .val (.int z2), .val (.int z3), .val (.int (((z0.toUInt32 >>> (((3 : Int32) * z1) &&& 31).toUInt32).toInt32) &&& (7 : Int32)))] [])) (fun tq kq => XS.icmpYes X0.here hx rfl (pc0 := 39) (pc' := 45) rfl (hb hby d1_39) rfl (feq (x := (((z0.toUInt32 >>> (((3 : Int32) * z1) &&& 31).toUInt32).toInt32) &&& (7 : Int32))) (y := (3 : Int32)) (fun q => hc39 (own_eqI.mp q))).2 (by decide) (by decide) kq) ?_
            refine Gl.st (b := s₁.setTop (mkF m 47 #[.val (.int z0), .val (.int z1), .val (.int z2), .val (.int z3), .val (.int (((z0.toUInt32 >>> (((3 : Int32) * z1) &&& 31).toUInt32).toInt32) &&& (7 : Int32)))] [(.int (((z0.toUInt32 >>> (((3 : Int32) * z1) &&& 31).toUInt32).toInt32) &&& (7 : Int32)))])) (fun tq kq => XS.iload X0.here hx rfl (hb hby d1_45) rfl kq) ?_
            refine Gl.st (b := s₁.setTop (mkF m 48 #[.val (.int z0), .val (.int z1), .val (.int z2), .val (.int z3), .val (.int (((z0.toUInt32 >>> (((3 : Int32) * z1) &&& 31).toUInt32).toInt32) &&& (7 : Int32)))] [(.int (4 : Int32)), (.int (((z0.toUInt32 >>> (((3 : Int32) * z1) &&& 31).toUInt32).toInt32) &&& (7 : Int32)))])) (fun tq kq => XS.iconst X0.here hx rfl (hb hby d1_47) kq) ?_
            by_cases hc48 : (((z0.toUInt32 >>> (((3 : Int32) * z1) &&& 31).toUInt32).toInt32) &&& (7 : Int32)).toInt = 4
            · -- hc48 True
              refine Gl.st (b := s₁.setTop (mkF m 51 #[.val (.int z0), .val (.int z1), .val (.int z2), .val (.int z3), .val (.int (((z0.toUInt32 >>> (((3 : Int32) * z1) &&& 31).toUInt32).toInt32) &&& (7 : Int32)))] [])) (fun tq kq => XS.icmpNo X0.here hx rfl (hb hby d1_48) rfl (teq (x := (((z0.toUInt32 >>> (((3 : Int32) * z1) &&& 31).toUInt32).toInt32) &&& (7 : Int32))) (y := (4 : Int32)) (own_eqI.mpr hc48)).2 kq) ?_
              refine Gl.st (b := s₁.setTop (mkF m 53 #[.val (.int z0), .val (.int z1), .val (.int z2), .val (.int z3), .val (.int (((z0.toUInt32 >>> (((3 : Int32) * z1) &&& 31).toUInt32).toInt32) &&& (7 : Int32)))] [(.int (62 : Int32))])) (fun tq kq => XS.bipush X0.here hx rfl (hb hby d1_51) kq) ?_
              exact Gl.retN X0 hx hret (by simp) (hb hby d1_53) hlk (by decide) (by decide) ⟨_, rfl, N0, e0⟩
            · -- hc48 False
              refine Gl.st (b := s₁.setTop (mkF m 54 #[.val (.int z0), .val (.int z1), .val (.int z2), .val (.int z3), .val (.int (((z0.toUInt32 >>> (((3 : Int32) * z1) &&& 31).toUInt32).toInt32) &&& (7 : Int32)))] [])) (fun tq kq => XS.icmpYes X0.here hx rfl (pc0 := 48) (pc' := 54) rfl (hb hby d1_48) rfl (feq (x := (((z0.toUInt32 >>> (((3 : Int32) * z1) &&& 31).toUInt32).toInt32) &&& (7 : Int32))) (y := (4 : Int32)) (fun q => hc48 (own_eqI.mp q))).2 (by decide) (by decide) kq) ?_
              refine Gl.st (b := s₁.setTop (mkF m 56 #[.val (.int z0), .val (.int z1), .val (.int z2), .val (.int z3), .val (.int (((z0.toUInt32 >>> (((3 : Int32) * z1) &&& 31).toUInt32).toInt32) &&& (7 : Int32)))] [(.int (((z0.toUInt32 >>> (((3 : Int32) * z1) &&& 31).toUInt32).toInt32) &&& (7 : Int32)))])) (fun tq kq => XS.iload X0.here hx rfl (hb hby d1_54) rfl kq) ?_
              refine Gl.st (b := s₁.setTop (mkF m 57 #[.val (.int z0), .val (.int z1), .val (.int z2), .val (.int z3), .val (.int (((z0.toUInt32 >>> (((3 : Int32) * z1) &&& 31).toUInt32).toInt32) &&& (7 : Int32)))] [(.int (5 : Int32)), (.int (((z0.toUInt32 >>> (((3 : Int32) * z1) &&& 31).toUInt32).toInt32) &&& (7 : Int32)))])) (fun tq kq => XS.iconst X0.here hx rfl (hb hby d1_56) kq) ?_
              by_cases hc57 : (((z0.toUInt32 >>> (((3 : Int32) * z1) &&& 31).toUInt32).toInt32) &&& (7 : Int32)).toInt = 5
              · -- hc57 True
                refine Gl.st (b := s₁.setTop (mkF m 60 #[.val (.int z0), .val (.int z1), .val (.int z2), .val (.int z3), .val (.int (((z0.toUInt32 >>> (((3 : Int32) * z1) &&& 31).toUInt32).toInt32) &&& (7 : Int32)))] [])) (fun tq kq => XS.icmpNo X0.here hx rfl (hb hby d1_57) rfl (teq (x := (((z0.toUInt32 >>> (((3 : Int32) * z1) &&& 31).toUInt32).toInt32) &&& (7 : Int32))) (y := (5 : Int32)) (own_eqI.mpr hc57)).2 kq) ?_
                refine Gl.st (b := s₁.setTop (mkF m 61 #[.val (.int z0), .val (.int z1), .val (.int z2), .val (.int z3), .val (.int (((z0.toUInt32 >>> (((3 : Int32) * z1) &&& 31).toUInt32).toInt32) &&& (7 : Int32)))] [(.int z2)])) (fun tq kq => XS.iloadN X0.here hx rfl (hb hby d1_60) rfl kq) ?_
                refine Gl.st (b := s₁.setTop (mkF m 62 #[.val (.int z0), .val (.int z1), .val (.int z2), .val (.int z3), .val (.int (((z0.toUInt32 >>> (((3 : Int32) * z1) &&& 31).toUInt32).toInt32) &&& (7 : Int32)))] [(.int (z2.toUInt32.toUInt16.toUInt32.toInt32))])) (fun tq kq => XS.i2c X0.here hx rfl (hb hby d1_61) rfl kq) ?_
                exact Gl.retN X0 hx hret (by simp) (hb hby d1_62) hlk (by decide) (by decide) ⟨_, rfl, N0, e0⟩
              · -- hc57 False
                refine Gl.st (b := s₁.setTop (mkF m 63 #[.val (.int z0), .val (.int z1), .val (.int z2), .val (.int z3), .val (.int (((z0.toUInt32 >>> (((3 : Int32) * z1) &&& 31).toUInt32).toInt32) &&& (7 : Int32)))] [])) (fun tq kq => XS.icmpYes X0.here hx rfl (pc0 := 57) (pc' := 63) rfl (hb hby d1_57) rfl (feq (x := (((z0.toUInt32 >>> (((3 : Int32) * z1) &&& 31).toUInt32).toInt32) &&& (7 : Int32))) (y := (5 : Int32)) (fun q => hc57 (own_eqI.mp q))).2 (by decide) (by decide) kq) ?_
                refine Gl.st (b := s₁.setTop (mkF m 65 #[.val (.int z0), .val (.int z1), .val (.int z2), .val (.int z3), .val (.int (((z0.toUInt32 >>> (((3 : Int32) * z1) &&& 31).toUInt32).toInt32) &&& (7 : Int32)))] [(.int (((z0.toUInt32 >>> (((3 : Int32) * z1) &&& 31).toUInt32).toInt32) &&& (7 : Int32)))])) (fun tq kq => XS.iload X0.here hx rfl (hb hby d1_63) rfl kq) ?_
                refine Gl.st (b := s₁.setTop (mkF m 67 #[.val (.int z0), .val (.int z1), .val (.int z2), .val (.int z3), .val (.int (((z0.toUInt32 >>> (((3 : Int32) * z1) &&& 31).toUInt32).toInt32) &&& (7 : Int32)))] [(.int (6 : Int32)), (.int (((z0.toUInt32 >>> (((3 : Int32) * z1) &&& 31).toUInt32).toInt32) &&& (7 : Int32)))])) (fun tq kq => XS.bipush X0.here hx rfl (hb hby d1_65) kq) ?_
                by_cases hc67 : (((z0.toUInt32 >>> (((3 : Int32) * z1) &&& 31).toUInt32).toInt32) &&& (7 : Int32)).toInt = 6
                · -- hc67 True
                  refine Gl.st (b := s₁.setTop (mkF m 70 #[.val (.int z0), .val (.int z1), .val (.int z2), .val (.int z3), .val (.int (((z0.toUInt32 >>> (((3 : Int32) * z1) &&& 31).toUInt32).toInt32) &&& (7 : Int32)))] [])) (fun tq kq => XS.icmpNo X0.here hx rfl (hb hby d1_67) rfl (teq (x := (((z0.toUInt32 >>> (((3 : Int32) * z1) &&& 31).toUInt32).toInt32) &&& (7 : Int32))) (y := (6 : Int32)) (own_eqI.mpr hc67)).2 kq) ?_
                  refine Gl.st (b := s₁.setTop (mkF m 71 #[.val (.int z0), .val (.int z1), .val (.int z2), .val (.int z3), .val (.int (((z0.toUInt32 >>> (((3 : Int32) * z1) &&& 31).toUInt32).toInt32) &&& (7 : Int32)))] [(.int z2)])) (fun tq kq => XS.iloadN X0.here hx rfl (hb hby d1_70) rfl kq) ?_
                  refine Gl.st (b := s₁.setTop (mkF m 73 #[.val (.int z0), .val (.int z1), .val (.int z2), .val (.int z3), .val (.int (((z0.toUInt32 >>> (((3 : Int32) * z1) &&& 31).toUInt32).toInt32) &&& (7 : Int32)))] [(.int (16 : Int32)), (.int z2)])) (fun tq kq => XS.bipush X0.here hx rfl (hb hby d1_71) kq) ?_
                  refine Gl.st (b := s₁.setTop (mkF m 74 #[.val (.int z0), .val (.int z1), .val (.int z2), .val (.int z3), .val (.int (((z0.toUInt32 >>> (((3 : Int32) * z1) &&& 31).toUInt32).toInt32) &&& (7 : Int32)))] [(.int ((z2.toUInt32 >>> ((16 : Int32) &&& 31).toUInt32).toInt32))])) (fun tq kq => XS.iushr X0.here hx rfl (hb hby d1_73) rfl kq) ?_
                  refine Gl.st (b := s₁.setTop (mkF m 75 #[.val (.int z0), .val (.int z1), .val (.int z2), .val (.int z3), .val (.int (((z0.toUInt32 >>> (((3 : Int32) * z1) &&& 31).toUInt32).toInt32) &&& (7 : Int32)))] [(.int (((z2.toUInt32 >>> ((16 : Int32) &&& 31).toUInt32).toInt32).toUInt32.toUInt16.toUInt32.toInt32))])) (fun tq kq => XS.i2c X0.here hx rfl (hb hby d1_74) rfl kq) ?_
                  exact Gl.retN X0 hx hret (by simp) (hb hby d1_75) hlk (by decide) (by decide) ⟨_, rfl, N0, e0⟩
                · -- hc67 False
                  refine Gl.st (b := s₁.setTop (mkF m 76 #[.val (.int z0), .val (.int z1), .val (.int z2), .val (.int z3), .val (.int (((z0.toUInt32 >>> (((3 : Int32) * z1) &&& 31).toUInt32).toInt32) &&& (7 : Int32)))] [])) (fun tq kq => XS.icmpYes X0.here hx rfl (pc0 := 67) (pc' := 76) rfl (hb hby d1_67) rfl (feq (x := (((z0.toUInt32 >>> (((3 : Int32) * z1) &&& 31).toUInt32).toInt32) &&& (7 : Int32))) (y := (6 : Int32)) (fun q => hc67 (own_eqI.mp q))).2 (by decide) (by decide) kq) ?_
                  refine Gl.st (b := s₁.setTop (mkF m 77 #[.val (.int z0), .val (.int z1), .val (.int z2), .val (.int z3), .val (.int (((z0.toUInt32 >>> (((3 : Int32) * z1) &&& 31).toUInt32).toInt32) &&& (7 : Int32)))] [(.int z3)])) (fun tq kq => XS.iloadN X0.here hx rfl (hb hby d1_76) rfl kq) ?_
                  refine Gl.st (b := s₁.setTop (mkF m 78 #[.val (.int z0), .val (.int z1), .val (.int z2), .val (.int z3), .val (.int (((z0.toUInt32 >>> (((3 : Int32) * z1) &&& 31).toUInt32).toInt32) &&& (7 : Int32)))] [(.int (z3.toUInt32.toUInt16.toUInt32.toInt32))])) (fun tq kq => XS.i2c X0.here hx rfl (hb hby d1_77) rfl kq) ?_
                  exact Gl.retN X0 hx hret (by simp) (hb hby d1_78) hlk (by decide) (by decide) ⟨_, rfl, N0, e0⟩
  exact GOAL
theorem d2_0 : decode prog_81_method_1_code 0 = .ok (.aload_n 0, 1) := by decide +kernel
theorem d2_1 : decode prog_81_method_1_code 1 = .ok (.invokespecial 1, 3) := by decide +kernel
theorem d2_4 : decode prog_81_method_1_code 4 = .ok (.aload_n 0, 1) := by decide +kernel
theorem d2_5 : decode prog_81_method_1_code 5 = .ok (.iconst 1, 1) := by decide +kernel
theorem d2_6 : decode prog_81_method_1_code 6 = .ok (.putfield 7, 3) := by decide +kernel
theorem d2_9 : decode prog_81_method_1_code 9 = .ok (.return_, 1) := by decide +kernel
theorem ef2 (m : MethodId) (a0_ : Addr) : entryFrame m #[(.ref a0_)] 1 = mkF m 0 #[.val (.ref a0_)] [] := by first | (simp [entryFrame, mkF, argsToLocals, Value.category]; done) | rfl
set_option maxRecDepth 65536 in
set_option maxHeartbeats 40000000 in
theorem rm2 (l : Launch) (Z : State) (a0 : Array Value) (hw : ∀ d ∈ tables_1, d.before a0 Z = true) (ws : List Jvm.Cond) (a0_ : Addr)  (h0 : Heap) (n0 : Nat) (Z0 : n0 ≤ h0.size) (EX : Exa Z h0 a0_ "com/example/leafrank/leafrank/core/IgnoredSection") (F_closing : Fld Z h0 a0_ "com/example/leafrank/leafrank/core/IgnoredSection" "closing" "I" (.int (0 : Int32))) (F_opening : Fld Z h0 a0_ "com/example/leafrank/leafrank/core/IgnoredSection" "opening" "I" (.int (0 : Int32))) (F_sections : Fld Z h0 a0_ "com/example/leafrank/leafrank/core/IgnoredSection" "sections" "I" (.int (0 : Int32))) (ga : n0 ≤ a0_) :
    MetFree l (⟨"com/example/leafrank/leafrank/core/IgnoredSection", "<init>", "()V"⟩ : MethodName) (head1 (Jvm.Cond.code (⟨"com/example/leafrank/leafrank/core/IgnoredSection", "<init>", "()V"⟩ : MethodName) prog_81_method_1_code 1 none :: ws) (⟨1, 0, 0, 12⟩ : Room)) (fun a U => a = #[(.ref a0_)] ∧ Z.Warmed39 U.vm ∧ U.heap = h0) (fun _ _ _ _ _ => True) (fun _ U o U' => ∃ v L, o = .returned v ∧ QI Z a0_ n0 h0 v U'.heap L ∧ FrameEnd U o U' L 0 0) := by
  refine MetFree.of_bodySF (plainFor_of_name own_pn1) hisR ?_
  intro p e s m args below meth c s₁ Bd hml0 hP hK
  obtain ⟨rfl, hZ, hh⟩ := hP
  have hx := Bd.exec
  have hby := Bd.bytes
  have hml : c.maxLocals = 1 := hml0
  have hown : s.vm.findClass "com/example/leafrank/leafrank/core/IgnoredSection" = some m.cls := findClass_of_methodNamed Bd.named
  have hnm := (name_of_methodNamed Bd.named Bd.method).1
  have hlk : meth.locks = false := Bd.notSynchronized
  have hret := Bd.returns
  have X0 : Stand p l e (⟨1, 0, 0, 12⟩ : Room) s m #[(.ref a0_)] below meth c s₁ [] 0 0 := Stand.of_body Bd
  have e0 : s₁.heap = h0 := by rw [← hh, Bd.state]; rfl
  have N0 := Fr.nil n0
  have GOAL : Gl p e below s (QI Z a0_ n0 h0) 0 0 (s₁.setTop (entryFrame m #[(.ref a0_)] 1)) := by
    refine Gl.cast (ef2 m a0_) ?_
    have KK_0 : Keep h0 h0 [a0_] := Keep.refl _ _
    refine Gl.st (b := s₁.setTop (mkF m 1 #[.val (.ref a0_)] [(.ref a0_)])) (fun tq kq => XS.aloadN X0.here hx rfl (hb hby d2_0) rfl rfl kq) ?_
    refine Gl.ex (Jvm.RoadKit.initO X0 hx hZ hown (hw _ (List.mem_of_getElem? (i := 11) rfl)) (hw _ (List.mem_of_getElem? (i := 12) rfl)) (hw _ (List.mem_of_getElem? (i := 13) rfl)) e0 (g := (mkF m 1 #[.val (.ref a0_)] [(.ref a0_)])) rfl (by rw [hml]; rfl) rfl (hb hby d2_1) (by decide) (W := 0) (by show 2 * 0 + _ ≤ _; exact Nat.le_of_eq rfl) (by decide)) ?_
    intro T1 X1 e1
    show Gl _ _ _ _ _ _ _ (T1.setTop (mkF m 4 #[.val (.ref a0_)] []))
    refine Gl.st (b := T1.setTop (mkF m 5 #[.val (.ref a0_)] [(.ref a0_)])) (fun tq kq => XS.aloadN X1.here hx rfl (hb hby d2_4) rfl rfl kq) ?_
    refine Gl.st (b := T1.setTop (mkF m 6 #[.val (.ref a0_)] [(.int (1 : Int32)), (.ref a0_)])) (fun tq kq => XS.iconst X1.here hx rfl (hb hby d2_5) kq) ?_
    refine Gl.putF X1 hx hZ hown (hw _ (List.mem_of_getElem? (i := 14) rfl)) e1 F_sections EX (Or.inl (hw _ (List.mem_of_getElem? (i := 15) rfl))) (hw _ (List.mem_of_getElem? (i := 6) rfl)) (ty := .int) (by decide) rfl rfl N0 ga (hb hby d2_6) ?_
    intro T2 h2 L2 X2 e2 N2 W2
    have FF2 := F_sections.same W2
    have Z_2 : n0 ≤ h2.size := Nat.le_trans Z0 (Nat.le_of_eq W2.size.symm)
    have E_a0__2 := EX.wr W2
    have KK_2 := KK_0.wr W2 (Or.inl (List.mem_of_getElem? (i := 0) rfl))
    have F_a0__closing_2 := F_closing.other W2 (Or.inr (slot_ne (Or.inl (hw _ (List.mem_of_getElem? (i := 25) rfl))) (Or.inl (hw _ (List.mem_of_getElem? (i := 15) rfl))) (by decide) (t := .int) (t' := .int) (by decide) (by decide)))
    have F_a0__opening_2 := F_opening.other W2 (Or.inr (slot_ne (Or.inl (hw _ (List.mem_of_getElem? (i := 27) rfl))) (Or.inl (hw _ (List.mem_of_getElem? (i := 15) rfl))) (by decide) (t := .int) (t' := .int) (by decide) (by decide)))
    show Gl _ _ _ _ _ _ _ (T2.setTop (mkF m 9 #[.val (.ref a0_)] []))
    exact Gl.retV X2 hx hret (hb hby d2_9) hlk (by decide) (by decide) (by rw [e2]; exact ⟨rfl, N2, KK_2, E_a0__2, F_a0__closing_2, F_a0__opening_2, FF2⟩)
  exact GOAL
theorem d3_0 : decode method_3_code 0 = .ok (.iload_n 1, 1) := by decide +kernel
theorem d3_1 : decode method_3_code 1 = .ok (.iconst 2, 1) := by decide +kernel
theorem d3_2 : decode method_3_code 2 = .ok (.if_icmp .ge 5, 3) := by decide +kernel
theorem d3_5 : decode method_3_code 5 = .ok (.iconst 0, 1) := by decide +kernel
theorem d3_6 : decode method_3_code 6 = .ok (.ireturn, 1) := by decide +kernel
theorem d3_7 : decode method_3_code 7 = .ok (.aload_n 0, 1) := by decide +kernel
theorem d3_8 : decode method_3_code 8 = .ok (.iload_n 1, 1) := by decide +kernel
theorem d3_9 : decode method_3_code 9 = .ok (.iconst 2, 1) := by decide +kernel
theorem d3_10 : decode method_3_code 10 = .ok (.isub, 1) := by decide +kernel
theorem d3_11 : decode method_3_code 11 = .ok (.caload, 1) := by decide +kernel
theorem d3_12 : decode method_3_code 12 = .ok (.bipush 60, 2) := by decide +kernel
theorem d3_14 : decode method_3_code 14 = .ok (.if_icmp .ne 23, 3) := by decide +kernel
theorem d3_17 : decode method_3_code 17 = .ok (.aload_n 0, 1) := by decide +kernel
theorem d3_18 : decode method_3_code 18 = .ok (.iload_n 1, 1) := by decide +kernel
theorem d3_19 : decode method_3_code 19 = .ok (.iconst 1, 1) := by decide +kernel
theorem d3_20 : decode method_3_code 20 = .ok (.isub, 1) := by decide +kernel
theorem d3_21 : decode method_3_code 21 = .ok (.caload, 1) := by decide +kernel
theorem d3_22 : decode method_3_code 22 = .ok (.bipush 33, 2) := by decide +kernel
theorem d3_24 : decode method_3_code 24 = .ok (.if_icmp .ne 13, 3) := by decide +kernel
theorem d3_27 : decode method_3_code 27 = .ok (.aload_n 0, 1) := by decide +kernel
theorem d3_28 : decode method_3_code 28 = .ok (.iload_n 1, 1) := by decide +kernel
theorem d3_29 : decode method_3_code 29 = .ok (.caload, 1) := by decide +kernel
theorem d3_30 : decode method_3_code 30 = .ok (.bipush 91, 2) := by decide +kernel
theorem d3_32 : decode method_3_code 32 = .ok (.if_icmp .ne 5, 3) := by decide +kernel
theorem d3_35 : decode method_3_code 35 = .ok (.iconst 1, 1) := by decide +kernel
theorem d3_36 : decode method_3_code 36 = .ok (.ireturn, 1) := by decide +kernel
theorem d3_37 : decode method_3_code 37 = .ok (.aload_n 0, 1) := by decide +kernel
theorem d3_38 : decode method_3_code 38 = .ok (.iload_n 1, 1) := by decide +kernel
theorem d3_39 : decode method_3_code 39 = .ok (.iconst 2, 1) := by decide +kernel
theorem d3_40 : decode method_3_code 40 = .ok (.isub, 1) := by decide +kernel
theorem d3_41 : decode method_3_code 41 = .ok (.caload, 1) := by decide +kernel
theorem d3_42 : decode method_3_code 42 = .ok (.bipush 93, 2) := by decide +kernel
theorem d3_44 : decode method_3_code 44 = .ok (.if_icmp .ne 23, 3) := by decide +kernel
theorem d3_47 : decode method_3_code 47 = .ok (.aload_n 0, 1) := by decide +kernel
theorem d3_48 : decode method_3_code 48 = .ok (.iload_n 1, 1) := by decide +kernel
theorem d3_49 : decode method_3_code 49 = .ok (.iconst 1, 1) := by decide +kernel
theorem d3_50 : decode method_3_code 50 = .ok (.isub, 1) := by decide +kernel
theorem d3_51 : decode method_3_code 51 = .ok (.caload, 1) := by decide +kernel
theorem d3_52 : decode method_3_code 52 = .ok (.bipush 93, 2) := by decide +kernel
theorem d3_54 : decode method_3_code 54 = .ok (.if_icmp .ne 13, 3) := by decide +kernel
theorem d3_57 : decode method_3_code 57 = .ok (.aload_n 0, 1) := by decide +kernel
theorem d3_58 : decode method_3_code 58 = .ok (.iload_n 1, 1) := by decide +kernel
theorem d3_59 : decode method_3_code 59 = .ok (.caload, 1) := by decide +kernel
theorem d3_60 : decode method_3_code 60 = .ok (.bipush 62, 2) := by decide +kernel
theorem d3_62 : decode method_3_code 62 = .ok (.if_icmp .ne 5, 3) := by decide +kernel
theorem d3_65 : decode method_3_code 65 = .ok (.iconst (-1), 1) := by decide +kernel
theorem d3_66 : decode method_3_code 66 = .ok (.ireturn, 1) := by decide +kernel
theorem d3_67 : decode method_3_code 67 = .ok (.iconst 0, 1) := by decide +kernel
theorem d3_68 : decode method_3_code 68 = .ok (.ireturn, 1) := by decide +kernel
theorem ef3 (m : MethodId) (a0_ : Addr) (z1 : Int32) : entryFrame m #[(.ref a0_), (.int z1)] 2 = mkF m 0 #[.val (.ref a0_), .val (.int z1)] [] := by first | (simp [entryFrame, mkF, argsToLocals, Value.category]; done) | rfl
set_option maxRecDepth 65536 in
set_option maxHeartbeats 40000000 in
theorem rm3 (l : Launch) (Z : State) (a0 : Array Value) (hw : ∀ d ∈ tables_1, d.before a0 Z = true) (ws : List Jvm.Cond) (a0_ : Addr) (z1 : Int32) (cs : List Int32) (h0 : Heap) (n0 : Nat) (Z0 : n0 ≤ h0.size) (A : Ar Z h0 a0_ .char (cs.map Value.int)) (h1 : 0 ≤ z1.toInt) (h2 : z1.toInt < cs.length) :
    MetFree l (⟨"com/example/leafrank/leafrank/core/IgnoredSectionNextPinLaw", "delta", "([CI)I"⟩ : MethodName) (head1 (Jvm.Cond.code (⟨"com/example/leafrank/leafrank/core/IgnoredSectionNextPinLaw", "delta", "([CI)I"⟩ : MethodName) method_3_code 2 (some .int) :: ws) (⟨0, 0, 0, 0⟩ : Room)) (fun a U => a = #[(.ref a0_), (.int z1)] ∧ Z.Warmed39 U.vm ∧ U.heap = h0) (fun _ _ _ _ _ => True) (fun _ U o U' => ∃ v L, o = .returned v ∧ QP n0 h0 (.int (own_dl cs z1)) v U'.heap L ∧ FrameEnd U o U' L 0 0) := by
  refine MetFree.of_bodySF (plainFor_of_name own_pn0) hisR ?_
  intro p e s m args below meth c s₁ Bd hml0 hP hK
  obtain ⟨rfl, hZ, hh⟩ := hP
  have hx := Bd.exec
  have hby := Bd.bytes
  have hml : c.maxLocals = 2 := hml0
  have hown : s.vm.findClass "com/example/leafrank/leafrank/core/IgnoredSectionNextPinLaw" = some m.cls := findClass_of_methodNamed Bd.named
  have hnm := (name_of_methodNamed Bd.named Bd.method).1
  have hlk : meth.locks = false := Bd.notSynchronized
  have hret := Bd.returns
  have X0 : Stand p l e (⟨0, 0, 0, 0⟩ : Room) s m #[(.ref a0_), (.int z1)] below meth c s₁ [] 0 0 := Stand.of_body Bd
  have e0 : s₁.heap = h0 := by rw [← hh, Bd.state]; rfl
  have N0 := Fr.nil n0
  have GOAL : Gl p e below s (QP n0 h0 (.int (own_dl cs z1))) 0 0 (s₁.setTop (entryFrame m #[(.ref a0_), (.int z1)] 2)) := by
    refine Gl.cast (ef3 m a0_ z1) ?_
    have k2 : (2 : Int32).toInt = 2 := by decide
    have k1 : (1 : Int32).toInt = 1 := by decide
    have u1 : 2 ≤ z1.toInt → (z1 - (1 : Int32)).toInt = z1.toInt - 1 := by intro q; have a := c_isub z1 (1 : Int32); have b := rng32 (z1 - (1 : Int32)); have d := rng32 z1; omega
    have u2 : 2 ≤ z1.toInt → (z1 - (2 : Int32)).toInt = z1.toInt - 2 := by intro q; have a := c_isub z1 (2 : Int32); have b := rng32 (z1 - (2 : Int32)); have d := rng32 z1; omega
    refine Gl.st (b := s₁.setTop (mkF m 1 #[.val (.ref a0_), .val (.int z1)] [(.int z1)])) (fun tq kq => XS.iloadN X0.here hx rfl (hb hby d3_0) rfl kq) ?_
    refine Gl.st (b := s₁.setTop (mkF m 2 #[.val (.ref a0_), .val (.int z1)] [(.int (2 : Int32)), (.int z1)])) (fun tq kq => XS.iconst X0.here hx rfl (hb hby d3_1) kq) ?_
    by_cases hc2 : z1.toInt < 2
    · -- hc2 True
      refine Gl.st (b := s₁.setTop (mkF m 5 #[.val (.ref a0_), .val (.int z1)] [])) (fun tq kq => XS.icmpNo X0.here hx rfl (hb hby d3_2) rfl (tlt (x := z1) (y := (2 : Int32)) (own_ltI.mpr hc2)).2.1 kq) ?_
      refine Gl.st (b := s₁.setTop (mkF m 6 #[.val (.ref a0_), .val (.int z1)] [(.int (0 : Int32))])) (fun tq kq => XS.iconst X0.here hx rfl (hb hby d3_5) kq) ?_
      exact Gl.retI X0 hx hret (hb hby d3_6) hlk (by decide) (by decide) ⟨by unfold own_dl own_d own_ch; (repeat' split) <;> first | rfl | omega, N0, e0⟩
    · -- hc2 False
      refine Gl.st (b := s₁.setTop (mkF m 7 #[.val (.ref a0_), .val (.int z1)] [])) (fun tq kq => XS.icmpYes X0.here hx rfl (pc0 := 2) (pc' := 7) rfl (hb hby d3_2) rfl (flt (x := z1) (y := (2 : Int32)) (fun q => hc2 (own_ltI.mp q))).2.1 (by decide) (by decide) kq) ?_
      refine Gl.st (b := s₁.setTop (mkF m 8 #[.val (.ref a0_), .val (.int z1)] [(.ref a0_)])) (fun tq kq => XS.aloadN X0.here hx rfl (hb hby d3_7) rfl rfl kq) ?_
      refine Gl.st (b := s₁.setTop (mkF m 9 #[.val (.ref a0_), .val (.int z1)] [(.int z1), (.ref a0_)])) (fun tq kq => XS.iloadN X0.here hx rfl (hb hby d3_8) rfl kq) ?_
      refine Gl.st (b := s₁.setTop (mkF m 10 #[.val (.ref a0_), .val (.int z1)] [(.int (2 : Int32)), (.int z1), (.ref a0_)])) (fun tq kq => XS.iconst X0.here hx rfl (hb hby d3_9) kq) ?_
      refine Gl.st (b := s₁.setTop (mkF m 11 #[.val (.ref a0_), .val (.int z1)] [(.int (z1 - (2 : Int32))), (.ref a0_)])) (fun tq kq => XS.isub X0.here hx rfl (hb hby d3_10) rfl kq) ?_
      refine Gl.caload (k := (z1.toInt - 2).toNat) (v := (.int (cs.getD (z1.toInt - 2).toNat 0))) X0 hx hZ e0 A (by omega) (own_get (by omega)) (hb hby d3_11) ?_
      show Gl _ _ _ _ _ _ _ (s₁.setTop (mkF m 12 #[.val (.ref a0_), .val (.int z1)] [(.int (cs.getD (z1.toInt - 2).toNat 0))]))
      refine Gl.st (b := s₁.setTop (mkF m 14 #[.val (.ref a0_), .val (.int z1)] [(.int (60 : Int32)), (.int (cs.getD (z1.toInt - 2).toNat 0))])) (fun tq kq => XS.bipush X0.here hx rfl (hb hby d3_12) kq) ?_
      by_cases hc14 : (cs.getD (z1.toInt - 2).toNat 0).toInt = 60
      · -- hc14 True
        refine Gl.st (b := s₁.setTop (mkF m 17 #[.val (.ref a0_), .val (.int z1)] [])) (fun tq kq => XS.icmpNo X0.here hx rfl (hb hby d3_14) rfl (teq (x := (cs.getD (z1.toInt - 2).toNat 0)) (y := (60 : Int32)) (own_eqI.mpr hc14)).2 kq) ?_
        refine Gl.st (b := s₁.setTop (mkF m 18 #[.val (.ref a0_), .val (.int z1)] [(.ref a0_)])) (fun tq kq => XS.aloadN X0.here hx rfl (hb hby d3_17) rfl rfl kq) ?_
        refine Gl.st (b := s₁.setTop (mkF m 19 #[.val (.ref a0_), .val (.int z1)] [(.int z1), (.ref a0_)])) (fun tq kq => XS.iloadN X0.here hx rfl (hb hby d3_18) rfl kq) ?_
        refine Gl.st (b := s₁.setTop (mkF m 20 #[.val (.ref a0_), .val (.int z1)] [(.int (1 : Int32)), (.int z1), (.ref a0_)])) (fun tq kq => XS.iconst X0.here hx rfl (hb hby d3_19) kq) ?_
        refine Gl.st (b := s₁.setTop (mkF m 21 #[.val (.ref a0_), .val (.int z1)] [(.int (z1 - (1 : Int32))), (.ref a0_)])) (fun tq kq => XS.isub X0.here hx rfl (hb hby d3_20) rfl kq) ?_
        refine Gl.caload (k := (z1.toInt - 1).toNat) (v := (.int (cs.getD (z1.toInt - 1).toNat 0))) X0 hx hZ e0 A (by omega) (own_get (by omega)) (hb hby d3_21) ?_
        show Gl _ _ _ _ _ _ _ (s₁.setTop (mkF m 22 #[.val (.ref a0_), .val (.int z1)] [(.int (cs.getD (z1.toInt - 1).toNat 0))]))
        refine Gl.st (b := s₁.setTop (mkF m 24 #[.val (.ref a0_), .val (.int z1)] [(.int (33 : Int32)), (.int (cs.getD (z1.toInt - 1).toNat 0))])) (fun tq kq => XS.bipush X0.here hx rfl (hb hby d3_22) kq) ?_
        by_cases hc24 : (cs.getD (z1.toInt - 1).toNat 0).toInt = 33
        · -- hc24 True
          refine Gl.st (b := s₁.setTop (mkF m 27 #[.val (.ref a0_), .val (.int z1)] [])) (fun tq kq => XS.icmpNo X0.here hx rfl (hb hby d3_24) rfl (teq (x := (cs.getD (z1.toInt - 1).toNat 0)) (y := (33 : Int32)) (own_eqI.mpr hc24)).2 kq) ?_
          refine Gl.st (b := s₁.setTop (mkF m 28 #[.val (.ref a0_), .val (.int z1)] [(.ref a0_)])) (fun tq kq => XS.aloadN X0.here hx rfl (hb hby d3_27) rfl rfl kq) ?_
          refine Gl.st (b := s₁.setTop (mkF m 29 #[.val (.ref a0_), .val (.int z1)] [(.int z1), (.ref a0_)])) (fun tq kq => XS.iloadN X0.here hx rfl (hb hby d3_28) rfl kq) ?_
          refine Gl.caload (k := (z1.toInt).toNat) (v := (.int (cs.getD (z1.toInt).toNat 0))) X0 hx hZ e0 A (by omega) (own_get (by omega)) (hb hby d3_29) ?_
          show Gl _ _ _ _ _ _ _ (s₁.setTop (mkF m 30 #[.val (.ref a0_), .val (.int z1)] [(.int (cs.getD (z1.toInt).toNat 0))]))
          refine Gl.st (b := s₁.setTop (mkF m 32 #[.val (.ref a0_), .val (.int z1)] [(.int (91 : Int32)), (.int (cs.getD (z1.toInt).toNat 0))])) (fun tq kq => XS.bipush X0.here hx rfl (hb hby d3_30) kq) ?_
          by_cases hc32 : (cs.getD (z1.toInt).toNat 0).toInt = 91
          · -- hc32 True
            refine Gl.st (b := s₁.setTop (mkF m 35 #[.val (.ref a0_), .val (.int z1)] [])) (fun tq kq => XS.icmpNo X0.here hx rfl (hb hby d3_32) rfl (teq (x := (cs.getD (z1.toInt).toNat 0)) (y := (91 : Int32)) (own_eqI.mpr hc32)).2 kq) ?_
            refine Gl.st (b := s₁.setTop (mkF m 36 #[.val (.ref a0_), .val (.int z1)] [(.int (1 : Int32))])) (fun tq kq => XS.iconst X0.here hx rfl (hb hby d3_35) kq) ?_
            exact Gl.retI X0 hx hret (hb hby d3_36) hlk (by decide) (by decide) ⟨by unfold own_dl own_d own_ch; (repeat' split) <;> first | rfl | omega, N0, e0⟩
          · -- hc32 False
            refine Gl.st (b := s₁.setTop (mkF m 37 #[.val (.ref a0_), .val (.int z1)] [])) (fun tq kq => XS.icmpYes X0.here hx rfl (pc0 := 32) (pc' := 37) rfl (hb hby d3_32) rfl (feq (x := (cs.getD (z1.toInt).toNat 0)) (y := (91 : Int32)) (fun q => hc32 (own_eqI.mp q))).2 (by decide) (by decide) kq) ?_
            refine Gl.st (b := s₁.setTop (mkF m 38 #[.val (.ref a0_), .val (.int z1)] [(.ref a0_)])) (fun tq kq => XS.aloadN X0.here hx rfl (hb hby d3_37) rfl rfl kq) ?_
            refine Gl.st (b := s₁.setTop (mkF m 39 #[.val (.ref a0_), .val (.int z1)] [(.int z1), (.ref a0_)])) (fun tq kq => XS.iloadN X0.here hx rfl (hb hby d3_38) rfl kq) ?_
            refine Gl.st (b := s₁.setTop (mkF m 40 #[.val (.ref a0_), .val (.int z1)] [(.int (2 : Int32)), (.int z1), (.ref a0_)])) (fun tq kq => XS.iconst X0.here hx rfl (hb hby d3_39) kq) ?_
            refine Gl.st (b := s₁.setTop (mkF m 41 #[.val (.ref a0_), .val (.int z1)] [(.int (z1 - (2 : Int32))), (.ref a0_)])) (fun tq kq => XS.isub X0.here hx rfl (hb hby d3_40) rfl kq) ?_
            refine Gl.caload (k := (z1.toInt - 2).toNat) (v := (.int (cs.getD (z1.toInt - 2).toNat 0))) X0 hx hZ e0 A (by omega) (own_get (by omega)) (hb hby d3_41) ?_
            show Gl _ _ _ _ _ _ _ (s₁.setTop (mkF m 42 #[.val (.ref a0_), .val (.int z1)] [(.int (cs.getD (z1.toInt - 2).toNat 0))]))
            refine Gl.st (b := s₁.setTop (mkF m 44 #[.val (.ref a0_), .val (.int z1)] [(.int (93 : Int32)), (.int (cs.getD (z1.toInt - 2).toNat 0))])) (fun tq kq => XS.bipush X0.here hx rfl (hb hby d3_42) kq) ?_
            by_cases hc44 : (cs.getD (z1.toInt - 2).toNat 0).toInt = 93
            · -- hc44 True
              refine Gl.st (b := s₁.setTop (mkF m 47 #[.val (.ref a0_), .val (.int z1)] [])) (fun tq kq => XS.icmpNo X0.here hx rfl (hb hby d3_44) rfl (teq (x := (cs.getD (z1.toInt - 2).toNat 0)) (y := (93 : Int32)) (own_eqI.mpr hc44)).2 kq) ?_
              refine Gl.st (b := s₁.setTop (mkF m 48 #[.val (.ref a0_), .val (.int z1)] [(.ref a0_)])) (fun tq kq => XS.aloadN X0.here hx rfl (hb hby d3_47) rfl rfl kq) ?_
              refine Gl.st (b := s₁.setTop (mkF m 49 #[.val (.ref a0_), .val (.int z1)] [(.int z1), (.ref a0_)])) (fun tq kq => XS.iloadN X0.here hx rfl (hb hby d3_48) rfl kq) ?_
              refine Gl.st (b := s₁.setTop (mkF m 50 #[.val (.ref a0_), .val (.int z1)] [(.int (1 : Int32)), (.int z1), (.ref a0_)])) (fun tq kq => XS.iconst X0.here hx rfl (hb hby d3_49) kq) ?_
              refine Gl.st (b := s₁.setTop (mkF m 51 #[.val (.ref a0_), .val (.int z1)] [(.int (z1 - (1 : Int32))), (.ref a0_)])) (fun tq kq => XS.isub X0.here hx rfl (hb hby d3_50) rfl kq) ?_
              refine Gl.caload (k := (z1.toInt - 1).toNat) (v := (.int (cs.getD (z1.toInt - 1).toNat 0))) X0 hx hZ e0 A (by omega) (own_get (by omega)) (hb hby d3_51) ?_
              show Gl _ _ _ _ _ _ _ (s₁.setTop (mkF m 52 #[.val (.ref a0_), .val (.int z1)] [(.int (cs.getD (z1.toInt - 1).toNat 0))]))
              refine Gl.st (b := s₁.setTop (mkF m 54 #[.val (.ref a0_), .val (.int z1)] [(.int (93 : Int32)), (.int (cs.getD (z1.toInt - 1).toNat 0))])) (fun tq kq => XS.bipush X0.here hx rfl (hb hby d3_52) kq) ?_
              by_cases hc54 : (cs.getD (z1.toInt - 1).toNat 0).toInt = 93
              · -- hc54 True
                refine Gl.st (b := s₁.setTop (mkF m 57 #[.val (.ref a0_), .val (.int z1)] [])) (fun tq kq => XS.icmpNo X0.here hx rfl (hb hby d3_54) rfl (teq (x := (cs.getD (z1.toInt - 1).toNat 0)) (y := (93 : Int32)) (own_eqI.mpr hc54)).2 kq) ?_
                refine Gl.st (b := s₁.setTop (mkF m 58 #[.val (.ref a0_), .val (.int z1)] [(.ref a0_)])) (fun tq kq => XS.aloadN X0.here hx rfl (hb hby d3_57) rfl rfl kq) ?_
                refine Gl.st (b := s₁.setTop (mkF m 59 #[.val (.ref a0_), .val (.int z1)] [(.int z1), (.ref a0_)])) (fun tq kq => XS.iloadN X0.here hx rfl (hb hby d3_58) rfl kq) ?_
                refine Gl.caload (k := (z1.toInt).toNat) (v := (.int (cs.getD (z1.toInt).toNat 0))) X0 hx hZ e0 A (by omega) (own_get (by omega)) (hb hby d3_59) ?_
                show Gl _ _ _ _ _ _ _ (s₁.setTop (mkF m 60 #[.val (.ref a0_), .val (.int z1)] [(.int (cs.getD (z1.toInt).toNat 0))]))
                refine Gl.st (b := s₁.setTop (mkF m 62 #[.val (.ref a0_), .val (.int z1)] [(.int (62 : Int32)), (.int (cs.getD (z1.toInt).toNat 0))])) (fun tq kq => XS.bipush X0.here hx rfl (hb hby d3_60) kq) ?_
                by_cases hc62 : (cs.getD (z1.toInt).toNat 0).toInt = 62
                · -- hc62 True
                  refine Gl.st (b := s₁.setTop (mkF m 65 #[.val (.ref a0_), .val (.int z1)] [])) (fun tq kq => XS.icmpNo X0.here hx rfl (hb hby d3_62) rfl (teq (x := (cs.getD (z1.toInt).toNat 0)) (y := (62 : Int32)) (own_eqI.mpr hc62)).2 kq) ?_
                  refine Gl.st (b := s₁.setTop (mkF m 66 #[.val (.ref a0_), .val (.int z1)] [(.int (-1 : Int32))])) (fun tq kq => XS.iconst X0.here hx rfl (hb hby d3_65) kq) ?_
                  exact Gl.retI X0 hx hret (hb hby d3_66) hlk (by decide) (by decide) ⟨by unfold own_dl own_d own_ch; (repeat' split) <;> first | rfl | omega, N0, e0⟩
                · -- hc62 False
                  refine Gl.st (b := s₁.setTop (mkF m 67 #[.val (.ref a0_), .val (.int z1)] [])) (fun tq kq => XS.icmpYes X0.here hx rfl (pc0 := 62) (pc' := 67) rfl (hb hby d3_62) rfl (feq (x := (cs.getD (z1.toInt).toNat 0)) (y := (62 : Int32)) (fun q => hc62 (own_eqI.mp q))).2 (by decide) (by decide) kq) ?_
                  refine Gl.st (b := s₁.setTop (mkF m 68 #[.val (.ref a0_), .val (.int z1)] [(.int (0 : Int32))])) (fun tq kq => XS.iconst X0.here hx rfl (hb hby d3_67) kq) ?_
                  exact Gl.retI X0 hx hret (hb hby d3_68) hlk (by decide) (by decide) ⟨by unfold own_dl own_d own_ch; (repeat' split) <;> first | rfl | omega, N0, e0⟩
              · -- hc54 False
                refine Gl.st (b := s₁.setTop (mkF m 67 #[.val (.ref a0_), .val (.int z1)] [])) (fun tq kq => XS.icmpYes X0.here hx rfl (pc0 := 54) (pc' := 67) rfl (hb hby d3_54) rfl (feq (x := (cs.getD (z1.toInt - 1).toNat 0)) (y := (93 : Int32)) (fun q => hc54 (own_eqI.mp q))).2 (by decide) (by decide) kq) ?_
                refine Gl.st (b := s₁.setTop (mkF m 68 #[.val (.ref a0_), .val (.int z1)] [(.int (0 : Int32))])) (fun tq kq => XS.iconst X0.here hx rfl (hb hby d3_67) kq) ?_
                exact Gl.retI X0 hx hret (hb hby d3_68) hlk (by decide) (by decide) ⟨by unfold own_dl own_d own_ch; (repeat' split) <;> first | rfl | omega, N0, e0⟩
            · -- hc44 False
              refine Gl.st (b := s₁.setTop (mkF m 67 #[.val (.ref a0_), .val (.int z1)] [])) (fun tq kq => XS.icmpYes X0.here hx rfl (pc0 := 44) (pc' := 67) rfl (hb hby d3_44) rfl (feq (x := (cs.getD (z1.toInt - 2).toNat 0)) (y := (93 : Int32)) (fun q => hc44 (own_eqI.mp q))).2 (by decide) (by decide) kq) ?_
              refine Gl.st (b := s₁.setTop (mkF m 68 #[.val (.ref a0_), .val (.int z1)] [(.int (0 : Int32))])) (fun tq kq => XS.iconst X0.here hx rfl (hb hby d3_67) kq) ?_
              exact Gl.retI X0 hx hret (hb hby d3_68) hlk (by decide) (by decide) ⟨by unfold own_dl own_d own_ch; (repeat' split) <;> first | rfl | omega, N0, e0⟩
        · -- hc24 False
          refine Gl.st (b := s₁.setTop (mkF m 37 #[.val (.ref a0_), .val (.int z1)] [])) (fun tq kq => XS.icmpYes X0.here hx rfl (pc0 := 24) (pc' := 37) rfl (hb hby d3_24) rfl (feq (x := (cs.getD (z1.toInt - 1).toNat 0)) (y := (33 : Int32)) (fun q => hc24 (own_eqI.mp q))).2 (by decide) (by decide) kq) ?_
          refine Gl.st (b := s₁.setTop (mkF m 38 #[.val (.ref a0_), .val (.int z1)] [(.ref a0_)])) (fun tq kq => XS.aloadN X0.here hx rfl (hb hby d3_37) rfl rfl kq) ?_
          refine Gl.st (b := s₁.setTop (mkF m 39 #[.val (.ref a0_), .val (.int z1)] [(.int z1), (.ref a0_)])) (fun tq kq => XS.iloadN X0.here hx rfl (hb hby d3_38) rfl kq) ?_
          refine Gl.st (b := s₁.setTop (mkF m 40 #[.val (.ref a0_), .val (.int z1)] [(.int (2 : Int32)), (.int z1), (.ref a0_)])) (fun tq kq => XS.iconst X0.here hx rfl (hb hby d3_39) kq) ?_
          refine Gl.st (b := s₁.setTop (mkF m 41 #[.val (.ref a0_), .val (.int z1)] [(.int (z1 - (2 : Int32))), (.ref a0_)])) (fun tq kq => XS.isub X0.here hx rfl (hb hby d3_40) rfl kq) ?_
          refine Gl.caload (k := (z1.toInt - 2).toNat) (v := (.int (cs.getD (z1.toInt - 2).toNat 0))) X0 hx hZ e0 A (by omega) (own_get (by omega)) (hb hby d3_41) ?_
          show Gl _ _ _ _ _ _ _ (s₁.setTop (mkF m 42 #[.val (.ref a0_), .val (.int z1)] [(.int (cs.getD (z1.toInt - 2).toNat 0))]))
          refine Gl.st (b := s₁.setTop (mkF m 44 #[.val (.ref a0_), .val (.int z1)] [(.int (93 : Int32)), (.int (cs.getD (z1.toInt - 2).toNat 0))])) (fun tq kq => XS.bipush X0.here hx rfl (hb hby d3_42) kq) ?_
          by_cases hc44 : (cs.getD (z1.toInt - 2).toNat 0).toInt = 93
          · -- hc44 True
            refine Gl.st (b := s₁.setTop (mkF m 47 #[.val (.ref a0_), .val (.int z1)] [])) (fun tq kq => XS.icmpNo X0.here hx rfl (hb hby d3_44) rfl (teq (x := (cs.getD (z1.toInt - 2).toNat 0)) (y := (93 : Int32)) (own_eqI.mpr hc44)).2 kq) ?_
            refine Gl.st (b := s₁.setTop (mkF m 48 #[.val (.ref a0_), .val (.int z1)] [(.ref a0_)])) (fun tq kq => XS.aloadN X0.here hx rfl (hb hby d3_47) rfl rfl kq) ?_
            refine Gl.st (b := s₁.setTop (mkF m 49 #[.val (.ref a0_), .val (.int z1)] [(.int z1), (.ref a0_)])) (fun tq kq => XS.iloadN X0.here hx rfl (hb hby d3_48) rfl kq) ?_
            refine Gl.st (b := s₁.setTop (mkF m 50 #[.val (.ref a0_), .val (.int z1)] [(.int (1 : Int32)), (.int z1), (.ref a0_)])) (fun tq kq => XS.iconst X0.here hx rfl (hb hby d3_49) kq) ?_
            refine Gl.st (b := s₁.setTop (mkF m 51 #[.val (.ref a0_), .val (.int z1)] [(.int (z1 - (1 : Int32))), (.ref a0_)])) (fun tq kq => XS.isub X0.here hx rfl (hb hby d3_50) rfl kq) ?_
            refine Gl.caload (k := (z1.toInt - 1).toNat) (v := (.int (cs.getD (z1.toInt - 1).toNat 0))) X0 hx hZ e0 A (by omega) (own_get (by omega)) (hb hby d3_51) ?_
            show Gl _ _ _ _ _ _ _ (s₁.setTop (mkF m 52 #[.val (.ref a0_), .val (.int z1)] [(.int (cs.getD (z1.toInt - 1).toNat 0))]))
            refine Gl.st (b := s₁.setTop (mkF m 54 #[.val (.ref a0_), .val (.int z1)] [(.int (93 : Int32)), (.int (cs.getD (z1.toInt - 1).toNat 0))])) (fun tq kq => XS.bipush X0.here hx rfl (hb hby d3_52) kq) ?_
            by_cases hc54 : (cs.getD (z1.toInt - 1).toNat 0).toInt = 93
            · -- hc54 True
              refine Gl.st (b := s₁.setTop (mkF m 57 #[.val (.ref a0_), .val (.int z1)] [])) (fun tq kq => XS.icmpNo X0.here hx rfl (hb hby d3_54) rfl (teq (x := (cs.getD (z1.toInt - 1).toNat 0)) (y := (93 : Int32)) (own_eqI.mpr hc54)).2 kq) ?_
              refine Gl.st (b := s₁.setTop (mkF m 58 #[.val (.ref a0_), .val (.int z1)] [(.ref a0_)])) (fun tq kq => XS.aloadN X0.here hx rfl (hb hby d3_57) rfl rfl kq) ?_
              refine Gl.st (b := s₁.setTop (mkF m 59 #[.val (.ref a0_), .val (.int z1)] [(.int z1), (.ref a0_)])) (fun tq kq => XS.iloadN X0.here hx rfl (hb hby d3_58) rfl kq) ?_
              refine Gl.caload (k := (z1.toInt).toNat) (v := (.int (cs.getD (z1.toInt).toNat 0))) X0 hx hZ e0 A (by omega) (own_get (by omega)) (hb hby d3_59) ?_
              show Gl _ _ _ _ _ _ _ (s₁.setTop (mkF m 60 #[.val (.ref a0_), .val (.int z1)] [(.int (cs.getD (z1.toInt).toNat 0))]))
              refine Gl.st (b := s₁.setTop (mkF m 62 #[.val (.ref a0_), .val (.int z1)] [(.int (62 : Int32)), (.int (cs.getD (z1.toInt).toNat 0))])) (fun tq kq => XS.bipush X0.here hx rfl (hb hby d3_60) kq) ?_
              by_cases hc62 : (cs.getD (z1.toInt).toNat 0).toInt = 62
              · -- hc62 True
                refine Gl.st (b := s₁.setTop (mkF m 65 #[.val (.ref a0_), .val (.int z1)] [])) (fun tq kq => XS.icmpNo X0.here hx rfl (hb hby d3_62) rfl (teq (x := (cs.getD (z1.toInt).toNat 0)) (y := (62 : Int32)) (own_eqI.mpr hc62)).2 kq) ?_
                refine Gl.st (b := s₁.setTop (mkF m 66 #[.val (.ref a0_), .val (.int z1)] [(.int (-1 : Int32))])) (fun tq kq => XS.iconst X0.here hx rfl (hb hby d3_65) kq) ?_
                exact Gl.retI X0 hx hret (hb hby d3_66) hlk (by decide) (by decide) ⟨by unfold own_dl own_d own_ch; (repeat' split) <;> first | rfl | omega, N0, e0⟩
              · -- hc62 False
                refine Gl.st (b := s₁.setTop (mkF m 67 #[.val (.ref a0_), .val (.int z1)] [])) (fun tq kq => XS.icmpYes X0.here hx rfl (pc0 := 62) (pc' := 67) rfl (hb hby d3_62) rfl (feq (x := (cs.getD (z1.toInt).toNat 0)) (y := (62 : Int32)) (fun q => hc62 (own_eqI.mp q))).2 (by decide) (by decide) kq) ?_
                refine Gl.st (b := s₁.setTop (mkF m 68 #[.val (.ref a0_), .val (.int z1)] [(.int (0 : Int32))])) (fun tq kq => XS.iconst X0.here hx rfl (hb hby d3_67) kq) ?_
                exact Gl.retI X0 hx hret (hb hby d3_68) hlk (by decide) (by decide) ⟨by unfold own_dl own_d own_ch; (repeat' split) <;> first | rfl | omega, N0, e0⟩
            · -- hc54 False
              refine Gl.st (b := s₁.setTop (mkF m 67 #[.val (.ref a0_), .val (.int z1)] [])) (fun tq kq => XS.icmpYes X0.here hx rfl (pc0 := 54) (pc' := 67) rfl (hb hby d3_54) rfl (feq (x := (cs.getD (z1.toInt - 1).toNat 0)) (y := (93 : Int32)) (fun q => hc54 (own_eqI.mp q))).2 (by decide) (by decide) kq) ?_
              refine Gl.st (b := s₁.setTop (mkF m 68 #[.val (.ref a0_), .val (.int z1)] [(.int (0 : Int32))])) (fun tq kq => XS.iconst X0.here hx rfl (hb hby d3_67) kq) ?_
              exact Gl.retI X0 hx hret (hb hby d3_68) hlk (by decide) (by decide) ⟨by unfold own_dl own_d own_ch; (repeat' split) <;> first | rfl | omega, N0, e0⟩
          · -- hc44 False
            refine Gl.st (b := s₁.setTop (mkF m 67 #[.val (.ref a0_), .val (.int z1)] [])) (fun tq kq => XS.icmpYes X0.here hx rfl (pc0 := 44) (pc' := 67) rfl (hb hby d3_44) rfl (feq (x := (cs.getD (z1.toInt - 2).toNat 0)) (y := (93 : Int32)) (fun q => hc44 (own_eqI.mp q))).2 (by decide) (by decide) kq) ?_
            refine Gl.st (b := s₁.setTop (mkF m 68 #[.val (.ref a0_), .val (.int z1)] [(.int (0 : Int32))])) (fun tq kq => XS.iconst X0.here hx rfl (hb hby d3_67) kq) ?_
            exact Gl.retI X0 hx hret (hb hby d3_68) hlk (by decide) (by decide) ⟨by unfold own_dl own_d own_ch; (repeat' split) <;> first | rfl | omega, N0, e0⟩
      · -- hc14 False
        refine Gl.st (b := s₁.setTop (mkF m 37 #[.val (.ref a0_), .val (.int z1)] [])) (fun tq kq => XS.icmpYes X0.here hx rfl (pc0 := 14) (pc' := 37) rfl (hb hby d3_14) rfl (feq (x := (cs.getD (z1.toInt - 2).toNat 0)) (y := (60 : Int32)) (fun q => hc14 (own_eqI.mp q))).2 (by decide) (by decide) kq) ?_
        refine Gl.st (b := s₁.setTop (mkF m 38 #[.val (.ref a0_), .val (.int z1)] [(.ref a0_)])) (fun tq kq => XS.aloadN X0.here hx rfl (hb hby d3_37) rfl rfl kq) ?_
        refine Gl.st (b := s₁.setTop (mkF m 39 #[.val (.ref a0_), .val (.int z1)] [(.int z1), (.ref a0_)])) (fun tq kq => XS.iloadN X0.here hx rfl (hb hby d3_38) rfl kq) ?_
        refine Gl.st (b := s₁.setTop (mkF m 40 #[.val (.ref a0_), .val (.int z1)] [(.int (2 : Int32)), (.int z1), (.ref a0_)])) (fun tq kq => XS.iconst X0.here hx rfl (hb hby d3_39) kq) ?_
        refine Gl.st (b := s₁.setTop (mkF m 41 #[.val (.ref a0_), .val (.int z1)] [(.int (z1 - (2 : Int32))), (.ref a0_)])) (fun tq kq => XS.isub X0.here hx rfl (hb hby d3_40) rfl kq) ?_
        refine Gl.caload (k := (z1.toInt - 2).toNat) (v := (.int (cs.getD (z1.toInt - 2).toNat 0))) X0 hx hZ e0 A (by omega) (own_get (by omega)) (hb hby d3_41) ?_
        show Gl _ _ _ _ _ _ _ (s₁.setTop (mkF m 42 #[.val (.ref a0_), .val (.int z1)] [(.int (cs.getD (z1.toInt - 2).toNat 0))]))
        refine Gl.st (b := s₁.setTop (mkF m 44 #[.val (.ref a0_), .val (.int z1)] [(.int (93 : Int32)), (.int (cs.getD (z1.toInt - 2).toNat 0))])) (fun tq kq => XS.bipush X0.here hx rfl (hb hby d3_42) kq) ?_
        by_cases hc44 : (cs.getD (z1.toInt - 2).toNat 0).toInt = 93
        · -- hc44 True
          refine Gl.st (b := s₁.setTop (mkF m 47 #[.val (.ref a0_), .val (.int z1)] [])) (fun tq kq => XS.icmpNo X0.here hx rfl (hb hby d3_44) rfl (teq (x := (cs.getD (z1.toInt - 2).toNat 0)) (y := (93 : Int32)) (own_eqI.mpr hc44)).2 kq) ?_
          refine Gl.st (b := s₁.setTop (mkF m 48 #[.val (.ref a0_), .val (.int z1)] [(.ref a0_)])) (fun tq kq => XS.aloadN X0.here hx rfl (hb hby d3_47) rfl rfl kq) ?_
          refine Gl.st (b := s₁.setTop (mkF m 49 #[.val (.ref a0_), .val (.int z1)] [(.int z1), (.ref a0_)])) (fun tq kq => XS.iloadN X0.here hx rfl (hb hby d3_48) rfl kq) ?_
          refine Gl.st (b := s₁.setTop (mkF m 50 #[.val (.ref a0_), .val (.int z1)] [(.int (1 : Int32)), (.int z1), (.ref a0_)])) (fun tq kq => XS.iconst X0.here hx rfl (hb hby d3_49) kq) ?_
          refine Gl.st (b := s₁.setTop (mkF m 51 #[.val (.ref a0_), .val (.int z1)] [(.int (z1 - (1 : Int32))), (.ref a0_)])) (fun tq kq => XS.isub X0.here hx rfl (hb hby d3_50) rfl kq) ?_
          refine Gl.caload (k := (z1.toInt - 1).toNat) (v := (.int (cs.getD (z1.toInt - 1).toNat 0))) X0 hx hZ e0 A (by omega) (own_get (by omega)) (hb hby d3_51) ?_
          show Gl _ _ _ _ _ _ _ (s₁.setTop (mkF m 52 #[.val (.ref a0_), .val (.int z1)] [(.int (cs.getD (z1.toInt - 1).toNat 0))]))
          refine Gl.st (b := s₁.setTop (mkF m 54 #[.val (.ref a0_), .val (.int z1)] [(.int (93 : Int32)), (.int (cs.getD (z1.toInt - 1).toNat 0))])) (fun tq kq => XS.bipush X0.here hx rfl (hb hby d3_52) kq) ?_
          by_cases hc54 : (cs.getD (z1.toInt - 1).toNat 0).toInt = 93
          · -- hc54 True
            refine Gl.st (b := s₁.setTop (mkF m 57 #[.val (.ref a0_), .val (.int z1)] [])) (fun tq kq => XS.icmpNo X0.here hx rfl (hb hby d3_54) rfl (teq (x := (cs.getD (z1.toInt - 1).toNat 0)) (y := (93 : Int32)) (own_eqI.mpr hc54)).2 kq) ?_
            refine Gl.st (b := s₁.setTop (mkF m 58 #[.val (.ref a0_), .val (.int z1)] [(.ref a0_)])) (fun tq kq => XS.aloadN X0.here hx rfl (hb hby d3_57) rfl rfl kq) ?_
            refine Gl.st (b := s₁.setTop (mkF m 59 #[.val (.ref a0_), .val (.int z1)] [(.int z1), (.ref a0_)])) (fun tq kq => XS.iloadN X0.here hx rfl (hb hby d3_58) rfl kq) ?_
            refine Gl.caload (k := (z1.toInt).toNat) (v := (.int (cs.getD (z1.toInt).toNat 0))) X0 hx hZ e0 A (by omega) (own_get (by omega)) (hb hby d3_59) ?_
            show Gl _ _ _ _ _ _ _ (s₁.setTop (mkF m 60 #[.val (.ref a0_), .val (.int z1)] [(.int (cs.getD (z1.toInt).toNat 0))]))
            refine Gl.st (b := s₁.setTop (mkF m 62 #[.val (.ref a0_), .val (.int z1)] [(.int (62 : Int32)), (.int (cs.getD (z1.toInt).toNat 0))])) (fun tq kq => XS.bipush X0.here hx rfl (hb hby d3_60) kq) ?_
            by_cases hc62 : (cs.getD (z1.toInt).toNat 0).toInt = 62
            · -- hc62 True
              refine Gl.st (b := s₁.setTop (mkF m 65 #[.val (.ref a0_), .val (.int z1)] [])) (fun tq kq => XS.icmpNo X0.here hx rfl (hb hby d3_62) rfl (teq (x := (cs.getD (z1.toInt).toNat 0)) (y := (62 : Int32)) (own_eqI.mpr hc62)).2 kq) ?_
              refine Gl.st (b := s₁.setTop (mkF m 66 #[.val (.ref a0_), .val (.int z1)] [(.int (-1 : Int32))])) (fun tq kq => XS.iconst X0.here hx rfl (hb hby d3_65) kq) ?_
              exact Gl.retI X0 hx hret (hb hby d3_66) hlk (by decide) (by decide) ⟨by unfold own_dl own_d own_ch; (repeat' split) <;> first | rfl | omega, N0, e0⟩
            · -- hc62 False
              refine Gl.st (b := s₁.setTop (mkF m 67 #[.val (.ref a0_), .val (.int z1)] [])) (fun tq kq => XS.icmpYes X0.here hx rfl (pc0 := 62) (pc' := 67) rfl (hb hby d3_62) rfl (feq (x := (cs.getD (z1.toInt).toNat 0)) (y := (62 : Int32)) (fun q => hc62 (own_eqI.mp q))).2 (by decide) (by decide) kq) ?_
              refine Gl.st (b := s₁.setTop (mkF m 68 #[.val (.ref a0_), .val (.int z1)] [(.int (0 : Int32))])) (fun tq kq => XS.iconst X0.here hx rfl (hb hby d3_67) kq) ?_
              exact Gl.retI X0 hx hret (hb hby d3_68) hlk (by decide) (by decide) ⟨by unfold own_dl own_d own_ch; (repeat' split) <;> first | rfl | omega, N0, e0⟩
          · -- hc54 False
            refine Gl.st (b := s₁.setTop (mkF m 67 #[.val (.ref a0_), .val (.int z1)] [])) (fun tq kq => XS.icmpYes X0.here hx rfl (pc0 := 54) (pc' := 67) rfl (hb hby d3_54) rfl (feq (x := (cs.getD (z1.toInt - 1).toNat 0)) (y := (93 : Int32)) (fun q => hc54 (own_eqI.mp q))).2 (by decide) (by decide) kq) ?_
            refine Gl.st (b := s₁.setTop (mkF m 68 #[.val (.ref a0_), .val (.int z1)] [(.int (0 : Int32))])) (fun tq kq => XS.iconst X0.here hx rfl (hb hby d3_67) kq) ?_
            exact Gl.retI X0 hx hret (hb hby d3_68) hlk (by decide) (by decide) ⟨by unfold own_dl own_d own_ch; (repeat' split) <;> first | rfl | omega, N0, e0⟩
        · -- hc44 False
          refine Gl.st (b := s₁.setTop (mkF m 67 #[.val (.ref a0_), .val (.int z1)] [])) (fun tq kq => XS.icmpYes X0.here hx rfl (pc0 := 44) (pc' := 67) rfl (hb hby d3_44) rfl (feq (x := (cs.getD (z1.toInt - 2).toNat 0)) (y := (93 : Int32)) (fun q => hc44 (own_eqI.mp q))).2 (by decide) (by decide) kq) ?_
          refine Gl.st (b := s₁.setTop (mkF m 68 #[.val (.ref a0_), .val (.int z1)] [(.int (0 : Int32))])) (fun tq kq => XS.iconst X0.here hx rfl (hb hby d3_67) kq) ?_
          exact Gl.retI X0 hx hret (hb hby d3_68) hlk (by decide) (by decide) ⟨by unfold own_dl own_d own_ch; (repeat' split) <;> first | rfl | omega, N0, e0⟩
  exact GOAL
theorem d4_0 : decode prog_81_method_2_code 0 = .ok (.iload_n 1, 1) := by decide +kernel
theorem d4_1 : decode prog_81_method_2_code 1 = .ok (.bipush 62, 2) := by decide +kernel
theorem d4_3 : decode prog_81_method_2_code 3 = .ok (.if_icmp .ne 24, 3) := by decide +kernel
theorem d4_6 : decode prog_81_method_2_code 6 = .ok (.aload_n 0, 1) := by decide +kernel
theorem d4_7 : decode prog_81_method_2_code 7 = .ok (.getfield 13, 3) := by decide +kernel
theorem d4_10 : decode prog_81_method_2_code 10 = .ok (.iconst 2, 1) := by decide +kernel
theorem d4_11 : decode prog_81_method_2_code 11 = .ok (.if_icmp .lt 16, 3) := by decide +kernel
theorem d4_14 : decode prog_81_method_2_code 14 = .ok (.aload_n 0, 1) := by decide +kernel
theorem d4_15 : decode prog_81_method_2_code 15 = .ok (.dup, 1) := by decide +kernel
theorem d4_16 : decode prog_81_method_2_code 16 = .ok (.getfield 7, 3) := by decide +kernel
theorem d4_19 : decode prog_81_method_2_code 19 = .ok (.iconst 1, 1) := by decide +kernel
theorem d4_20 : decode prog_81_method_2_code 20 = .ok (.isub, 1) := by decide +kernel
theorem d4_21 : decode prog_81_method_2_code 21 = .ok (.putfield 7, 3) := by decide +kernel
theorem d4_24 : decode prog_81_method_2_code 24 = .ok (.goto 27, 3) := by decide +kernel
theorem d4_27 : decode prog_81_method_2_code 27 = .ok (.iload_n 1, 1) := by decide +kernel
theorem d4_28 : decode prog_81_method_2_code 28 = .ok (.bipush 91, 2) := by decide +kernel
theorem d4_30 : decode prog_81_method_2_code 30 = .ok (.if_icmp .ne 21, 3) := by decide +kernel
theorem d4_33 : decode prog_81_method_2_code 33 = .ok (.aload_n 0, 1) := by decide +kernel
theorem d4_34 : decode prog_81_method_2_code 34 = .ok (.getfield 16, 3) := by decide +kernel
theorem d4_37 : decode prog_81_method_2_code 37 = .ok (.iconst 2, 1) := by decide +kernel
theorem d4_38 : decode prog_81_method_2_code 38 = .ok (.if_icmp .ne 13, 3) := by decide +kernel
theorem d4_41 : decode prog_81_method_2_code 41 = .ok (.aload_n 0, 1) := by decide +kernel
theorem d4_42 : decode prog_81_method_2_code 42 = .ok (.dup, 1) := by decide +kernel
theorem d4_43 : decode prog_81_method_2_code 43 = .ok (.getfield 7, 3) := by decide +kernel
theorem d4_46 : decode prog_81_method_2_code 46 = .ok (.iconst 1, 1) := by decide +kernel
theorem d4_47 : decode prog_81_method_2_code 47 = .ok (.iadd, 1) := by decide +kernel
theorem d4_48 : decode prog_81_method_2_code 48 = .ok (.putfield 7, 3) := by decide +kernel
theorem d4_51 : decode prog_81_method_2_code 51 = .ok (.aload_n 0, 1) := by decide +kernel
theorem d4_52 : decode prog_81_method_2_code 52 = .ok (.iload_n 1, 1) := by decide +kernel
theorem d4_53 : decode prog_81_method_2_code 53 = .ok (.bipush 93, 2) := by decide +kernel
theorem d4_55 : decode prog_81_method_2_code 55 = .ok (.if_icmp .ne 12, 3) := by decide +kernel
theorem d4_58 : decode prog_81_method_2_code 58 = .ok (.aload_n 0, 1) := by decide +kernel
theorem d4_59 : decode prog_81_method_2_code 59 = .ok (.getfield 13, 3) := by decide +kernel
theorem d4_62 : decode prog_81_method_2_code 62 = .ok (.iconst 1, 1) := by decide +kernel
theorem d4_63 : decode prog_81_method_2_code 63 = .ok (.iadd, 1) := by decide +kernel
theorem d4_64 : decode prog_81_method_2_code 64 = .ok (.goto 4, 3) := by decide +kernel
theorem d4_67 : decode prog_81_method_2_code 67 = .ok (.iconst 0, 1) := by decide +kernel
theorem d4_68 : decode prog_81_method_2_code 68 = .ok (.putfield 13, 3) := by decide +kernel
theorem d4_71 : decode prog_81_method_2_code 71 = .ok (.iload_n 1, 1) := by decide +kernel
theorem d4_72 : decode prog_81_method_2_code 72 = .ok (.bipush 60, 2) := by decide +kernel
theorem d4_74 : decode prog_81_method_2_code 74 = .ok (.if_icmp .ne 11, 3) := by decide +kernel
theorem d4_77 : decode prog_81_method_2_code 77 = .ok (.aload_n 0, 1) := by decide +kernel
theorem d4_78 : decode prog_81_method_2_code 78 = .ok (.iconst 1, 1) := by decide +kernel
theorem d4_79 : decode prog_81_method_2_code 79 = .ok (.putfield 16, 3) := by decide +kernel
theorem d4_82 : decode prog_81_method_2_code 82 = .ok (.goto 30, 3) := by decide +kernel
theorem d4_85 : decode prog_81_method_2_code 85 = .ok (.iload_n 1, 1) := by decide +kernel
theorem d4_86 : decode prog_81_method_2_code 86 = .ok (.bipush 33, 2) := by decide +kernel
theorem d4_88 : decode prog_81_method_2_code 88 = .ok (.if_icmp .ne 19, 3) := by decide +kernel
theorem d4_91 : decode prog_81_method_2_code 91 = .ok (.aload_n 0, 1) := by decide +kernel
theorem d4_92 : decode prog_81_method_2_code 92 = .ok (.getfield 16, 3) := by decide +kernel
theorem d4_95 : decode prog_81_method_2_code 95 = .ok (.iconst 1, 1) := by decide +kernel
theorem d4_96 : decode prog_81_method_2_code 96 = .ok (.if_icmp .ne 11, 3) := by decide +kernel
theorem d4_99 : decode prog_81_method_2_code 99 = .ok (.aload_n 0, 1) := by decide +kernel
theorem d4_100 : decode prog_81_method_2_code 100 = .ok (.iconst 2, 1) := by decide +kernel
theorem d4_101 : decode prog_81_method_2_code 101 = .ok (.putfield 16, 3) := by decide +kernel
theorem d4_104 : decode prog_81_method_2_code 104 = .ok (.goto 8, 3) := by decide +kernel
theorem d4_107 : decode prog_81_method_2_code 107 = .ok (.aload_n 0, 1) := by decide +kernel
theorem d4_108 : decode prog_81_method_2_code 108 = .ok (.iconst 0, 1) := by decide +kernel
theorem d4_109 : decode prog_81_method_2_code 109 = .ok (.putfield 16, 3) := by decide +kernel
theorem d4_112 : decode prog_81_method_2_code 112 = .ok (.aload_n 0, 1) := by decide +kernel
theorem d4_113 : decode prog_81_method_2_code 113 = .ok (.getfield 7, 3) := by decide +kernel
theorem d4_116 : decode prog_81_method_2_code 116 = .ok (.ifCond .ne 7, 3) := by decide +kernel
theorem d4_119 : decode prog_81_method_2_code 119 = .ok (.iconst 1, 1) := by decide +kernel
theorem d4_120 : decode prog_81_method_2_code 120 = .ok (.goto 4, 3) := by decide +kernel
theorem d4_123 : decode prog_81_method_2_code 123 = .ok (.iconst 0, 1) := by decide +kernel
theorem d4_124 : decode prog_81_method_2_code 124 = .ok (.ireturn, 1) := by decide +kernel
theorem ef4 (m : MethodId) (a0_ : Addr) (z1 : Int32) : entryFrame m #[(.ref a0_), (.int z1)] 2 = mkF m 0 #[.val (.ref a0_), .val (.int z1)] [] := by first | (simp [entryFrame, mkF, argsToLocals, Value.category]; done) | rfl
set_option maxRecDepth 65536 in
set_option maxHeartbeats 40000000 in
theorem rm4 (l : Launch) (Z : State) (a0 : Array Value) (hw : ∀ d ∈ tables_1, d.before a0 Z = true) (ws : List Jvm.Cond) (a0_ : Addr) (z1 : Int32) (cl op se : Int32) (h0 : Heap) (n0 : Nat) (Z0 : n0 ≤ h0.size) (EX : Exa Z h0 a0_ "com/example/leafrank/leafrank/core/IgnoredSection") (F_closing : Fld Z h0 a0_ "com/example/leafrank/leafrank/core/IgnoredSection" "closing" "I" (.int cl)) (F_opening : Fld Z h0 a0_ "com/example/leafrank/leafrank/core/IgnoredSection" "opening" "I" (.int op)) (F_sections : Fld Z h0 a0_ "com/example/leafrank/leafrank/core/IgnoredSection" "sections" "I" (.int se)) (ga : n0 ≤ a0_) :
    MetFree l (⟨"com/example/leafrank/leafrank/core/IgnoredSection", "next", "(C)Z"⟩ : MethodName) (head1 (Jvm.Cond.code (⟨"com/example/leafrank/leafrank/core/IgnoredSection", "next", "(C)Z"⟩ : MethodName) prog_81_method_2_code 2 (some .boolean) :: ws) (⟨0, 0, 0, 0⟩ : Room)) (fun a U => a = #[(.ref a0_), (.int z1)] ∧ Z.Warmed39 U.vm ∧ U.heap = h0) (fun _ _ _ _ _ => True) (fun _ U o U' => ∃ v L, o = .returned v ∧ QN Z a0_ z1 cl op se n0 h0 v U'.heap L ∧ FrameEnd U o U' L 0 0) := by
  refine MetFree.of_bodySF (plainFor_of_name own_pn1) hisR ?_
  intro p e s m args below meth c s₁ Bd hml0 hP hK
  obtain ⟨rfl, hZ, hh⟩ := hP
  have hx := Bd.exec
  have hby := Bd.bytes
  have hml : c.maxLocals = 2 := hml0
  have hown : s.vm.findClass "com/example/leafrank/leafrank/core/IgnoredSection" = some m.cls := findClass_of_methodNamed Bd.named
  have hnm := (name_of_methodNamed Bd.named Bd.method).1
  have hlk : meth.locks = false := Bd.notSynchronized
  have hret := Bd.returns
  have X0 : Stand p l e (⟨0, 0, 0, 0⟩ : Room) s m #[(.ref a0_), (.int z1)] below meth c s₁ [] 0 0 := Stand.of_body Bd
  have e0 : s₁.heap = h0 := by rw [← hh, Bd.state]; rfl
  have N0 := Fr.nil n0
  have GOAL : Gl p e below s (QN Z a0_ z1 cl op se n0 h0) 0 0 (s₁.setTop (entryFrame m #[(.ref a0_), (.int z1)] 2)) := by
    refine Gl.cast (ef4 m a0_ z1) ?_
    have KK_0 : Keep h0 h0 [a0_] := Keep.refl _ _
    have j112 : ∀ (cv ov sv : Int32) (T_j112 : State) (L_j112 : List Loc) (H_j112 : Heap), Stand p l e (⟨0, 0, 0, 0⟩ : Room) s m #[(.ref a0_), (.int z1)] below meth c T_j112 L_j112 0 0 → T_j112.heap = H_j112 → Fr n0 L_j112 → n0 ≤ H_j112.size → Exa Z H_j112 a0_ "com/example/leafrank/leafrank/core/IgnoredSection" → Keep h0 H_j112 [a0_] → Fld Z H_j112 a0_ "com/example/leafrank/leafrank/core/IgnoredSection" "closing" "I" (.int cv) → Fld Z H_j112 a0_ "com/example/leafrank/leafrank/core/IgnoredSection" "opening" "I" (.int ov) → Fld Z H_j112 a0_ "com/example/leafrank/leafrank/core/IgnoredSection" "sections" "I" (.int sv) → cv = own_cl z1 cl → ov = own_op z1 op → sv = own_se z1 cl op se → Gl p e below s (QN Z a0_ z1 cl op se n0 h0) 0 0 (T_j112.setTop (mkF m 112 #[.val (.ref a0_), .val (.int z1)] [])) := by
      intro cv ov sv T_j112 L_j112 H_j112 X_j112 E_j112 N_j112 q0_j112 q1_j112 q2_j112 q3_j112 q4_j112 q5_j112 hcv hov hsv
      show Gl _ _ _ _ _ _ _ (T_j112.setTop (mkF m 112 #[.val (.ref a0_), .val (.int z1)] []))
      refine Gl.st (b := T_j112.setTop (mkF m 113 #[.val (.ref a0_), .val (.int z1)] [(.ref a0_)])) (fun tq kq => XS.aloadN X_j112.here hx rfl (hb hby d4_112) rfl rfl kq) ?_
      refine Gl.getF X_j112 hx hZ hown (hw _ (List.mem_of_getElem? (i := 14) rfl)) E_j112 q5_j112 (hb hby d4_113) ?_
      intro T1 X1 e1
      show Gl _ _ _ _ _ _ _ (T1.setTop (mkF m 116 #[.val (.ref a0_), .val (.int z1)] [(.int sv)]))
      by_cases hc116 : sv.toInt = 0
      · -- hc116 True
        refine Gl.st (b := T1.setTop (mkF m 119 #[.val (.ref a0_), .val (.int z1)] [])) (fun tq kq => XS.ifNo X1.here hx rfl (hb hby d4_116) rfl ((if0 _ _).trans (teq (x := sv) (y := (0 : Int32)) (own_eqI.mpr hc116)).2) kq) ?_
        refine Gl.st (b := T1.setTop (mkF m 120 #[.val (.ref a0_), .val (.int z1)] [(.int (1 : Int32))])) (fun tq kq => XS.iconst X1.here hx rfl (hb hby d4_119) kq) ?_
        refine Gl.st (b := T1.setTop (mkF m 124 #[.val (.ref a0_), .val (.int z1)] [(.int (1 : Int32))])) (fun tq kq => XS.goto X1.here hx rfl (pc0 := 120) (pc' := 124) rfl (hb hby d4_120) (by decide) (by decide) kq) ?_
        exact Gl.retN X1 hx hret (by simp) (hb hby d4_124) hlk (by decide) (by decide) (by rw [e1]; exact ⟨cv, ov, sv, own_b1 (by simp only [decide_eq_true_eq]; omega), N_j112, q2_j112, q1_j112, q3_j112, q4_j112, q5_j112, hcv, hov, hsv⟩)
      · -- hc116 False
        refine Gl.st (b := T1.setTop (mkF m 123 #[.val (.ref a0_), .val (.int z1)] [])) (fun tq kq => XS.ifYes X1.here hx rfl (pc0 := 116) (pc' := 123) rfl (hb hby d4_116) rfl ((if0 _ _).trans (feq (x := sv) (y := (0 : Int32)) (fun q => hc116 (own_eqI.mp q))).2) (by decide) (by decide) kq) ?_
        refine Gl.st (b := T1.setTop (mkF m 124 #[.val (.ref a0_), .val (.int z1)] [(.int (0 : Int32))])) (fun tq kq => XS.iconst X1.here hx rfl (hb hby d4_123) kq) ?_
        exact Gl.retN X1 hx hret (by simp) (hb hby d4_124) hlk (by decide) (by decide) (by rw [e1]; exact ⟨cv, ov, sv, own_b0 (by simp only [decide_eq_false_iff_not]; omega), N_j112, q2_j112, q1_j112, q3_j112, q4_j112, q5_j112, hcv, hov, hsv⟩)
    have j71 : ∀ (cv sv : Int32) (T_j71 : State) (L_j71 : List Loc) (H_j71 : Heap), Stand p l e (⟨0, 0, 0, 0⟩ : Room) s m #[(.ref a0_), (.int z1)] below meth c T_j71 L_j71 0 0 → T_j71.heap = H_j71 → Fr n0 L_j71 → n0 ≤ H_j71.size → Exa Z H_j71 a0_ "com/example/leafrank/leafrank/core/IgnoredSection" → Keep h0 H_j71 [a0_] → Fld Z H_j71 a0_ "com/example/leafrank/leafrank/core/IgnoredSection" "closing" "I" (.int cv) → Fld Z H_j71 a0_ "com/example/leafrank/leafrank/core/IgnoredSection" "opening" "I" (.int op) → Fld Z H_j71 a0_ "com/example/leafrank/leafrank/core/IgnoredSection" "sections" "I" (.int sv) → cv = own_cl z1 cl → sv = own_se z1 cl op se → Gl p e below s (QN Z a0_ z1 cl op se n0 h0) 0 0 (T_j71.setTop (mkF m 71 #[.val (.ref a0_), .val (.int z1)] [])) := by
      intro cv sv T_j71 L_j71 H_j71 X_j71 E_j71 N_j71 q0_j71 q1_j71 q2_j71 q3_j71 q4_j71 q5_j71 hcv hsv
      show Gl _ _ _ _ _ _ _ (T_j71.setTop (mkF m 71 #[.val (.ref a0_), .val (.int z1)] []))
      refine Gl.st (b := T_j71.setTop (mkF m 72 #[.val (.ref a0_), .val (.int z1)] [(.int z1)])) (fun tq kq => XS.iloadN X_j71.here hx rfl (hb hby d4_71) rfl kq) ?_
      refine Gl.st (b := T_j71.setTop (mkF m 74 #[.val (.ref a0_), .val (.int z1)] [(.int (60 : Int32)), (.int z1)])) (fun tq kq => XS.bipush X_j71.here hx rfl (hb hby d4_72) kq) ?_
      by_cases hc74 : z1.toInt = 60
      · -- hc74 True
        refine Gl.st (b := T_j71.setTop (mkF m 77 #[.val (.ref a0_), .val (.int z1)] [])) (fun tq kq => XS.icmpNo X_j71.here hx rfl (hb hby d4_74) rfl (teq (x := z1) (y := (60 : Int32)) (own_eqI.mpr hc74)).2 kq) ?_
        refine Gl.st (b := T_j71.setTop (mkF m 78 #[.val (.ref a0_), .val (.int z1)] [(.ref a0_)])) (fun tq kq => XS.aloadN X_j71.here hx rfl (hb hby d4_77) rfl rfl kq) ?_
        refine Gl.st (b := T_j71.setTop (mkF m 79 #[.val (.ref a0_), .val (.int z1)] [(.int (1 : Int32)), (.ref a0_)])) (fun tq kq => XS.iconst X_j71.here hx rfl (hb hby d4_78) kq) ?_
        refine Gl.putF X_j71 hx hZ hown (hw _ (List.mem_of_getElem? (i := 26) rfl)) E_j71 q4_j71 q1_j71 (Or.inl (hw _ (List.mem_of_getElem? (i := 27) rfl))) (hw _ (List.mem_of_getElem? (i := 6) rfl)) (ty := .int) (by decide) rfl rfl N_j71 ga (hb hby d4_79) ?_
        intro T2 h2 L2 X2 e2 N2 W2
        have FF2 := q4_j71.same W2
        have Z_2 : n0 ≤ h2.size := Nat.le_trans q0_j71 (Nat.le_of_eq W2.size.symm)
        have E_a0__2 := q1_j71.wr W2
        have KK_2 := q2_j71.wr W2 (Or.inl (List.mem_of_getElem? (i := 0) rfl))
        have F_a0__closing_2 := q3_j71.other W2 (Or.inr (slot_ne (Or.inl (hw _ (List.mem_of_getElem? (i := 25) rfl))) (Or.inl (hw _ (List.mem_of_getElem? (i := 27) rfl))) (by decide) (t := .int) (t' := .int) (by decide) (by decide)))
        have F_a0__sections_2 := q5_j71.other W2 (Or.inr (slot_ne (Or.inl (hw _ (List.mem_of_getElem? (i := 15) rfl))) (Or.inl (hw _ (List.mem_of_getElem? (i := 27) rfl))) (by decide) (t := .int) (t' := .int) (by decide) (by decide)))
        show Gl _ _ _ _ _ _ _ (T2.setTop (mkF m 82 #[.val (.ref a0_), .val (.int z1)] []))
        refine Gl.st (b := T2.setTop (mkF m 112 #[.val (.ref a0_), .val (.int z1)] [])) (fun tq kq => XS.goto X2.here hx rfl (pc0 := 82) (pc' := 112) rfl (hb hby d4_82) (by decide) (by decide) kq) ?_
        exact j112 cv (1 : Int32) sv T2 _ h2 X2 e2 N2 Z_2 E_a0__2 KK_2 F_a0__closing_2 FF2 F_a0__sections_2 hcv (by simp only [own_op]; (repeat' split) <;> first | rfl | omega) hsv
      · -- hc74 False
        refine Gl.st (b := T_j71.setTop (mkF m 85 #[.val (.ref a0_), .val (.int z1)] [])) (fun tq kq => XS.icmpYes X_j71.here hx rfl (pc0 := 74) (pc' := 85) rfl (hb hby d4_74) rfl (feq (x := z1) (y := (60 : Int32)) (fun q => hc74 (own_eqI.mp q))).2 (by decide) (by decide) kq) ?_
        refine Gl.st (b := T_j71.setTop (mkF m 86 #[.val (.ref a0_), .val (.int z1)] [(.int z1)])) (fun tq kq => XS.iloadN X_j71.here hx rfl (hb hby d4_85) rfl kq) ?_
        refine Gl.st (b := T_j71.setTop (mkF m 88 #[.val (.ref a0_), .val (.int z1)] [(.int (33 : Int32)), (.int z1)])) (fun tq kq => XS.bipush X_j71.here hx rfl (hb hby d4_86) kq) ?_
        by_cases hc88 : z1.toInt = 33
        · -- hc88 True
          refine Gl.st (b := T_j71.setTop (mkF m 91 #[.val (.ref a0_), .val (.int z1)] [])) (fun tq kq => XS.icmpNo X_j71.here hx rfl (hb hby d4_88) rfl (teq (x := z1) (y := (33 : Int32)) (own_eqI.mpr hc88)).2 kq) ?_
          refine Gl.st (b := T_j71.setTop (mkF m 92 #[.val (.ref a0_), .val (.int z1)] [(.ref a0_)])) (fun tq kq => XS.aloadN X_j71.here hx rfl (hb hby d4_91) rfl rfl kq) ?_
          refine Gl.getF X_j71 hx hZ hown (hw _ (List.mem_of_getElem? (i := 26) rfl)) E_j71 q4_j71 (hb hby d4_92) ?_
          intro T3 X3 e3
          show Gl _ _ _ _ _ _ _ (T3.setTop (mkF m 95 #[.val (.ref a0_), .val (.int z1)] [(.int op)]))
          refine Gl.st (b := T3.setTop (mkF m 96 #[.val (.ref a0_), .val (.int z1)] [(.int (1 : Int32)), (.int op)])) (fun tq kq => XS.iconst X3.here hx rfl (hb hby d4_95) kq) ?_
          by_cases hc96 : op.toInt = 1
          · -- hc96 True
            refine Gl.st (b := T3.setTop (mkF m 99 #[.val (.ref a0_), .val (.int z1)] [])) (fun tq kq => XS.icmpNo X3.here hx rfl (hb hby d4_96) rfl (teq (x := op) (y := (1 : Int32)) (own_eqI.mpr hc96)).2 kq) ?_
            refine Gl.st (b := T3.setTop (mkF m 100 #[.val (.ref a0_), .val (.int z1)] [(.ref a0_)])) (fun tq kq => XS.aloadN X3.here hx rfl (hb hby d4_99) rfl rfl kq) ?_
            refine Gl.st (b := T3.setTop (mkF m 101 #[.val (.ref a0_), .val (.int z1)] [(.int (2 : Int32)), (.ref a0_)])) (fun tq kq => XS.iconst X3.here hx rfl (hb hby d4_100) kq) ?_
            refine Gl.putF X3 hx hZ hown (hw _ (List.mem_of_getElem? (i := 26) rfl)) e3 q4_j71 q1_j71 (Or.inl (hw _ (List.mem_of_getElem? (i := 27) rfl))) (hw _ (List.mem_of_getElem? (i := 6) rfl)) (ty := .int) (by decide) rfl rfl N_j71 ga (hb hby d4_101) ?_
            intro T4 h4 L4 X4 e4 N4 W4
            have FF4 := q4_j71.same W4
            have Z_4 : n0 ≤ h4.size := Nat.le_trans q0_j71 (Nat.le_of_eq W4.size.symm)
            have E_a0__4 := q1_j71.wr W4
            have KK_4 := q2_j71.wr W4 (Or.inl (List.mem_of_getElem? (i := 0) rfl))
            have F_a0__closing_4 := q3_j71.other W4 (Or.inr (slot_ne (Or.inl (hw _ (List.mem_of_getElem? (i := 25) rfl))) (Or.inl (hw _ (List.mem_of_getElem? (i := 27) rfl))) (by decide) (t := .int) (t' := .int) (by decide) (by decide)))
            have F_a0__sections_4 := q5_j71.other W4 (Or.inr (slot_ne (Or.inl (hw _ (List.mem_of_getElem? (i := 15) rfl))) (Or.inl (hw _ (List.mem_of_getElem? (i := 27) rfl))) (by decide) (t := .int) (t' := .int) (by decide) (by decide)))
            show Gl _ _ _ _ _ _ _ (T4.setTop (mkF m 104 #[.val (.ref a0_), .val (.int z1)] []))
            refine Gl.st (b := T4.setTop (mkF m 112 #[.val (.ref a0_), .val (.int z1)] [])) (fun tq kq => XS.goto X4.here hx rfl (pc0 := 104) (pc' := 112) rfl (hb hby d4_104) (by decide) (by decide) kq) ?_
            exact j112 cv (2 : Int32) sv T4 _ h4 X4 e4 N4 Z_4 E_a0__4 KK_4 F_a0__closing_4 FF4 F_a0__sections_4 hcv (by simp only [own_op]; (repeat' split) <;> first | rfl | omega) hsv
          · -- hc96 False
            refine Gl.st (b := T3.setTop (mkF m 107 #[.val (.ref a0_), .val (.int z1)] [])) (fun tq kq => XS.icmpYes X3.here hx rfl (pc0 := 96) (pc' := 107) rfl (hb hby d4_96) rfl (feq (x := op) (y := (1 : Int32)) (fun q => hc96 (own_eqI.mp q))).2 (by decide) (by decide) kq) ?_
            refine Gl.st (b := T3.setTop (mkF m 108 #[.val (.ref a0_), .val (.int z1)] [(.ref a0_)])) (fun tq kq => XS.aloadN X3.here hx rfl (hb hby d4_107) rfl rfl kq) ?_
            refine Gl.st (b := T3.setTop (mkF m 109 #[.val (.ref a0_), .val (.int z1)] [(.int (0 : Int32)), (.ref a0_)])) (fun tq kq => XS.iconst X3.here hx rfl (hb hby d4_108) kq) ?_
            refine Gl.putF X3 hx hZ hown (hw _ (List.mem_of_getElem? (i := 26) rfl)) e3 q4_j71 q1_j71 (Or.inl (hw _ (List.mem_of_getElem? (i := 27) rfl))) (hw _ (List.mem_of_getElem? (i := 6) rfl)) (ty := .int) (by decide) rfl rfl N_j71 ga (hb hby d4_109) ?_
            intro T5 h5 L5 X5 e5 N5 W5
            have FF5 := q4_j71.same W5
            have Z_5 : n0 ≤ h5.size := Nat.le_trans q0_j71 (Nat.le_of_eq W5.size.symm)
            have E_a0__5 := q1_j71.wr W5
            have KK_5 := q2_j71.wr W5 (Or.inl (List.mem_of_getElem? (i := 0) rfl))
            have F_a0__closing_5 := q3_j71.other W5 (Or.inr (slot_ne (Or.inl (hw _ (List.mem_of_getElem? (i := 25) rfl))) (Or.inl (hw _ (List.mem_of_getElem? (i := 27) rfl))) (by decide) (t := .int) (t' := .int) (by decide) (by decide)))
            have F_a0__sections_5 := q5_j71.other W5 (Or.inr (slot_ne (Or.inl (hw _ (List.mem_of_getElem? (i := 15) rfl))) (Or.inl (hw _ (List.mem_of_getElem? (i := 27) rfl))) (by decide) (t := .int) (t' := .int) (by decide) (by decide)))
            show Gl _ _ _ _ _ _ _ (T5.setTop (mkF m 112 #[.val (.ref a0_), .val (.int z1)] []))
            exact j112 cv (0 : Int32) sv T5 _ h5 X5 e5 N5 Z_5 E_a0__5 KK_5 F_a0__closing_5 FF5 F_a0__sections_5 hcv (by simp only [own_op]; (repeat' split) <;> first | rfl | omega) hsv
        · -- hc88 False
          refine Gl.st (b := T_j71.setTop (mkF m 107 #[.val (.ref a0_), .val (.int z1)] [])) (fun tq kq => XS.icmpYes X_j71.here hx rfl (pc0 := 88) (pc' := 107) rfl (hb hby d4_88) rfl (feq (x := z1) (y := (33 : Int32)) (fun q => hc88 (own_eqI.mp q))).2 (by decide) (by decide) kq) ?_
          refine Gl.st (b := T_j71.setTop (mkF m 108 #[.val (.ref a0_), .val (.int z1)] [(.ref a0_)])) (fun tq kq => XS.aloadN X_j71.here hx rfl (hb hby d4_107) rfl rfl kq) ?_
          refine Gl.st (b := T_j71.setTop (mkF m 109 #[.val (.ref a0_), .val (.int z1)] [(.int (0 : Int32)), (.ref a0_)])) (fun tq kq => XS.iconst X_j71.here hx rfl (hb hby d4_108) kq) ?_
          refine Gl.putF X_j71 hx hZ hown (hw _ (List.mem_of_getElem? (i := 26) rfl)) E_j71 q4_j71 q1_j71 (Or.inl (hw _ (List.mem_of_getElem? (i := 27) rfl))) (hw _ (List.mem_of_getElem? (i := 6) rfl)) (ty := .int) (by decide) rfl rfl N_j71 ga (hb hby d4_109) ?_
          intro T6 h6 L6 X6 e6 N6 W6
          have FF6 := q4_j71.same W6
          have Z_6 : n0 ≤ h6.size := Nat.le_trans q0_j71 (Nat.le_of_eq W6.size.symm)
          have E_a0__6 := q1_j71.wr W6
          have KK_6 := q2_j71.wr W6 (Or.inl (List.mem_of_getElem? (i := 0) rfl))
          have F_a0__closing_6 := q3_j71.other W6 (Or.inr (slot_ne (Or.inl (hw _ (List.mem_of_getElem? (i := 25) rfl))) (Or.inl (hw _ (List.mem_of_getElem? (i := 27) rfl))) (by decide) (t := .int) (t' := .int) (by decide) (by decide)))
          have F_a0__sections_6 := q5_j71.other W6 (Or.inr (slot_ne (Or.inl (hw _ (List.mem_of_getElem? (i := 15) rfl))) (Or.inl (hw _ (List.mem_of_getElem? (i := 27) rfl))) (by decide) (t := .int) (t' := .int) (by decide) (by decide)))
          show Gl _ _ _ _ _ _ _ (T6.setTop (mkF m 112 #[.val (.ref a0_), .val (.int z1)] []))
          exact j112 cv (0 : Int32) sv T6 _ h6 X6 e6 N6 Z_6 E_a0__6 KK_6 F_a0__closing_6 FF6 F_a0__sections_6 hcv (by simp only [own_op]; (repeat' split) <;> first | rfl | omega) hsv
    have j51 : ∀ (sv : Int32) (T_j51 : State) (L_j51 : List Loc) (H_j51 : Heap), Stand p l e (⟨0, 0, 0, 0⟩ : Room) s m #[(.ref a0_), (.int z1)] below meth c T_j51 L_j51 0 0 → T_j51.heap = H_j51 → Fr n0 L_j51 → n0 ≤ H_j51.size → Exa Z H_j51 a0_ "com/example/leafrank/leafrank/core/IgnoredSection" → Keep h0 H_j51 [a0_] → Fld Z H_j51 a0_ "com/example/leafrank/leafrank/core/IgnoredSection" "closing" "I" (.int cl) → Fld Z H_j51 a0_ "com/example/leafrank/leafrank/core/IgnoredSection" "opening" "I" (.int op) → Fld Z H_j51 a0_ "com/example/leafrank/leafrank/core/IgnoredSection" "sections" "I" (.int sv) → sv = own_se z1 cl op se → Gl p e below s (QN Z a0_ z1 cl op se n0 h0) 0 0 (T_j51.setTop (mkF m 51 #[.val (.ref a0_), .val (.int z1)] [])) := by
      intro sv T_j51 L_j51 H_j51 X_j51 E_j51 N_j51 q0_j51 q1_j51 q2_j51 q3_j51 q4_j51 q5_j51 hsv
      show Gl _ _ _ _ _ _ _ (T_j51.setTop (mkF m 51 #[.val (.ref a0_), .val (.int z1)] []))
      refine Gl.st (b := T_j51.setTop (mkF m 52 #[.val (.ref a0_), .val (.int z1)] [(.ref a0_)])) (fun tq kq => XS.aloadN X_j51.here hx rfl (hb hby d4_51) rfl rfl kq) ?_
      refine Gl.st (b := T_j51.setTop (mkF m 53 #[.val (.ref a0_), .val (.int z1)] [(.int z1), (.ref a0_)])) (fun tq kq => XS.iloadN X_j51.here hx rfl (hb hby d4_52) rfl kq) ?_
      refine Gl.st (b := T_j51.setTop (mkF m 55 #[.val (.ref a0_), .val (.int z1)] [(.int (93 : Int32)), (.int z1), (.ref a0_)])) (fun tq kq => XS.bipush X_j51.here hx rfl (hb hby d4_53) kq) ?_
      by_cases hc55 : z1.toInt = 93
      · -- hc55 True
        refine Gl.st (b := T_j51.setTop (mkF m 58 #[.val (.ref a0_), .val (.int z1)] [(.ref a0_)])) (fun tq kq => XS.icmpNo X_j51.here hx rfl (hb hby d4_55) rfl (teq (x := z1) (y := (93 : Int32)) (own_eqI.mpr hc55)).2 kq) ?_
        refine Gl.st (b := T_j51.setTop (mkF m 59 #[.val (.ref a0_), .val (.int z1)] [(.ref a0_), (.ref a0_)])) (fun tq kq => XS.aloadN X_j51.here hx rfl (hb hby d4_58) rfl rfl kq) ?_
        refine Gl.getF X_j51 hx hZ hown (hw _ (List.mem_of_getElem? (i := 24) rfl)) E_j51 q3_j51 (hb hby d4_59) ?_
        intro T7 X7 e7
        show Gl _ _ _ _ _ _ _ (T7.setTop (mkF m 62 #[.val (.ref a0_), .val (.int z1)] [(.int cl), (.ref a0_)]))
        refine Gl.st (b := T7.setTop (mkF m 63 #[.val (.ref a0_), .val (.int z1)] [(.int (1 : Int32)), (.int cl), (.ref a0_)])) (fun tq kq => XS.iconst X7.here hx rfl (hb hby d4_62) kq) ?_
        refine Gl.st (b := T7.setTop (mkF m 64 #[.val (.ref a0_), .val (.int z1)] [(.int (cl + (1 : Int32))), (.ref a0_)])) (fun tq kq => XS.iadd X7.here hx rfl (hb hby d4_63) rfl kq) ?_
        refine Gl.st (b := T7.setTop (mkF m 68 #[.val (.ref a0_), .val (.int z1)] [(.int (cl + (1 : Int32))), (.ref a0_)])) (fun tq kq => XS.goto X7.here hx rfl (pc0 := 64) (pc' := 68) rfl (hb hby d4_64) (by decide) (by decide) kq) ?_
        refine Gl.putF X7 hx hZ hown (hw _ (List.mem_of_getElem? (i := 24) rfl)) e7 q3_j51 q1_j51 (Or.inl (hw _ (List.mem_of_getElem? (i := 25) rfl))) (hw _ (List.mem_of_getElem? (i := 6) rfl)) (ty := .int) (by decide) rfl rfl N_j51 ga (hb hby d4_68) ?_
        intro T8 h8 L8 X8 e8 N8 W8
        have FF8 := q3_j51.same W8
        have Z_8 : n0 ≤ h8.size := Nat.le_trans q0_j51 (Nat.le_of_eq W8.size.symm)
        have E_a0__8 := q1_j51.wr W8
        have KK_8 := q2_j51.wr W8 (Or.inl (List.mem_of_getElem? (i := 0) rfl))
        have F_a0__opening_8 := q4_j51.other W8 (Or.inr (slot_ne (Or.inl (hw _ (List.mem_of_getElem? (i := 27) rfl))) (Or.inl (hw _ (List.mem_of_getElem? (i := 25) rfl))) (by decide) (t := .int) (t' := .int) (by decide) (by decide)))
        have F_a0__sections_8 := q5_j51.other W8 (Or.inr (slot_ne (Or.inl (hw _ (List.mem_of_getElem? (i := 15) rfl))) (Or.inl (hw _ (List.mem_of_getElem? (i := 25) rfl))) (by decide) (t := .int) (t' := .int) (by decide) (by decide)))
        show Gl _ _ _ _ _ _ _ (T8.setTop (mkF m 71 #[.val (.ref a0_), .val (.int z1)] []))
        exact j71 (cl + (1 : Int32)) sv T8 _ h8 X8 e8 N8 Z_8 E_a0__8 KK_8 FF8 F_a0__opening_8 F_a0__sections_8 (by simp only [own_cl]; (repeat' split) <;> first | rfl | omega) hsv
      · -- hc55 False
        refine Gl.st (b := T_j51.setTop (mkF m 67 #[.val (.ref a0_), .val (.int z1)] [(.ref a0_)])) (fun tq kq => XS.icmpYes X_j51.here hx rfl (pc0 := 55) (pc' := 67) rfl (hb hby d4_55) rfl (feq (x := z1) (y := (93 : Int32)) (fun q => hc55 (own_eqI.mp q))).2 (by decide) (by decide) kq) ?_
        refine Gl.st (b := T_j51.setTop (mkF m 68 #[.val (.ref a0_), .val (.int z1)] [(.int (0 : Int32)), (.ref a0_)])) (fun tq kq => XS.iconst X_j51.here hx rfl (hb hby d4_67) kq) ?_
        refine Gl.putF X_j51 hx hZ hown (hw _ (List.mem_of_getElem? (i := 24) rfl)) E_j51 q3_j51 q1_j51 (Or.inl (hw _ (List.mem_of_getElem? (i := 25) rfl))) (hw _ (List.mem_of_getElem? (i := 6) rfl)) (ty := .int) (by decide) rfl rfl N_j51 ga (hb hby d4_68) ?_
        intro T9 h9 L9 X9 e9 N9 W9
        have FF9 := q3_j51.same W9
        have Z_9 : n0 ≤ h9.size := Nat.le_trans q0_j51 (Nat.le_of_eq W9.size.symm)
        have E_a0__9 := q1_j51.wr W9
        have KK_9 := q2_j51.wr W9 (Or.inl (List.mem_of_getElem? (i := 0) rfl))
        have F_a0__opening_9 := q4_j51.other W9 (Or.inr (slot_ne (Or.inl (hw _ (List.mem_of_getElem? (i := 27) rfl))) (Or.inl (hw _ (List.mem_of_getElem? (i := 25) rfl))) (by decide) (t := .int) (t' := .int) (by decide) (by decide)))
        have F_a0__sections_9 := q5_j51.other W9 (Or.inr (slot_ne (Or.inl (hw _ (List.mem_of_getElem? (i := 15) rfl))) (Or.inl (hw _ (List.mem_of_getElem? (i := 25) rfl))) (by decide) (t := .int) (t' := .int) (by decide) (by decide)))
        show Gl _ _ _ _ _ _ _ (T9.setTop (mkF m 71 #[.val (.ref a0_), .val (.int z1)] []))
        exact j71 (0 : Int32) sv T9 _ h9 X9 e9 N9 Z_9 E_a0__9 KK_9 FF9 F_a0__opening_9 F_a0__sections_9 (by simp only [own_cl]; (repeat' split) <;> first | rfl | omega) hsv
    refine Gl.st (b := s₁.setTop (mkF m 1 #[.val (.ref a0_), .val (.int z1)] [(.int z1)])) (fun tq kq => XS.iloadN X0.here hx rfl (hb hby d4_0) rfl kq) ?_
    refine Gl.st (b := s₁.setTop (mkF m 3 #[.val (.ref a0_), .val (.int z1)] [(.int (62 : Int32)), (.int z1)])) (fun tq kq => XS.bipush X0.here hx rfl (hb hby d4_1) kq) ?_
    by_cases hc3 : z1.toInt = 62
    · -- hc3 True
      refine Gl.st (b := s₁.setTop (mkF m 6 #[.val (.ref a0_), .val (.int z1)] [])) (fun tq kq => XS.icmpNo X0.here hx rfl (hb hby d4_3) rfl (teq (x := z1) (y := (62 : Int32)) (own_eqI.mpr hc3)).2 kq) ?_
      refine Gl.st (b := s₁.setTop (mkF m 7 #[.val (.ref a0_), .val (.int z1)] [(.ref a0_)])) (fun tq kq => XS.aloadN X0.here hx rfl (hb hby d4_6) rfl rfl kq) ?_
      refine Gl.getF X0 hx hZ hown (hw _ (List.mem_of_getElem? (i := 24) rfl)) e0 F_closing (hb hby d4_7) ?_
      intro T10 X10 e10
      show Gl _ _ _ _ _ _ _ (T10.setTop (mkF m 10 #[.val (.ref a0_), .val (.int z1)] [(.int cl)]))
      refine Gl.st (b := T10.setTop (mkF m 11 #[.val (.ref a0_), .val (.int z1)] [(.int (2 : Int32)), (.int cl)])) (fun tq kq => XS.iconst X10.here hx rfl (hb hby d4_10) kq) ?_
      by_cases hc11 : cl.toInt < 2
      · -- hc11 True
        refine Gl.st (b := T10.setTop (mkF m 27 #[.val (.ref a0_), .val (.int z1)] [])) (fun tq kq => XS.icmpYes X10.here hx rfl (pc0 := 11) (pc' := 27) rfl (hb hby d4_11) rfl (tlt (x := cl) (y := (2 : Int32)) (own_ltI.mpr hc11)).1 (by decide) (by decide) kq) ?_
        refine Gl.st (b := T10.setTop (mkF m 28 #[.val (.ref a0_), .val (.int z1)] [(.int z1)])) (fun tq kq => XS.iloadN X10.here hx rfl (hb hby d4_27) rfl kq) ?_
        refine Gl.st (b := T10.setTop (mkF m 30 #[.val (.ref a0_), .val (.int z1)] [(.int (91 : Int32)), (.int z1)])) (fun tq kq => XS.bipush X10.here hx rfl (hb hby d4_28) kq) ?_
        by_cases hc30 : z1.toInt = 91
        · -- hc30 True
          refine Gl.st (b := T10.setTop (mkF m 33 #[.val (.ref a0_), .val (.int z1)] [])) (fun tq kq => XS.icmpNo X10.here hx rfl (hb hby d4_30) rfl (teq (x := z1) (y := (91 : Int32)) (own_eqI.mpr hc30)).2 kq) ?_
          refine Gl.st (b := T10.setTop (mkF m 34 #[.val (.ref a0_), .val (.int z1)] [(.ref a0_)])) (fun tq kq => XS.aloadN X10.here hx rfl (hb hby d4_33) rfl rfl kq) ?_
          refine Gl.getF X10 hx hZ hown (hw _ (List.mem_of_getElem? (i := 26) rfl)) e10 F_opening (hb hby d4_34) ?_
          intro T11 X11 e11
          show Gl _ _ _ _ _ _ _ (T11.setTop (mkF m 37 #[.val (.ref a0_), .val (.int z1)] [(.int op)]))
          refine Gl.st (b := T11.setTop (mkF m 38 #[.val (.ref a0_), .val (.int z1)] [(.int (2 : Int32)), (.int op)])) (fun tq kq => XS.iconst X11.here hx rfl (hb hby d4_37) kq) ?_
          by_cases hc38 : op.toInt = 2
          · -- hc38 True
            refine Gl.st (b := T11.setTop (mkF m 41 #[.val (.ref a0_), .val (.int z1)] [])) (fun tq kq => XS.icmpNo X11.here hx rfl (hb hby d4_38) rfl (teq (x := op) (y := (2 : Int32)) (own_eqI.mpr hc38)).2 kq) ?_
            refine Gl.st (b := T11.setTop (mkF m 42 #[.val (.ref a0_), .val (.int z1)] [(.ref a0_)])) (fun tq kq => XS.aloadN X11.here hx rfl (hb hby d4_41) rfl rfl kq) ?_
            refine Gl.st (b := T11.setTop (mkF m 43 #[.val (.ref a0_), .val (.int z1)] [(.ref a0_), (.ref a0_)])) (fun tq kq => XS.dup X11.here hx rfl (hb hby d4_42) rfl rfl kq) ?_
            refine Gl.getF X11 hx hZ hown (hw _ (List.mem_of_getElem? (i := 14) rfl)) e11 F_sections (hb hby d4_43) ?_
            intro T12 X12 e12
            show Gl _ _ _ _ _ _ _ (T12.setTop (mkF m 46 #[.val (.ref a0_), .val (.int z1)] [(.int se), (.ref a0_)]))
            refine Gl.st (b := T12.setTop (mkF m 47 #[.val (.ref a0_), .val (.int z1)] [(.int (1 : Int32)), (.int se), (.ref a0_)])) (fun tq kq => XS.iconst X12.here hx rfl (hb hby d4_46) kq) ?_
            refine Gl.st (b := T12.setTop (mkF m 48 #[.val (.ref a0_), .val (.int z1)] [(.int (se + (1 : Int32))), (.ref a0_)])) (fun tq kq => XS.iadd X12.here hx rfl (hb hby d4_47) rfl kq) ?_
            refine Gl.putF X12 hx hZ hown (hw _ (List.mem_of_getElem? (i := 14) rfl)) e12 F_sections EX (Or.inl (hw _ (List.mem_of_getElem? (i := 15) rfl))) (hw _ (List.mem_of_getElem? (i := 6) rfl)) (ty := .int) (by decide) rfl rfl N0 ga (hb hby d4_48) ?_
            intro T13 h13 L13 X13 e13 N13 W13
            have FF13 := F_sections.same W13
            have Z_13 : n0 ≤ h13.size := Nat.le_trans Z0 (Nat.le_of_eq W13.size.symm)
            have E_a0__13 := EX.wr W13
            have KK_13 := KK_0.wr W13 (Or.inl (List.mem_of_getElem? (i := 0) rfl))
            have F_a0__closing_13 := F_closing.other W13 (Or.inr (slot_ne (Or.inl (hw _ (List.mem_of_getElem? (i := 25) rfl))) (Or.inl (hw _ (List.mem_of_getElem? (i := 15) rfl))) (by decide) (t := .int) (t' := .int) (by decide) (by decide)))
            have F_a0__opening_13 := F_opening.other W13 (Or.inr (slot_ne (Or.inl (hw _ (List.mem_of_getElem? (i := 27) rfl))) (Or.inl (hw _ (List.mem_of_getElem? (i := 15) rfl))) (by decide) (t := .int) (t' := .int) (by decide) (by decide)))
            show Gl _ _ _ _ _ _ _ (T13.setTop (mkF m 51 #[.val (.ref a0_), .val (.int z1)] []))
            exact j51 (se + (1 : Int32)) T13 _ h13 X13 e13 N13 Z_13 E_a0__13 KK_13 F_a0__closing_13 F_a0__opening_13 FF13 (by simp only [own_se]; (repeat' split) <;> first | rfl | omega)
          · -- hc38 False
            refine Gl.st (b := T11.setTop (mkF m 51 #[.val (.ref a0_), .val (.int z1)] [])) (fun tq kq => XS.icmpYes X11.here hx rfl (pc0 := 38) (pc' := 51) rfl (hb hby d4_38) rfl (feq (x := op) (y := (2 : Int32)) (fun q => hc38 (own_eqI.mp q))).2 (by decide) (by decide) kq) ?_
            exact j51 se T11 _ h0 X11 e11 N0 Z0 EX KK_0 F_closing F_opening F_sections (by simp only [own_se]; (repeat' split) <;> first | rfl | omega)
        · -- hc30 False
          refine Gl.st (b := T10.setTop (mkF m 51 #[.val (.ref a0_), .val (.int z1)] [])) (fun tq kq => XS.icmpYes X10.here hx rfl (pc0 := 30) (pc' := 51) rfl (hb hby d4_30) rfl (feq (x := z1) (y := (91 : Int32)) (fun q => hc30 (own_eqI.mp q))).2 (by decide) (by decide) kq) ?_
          exact j51 se T10 _ h0 X10 e10 N0 Z0 EX KK_0 F_closing F_opening F_sections (by simp only [own_se]; (repeat' split) <;> first | rfl | omega)
      · -- hc11 False
        refine Gl.st (b := T10.setTop (mkF m 14 #[.val (.ref a0_), .val (.int z1)] [])) (fun tq kq => XS.icmpNo X10.here hx rfl (hb hby d4_11) rfl (flt (x := cl) (y := (2 : Int32)) (fun q => hc11 (own_ltI.mp q))).1 kq) ?_
        refine Gl.st (b := T10.setTop (mkF m 15 #[.val (.ref a0_), .val (.int z1)] [(.ref a0_)])) (fun tq kq => XS.aloadN X10.here hx rfl (hb hby d4_14) rfl rfl kq) ?_
        refine Gl.st (b := T10.setTop (mkF m 16 #[.val (.ref a0_), .val (.int z1)] [(.ref a0_), (.ref a0_)])) (fun tq kq => XS.dup X10.here hx rfl (hb hby d4_15) rfl rfl kq) ?_
        refine Gl.getF X10 hx hZ hown (hw _ (List.mem_of_getElem? (i := 14) rfl)) e10 F_sections (hb hby d4_16) ?_
        intro T14 X14 e14
        show Gl _ _ _ _ _ _ _ (T14.setTop (mkF m 19 #[.val (.ref a0_), .val (.int z1)] [(.int se), (.ref a0_)]))
        refine Gl.st (b := T14.setTop (mkF m 20 #[.val (.ref a0_), .val (.int z1)] [(.int (1 : Int32)), (.int se), (.ref a0_)])) (fun tq kq => XS.iconst X14.here hx rfl (hb hby d4_19) kq) ?_
        refine Gl.st (b := T14.setTop (mkF m 21 #[.val (.ref a0_), .val (.int z1)] [(.int (se - (1 : Int32))), (.ref a0_)])) (fun tq kq => XS.isub X14.here hx rfl (hb hby d4_20) rfl kq) ?_
        refine Gl.putF X14 hx hZ hown (hw _ (List.mem_of_getElem? (i := 14) rfl)) e14 F_sections EX (Or.inl (hw _ (List.mem_of_getElem? (i := 15) rfl))) (hw _ (List.mem_of_getElem? (i := 6) rfl)) (ty := .int) (by decide) rfl rfl N0 ga (hb hby d4_21) ?_
        intro T15 h15 L15 X15 e15 N15 W15
        have FF15 := F_sections.same W15
        have Z_15 : n0 ≤ h15.size := Nat.le_trans Z0 (Nat.le_of_eq W15.size.symm)
        have E_a0__15 := EX.wr W15
        have KK_15 := KK_0.wr W15 (Or.inl (List.mem_of_getElem? (i := 0) rfl))
        have F_a0__closing_15 := F_closing.other W15 (Or.inr (slot_ne (Or.inl (hw _ (List.mem_of_getElem? (i := 25) rfl))) (Or.inl (hw _ (List.mem_of_getElem? (i := 15) rfl))) (by decide) (t := .int) (t' := .int) (by decide) (by decide)))
        have F_a0__opening_15 := F_opening.other W15 (Or.inr (slot_ne (Or.inl (hw _ (List.mem_of_getElem? (i := 27) rfl))) (Or.inl (hw _ (List.mem_of_getElem? (i := 15) rfl))) (by decide) (t := .int) (t' := .int) (by decide) (by decide)))
        show Gl _ _ _ _ _ _ _ (T15.setTop (mkF m 24 #[.val (.ref a0_), .val (.int z1)] []))
        refine Gl.st (b := T15.setTop (mkF m 51 #[.val (.ref a0_), .val (.int z1)] [])) (fun tq kq => XS.goto X15.here hx rfl (pc0 := 24) (pc' := 51) rfl (hb hby d4_24) (by decide) (by decide) kq) ?_
        exact j51 (se - (1 : Int32)) T15 _ h15 X15 e15 N15 Z_15 E_a0__15 KK_15 F_a0__closing_15 F_a0__opening_15 FF15 (by simp only [own_se]; (repeat' split) <;> first | rfl | omega)
    · -- hc3 False
      refine Gl.st (b := s₁.setTop (mkF m 27 #[.val (.ref a0_), .val (.int z1)] [])) (fun tq kq => XS.icmpYes X0.here hx rfl (pc0 := 3) (pc' := 27) rfl (hb hby d4_3) rfl (feq (x := z1) (y := (62 : Int32)) (fun q => hc3 (own_eqI.mp q))).2 (by decide) (by decide) kq) ?_
      refine Gl.st (b := s₁.setTop (mkF m 28 #[.val (.ref a0_), .val (.int z1)] [(.int z1)])) (fun tq kq => XS.iloadN X0.here hx rfl (hb hby d4_27) rfl kq) ?_
      refine Gl.st (b := s₁.setTop (mkF m 30 #[.val (.ref a0_), .val (.int z1)] [(.int (91 : Int32)), (.int z1)])) (fun tq kq => XS.bipush X0.here hx rfl (hb hby d4_28) kq) ?_
      by_cases hc30 : z1.toInt = 91
      · -- hc30 True
        refine Gl.st (b := s₁.setTop (mkF m 33 #[.val (.ref a0_), .val (.int z1)] [])) (fun tq kq => XS.icmpNo X0.here hx rfl (hb hby d4_30) rfl (teq (x := z1) (y := (91 : Int32)) (own_eqI.mpr hc30)).2 kq) ?_
        refine Gl.st (b := s₁.setTop (mkF m 34 #[.val (.ref a0_), .val (.int z1)] [(.ref a0_)])) (fun tq kq => XS.aloadN X0.here hx rfl (hb hby d4_33) rfl rfl kq) ?_
        refine Gl.getF X0 hx hZ hown (hw _ (List.mem_of_getElem? (i := 26) rfl)) e0 F_opening (hb hby d4_34) ?_
        intro T16 X16 e16
        show Gl _ _ _ _ _ _ _ (T16.setTop (mkF m 37 #[.val (.ref a0_), .val (.int z1)] [(.int op)]))
        refine Gl.st (b := T16.setTop (mkF m 38 #[.val (.ref a0_), .val (.int z1)] [(.int (2 : Int32)), (.int op)])) (fun tq kq => XS.iconst X16.here hx rfl (hb hby d4_37) kq) ?_
        by_cases hc38 : op.toInt = 2
        · -- hc38 True
          refine Gl.st (b := T16.setTop (mkF m 41 #[.val (.ref a0_), .val (.int z1)] [])) (fun tq kq => XS.icmpNo X16.here hx rfl (hb hby d4_38) rfl (teq (x := op) (y := (2 : Int32)) (own_eqI.mpr hc38)).2 kq) ?_
          refine Gl.st (b := T16.setTop (mkF m 42 #[.val (.ref a0_), .val (.int z1)] [(.ref a0_)])) (fun tq kq => XS.aloadN X16.here hx rfl (hb hby d4_41) rfl rfl kq) ?_
          refine Gl.st (b := T16.setTop (mkF m 43 #[.val (.ref a0_), .val (.int z1)] [(.ref a0_), (.ref a0_)])) (fun tq kq => XS.dup X16.here hx rfl (hb hby d4_42) rfl rfl kq) ?_
          refine Gl.getF X16 hx hZ hown (hw _ (List.mem_of_getElem? (i := 14) rfl)) e16 F_sections (hb hby d4_43) ?_
          intro T17 X17 e17
          show Gl _ _ _ _ _ _ _ (T17.setTop (mkF m 46 #[.val (.ref a0_), .val (.int z1)] [(.int se), (.ref a0_)]))
          refine Gl.st (b := T17.setTop (mkF m 47 #[.val (.ref a0_), .val (.int z1)] [(.int (1 : Int32)), (.int se), (.ref a0_)])) (fun tq kq => XS.iconst X17.here hx rfl (hb hby d4_46) kq) ?_
          refine Gl.st (b := T17.setTop (mkF m 48 #[.val (.ref a0_), .val (.int z1)] [(.int (se + (1 : Int32))), (.ref a0_)])) (fun tq kq => XS.iadd X17.here hx rfl (hb hby d4_47) rfl kq) ?_
          refine Gl.putF X17 hx hZ hown (hw _ (List.mem_of_getElem? (i := 14) rfl)) e17 F_sections EX (Or.inl (hw _ (List.mem_of_getElem? (i := 15) rfl))) (hw _ (List.mem_of_getElem? (i := 6) rfl)) (ty := .int) (by decide) rfl rfl N0 ga (hb hby d4_48) ?_
          intro T18 h18 L18 X18 e18 N18 W18
          have FF18 := F_sections.same W18
          have Z_18 : n0 ≤ h18.size := Nat.le_trans Z0 (Nat.le_of_eq W18.size.symm)
          have E_a0__18 := EX.wr W18
          have KK_18 := KK_0.wr W18 (Or.inl (List.mem_of_getElem? (i := 0) rfl))
          have F_a0__closing_18 := F_closing.other W18 (Or.inr (slot_ne (Or.inl (hw _ (List.mem_of_getElem? (i := 25) rfl))) (Or.inl (hw _ (List.mem_of_getElem? (i := 15) rfl))) (by decide) (t := .int) (t' := .int) (by decide) (by decide)))
          have F_a0__opening_18 := F_opening.other W18 (Or.inr (slot_ne (Or.inl (hw _ (List.mem_of_getElem? (i := 27) rfl))) (Or.inl (hw _ (List.mem_of_getElem? (i := 15) rfl))) (by decide) (t := .int) (t' := .int) (by decide) (by decide)))
          show Gl _ _ _ _ _ _ _ (T18.setTop (mkF m 51 #[.val (.ref a0_), .val (.int z1)] []))
          exact j51 (se + (1 : Int32)) T18 _ h18 X18 e18 N18 Z_18 E_a0__18 KK_18 F_a0__closing_18 F_a0__opening_18 FF18 (by simp only [own_se]; (repeat' split) <;> first | rfl | omega)
        · -- hc38 False
          refine Gl.st (b := T16.setTop (mkF m 51 #[.val (.ref a0_), .val (.int z1)] [])) (fun tq kq => XS.icmpYes X16.here hx rfl (pc0 := 38) (pc' := 51) rfl (hb hby d4_38) rfl (feq (x := op) (y := (2 : Int32)) (fun q => hc38 (own_eqI.mp q))).2 (by decide) (by decide) kq) ?_
          exact j51 se T16 _ h0 X16 e16 N0 Z0 EX KK_0 F_closing F_opening F_sections (by simp only [own_se]; (repeat' split) <;> first | rfl | omega)
      · -- hc30 False
        refine Gl.st (b := s₁.setTop (mkF m 51 #[.val (.ref a0_), .val (.int z1)] [])) (fun tq kq => XS.icmpYes X0.here hx rfl (pc0 := 30) (pc' := 51) rfl (hb hby d4_30) rfl (feq (x := z1) (y := (91 : Int32)) (fun q => hc30 (own_eqI.mp q))).2 (by decide) (by decide) kq) ?_
        exact j51 se s₁ _ h0 X0 e0 N0 Z0 EX KK_0 F_closing F_opening F_sections (by simp only [own_se]; (repeat' split) <;> first | rfl | omega)
  exact GOAL
theorem ef0 (m : MethodId) (z0 : Int32) (z1 : Int32) (z2 : Int32) : entryFrame m #[(.int z0), (.int z1), (.int z2)] maxLocals = mkF m 0 #[.val (.int z0), .val (.int z1), .val (.int z2), .unset, .unset, .unset, .unset] [] := by first | (simp [entryFrame, mkF, argsToLocals, Value.category, maxLocals]; done) | rfl
set_option maxRecDepth 65536 in
set_option maxHeartbeats 40000000 in
theorem rm0 (l : Launch) (Z : State) (a0 : Array Value) (hw : ∀ d ∈ tables_1, d.before a0 Z = true) (ws : List Jvm.Cond) (z0 : Int32) (z1 : Int32) (z2 : Int32)  (h0 : Heap) (n0 : Nat) (Z0 : n0 ≤ h0.size)  :
    MetFree l x (head1 (Jvm.Cond.code x code maxLocals ret :: ws) room_1) (fun a U => a = #[(.int z0), (.int z1), (.int z2)] ∧ Z.Warmed39 U.vm ∧ U.heap = h0) (fun _ _ _ _ _ => True) (fun _ U o U' => ∃ v L, o = .returned v ∧ QL n0 v U'.heap L ∧ FrameEnd U o U' L 2 12) := by
  refine MetFree.of_bodySF (plainFor_of_name own_pn0) hisR ?_
  intro p e s m args below meth c s₁ Bd hml0 hP hK
  obtain ⟨rfl, hZ, hh⟩ := hP
  have hx := Bd.exec
  have hby := Bd.bytes
  have hml : c.maxLocals = 7 := hml0
  have hown : s.vm.findClass "com/example/leafrank/leafrank/core/IgnoredSectionNextPinLaw" = some m.cls := findClass_of_methodNamed Bd.named
  have hnm := (name_of_methodNamed Bd.named Bd.method).1
  have hlk : meth.locks = false := Bd.notSynchronized
  have hret := Bd.returns
  have X0 : Stand p l e room_1 s m #[(.int z0), (.int z1), (.int z2)] below meth c s₁ [] 0 0 := Stand.of_body Bd
  have e0 : s₁.heap = h0 := by rw [← hh, Bd.state]; rfl
  have N0 := Fr.nil n0
  have GOAL : Gl p e below s (QL n0) 2 12 (s₁.setTop (entryFrame m #[(.int z0), (.int z1), (.int z2)] maxLocals)) := by
    refine Gl.cast (ef0 m z0 z1 z2) ?_
    refine Gl.st (b := s₁.setTop (mkF m 2 #[.val (.int z0), .val (.int z1), .val (.int z2), .unset, .unset, .unset, .unset] [(.int (9 : Int32))])) (fun tq kq => XS.bipush X0.here hx rfl (hb hby at_0) kq) ?_
    refine Gl.newA (k := 9) (cap := 9) X0 hx hZ (hw _ (List.mem_of_getElem? (i := 0) rfl)) e0 rfl (by decide) (by decide) (by decide) (by decide) (hb hby at_2) ?_
    intro T1 h1 b1 g1 X1 e1 E1 A1
    have AA1 : Ar Z h1 b1 .char [(.int (0 : Int32)), (.int (0 : Int32)), (.int (0 : Int32)), (.int (0 : Int32)), (.int (0 : Int32)), (.int (0 : Int32)), (.int (0 : Int32)), (.int (0 : Int32)), (.int (0 : Int32))] := A1
    have G_b1 : n0 ≤ b1 := Nat.le_trans Z0 (Nat.le_of_eq g1.symm)
    have Z_1 : n0 ≤ h1.size := Nat.le_trans Z0 E1.1
    show Gl _ _ _ _ _ _ _ (T1.setTop (mkF m 4 #[.val (.int z0), .val (.int z1), .val (.int z2), .unset, .unset, .unset, .unset] [(.ref b1)]))
    refine Gl.st (b := T1.setTop (mkF m 5 #[.val (.int z0), .val (.int z1), .val (.int z2), .val (.ref b1), .unset, .unset, .unset] [])) (fun tq kq => XS.astoreN X1.here hx rfl (hb hby at_4) rfl rfl (l' := #[.val (.int z0), .val (.int z1), .val (.int z2), .val (.ref b1), .unset, .unset, .unset]) rfl kq) ?_
    refine Gl.st (b := T1.setTop (mkF m 6 #[.val (.int z0), .val (.int z1), .val (.int z2), .val (.ref b1), .unset, .unset, .unset] [(.ref b1)])) (fun tq kq => XS.aloadN X1.here hx rfl (hb hby at_5) rfl rfl kq) ?_
    refine Gl.st (b := T1.setTop (mkF m 7 #[.val (.int z0), .val (.int z1), .val (.int z2), .val (.ref b1), .unset, .unset, .unset] [(.int (0 : Int32)), (.ref b1)])) (fun tq kq => XS.iconst X1.here hx rfl (hb hby at_6) kq) ?_
    refine Gl.st (b := T1.setTop (mkF m 8 #[.val (.int z0), .val (.int z1), .val (.int z2), .val (.ref b1), .unset, .unset, .unset] [(.int z0), (.int (0 : Int32)), (.ref b1)])) (fun tq kq => XS.iloadN X1.here hx rfl (hb hby at_7) rfl kq) ?_
    refine Gl.st (b := T1.setTop (mkF m 9 #[.val (.int z0), .val (.int z1), .val (.int z2), .val (.ref b1), .unset, .unset, .unset] [(.int (0 : Int32)), (.int z0), (.int (0 : Int32)), (.ref b1)])) (fun tq kq => XS.iconst X1.here hx rfl (hb hby at_8) kq) ?_
    refine Gl.st (b := T1.setTop (mkF m 10 #[.val (.int z0), .val (.int z1), .val (.int z2), .val (.ref b1), .unset, .unset, .unset] [(.int z1), (.int (0 : Int32)), (.int z0), (.int (0 : Int32)), (.ref b1)])) (fun tq kq => XS.iloadN X1.here hx rfl (hb hby at_9) rfl kq) ?_
    refine Gl.st (b := T1.setTop (mkF m 11 #[.val (.int z0), .val (.int z1), .val (.int z2), .val (.ref b1), .unset, .unset, .unset] [(.int z2), (.int z1), (.int (0 : Int32)), (.int z0), (.int (0 : Int32)), (.ref b1)])) (fun tq kq => XS.iloadN X1.here hx rfl (hb hby at_10) rfl kq) ?_
    refine Gl.callS (W := 2) (argsL := [(.int z0), (.int (0 : Int32)), (.int z1), (.int z2)]) (rest := [(.int (0 : Int32)), (.ref b1)]) X1 hx hZ hown (hw _ (List.mem_of_getElem? (i := 1) rfl)) (hw _ (List.mem_of_getElem? (i := 2) rfl)) (hw _ (List.mem_of_getElem? (i := 3) rfl)) (hw _ (List.mem_of_getElem? (i := 4) rfl)) (by decide) (rm1 l Z a0 hw [] z0 (0 : Int32) z1 z2 h1 n0 Z_1) (by decide) (by decide) e1 (by decide) (by decide) (by rw [hml]; rfl) (lenOf own_pd0 rfl) rfl rfl (Nat.le_of_eq rfl) (hb hby at_11) ?_
    intro T2 v2 L2 X2 hQ2
    obtain ⟨r2, rfl, N2q, e2q⟩ := hQ2
    have N2 := N0.app N2q
    show Gl _ _ _ _ _ _ _ (T2.setTop (mkF m 14 #[.val (.int z0), .val (.int z1), .val (.int z2), .val (.ref b1), .unset, .unset, .unset] [(.int r2), (.int (0 : Int32)), (.ref b1)]))
    refine Gl.castore (k := 0) X2 hx hZ e2q AA1 N2 G_b1 rfl (Nat.le_of_ble_eq_true rfl) (hb hby at_14) ?_
    intro T3 h3 L3 X3 e3 N3 W3 A3
    have AA3 : Ar Z h3 b1 .char [(.int (nar .char r2)), (.int (0 : Int32)), (.int (0 : Int32)), (.int (0 : Int32)), (.int (0 : Int32)), (.int (0 : Int32)), (.int (0 : Int32)), (.int (0 : Int32)), (.int (0 : Int32))] := A3
    have Z_3 : n0 ≤ h3.size := Nat.le_trans Z_1 (Nat.le_of_eq W3.size.symm)
    show Gl _ _ _ _ _ _ _ (T3.setTop (mkF m 15 #[.val (.int z0), .val (.int z1), .val (.int z2), .val (.ref b1), .unset, .unset, .unset] []))
    obtain ⟨c0, hcc0⟩ : ∃ q, q = (nar .char r2) := ⟨_, rfl⟩
    rw [← hcc0] at AA3
    refine Gl.st (b := T3.setTop (mkF m 16 #[.val (.int z0), .val (.int z1), .val (.int z2), .val (.ref b1), .unset, .unset, .unset] [(.ref b1)])) (fun tq kq => XS.aloadN X3.here hx rfl (hb hby at_15) rfl rfl kq) ?_
    refine Gl.st (b := T3.setTop (mkF m 17 #[.val (.int z0), .val (.int z1), .val (.int z2), .val (.ref b1), .unset, .unset, .unset] [(.int (1 : Int32)), (.ref b1)])) (fun tq kq => XS.iconst X3.here hx rfl (hb hby at_16) kq) ?_
    refine Gl.st (b := T3.setTop (mkF m 18 #[.val (.int z0), .val (.int z1), .val (.int z2), .val (.ref b1), .unset, .unset, .unset] [(.int z0), (.int (1 : Int32)), (.ref b1)])) (fun tq kq => XS.iloadN X3.here hx rfl (hb hby at_17) rfl kq) ?_
    refine Gl.st (b := T3.setTop (mkF m 19 #[.val (.int z0), .val (.int z1), .val (.int z2), .val (.ref b1), .unset, .unset, .unset] [(.int (1 : Int32)), (.int z0), (.int (1 : Int32)), (.ref b1)])) (fun tq kq => XS.iconst X3.here hx rfl (hb hby at_18) kq) ?_
    refine Gl.st (b := T3.setTop (mkF m 20 #[.val (.int z0), .val (.int z1), .val (.int z2), .val (.ref b1), .unset, .unset, .unset] [(.int z1), (.int (1 : Int32)), (.int z0), (.int (1 : Int32)), (.ref b1)])) (fun tq kq => XS.iloadN X3.here hx rfl (hb hby at_19) rfl kq) ?_
    refine Gl.st (b := T3.setTop (mkF m 21 #[.val (.int z0), .val (.int z1), .val (.int z2), .val (.ref b1), .unset, .unset, .unset] [(.int z2), (.int z1), (.int (1 : Int32)), (.int z0), (.int (1 : Int32)), (.ref b1)])) (fun tq kq => XS.iloadN X3.here hx rfl (hb hby at_20) rfl kq) ?_
    refine Gl.callS (W := 2) (argsL := [(.int z0), (.int (1 : Int32)), (.int z1), (.int z2)]) (rest := [(.int (1 : Int32)), (.ref b1)]) X3 hx hZ hown (hw _ (List.mem_of_getElem? (i := 1) rfl)) (hw _ (List.mem_of_getElem? (i := 2) rfl)) (hw _ (List.mem_of_getElem? (i := 3) rfl)) (hw _ (List.mem_of_getElem? (i := 4) rfl)) (by decide) (rm1 l Z a0 hw [] z0 (1 : Int32) z1 z2 h3 n0 Z_3) (by decide) (by decide) e3 (by decide) (by decide) (by rw [hml]; rfl) (lenOf own_pd0 rfl) rfl rfl (Nat.le_of_eq rfl) (hb hby at_21) ?_
    intro T4 v4 L4 X4 hQ4
    obtain ⟨r4, rfl, N4q, e4q⟩ := hQ4
    have N4 := N3.app N4q
    show Gl _ _ _ _ _ _ _ (T4.setTop (mkF m 24 #[.val (.int z0), .val (.int z1), .val (.int z2), .val (.ref b1), .unset, .unset, .unset] [(.int r4), (.int (1 : Int32)), (.ref b1)]))
    refine Gl.castore (k := 1) X4 hx hZ e4q AA3 N4 G_b1 rfl (Nat.le_of_ble_eq_true rfl) (hb hby at_24) ?_
    intro T5 h5 L5 X5 e5 N5 W5 A5
    have AA5 : Ar Z h5 b1 .char [(.int c0), (.int (nar .char r4)), (.int (0 : Int32)), (.int (0 : Int32)), (.int (0 : Int32)), (.int (0 : Int32)), (.int (0 : Int32)), (.int (0 : Int32)), (.int (0 : Int32))] := A5
    have Z_5 : n0 ≤ h5.size := Nat.le_trans Z_3 (Nat.le_of_eq W5.size.symm)
    show Gl _ _ _ _ _ _ _ (T5.setTop (mkF m 25 #[.val (.int z0), .val (.int z1), .val (.int z2), .val (.ref b1), .unset, .unset, .unset] []))
    obtain ⟨c1, hcc1⟩ : ∃ q, q = (nar .char r4) := ⟨_, rfl⟩
    rw [← hcc1] at AA5
    refine Gl.st (b := T5.setTop (mkF m 26 #[.val (.int z0), .val (.int z1), .val (.int z2), .val (.ref b1), .unset, .unset, .unset] [(.ref b1)])) (fun tq kq => XS.aloadN X5.here hx rfl (hb hby at_25) rfl rfl kq) ?_
    refine Gl.st (b := T5.setTop (mkF m 27 #[.val (.int z0), .val (.int z1), .val (.int z2), .val (.ref b1), .unset, .unset, .unset] [(.int (2 : Int32)), (.ref b1)])) (fun tq kq => XS.iconst X5.here hx rfl (hb hby at_26) kq) ?_
    refine Gl.st (b := T5.setTop (mkF m 28 #[.val (.int z0), .val (.int z1), .val (.int z2), .val (.ref b1), .unset, .unset, .unset] [(.int z0), (.int (2 : Int32)), (.ref b1)])) (fun tq kq => XS.iloadN X5.here hx rfl (hb hby at_27) rfl kq) ?_
    refine Gl.st (b := T5.setTop (mkF m 29 #[.val (.int z0), .val (.int z1), .val (.int z2), .val (.ref b1), .unset, .unset, .unset] [(.int (2 : Int32)), (.int z0), (.int (2 : Int32)), (.ref b1)])) (fun tq kq => XS.iconst X5.here hx rfl (hb hby at_28) kq) ?_
    refine Gl.st (b := T5.setTop (mkF m 30 #[.val (.int z0), .val (.int z1), .val (.int z2), .val (.ref b1), .unset, .unset, .unset] [(.int z1), (.int (2 : Int32)), (.int z0), (.int (2 : Int32)), (.ref b1)])) (fun tq kq => XS.iloadN X5.here hx rfl (hb hby at_29) rfl kq) ?_
    refine Gl.st (b := T5.setTop (mkF m 31 #[.val (.int z0), .val (.int z1), .val (.int z2), .val (.ref b1), .unset, .unset, .unset] [(.int z2), (.int z1), (.int (2 : Int32)), (.int z0), (.int (2 : Int32)), (.ref b1)])) (fun tq kq => XS.iloadN X5.here hx rfl (hb hby at_30) rfl kq) ?_
    refine Gl.callS (W := 2) (argsL := [(.int z0), (.int (2 : Int32)), (.int z1), (.int z2)]) (rest := [(.int (2 : Int32)), (.ref b1)]) X5 hx hZ hown (hw _ (List.mem_of_getElem? (i := 1) rfl)) (hw _ (List.mem_of_getElem? (i := 2) rfl)) (hw _ (List.mem_of_getElem? (i := 3) rfl)) (hw _ (List.mem_of_getElem? (i := 4) rfl)) (by decide) (rm1 l Z a0 hw [] z0 (2 : Int32) z1 z2 h5 n0 Z_5) (by decide) (by decide) e5 (by decide) (by decide) (by rw [hml]; rfl) (lenOf own_pd0 rfl) rfl rfl (Nat.le_of_eq rfl) (hb hby at_31) ?_
    intro T6 v6 L6 X6 hQ6
    obtain ⟨r6, rfl, N6q, e6q⟩ := hQ6
    have N6 := N5.app N6q
    show Gl _ _ _ _ _ _ _ (T6.setTop (mkF m 34 #[.val (.int z0), .val (.int z1), .val (.int z2), .val (.ref b1), .unset, .unset, .unset] [(.int r6), (.int (2 : Int32)), (.ref b1)]))
    refine Gl.castore (k := 2) X6 hx hZ e6q AA5 N6 G_b1 rfl (Nat.le_of_ble_eq_true rfl) (hb hby at_34) ?_
    intro T7 h7 L7 X7 e7 N7 W7 A7
    have AA7 : Ar Z h7 b1 .char [(.int c0), (.int c1), (.int (nar .char r6)), (.int (0 : Int32)), (.int (0 : Int32)), (.int (0 : Int32)), (.int (0 : Int32)), (.int (0 : Int32)), (.int (0 : Int32))] := A7
    have Z_7 : n0 ≤ h7.size := Nat.le_trans Z_5 (Nat.le_of_eq W7.size.symm)
    show Gl _ _ _ _ _ _ _ (T7.setTop (mkF m 35 #[.val (.int z0), .val (.int z1), .val (.int z2), .val (.ref b1), .unset, .unset, .unset] []))
    obtain ⟨c2, hcc2⟩ : ∃ q, q = (nar .char r6) := ⟨_, rfl⟩
    rw [← hcc2] at AA7
    refine Gl.st (b := T7.setTop (mkF m 36 #[.val (.int z0), .val (.int z1), .val (.int z2), .val (.ref b1), .unset, .unset, .unset] [(.ref b1)])) (fun tq kq => XS.aloadN X7.here hx rfl (hb hby at_35) rfl rfl kq) ?_
    refine Gl.st (b := T7.setTop (mkF m 37 #[.val (.int z0), .val (.int z1), .val (.int z2), .val (.ref b1), .unset, .unset, .unset] [(.int (3 : Int32)), (.ref b1)])) (fun tq kq => XS.iconst X7.here hx rfl (hb hby at_36) kq) ?_
    refine Gl.st (b := T7.setTop (mkF m 38 #[.val (.int z0), .val (.int z1), .val (.int z2), .val (.ref b1), .unset, .unset, .unset] [(.int z0), (.int (3 : Int32)), (.ref b1)])) (fun tq kq => XS.iloadN X7.here hx rfl (hb hby at_37) rfl kq) ?_
    refine Gl.st (b := T7.setTop (mkF m 39 #[.val (.int z0), .val (.int z1), .val (.int z2), .val (.ref b1), .unset, .unset, .unset] [(.int (3 : Int32)), (.int z0), (.int (3 : Int32)), (.ref b1)])) (fun tq kq => XS.iconst X7.here hx rfl (hb hby at_38) kq) ?_
    refine Gl.st (b := T7.setTop (mkF m 40 #[.val (.int z0), .val (.int z1), .val (.int z2), .val (.ref b1), .unset, .unset, .unset] [(.int z1), (.int (3 : Int32)), (.int z0), (.int (3 : Int32)), (.ref b1)])) (fun tq kq => XS.iloadN X7.here hx rfl (hb hby at_39) rfl kq) ?_
    refine Gl.st (b := T7.setTop (mkF m 41 #[.val (.int z0), .val (.int z1), .val (.int z2), .val (.ref b1), .unset, .unset, .unset] [(.int z2), (.int z1), (.int (3 : Int32)), (.int z0), (.int (3 : Int32)), (.ref b1)])) (fun tq kq => XS.iloadN X7.here hx rfl (hb hby at_40) rfl kq) ?_
    refine Gl.callS (W := 2) (argsL := [(.int z0), (.int (3 : Int32)), (.int z1), (.int z2)]) (rest := [(.int (3 : Int32)), (.ref b1)]) X7 hx hZ hown (hw _ (List.mem_of_getElem? (i := 1) rfl)) (hw _ (List.mem_of_getElem? (i := 2) rfl)) (hw _ (List.mem_of_getElem? (i := 3) rfl)) (hw _ (List.mem_of_getElem? (i := 4) rfl)) (by decide) (rm1 l Z a0 hw [] z0 (3 : Int32) z1 z2 h7 n0 Z_7) (by decide) (by decide) e7 (by decide) (by decide) (by rw [hml]; rfl) (lenOf own_pd0 rfl) rfl rfl (Nat.le_of_eq rfl) (hb hby at_41) ?_
    intro T8 v8 L8 X8 hQ8
    obtain ⟨r8, rfl, N8q, e8q⟩ := hQ8
    have N8 := N7.app N8q
    show Gl _ _ _ _ _ _ _ (T8.setTop (mkF m 44 #[.val (.int z0), .val (.int z1), .val (.int z2), .val (.ref b1), .unset, .unset, .unset] [(.int r8), (.int (3 : Int32)), (.ref b1)]))
    refine Gl.castore (k := 3) X8 hx hZ e8q AA7 N8 G_b1 rfl (Nat.le_of_ble_eq_true rfl) (hb hby at_44) ?_
    intro T9 h9 L9 X9 e9 N9 W9 A9
    have AA9 : Ar Z h9 b1 .char [(.int c0), (.int c1), (.int c2), (.int (nar .char r8)), (.int (0 : Int32)), (.int (0 : Int32)), (.int (0 : Int32)), (.int (0 : Int32)), (.int (0 : Int32))] := A9
    have Z_9 : n0 ≤ h9.size := Nat.le_trans Z_7 (Nat.le_of_eq W9.size.symm)
    show Gl _ _ _ _ _ _ _ (T9.setTop (mkF m 45 #[.val (.int z0), .val (.int z1), .val (.int z2), .val (.ref b1), .unset, .unset, .unset] []))
    obtain ⟨c3, hcc3⟩ : ∃ q, q = (nar .char r8) := ⟨_, rfl⟩
    rw [← hcc3] at AA9
    refine Gl.st (b := T9.setTop (mkF m 46 #[.val (.int z0), .val (.int z1), .val (.int z2), .val (.ref b1), .unset, .unset, .unset] [(.ref b1)])) (fun tq kq => XS.aloadN X9.here hx rfl (hb hby at_45) rfl rfl kq) ?_
    refine Gl.st (b := T9.setTop (mkF m 47 #[.val (.int z0), .val (.int z1), .val (.int z2), .val (.ref b1), .unset, .unset, .unset] [(.int (4 : Int32)), (.ref b1)])) (fun tq kq => XS.iconst X9.here hx rfl (hb hby at_46) kq) ?_
    refine Gl.st (b := T9.setTop (mkF m 48 #[.val (.int z0), .val (.int z1), .val (.int z2), .val (.ref b1), .unset, .unset, .unset] [(.int z0), (.int (4 : Int32)), (.ref b1)])) (fun tq kq => XS.iloadN X9.here hx rfl (hb hby at_47) rfl kq) ?_
    refine Gl.st (b := T9.setTop (mkF m 49 #[.val (.int z0), .val (.int z1), .val (.int z2), .val (.ref b1), .unset, .unset, .unset] [(.int (4 : Int32)), (.int z0), (.int (4 : Int32)), (.ref b1)])) (fun tq kq => XS.iconst X9.here hx rfl (hb hby at_48) kq) ?_
    refine Gl.st (b := T9.setTop (mkF m 50 #[.val (.int z0), .val (.int z1), .val (.int z2), .val (.ref b1), .unset, .unset, .unset] [(.int z1), (.int (4 : Int32)), (.int z0), (.int (4 : Int32)), (.ref b1)])) (fun tq kq => XS.iloadN X9.here hx rfl (hb hby at_49) rfl kq) ?_
    refine Gl.st (b := T9.setTop (mkF m 51 #[.val (.int z0), .val (.int z1), .val (.int z2), .val (.ref b1), .unset, .unset, .unset] [(.int z2), (.int z1), (.int (4 : Int32)), (.int z0), (.int (4 : Int32)), (.ref b1)])) (fun tq kq => XS.iloadN X9.here hx rfl (hb hby at_50) rfl kq) ?_
    refine Gl.callS (W := 2) (argsL := [(.int z0), (.int (4 : Int32)), (.int z1), (.int z2)]) (rest := [(.int (4 : Int32)), (.ref b1)]) X9 hx hZ hown (hw _ (List.mem_of_getElem? (i := 1) rfl)) (hw _ (List.mem_of_getElem? (i := 2) rfl)) (hw _ (List.mem_of_getElem? (i := 3) rfl)) (hw _ (List.mem_of_getElem? (i := 4) rfl)) (by decide) (rm1 l Z a0 hw [] z0 (4 : Int32) z1 z2 h9 n0 Z_9) (by decide) (by decide) e9 (by decide) (by decide) (by rw [hml]; rfl) (lenOf own_pd0 rfl) rfl rfl (Nat.le_of_eq rfl) (hb hby at_51) ?_
    intro T10 v10 L10 X10 hQ10
    obtain ⟨r10, rfl, N10q, e10q⟩ := hQ10
    have N10 := N9.app N10q
    show Gl _ _ _ _ _ _ _ (T10.setTop (mkF m 54 #[.val (.int z0), .val (.int z1), .val (.int z2), .val (.ref b1), .unset, .unset, .unset] [(.int r10), (.int (4 : Int32)), (.ref b1)]))
    refine Gl.castore (k := 4) X10 hx hZ e10q AA9 N10 G_b1 rfl (Nat.le_of_ble_eq_true rfl) (hb hby at_54) ?_
    intro T11 h11 L11 X11 e11 N11 W11 A11
    have AA11 : Ar Z h11 b1 .char [(.int c0), (.int c1), (.int c2), (.int c3), (.int (nar .char r10)), (.int (0 : Int32)), (.int (0 : Int32)), (.int (0 : Int32)), (.int (0 : Int32))] := A11
    have Z_11 : n0 ≤ h11.size := Nat.le_trans Z_9 (Nat.le_of_eq W11.size.symm)
    show Gl _ _ _ _ _ _ _ (T11.setTop (mkF m 55 #[.val (.int z0), .val (.int z1), .val (.int z2), .val (.ref b1), .unset, .unset, .unset] []))
    obtain ⟨c4, hcc4⟩ : ∃ q, q = (nar .char r10) := ⟨_, rfl⟩
    rw [← hcc4] at AA11
    refine Gl.st (b := T11.setTop (mkF m 56 #[.val (.int z0), .val (.int z1), .val (.int z2), .val (.ref b1), .unset, .unset, .unset] [(.ref b1)])) (fun tq kq => XS.aloadN X11.here hx rfl (hb hby at_55) rfl rfl kq) ?_
    refine Gl.st (b := T11.setTop (mkF m 57 #[.val (.int z0), .val (.int z1), .val (.int z2), .val (.ref b1), .unset, .unset, .unset] [(.int (5 : Int32)), (.ref b1)])) (fun tq kq => XS.iconst X11.here hx rfl (hb hby at_56) kq) ?_
    refine Gl.st (b := T11.setTop (mkF m 58 #[.val (.int z0), .val (.int z1), .val (.int z2), .val (.ref b1), .unset, .unset, .unset] [(.int z0), (.int (5 : Int32)), (.ref b1)])) (fun tq kq => XS.iloadN X11.here hx rfl (hb hby at_57) rfl kq) ?_
    refine Gl.st (b := T11.setTop (mkF m 59 #[.val (.int z0), .val (.int z1), .val (.int z2), .val (.ref b1), .unset, .unset, .unset] [(.int (5 : Int32)), (.int z0), (.int (5 : Int32)), (.ref b1)])) (fun tq kq => XS.iconst X11.here hx rfl (hb hby at_58) kq) ?_
    refine Gl.st (b := T11.setTop (mkF m 60 #[.val (.int z0), .val (.int z1), .val (.int z2), .val (.ref b1), .unset, .unset, .unset] [(.int z1), (.int (5 : Int32)), (.int z0), (.int (5 : Int32)), (.ref b1)])) (fun tq kq => XS.iloadN X11.here hx rfl (hb hby at_59) rfl kq) ?_
    refine Gl.st (b := T11.setTop (mkF m 61 #[.val (.int z0), .val (.int z1), .val (.int z2), .val (.ref b1), .unset, .unset, .unset] [(.int z2), (.int z1), (.int (5 : Int32)), (.int z0), (.int (5 : Int32)), (.ref b1)])) (fun tq kq => XS.iloadN X11.here hx rfl (hb hby at_60) rfl kq) ?_
    refine Gl.callS (W := 2) (argsL := [(.int z0), (.int (5 : Int32)), (.int z1), (.int z2)]) (rest := [(.int (5 : Int32)), (.ref b1)]) X11 hx hZ hown (hw _ (List.mem_of_getElem? (i := 1) rfl)) (hw _ (List.mem_of_getElem? (i := 2) rfl)) (hw _ (List.mem_of_getElem? (i := 3) rfl)) (hw _ (List.mem_of_getElem? (i := 4) rfl)) (by decide) (rm1 l Z a0 hw [] z0 (5 : Int32) z1 z2 h11 n0 Z_11) (by decide) (by decide) e11 (by decide) (by decide) (by rw [hml]; rfl) (lenOf own_pd0 rfl) rfl rfl (Nat.le_of_eq rfl) (hb hby at_61) ?_
    intro T12 v12 L12 X12 hQ12
    obtain ⟨r12, rfl, N12q, e12q⟩ := hQ12
    have N12 := N11.app N12q
    show Gl _ _ _ _ _ _ _ (T12.setTop (mkF m 64 #[.val (.int z0), .val (.int z1), .val (.int z2), .val (.ref b1), .unset, .unset, .unset] [(.int r12), (.int (5 : Int32)), (.ref b1)]))
    refine Gl.castore (k := 5) X12 hx hZ e12q AA11 N12 G_b1 rfl (Nat.le_of_ble_eq_true rfl) (hb hby at_64) ?_
    intro T13 h13 L13 X13 e13 N13 W13 A13
    have AA13 : Ar Z h13 b1 .char [(.int c0), (.int c1), (.int c2), (.int c3), (.int c4), (.int (nar .char r12)), (.int (0 : Int32)), (.int (0 : Int32)), (.int (0 : Int32))] := A13
    have Z_13 : n0 ≤ h13.size := Nat.le_trans Z_11 (Nat.le_of_eq W13.size.symm)
    show Gl _ _ _ _ _ _ _ (T13.setTop (mkF m 65 #[.val (.int z0), .val (.int z1), .val (.int z2), .val (.ref b1), .unset, .unset, .unset] []))
    obtain ⟨c5, hcc5⟩ : ∃ q, q = (nar .char r12) := ⟨_, rfl⟩
    rw [← hcc5] at AA13
    refine Gl.st (b := T13.setTop (mkF m 66 #[.val (.int z0), .val (.int z1), .val (.int z2), .val (.ref b1), .unset, .unset, .unset] [(.ref b1)])) (fun tq kq => XS.aloadN X13.here hx rfl (hb hby at_65) rfl rfl kq) ?_
    refine Gl.st (b := T13.setTop (mkF m 68 #[.val (.int z0), .val (.int z1), .val (.int z2), .val (.ref b1), .unset, .unset, .unset] [(.int (6 : Int32)), (.ref b1)])) (fun tq kq => XS.bipush X13.here hx rfl (hb hby at_66) kq) ?_
    refine Gl.st (b := T13.setTop (mkF m 69 #[.val (.int z0), .val (.int z1), .val (.int z2), .val (.ref b1), .unset, .unset, .unset] [(.int z0), (.int (6 : Int32)), (.ref b1)])) (fun tq kq => XS.iloadN X13.here hx rfl (hb hby at_68) rfl kq) ?_
    refine Gl.st (b := T13.setTop (mkF m 71 #[.val (.int z0), .val (.int z1), .val (.int z2), .val (.ref b1), .unset, .unset, .unset] [(.int (6 : Int32)), (.int z0), (.int (6 : Int32)), (.ref b1)])) (fun tq kq => XS.bipush X13.here hx rfl (hb hby at_69) kq) ?_
    refine Gl.st (b := T13.setTop (mkF m 72 #[.val (.int z0), .val (.int z1), .val (.int z2), .val (.ref b1), .unset, .unset, .unset] [(.int z1), (.int (6 : Int32)), (.int z0), (.int (6 : Int32)), (.ref b1)])) (fun tq kq => XS.iloadN X13.here hx rfl (hb hby at_71) rfl kq) ?_
    refine Gl.st (b := T13.setTop (mkF m 73 #[.val (.int z0), .val (.int z1), .val (.int z2), .val (.ref b1), .unset, .unset, .unset] [(.int z2), (.int z1), (.int (6 : Int32)), (.int z0), (.int (6 : Int32)), (.ref b1)])) (fun tq kq => XS.iloadN X13.here hx rfl (hb hby at_72) rfl kq) ?_
    refine Gl.callS (W := 2) (argsL := [(.int z0), (.int (6 : Int32)), (.int z1), (.int z2)]) (rest := [(.int (6 : Int32)), (.ref b1)]) X13 hx hZ hown (hw _ (List.mem_of_getElem? (i := 1) rfl)) (hw _ (List.mem_of_getElem? (i := 2) rfl)) (hw _ (List.mem_of_getElem? (i := 3) rfl)) (hw _ (List.mem_of_getElem? (i := 4) rfl)) (by decide) (rm1 l Z a0 hw [] z0 (6 : Int32) z1 z2 h13 n0 Z_13) (by decide) (by decide) e13 (by decide) (by decide) (by rw [hml]; rfl) (lenOf own_pd0 rfl) rfl rfl (Nat.le_of_eq rfl) (hb hby at_73) ?_
    intro T14 v14 L14 X14 hQ14
    obtain ⟨r14, rfl, N14q, e14q⟩ := hQ14
    have N14 := N13.app N14q
    show Gl _ _ _ _ _ _ _ (T14.setTop (mkF m 76 #[.val (.int z0), .val (.int z1), .val (.int z2), .val (.ref b1), .unset, .unset, .unset] [(.int r14), (.int (6 : Int32)), (.ref b1)]))
    refine Gl.castore (k := 6) X14 hx hZ e14q AA13 N14 G_b1 rfl (Nat.le_of_ble_eq_true rfl) (hb hby at_76) ?_
    intro T15 h15 L15 X15 e15 N15 W15 A15
    have AA15 : Ar Z h15 b1 .char [(.int c0), (.int c1), (.int c2), (.int c3), (.int c4), (.int c5), (.int (nar .char r14)), (.int (0 : Int32)), (.int (0 : Int32))] := A15
    have Z_15 : n0 ≤ h15.size := Nat.le_trans Z_13 (Nat.le_of_eq W15.size.symm)
    show Gl _ _ _ _ _ _ _ (T15.setTop (mkF m 77 #[.val (.int z0), .val (.int z1), .val (.int z2), .val (.ref b1), .unset, .unset, .unset] []))
    obtain ⟨c6, hcc6⟩ : ∃ q, q = (nar .char r14) := ⟨_, rfl⟩
    rw [← hcc6] at AA15
    refine Gl.st (b := T15.setTop (mkF m 78 #[.val (.int z0), .val (.int z1), .val (.int z2), .val (.ref b1), .unset, .unset, .unset] [(.ref b1)])) (fun tq kq => XS.aloadN X15.here hx rfl (hb hby at_77) rfl rfl kq) ?_
    refine Gl.st (b := T15.setTop (mkF m 80 #[.val (.int z0), .val (.int z1), .val (.int z2), .val (.ref b1), .unset, .unset, .unset] [(.int (7 : Int32)), (.ref b1)])) (fun tq kq => XS.bipush X15.here hx rfl (hb hby at_78) kq) ?_
    refine Gl.st (b := T15.setTop (mkF m 81 #[.val (.int z0), .val (.int z1), .val (.int z2), .val (.ref b1), .unset, .unset, .unset] [(.int z0), (.int (7 : Int32)), (.ref b1)])) (fun tq kq => XS.iloadN X15.here hx rfl (hb hby at_80) rfl kq) ?_
    refine Gl.st (b := T15.setTop (mkF m 83 #[.val (.int z0), .val (.int z1), .val (.int z2), .val (.ref b1), .unset, .unset, .unset] [(.int (7 : Int32)), (.int z0), (.int (7 : Int32)), (.ref b1)])) (fun tq kq => XS.bipush X15.here hx rfl (hb hby at_81) kq) ?_
    refine Gl.st (b := T15.setTop (mkF m 84 #[.val (.int z0), .val (.int z1), .val (.int z2), .val (.ref b1), .unset, .unset, .unset] [(.int z1), (.int (7 : Int32)), (.int z0), (.int (7 : Int32)), (.ref b1)])) (fun tq kq => XS.iloadN X15.here hx rfl (hb hby at_83) rfl kq) ?_
    refine Gl.st (b := T15.setTop (mkF m 85 #[.val (.int z0), .val (.int z1), .val (.int z2), .val (.ref b1), .unset, .unset, .unset] [(.int z2), (.int z1), (.int (7 : Int32)), (.int z0), (.int (7 : Int32)), (.ref b1)])) (fun tq kq => XS.iloadN X15.here hx rfl (hb hby at_84) rfl kq) ?_
    refine Gl.callS (W := 2) (argsL := [(.int z0), (.int (7 : Int32)), (.int z1), (.int z2)]) (rest := [(.int (7 : Int32)), (.ref b1)]) X15 hx hZ hown (hw _ (List.mem_of_getElem? (i := 1) rfl)) (hw _ (List.mem_of_getElem? (i := 2) rfl)) (hw _ (List.mem_of_getElem? (i := 3) rfl)) (hw _ (List.mem_of_getElem? (i := 4) rfl)) (by decide) (rm1 l Z a0 hw [] z0 (7 : Int32) z1 z2 h15 n0 Z_15) (by decide) (by decide) e15 (by decide) (by decide) (by rw [hml]; rfl) (lenOf own_pd0 rfl) rfl rfl (Nat.le_of_eq rfl) (hb hby at_85) ?_
    intro T16 v16 L16 X16 hQ16
    obtain ⟨r16, rfl, N16q, e16q⟩ := hQ16
    have N16 := N15.app N16q
    show Gl _ _ _ _ _ _ _ (T16.setTop (mkF m 88 #[.val (.int z0), .val (.int z1), .val (.int z2), .val (.ref b1), .unset, .unset, .unset] [(.int r16), (.int (7 : Int32)), (.ref b1)]))
    refine Gl.castore (k := 7) X16 hx hZ e16q AA15 N16 G_b1 rfl (Nat.le_of_ble_eq_true rfl) (hb hby at_88) ?_
    intro T17 h17 L17 X17 e17 N17 W17 A17
    have AA17 : Ar Z h17 b1 .char [(.int c0), (.int c1), (.int c2), (.int c3), (.int c4), (.int c5), (.int c6), (.int (nar .char r16)), (.int (0 : Int32))] := A17
    have Z_17 : n0 ≤ h17.size := Nat.le_trans Z_15 (Nat.le_of_eq W17.size.symm)
    show Gl _ _ _ _ _ _ _ (T17.setTop (mkF m 89 #[.val (.int z0), .val (.int z1), .val (.int z2), .val (.ref b1), .unset, .unset, .unset] []))
    obtain ⟨c7, hcc7⟩ : ∃ q, q = (nar .char r16) := ⟨_, rfl⟩
    rw [← hcc7] at AA17
    refine Gl.st (b := T17.setTop (mkF m 90 #[.val (.int z0), .val (.int z1), .val (.int z2), .val (.ref b1), .unset, .unset, .unset] [(.ref b1)])) (fun tq kq => XS.aloadN X17.here hx rfl (hb hby at_89) rfl rfl kq) ?_
    refine Gl.st (b := T17.setTop (mkF m 92 #[.val (.int z0), .val (.int z1), .val (.int z2), .val (.ref b1), .unset, .unset, .unset] [(.int (8 : Int32)), (.ref b1)])) (fun tq kq => XS.bipush X17.here hx rfl (hb hby at_90) kq) ?_
    refine Gl.st (b := T17.setTop (mkF m 93 #[.val (.int z0), .val (.int z1), .val (.int z2), .val (.ref b1), .unset, .unset, .unset] [(.int z0), (.int (8 : Int32)), (.ref b1)])) (fun tq kq => XS.iloadN X17.here hx rfl (hb hby at_92) rfl kq) ?_
    refine Gl.st (b := T17.setTop (mkF m 95 #[.val (.int z0), .val (.int z1), .val (.int z2), .val (.ref b1), .unset, .unset, .unset] [(.int (8 : Int32)), (.int z0), (.int (8 : Int32)), (.ref b1)])) (fun tq kq => XS.bipush X17.here hx rfl (hb hby at_93) kq) ?_
    refine Gl.st (b := T17.setTop (mkF m 96 #[.val (.int z0), .val (.int z1), .val (.int z2), .val (.ref b1), .unset, .unset, .unset] [(.int z1), (.int (8 : Int32)), (.int z0), (.int (8 : Int32)), (.ref b1)])) (fun tq kq => XS.iloadN X17.here hx rfl (hb hby at_95) rfl kq) ?_
    refine Gl.st (b := T17.setTop (mkF m 97 #[.val (.int z0), .val (.int z1), .val (.int z2), .val (.ref b1), .unset, .unset, .unset] [(.int z2), (.int z1), (.int (8 : Int32)), (.int z0), (.int (8 : Int32)), (.ref b1)])) (fun tq kq => XS.iloadN X17.here hx rfl (hb hby at_96) rfl kq) ?_
    refine Gl.callS (W := 2) (argsL := [(.int z0), (.int (8 : Int32)), (.int z1), (.int z2)]) (rest := [(.int (8 : Int32)), (.ref b1)]) X17 hx hZ hown (hw _ (List.mem_of_getElem? (i := 1) rfl)) (hw _ (List.mem_of_getElem? (i := 2) rfl)) (hw _ (List.mem_of_getElem? (i := 3) rfl)) (hw _ (List.mem_of_getElem? (i := 4) rfl)) (by decide) (rm1 l Z a0 hw [] z0 (8 : Int32) z1 z2 h17 n0 Z_17) (by decide) (by decide) e17 (by decide) (by decide) (by rw [hml]; rfl) (lenOf own_pd0 rfl) rfl rfl (Nat.le_of_eq rfl) (hb hby at_97) ?_
    intro T18 v18 L18 X18 hQ18
    obtain ⟨r18, rfl, N18q, e18q⟩ := hQ18
    have N18 := N17.app N18q
    show Gl _ _ _ _ _ _ _ (T18.setTop (mkF m 100 #[.val (.int z0), .val (.int z1), .val (.int z2), .val (.ref b1), .unset, .unset, .unset] [(.int r18), (.int (8 : Int32)), (.ref b1)]))
    refine Gl.castore (k := 8) X18 hx hZ e18q AA17 N18 G_b1 rfl (Nat.le_of_ble_eq_true rfl) (hb hby at_100) ?_
    intro T19 h19 L19 X19 e19 N19 W19 A19
    have AA19 : Ar Z h19 b1 .char [(.int c0), (.int c1), (.int c2), (.int c3), (.int c4), (.int c5), (.int c6), (.int c7), (.int (nar .char r18))] := A19
    have Z_19 : n0 ≤ h19.size := Nat.le_trans Z_17 (Nat.le_of_eq W19.size.symm)
    show Gl _ _ _ _ _ _ _ (T19.setTop (mkF m 101 #[.val (.int z0), .val (.int z1), .val (.int z2), .val (.ref b1), .unset, .unset, .unset] []))
    obtain ⟨c8, hcc8⟩ : ∃ q, q = (nar .char r18) := ⟨_, rfl⟩
    rw [← hcc8] at AA19
    refine Gl.newO X19 hx hZ hown (hw _ (List.mem_of_getElem? (i := 5) rfl)) (hw _ (List.mem_of_getElem? (i := 6) rfl)) (hw _ (List.mem_of_getElem? (i := 7) rfl)) e19 (by decide) (by decide) (hb hby at_101) ?_
    intro T20 h20 b20 g20 X20 e20 E20 B20 D20
    have ne_b1_b20 : b1 ≠ b20 := Nat.ne_of_lt (Nat.lt_of_lt_of_le AA19.lt (Nat.le_of_eq g20.symm))
    have G_b20 : n0 ≤ b20 := Nat.le_trans Z_19 (Nat.le_of_eq g20.symm)
    have Z_20 : n0 ≤ h20.size := Nat.le_trans Z_19 E20.1
    have A_b1_20 := AA19.ext E20
    have F_sections_b20 : Fld Z h20 b20 "com/example/leafrank/leafrank/core/IgnoredSection" "sections" "I" (.int (0 : Int32)) := D20 (Or.inl (hw _ (List.mem_of_getElem? (i := 15) rfl))) (ty := .int) (by decide)
    have F_closing_b20 : Fld Z h20 b20 "com/example/leafrank/leafrank/core/IgnoredSection" "closing" "I" (.int (0 : Int32)) := D20 (Or.inl (hw _ (List.mem_of_getElem? (i := 25) rfl))) (ty := .int) (by decide)
    have F_opening_b20 : Fld Z h20 b20 "com/example/leafrank/leafrank/core/IgnoredSection" "opening" "I" (.int (0 : Int32)) := D20 (Or.inl (hw _ (List.mem_of_getElem? (i := 27) rfl))) (ty := .int) (by decide)
    show Gl _ _ _ _ _ _ _ (T20.setTop (mkF m 104 #[.val (.int z0), .val (.int z1), .val (.int z2), .val (.ref b1), .unset, .unset, .unset] [(.ref b20)]))
    refine Gl.st (b := T20.setTop (mkF m 105 #[.val (.int z0), .val (.int z1), .val (.int z2), .val (.ref b1), .unset, .unset, .unset] [(.ref b20), (.ref b20)])) (fun tq kq => XS.dup X20.here hx rfl (hb hby at_104) rfl rfl kq) ?_
    refine Gl.callI (W := 1) (argsL := []) (rest := [(.ref b20)]) (a := b20) X20 hx hZ rfl hown (hw _ (List.mem_of_getElem? (i := 8) rfl)) (hw _ (List.mem_of_getElem? (i := 9) rfl)) (hw _ (List.mem_of_getElem? (i := 7) rfl)) (hw _ (List.mem_of_getElem? (i := 10) rfl)) (by decide) (rm2 l Z a0 hw [] b20 h20 n0 Z_20 B20 F_closing_b20 F_opening_b20 F_sections_b20 G_b20) (by decide) (by decide) e20 (by decide) (by decide) (by rw [hml]; rfl) (lenOf own_pd1 rfl) rfl rfl (Nat.le_of_eq rfl) (hb hby at_105) ?_
    intro T21 v21 L21 X21 hQ21
    obtain ⟨rfl, N21q, K21, B21, Fc21, Fo21, Fs21⟩ := hQ21
    have N21 := N19.app N21q
    have Z_21 : n0 ≤ T21.heap.size := Nat.le_trans Z_20 K21.1
    have A_b1_21 := A_b1_20.keep K21 (ninS ne_b1_b20 nin0)
    show Gl _ _ _ _ _ _ _ (T21.setTop (mkF m 108 #[.val (.int z0), .val (.int z1), .val (.int z2), .val (.ref b1), .unset, .unset, .unset] [(.ref b20)]))
    refine Gl.st (b := T21.setTop (mkF m 110 #[.val (.int z0), .val (.int z1), .val (.int z2), .val (.ref b1), .val (.ref b20), .unset, .unset] [])) (fun tq kq => XS.astore X21.here hx rfl (hb hby at_108) rfl rfl (l' := #[.val (.int z0), .val (.int z1), .val (.int z2), .val (.ref b1), .val (.ref b20), .unset, .unset]) rfl kq) ?_
    refine Gl.st (b := T21.setTop (mkF m 111 #[.val (.int z0), .val (.int z1), .val (.int z2), .val (.ref b1), .val (.ref b20), .unset, .unset] [(.int (1 : Int32))])) (fun tq kq => XS.iconst X21.here hx rfl (hb hby at_110) kq) ?_
    refine Gl.st (b := T21.setTop (mkF m 113 #[.val (.int z0), .val (.int z1), .val (.int z2), .val (.ref b1), .val (.ref b20), .val (.int (1 : Int32)), .unset] [])) (fun tq kq => XS.istore X21.here hx rfl (hb hby at_111) rfl (l' := #[.val (.int z0), .val (.int z1), .val (.int z2), .val (.ref b1), .val (.ref b20), .val (.int (1 : Int32)), .unset]) rfl kq) ?_
    refine Gl.st (b := T21.setTop (mkF m 114 #[.val (.int z0), .val (.int z1), .val (.int z2), .val (.ref b1), .val (.ref b20), .val (.int (1 : Int32)), .unset] [(.int (1 : Int32))])) (fun tq kq => XS.iconst X21.here hx rfl (hb hby at_113) kq) ?_
    refine Gl.st (b := T21.setTop (mkF m 116 #[.val (.int z0), .val (.int z1), .val (.int z2), .val (.ref b1), .val (.ref b20), .val (.int (1 : Int32)), .val (.int (1 : Int32))] [])) (fun tq kq => XS.istore X21.here hx rfl (hb hby at_114) rfl (l' := #[.val (.int z0), .val (.int z1), .val (.int z2), .val (.ref b1), .val (.ref b20), .val (.int (1 : Int32)), .val (.int (1 : Int32))]) rfl kq) ?_
    have hI0 := own_I0
    refine Gl.st (b := T21.setTop (mkF m 118 #[.val (.int z0), .val (.int z1), .val (.int z2), .val (.ref b1), .val (.ref b20), .val (.int (1 : Int32)), .val (.int (1 : Int32))] [(.int (1 : Int32))])) (fun tq kq => XS.iload X21.here hx rfl (hb hby at_116) rfl kq) ?_
    refine Gl.st (b := T21.setTop (mkF m 119 #[.val (.int z0), .val (.int z1), .val (.int z2), .val (.ref b1), .val (.ref b20), .val (.int (1 : Int32)), .val (.int (1 : Int32))] [(.ref b1), (.int (1 : Int32))])) (fun tq kq => XS.aloadN X21.here hx rfl (hb hby at_118) rfl rfl kq) ?_
    refine Gl.st (b := T21.setTop (mkF m 120 #[.val (.int z0), .val (.int z1), .val (.int z2), .val (.ref b1), .val (.ref b20), .val (.int (1 : Int32)), .val (.int (1 : Int32))] [(.int (0 : Int32)), (.ref b1), (.int (1 : Int32))])) (fun tq kq => XS.iconst X21.here hx rfl (hb hby at_119) kq) ?_
    have AC0 : Ar Z T21.heap b1 .char (([c0, c1, c2, c3, c4, c5, c6, c7, c8] : List Int32).map Value.int) := A_b1_21
    refine Gl.callP (W := 1) (argsL := [(.ref b1), (.int (0 : Int32))]) (rest := [(.int (1 : Int32))]) (w := (.int (own_dl ([c0, c1, c2, c3, c4, c5, c6, c7, c8] : List Int32) (0 : Int32)))) X21 hx hZ hown (hw _ (List.mem_of_getElem? (i := 16) rfl)) (hw _ (List.mem_of_getElem? (i := 17) rfl)) (hw _ (List.mem_of_getElem? (i := 3) rfl)) (hw _ (List.mem_of_getElem? (i := 18) rfl)) (by decide) (rm3 l Z a0 hw [] b1 (0 : Int32) ([c0, c1, c2, c3, c4, c5, c6, c7, c8] : List Int32) T21.heap n0 Z_21 AC0 (by decide) (show (0 : Int32).toInt < ((9 : Nat) : Int) by decide)) (by decide) (by decide) rfl N21 (by decide) (by decide) (by rw [hml]; rfl) (lenOf own_pd2 rfl) rfl rfl (Nat.le_of_eq rfl) (hb hby at_120) ?_
    intro T22 L22 X22 e22 N22
    show Gl _ _ _ _ _ _ _ (T22.setTop (mkF m 123 #[.val (.int z0), .val (.int z1), .val (.int z2), .val (.ref b1), .val (.ref b20), .val (.int (1 : Int32)), .val (.int (1 : Int32))] [(.int (own_dl ([c0, c1, c2, c3, c4, c5, c6, c7, c8] : List Int32) (0 : Int32))), (.int (1 : Int32))]))
    refine Gl.st (b := T22.setTop (mkF m 124 #[.val (.int z0), .val (.int z1), .val (.int z2), .val (.ref b1), .val (.ref b20), .val (.int (1 : Int32)), .val (.int (1 : Int32))] [(.int ((1 : Int32) + (own_dl ([c0, c1, c2, c3, c4, c5, c6, c7, c8] : List Int32) (0 : Int32))))])) (fun tq kq => XS.iadd X22.here hx rfl (hb hby at_123) rfl kq) ?_
    refine Gl.st (b := T22.setTop (mkF m 126 #[.val (.int z0), .val (.int z1), .val (.int z2), .val (.ref b1), .val (.ref b20), .val (.int ((1 : Int32) + (own_dl ([c0, c1, c2, c3, c4, c5, c6, c7, c8] : List Int32) (0 : Int32)))), .val (.int (1 : Int32))] [])) (fun tq kq => XS.istore X22.here hx rfl (hb hby at_124) rfl (l' := #[.val (.int z0), .val (.int z1), .val (.int z2), .val (.ref b1), .val (.ref b20), .val (.int ((1 : Int32) + (own_dl ([c0, c1, c2, c3, c4, c5, c6, c7, c8] : List Int32) (0 : Int32)))), .val (.int (1 : Int32))]) rfl kq) ?_
    obtain ⟨dp0, hdp0⟩ : ∃ q, q = ((1 : Int32) + (own_dl ([c0, c1, c2, c3, c4, c5, c6, c7, c8] : List Int32) (0 : Int32))) := ⟨_, rfl⟩
    rw [← hdp0]
    show Gl _ _ _ _ _ _ _ (T22.setTop (mkF m 126 #[.val (.int z0), .val (.int z1), .val (.int z2), .val (.ref b1), .val (.ref b20), .val (.int dp0), .val (.int (1 : Int32))] []))
    refine Gl.st (b := T22.setTop (mkF m 128 #[.val (.int z0), .val (.int z1), .val (.int z2), .val (.ref b1), .val (.ref b20), .val (.int dp0), .val (.int (1 : Int32))] [(.int (1 : Int32))])) (fun tq kq => XS.iload X22.here hx rfl (hb hby at_126) rfl kq) ?_
    refine Gl.st (b := T22.setTop (mkF m 130 #[.val (.int z0), .val (.int z1), .val (.int z2), .val (.ref b1), .val (.ref b20), .val (.int dp0), .val (.int (1 : Int32))] [(.ref b20), (.int (1 : Int32))])) (fun tq kq => XS.aload X22.here hx rfl (hb hby at_128) rfl rfl kq) ?_
    refine Gl.st (b := T22.setTop (mkF m 131 #[.val (.int z0), .val (.int z1), .val (.int z2), .val (.ref b1), .val (.ref b20), .val (.int dp0), .val (.int (1 : Int32))] [(.ref b1), (.ref b20), (.int (1 : Int32))])) (fun tq kq => XS.aloadN X22.here hx rfl (hb hby at_130) rfl rfl kq) ?_
    refine Gl.st (b := T22.setTop (mkF m 132 #[.val (.int z0), .val (.int z1), .val (.int z2), .val (.ref b1), .val (.ref b20), .val (.int dp0), .val (.int (1 : Int32))] [(.int (0 : Int32)), (.ref b1), (.ref b20), (.int (1 : Int32))])) (fun tq kq => XS.iconst X22.here hx rfl (hb hby at_131) kq) ?_
    refine Gl.caload (k := 0) (v := (.int c0)) X22 hx hZ e22 A_b1_21 rfl rfl (hb hby at_132) ?_
    show Gl _ _ _ _ _ _ _ (T22.setTop (mkF m 133 #[.val (.int z0), .val (.int z1), .val (.int z2), .val (.ref b1), .val (.ref b20), .val (.int dp0), .val (.int (1 : Int32))] [(.int c0), (.ref b20), (.int (1 : Int32))]))
    refine Gl.callV (W := 1) (argsL := [(.int c0)]) (rest := [(.int (1 : Int32))]) (a := b20) X22 hx hZ hown (hw _ (List.mem_of_getElem? (i := 19) rfl)) (hw _ (List.mem_of_getElem? (i := 20) rfl)) (hw _ (List.mem_of_getElem? (i := 22) rfl)) (hw _ (List.mem_of_getElem? (i := 21) rfl)) (hw _ (List.mem_of_getElem? (i := 7) rfl)) (hw _ (List.mem_of_getElem? (i := 23) rfl)) (by decide) (rm4 l Z a0 hw [] b20 c0 (0 : Int32) (0 : Int32) (1 : Int32) T21.heap n0 Z_21 B21 Fc21 Fo21 Fs21 G_b20) (by decide) (by decide) e22 B21 (by decide) (by decide) (by rw [hml]; rfl) (lenOf own_pd3 rfl) rfl rfl (Nat.le_of_eq rfl) (hb hby at_133) ?_
    intro T23 v23 L23 X23 hQ23
    obtain ⟨cl0, op0, se0, rfl, N23q, K23, B23, Fc23, Fo23, Fs23, hcl0, hop0, hse0⟩ := hQ23
    have N23 := N22.app N23q
    have Z_23 : n0 ≤ T23.heap.size := Nat.le_trans Z_21 K23.1
    have A_b1_23 := A_b1_21.keep K23 (ninS ne_b1_b20 nin0)
    have hI1 : own_I (-1) c0.toInt 1 cl0 op0 := by rw [hcl0, hop0]; exact own_Is c0 hI0 (by decide)
    have hsd0 : se0 = dp0 := by
      rw [hse0, own_Ie c0 _ hI0, hdp0]
      first | rfl | (simp [own_dl, own_d, own_ch]; done)
    show Gl _ _ _ _ _ _ _ (T23.setTop (mkF m 136 #[.val (.int z0), .val (.int z1), .val (.int z2), .val (.ref b1), .val (.ref b20), .val (.int dp0), .val (.int (1 : Int32))] [(.int (own_b (decide (se0.toInt = 0)))), (.int (1 : Int32))]))
    refine Gl.st (b := T23.setTop (mkF m 138 #[.val (.int z0), .val (.int z1), .val (.int z2), .val (.ref b1), .val (.ref b20), .val (.int dp0), .val (.int (1 : Int32))] [(.int dp0), (.int (own_b (decide (se0.toInt = 0)))), (.int (1 : Int32))])) (fun tq kq => XS.iload X23.here hx rfl (hb hby at_136) rfl kq) ?_
    suffices tail0 : Gl p e below s (QL n0) 2 12 (T23.setTop (mkF m 157 #[.val (.int z0), .val (.int z1), .val (.int z2), .val (.ref b1), .val (.ref b20), .val (.int dp0), .val (.int (1 : Int32))] [])) by
      by_cases hz0 : dp0.toInt = 0
      ·
        refine Gl.st (b := T23.setTop (mkF m 141 #[.val (.int z0), .val (.int z1), .val (.int z2), .val (.ref b1), .val (.ref b20), .val (.int dp0), .val (.int (1 : Int32))] [(.int (own_b (decide (se0.toInt = 0)))), (.int (1 : Int32))])) (fun tq kq => XS.ifNo X23.here hx rfl (hb hby at_138) rfl ((if0 _ _).trans (teq (x := dp0) (y := (0 : Int32)) (own_eqI.mpr hz0)).2) kq) ?_
        refine Gl.st (b := T23.setTop (mkF m 142 #[.val (.int z0), .val (.int z1), .val (.int z2), .val (.ref b1), .val (.ref b20), .val (.int dp0), .val (.int (1 : Int32))] [(.int (1 : Int32)), (.int (own_b (decide (se0.toInt = 0)))), (.int (1 : Int32))])) (fun tq kq => XS.iconst X23.here hx rfl (hb hby at_141) kq) ?_
        refine Gl.st (b := T23.setTop (mkF m 146 #[.val (.int z0), .val (.int z1), .val (.int z2), .val (.ref b1), .val (.ref b20), .val (.int dp0), .val (.int (1 : Int32))] [(.int (1 : Int32)), (.int (own_b (decide (se0.toInt = 0)))), (.int (1 : Int32))])) (fun tq kq => XS.goto X23.here hx rfl (pc0 := 142) (pc' := 146) rfl (hb hby at_142) (by decide) (by decide) kq) ?_
        refine Gl.st (b := T23.setTop (mkF m 149 #[.val (.int z0), .val (.int z1), .val (.int z2), .val (.ref b1), .val (.ref b20), .val (.int dp0), .val (.int (1 : Int32))] [(.int (1 : Int32))])) (fun tq kq => XS.icmpNo X23.here hx rfl (hb hby at_146) rfl (teq (x := own_b (decide (se0.toInt = 0))) (y := (1 : Int32)) (by rw [hsd0, decide_eq_true hz0]; rfl)).2 kq) ?_
        refine Gl.st (b := T23.setTop (mkF m 150 #[.val (.int z0), .val (.int z1), .val (.int z2), .val (.ref b1), .val (.ref b20), .val (.int dp0), .val (.int (1 : Int32))] [(.int (1 : Int32)), (.int (1 : Int32))])) (fun tq kq => XS.iconst X23.here hx rfl (hb hby at_149) kq) ?_
        refine Gl.st (b := T23.setTop (mkF m 154 #[.val (.int z0), .val (.int z1), .val (.int z2), .val (.ref b1), .val (.ref b20), .val (.int dp0), .val (.int (1 : Int32))] [(.int (1 : Int32)), (.int (1 : Int32))])) (fun tq kq => XS.goto X23.here hx rfl (pc0 := 150) (pc' := 154) rfl (hb hby at_150) (by decide) (by decide) kq) ?_
        refine Gl.st (b := T23.setTop (mkF m 155 #[.val (.int z0), .val (.int z1), .val (.int z2), .val (.ref b1), .val (.ref b20), .val (.int dp0), .val (.int (1 : Int32))] [(.int (1 : Int32))])) (fun tq kq => XS.iand X23.here hx rfl (hb hby at_154) rfl kq) ?_
        refine Gl.st (b := T23.setTop (mkF m 157 #[.val (.int z0), .val (.int z1), .val (.int z2), .val (.ref b1), .val (.ref b20), .val (.int dp0), .val (.int (1 : Int32))] [])) (fun tq kq => XS.istore X23.here hx rfl (hb hby at_155) rfl (l' := #[.val (.int z0), .val (.int z1), .val (.int z2), .val (.ref b1), .val (.ref b20), .val (.int dp0), .val (.int (1 : Int32))]) rfl kq) ?_
        exact tail0
      ·
        refine Gl.st (b := T23.setTop (mkF m 145 #[.val (.int z0), .val (.int z1), .val (.int z2), .val (.ref b1), .val (.ref b20), .val (.int dp0), .val (.int (1 : Int32))] [(.int (own_b (decide (se0.toInt = 0)))), (.int (1 : Int32))])) (fun tq kq => XS.ifYes X23.here hx rfl (pc0 := 138) (pc' := 145) rfl (hb hby at_138) rfl ((if0 _ _).trans (feq (x := dp0) (y := (0 : Int32)) (fun q => hz0 (own_eqI.mp q))).2) (by decide) (by decide) kq) ?_
        refine Gl.st (b := T23.setTop (mkF m 146 #[.val (.int z0), .val (.int z1), .val (.int z2), .val (.ref b1), .val (.ref b20), .val (.int dp0), .val (.int (1 : Int32))] [(.int (0 : Int32)), (.int (own_b (decide (se0.toInt = 0)))), (.int (1 : Int32))])) (fun tq kq => XS.iconst X23.here hx rfl (hb hby at_145) kq) ?_
        refine Gl.st (b := T23.setTop (mkF m 149 #[.val (.int z0), .val (.int z1), .val (.int z2), .val (.ref b1), .val (.ref b20), .val (.int dp0), .val (.int (1 : Int32))] [(.int (1 : Int32))])) (fun tq kq => XS.icmpNo X23.here hx rfl (hb hby at_146) rfl (teq (x := own_b (decide (se0.toInt = 0))) (y := (0 : Int32)) (by rw [hsd0, decide_eq_false hz0]; rfl)).2 kq) ?_
        refine Gl.st (b := T23.setTop (mkF m 150 #[.val (.int z0), .val (.int z1), .val (.int z2), .val (.ref b1), .val (.ref b20), .val (.int dp0), .val (.int (1 : Int32))] [(.int (1 : Int32)), (.int (1 : Int32))])) (fun tq kq => XS.iconst X23.here hx rfl (hb hby at_149) kq) ?_
        refine Gl.st (b := T23.setTop (mkF m 154 #[.val (.int z0), .val (.int z1), .val (.int z2), .val (.ref b1), .val (.ref b20), .val (.int dp0), .val (.int (1 : Int32))] [(.int (1 : Int32)), (.int (1 : Int32))])) (fun tq kq => XS.goto X23.here hx rfl (pc0 := 150) (pc' := 154) rfl (hb hby at_150) (by decide) (by decide) kq) ?_
        refine Gl.st (b := T23.setTop (mkF m 155 #[.val (.int z0), .val (.int z1), .val (.int z2), .val (.ref b1), .val (.ref b20), .val (.int dp0), .val (.int (1 : Int32))] [(.int (1 : Int32))])) (fun tq kq => XS.iand X23.here hx rfl (hb hby at_154) rfl kq) ?_
        refine Gl.st (b := T23.setTop (mkF m 157 #[.val (.int z0), .val (.int z1), .val (.int z2), .val (.ref b1), .val (.ref b20), .val (.int dp0), .val (.int (1 : Int32))] [])) (fun tq kq => XS.istore X23.here hx rfl (hb hby at_155) rfl (l' := #[.val (.int z0), .val (.int z1), .val (.int z2), .val (.ref b1), .val (.ref b20), .val (.int dp0), .val (.int (1 : Int32))]) rfl kq) ?_
        exact tail0
    refine Gl.st (b := T23.setTop (mkF m 159 #[.val (.int z0), .val (.int z1), .val (.int z2), .val (.ref b1), .val (.ref b20), .val (.int dp0), .val (.int (1 : Int32))] [(.int dp0)])) (fun tq kq => XS.iload X23.here hx rfl (hb hby at_157) rfl kq) ?_
    refine Gl.st (b := T23.setTop (mkF m 160 #[.val (.int z0), .val (.int z1), .val (.int z2), .val (.ref b1), .val (.ref b20), .val (.int dp0), .val (.int (1 : Int32))] [(.ref b1), (.int dp0)])) (fun tq kq => XS.aloadN X23.here hx rfl (hb hby at_159) rfl rfl kq) ?_
    refine Gl.st (b := T23.setTop (mkF m 161 #[.val (.int z0), .val (.int z1), .val (.int z2), .val (.ref b1), .val (.ref b20), .val (.int dp0), .val (.int (1 : Int32))] [(.int (1 : Int32)), (.ref b1), (.int dp0)])) (fun tq kq => XS.iconst X23.here hx rfl (hb hby at_160) kq) ?_
    have AC1 : Ar Z T23.heap b1 .char (([c0, c1, c2, c3, c4, c5, c6, c7, c8] : List Int32).map Value.int) := A_b1_23
    refine Gl.callP (W := 1) (argsL := [(.ref b1), (.int (1 : Int32))]) (rest := [(.int dp0)]) (w := (.int (own_dl ([c0, c1, c2, c3, c4, c5, c6, c7, c8] : List Int32) (1 : Int32)))) X23 hx hZ hown (hw _ (List.mem_of_getElem? (i := 16) rfl)) (hw _ (List.mem_of_getElem? (i := 17) rfl)) (hw _ (List.mem_of_getElem? (i := 3) rfl)) (hw _ (List.mem_of_getElem? (i := 18) rfl)) (by decide) (rm3 l Z a0 hw [] b1 (1 : Int32) ([c0, c1, c2, c3, c4, c5, c6, c7, c8] : List Int32) T23.heap n0 Z_23 AC1 (by decide) (show (1 : Int32).toInt < ((9 : Nat) : Int) by decide)) (by decide) (by decide) rfl N23 (by decide) (by decide) (by rw [hml]; rfl) (lenOf own_pd2 rfl) rfl rfl (Nat.le_of_eq rfl) (hb hby at_161) ?_
    intro T24 L24 X24 e24 N24
    show Gl _ _ _ _ _ _ _ (T24.setTop (mkF m 164 #[.val (.int z0), .val (.int z1), .val (.int z2), .val (.ref b1), .val (.ref b20), .val (.int dp0), .val (.int (1 : Int32))] [(.int (own_dl ([c0, c1, c2, c3, c4, c5, c6, c7, c8] : List Int32) (1 : Int32))), (.int dp0)]))
    refine Gl.st (b := T24.setTop (mkF m 165 #[.val (.int z0), .val (.int z1), .val (.int z2), .val (.ref b1), .val (.ref b20), .val (.int dp0), .val (.int (1 : Int32))] [(.int (dp0 + (own_dl ([c0, c1, c2, c3, c4, c5, c6, c7, c8] : List Int32) (1 : Int32))))])) (fun tq kq => XS.iadd X24.here hx rfl (hb hby at_164) rfl kq) ?_
    refine Gl.st (b := T24.setTop (mkF m 167 #[.val (.int z0), .val (.int z1), .val (.int z2), .val (.ref b1), .val (.ref b20), .val (.int (dp0 + (own_dl ([c0, c1, c2, c3, c4, c5, c6, c7, c8] : List Int32) (1 : Int32)))), .val (.int (1 : Int32))] [])) (fun tq kq => XS.istore X24.here hx rfl (hb hby at_165) rfl (l' := #[.val (.int z0), .val (.int z1), .val (.int z2), .val (.ref b1), .val (.ref b20), .val (.int (dp0 + (own_dl ([c0, c1, c2, c3, c4, c5, c6, c7, c8] : List Int32) (1 : Int32)))), .val (.int (1 : Int32))]) rfl kq) ?_
    obtain ⟨dp1, hdp1⟩ : ∃ q, q = (dp0 + (own_dl ([c0, c1, c2, c3, c4, c5, c6, c7, c8] : List Int32) (1 : Int32))) := ⟨_, rfl⟩
    rw [← hdp1]
    show Gl _ _ _ _ _ _ _ (T24.setTop (mkF m 167 #[.val (.int z0), .val (.int z1), .val (.int z2), .val (.ref b1), .val (.ref b20), .val (.int dp1), .val (.int (1 : Int32))] []))
    refine Gl.st (b := T24.setTop (mkF m 169 #[.val (.int z0), .val (.int z1), .val (.int z2), .val (.ref b1), .val (.ref b20), .val (.int dp1), .val (.int (1 : Int32))] [(.int (1 : Int32))])) (fun tq kq => XS.iload X24.here hx rfl (hb hby at_167) rfl kq) ?_
    refine Gl.st (b := T24.setTop (mkF m 171 #[.val (.int z0), .val (.int z1), .val (.int z2), .val (.ref b1), .val (.ref b20), .val (.int dp1), .val (.int (1 : Int32))] [(.ref b20), (.int (1 : Int32))])) (fun tq kq => XS.aload X24.here hx rfl (hb hby at_169) rfl rfl kq) ?_
    refine Gl.st (b := T24.setTop (mkF m 172 #[.val (.int z0), .val (.int z1), .val (.int z2), .val (.ref b1), .val (.ref b20), .val (.int dp1), .val (.int (1 : Int32))] [(.ref b1), (.ref b20), (.int (1 : Int32))])) (fun tq kq => XS.aloadN X24.here hx rfl (hb hby at_171) rfl rfl kq) ?_
    refine Gl.st (b := T24.setTop (mkF m 173 #[.val (.int z0), .val (.int z1), .val (.int z2), .val (.ref b1), .val (.ref b20), .val (.int dp1), .val (.int (1 : Int32))] [(.int (1 : Int32)), (.ref b1), (.ref b20), (.int (1 : Int32))])) (fun tq kq => XS.iconst X24.here hx rfl (hb hby at_172) kq) ?_
    refine Gl.caload (k := 1) (v := (.int c1)) X24 hx hZ e24 A_b1_23 rfl rfl (hb hby at_173) ?_
    show Gl _ _ _ _ _ _ _ (T24.setTop (mkF m 174 #[.val (.int z0), .val (.int z1), .val (.int z2), .val (.ref b1), .val (.ref b20), .val (.int dp1), .val (.int (1 : Int32))] [(.int c1), (.ref b20), (.int (1 : Int32))]))
    refine Gl.callV (W := 1) (argsL := [(.int c1)]) (rest := [(.int (1 : Int32))]) (a := b20) X24 hx hZ hown (hw _ (List.mem_of_getElem? (i := 19) rfl)) (hw _ (List.mem_of_getElem? (i := 20) rfl)) (hw _ (List.mem_of_getElem? (i := 22) rfl)) (hw _ (List.mem_of_getElem? (i := 21) rfl)) (hw _ (List.mem_of_getElem? (i := 7) rfl)) (hw _ (List.mem_of_getElem? (i := 23) rfl)) (by decide) (rm4 l Z a0 hw [] b20 c1 cl0 op0 se0 T23.heap n0 Z_23 B23 Fc23 Fo23 Fs23 G_b20) (by decide) (by decide) e24 B23 (by decide) (by decide) (by rw [hml]; rfl) (lenOf own_pd3 rfl) rfl rfl (Nat.le_of_eq rfl) (hb hby at_174) ?_
    intro T25 v25 L25 X25 hQ25
    obtain ⟨cl1, op1, se1, rfl, N25q, K25, B25, Fc25, Fo25, Fs25, hcl1, hop1, hse1⟩ := hQ25
    have N25 := N24.app N25q
    have Z_25 : n0 ≤ T25.heap.size := Nat.le_trans Z_23 K25.1
    have A_b1_25 := A_b1_23.keep K25 (ninS ne_b1_b20 nin0)
    have hI2 : own_I c0.toInt c1.toInt 2 cl1 op1 := by rw [hcl1, hop1]; exact own_Is c1 hI1 (by decide)
    have hsd1 : se1 = dp1 := by
      rw [hse1, own_Ie c1 _ hI1, hdp1, hsd0]
      first | rfl | (simp [own_dl, own_d, own_ch]; done)
    show Gl _ _ _ _ _ _ _ (T25.setTop (mkF m 177 #[.val (.int z0), .val (.int z1), .val (.int z2), .val (.ref b1), .val (.ref b20), .val (.int dp1), .val (.int (1 : Int32))] [(.int (own_b (decide (se1.toInt = 0)))), (.int (1 : Int32))]))
    refine Gl.st (b := T25.setTop (mkF m 179 #[.val (.int z0), .val (.int z1), .val (.int z2), .val (.ref b1), .val (.ref b20), .val (.int dp1), .val (.int (1 : Int32))] [(.int dp1), (.int (own_b (decide (se1.toInt = 0)))), (.int (1 : Int32))])) (fun tq kq => XS.iload X25.here hx rfl (hb hby at_177) rfl kq) ?_
    suffices tail1 : Gl p e below s (QL n0) 2 12 (T25.setTop (mkF m 198 #[.val (.int z0), .val (.int z1), .val (.int z2), .val (.ref b1), .val (.ref b20), .val (.int dp1), .val (.int (1 : Int32))] [])) by
      by_cases hz1 : dp1.toInt = 0
      ·
        refine Gl.st (b := T25.setTop (mkF m 182 #[.val (.int z0), .val (.int z1), .val (.int z2), .val (.ref b1), .val (.ref b20), .val (.int dp1), .val (.int (1 : Int32))] [(.int (own_b (decide (se1.toInt = 0)))), (.int (1 : Int32))])) (fun tq kq => XS.ifNo X25.here hx rfl (hb hby at_179) rfl ((if0 _ _).trans (teq (x := dp1) (y := (0 : Int32)) (own_eqI.mpr hz1)).2) kq) ?_
        refine Gl.st (b := T25.setTop (mkF m 183 #[.val (.int z0), .val (.int z1), .val (.int z2), .val (.ref b1), .val (.ref b20), .val (.int dp1), .val (.int (1 : Int32))] [(.int (1 : Int32)), (.int (own_b (decide (se1.toInt = 0)))), (.int (1 : Int32))])) (fun tq kq => XS.iconst X25.here hx rfl (hb hby at_182) kq) ?_
        refine Gl.st (b := T25.setTop (mkF m 187 #[.val (.int z0), .val (.int z1), .val (.int z2), .val (.ref b1), .val (.ref b20), .val (.int dp1), .val (.int (1 : Int32))] [(.int (1 : Int32)), (.int (own_b (decide (se1.toInt = 0)))), (.int (1 : Int32))])) (fun tq kq => XS.goto X25.here hx rfl (pc0 := 183) (pc' := 187) rfl (hb hby at_183) (by decide) (by decide) kq) ?_
        refine Gl.st (b := T25.setTop (mkF m 190 #[.val (.int z0), .val (.int z1), .val (.int z2), .val (.ref b1), .val (.ref b20), .val (.int dp1), .val (.int (1 : Int32))] [(.int (1 : Int32))])) (fun tq kq => XS.icmpNo X25.here hx rfl (hb hby at_187) rfl (teq (x := own_b (decide (se1.toInt = 0))) (y := (1 : Int32)) (by rw [hsd1, decide_eq_true hz1]; rfl)).2 kq) ?_
        refine Gl.st (b := T25.setTop (mkF m 191 #[.val (.int z0), .val (.int z1), .val (.int z2), .val (.ref b1), .val (.ref b20), .val (.int dp1), .val (.int (1 : Int32))] [(.int (1 : Int32)), (.int (1 : Int32))])) (fun tq kq => XS.iconst X25.here hx rfl (hb hby at_190) kq) ?_
        refine Gl.st (b := T25.setTop (mkF m 195 #[.val (.int z0), .val (.int z1), .val (.int z2), .val (.ref b1), .val (.ref b20), .val (.int dp1), .val (.int (1 : Int32))] [(.int (1 : Int32)), (.int (1 : Int32))])) (fun tq kq => XS.goto X25.here hx rfl (pc0 := 191) (pc' := 195) rfl (hb hby at_191) (by decide) (by decide) kq) ?_
        refine Gl.st (b := T25.setTop (mkF m 196 #[.val (.int z0), .val (.int z1), .val (.int z2), .val (.ref b1), .val (.ref b20), .val (.int dp1), .val (.int (1 : Int32))] [(.int (1 : Int32))])) (fun tq kq => XS.iand X25.here hx rfl (hb hby at_195) rfl kq) ?_
        refine Gl.st (b := T25.setTop (mkF m 198 #[.val (.int z0), .val (.int z1), .val (.int z2), .val (.ref b1), .val (.ref b20), .val (.int dp1), .val (.int (1 : Int32))] [])) (fun tq kq => XS.istore X25.here hx rfl (hb hby at_196) rfl (l' := #[.val (.int z0), .val (.int z1), .val (.int z2), .val (.ref b1), .val (.ref b20), .val (.int dp1), .val (.int (1 : Int32))]) rfl kq) ?_
        exact tail1
      ·
        refine Gl.st (b := T25.setTop (mkF m 186 #[.val (.int z0), .val (.int z1), .val (.int z2), .val (.ref b1), .val (.ref b20), .val (.int dp1), .val (.int (1 : Int32))] [(.int (own_b (decide (se1.toInt = 0)))), (.int (1 : Int32))])) (fun tq kq => XS.ifYes X25.here hx rfl (pc0 := 179) (pc' := 186) rfl (hb hby at_179) rfl ((if0 _ _).trans (feq (x := dp1) (y := (0 : Int32)) (fun q => hz1 (own_eqI.mp q))).2) (by decide) (by decide) kq) ?_
        refine Gl.st (b := T25.setTop (mkF m 187 #[.val (.int z0), .val (.int z1), .val (.int z2), .val (.ref b1), .val (.ref b20), .val (.int dp1), .val (.int (1 : Int32))] [(.int (0 : Int32)), (.int (own_b (decide (se1.toInt = 0)))), (.int (1 : Int32))])) (fun tq kq => XS.iconst X25.here hx rfl (hb hby at_186) kq) ?_
        refine Gl.st (b := T25.setTop (mkF m 190 #[.val (.int z0), .val (.int z1), .val (.int z2), .val (.ref b1), .val (.ref b20), .val (.int dp1), .val (.int (1 : Int32))] [(.int (1 : Int32))])) (fun tq kq => XS.icmpNo X25.here hx rfl (hb hby at_187) rfl (teq (x := own_b (decide (se1.toInt = 0))) (y := (0 : Int32)) (by rw [hsd1, decide_eq_false hz1]; rfl)).2 kq) ?_
        refine Gl.st (b := T25.setTop (mkF m 191 #[.val (.int z0), .val (.int z1), .val (.int z2), .val (.ref b1), .val (.ref b20), .val (.int dp1), .val (.int (1 : Int32))] [(.int (1 : Int32)), (.int (1 : Int32))])) (fun tq kq => XS.iconst X25.here hx rfl (hb hby at_190) kq) ?_
        refine Gl.st (b := T25.setTop (mkF m 195 #[.val (.int z0), .val (.int z1), .val (.int z2), .val (.ref b1), .val (.ref b20), .val (.int dp1), .val (.int (1 : Int32))] [(.int (1 : Int32)), (.int (1 : Int32))])) (fun tq kq => XS.goto X25.here hx rfl (pc0 := 191) (pc' := 195) rfl (hb hby at_191) (by decide) (by decide) kq) ?_
        refine Gl.st (b := T25.setTop (mkF m 196 #[.val (.int z0), .val (.int z1), .val (.int z2), .val (.ref b1), .val (.ref b20), .val (.int dp1), .val (.int (1 : Int32))] [(.int (1 : Int32))])) (fun tq kq => XS.iand X25.here hx rfl (hb hby at_195) rfl kq) ?_
        refine Gl.st (b := T25.setTop (mkF m 198 #[.val (.int z0), .val (.int z1), .val (.int z2), .val (.ref b1), .val (.ref b20), .val (.int dp1), .val (.int (1 : Int32))] [])) (fun tq kq => XS.istore X25.here hx rfl (hb hby at_196) rfl (l' := #[.val (.int z0), .val (.int z1), .val (.int z2), .val (.ref b1), .val (.ref b20), .val (.int dp1), .val (.int (1 : Int32))]) rfl kq) ?_
        exact tail1
    refine Gl.st (b := T25.setTop (mkF m 200 #[.val (.int z0), .val (.int z1), .val (.int z2), .val (.ref b1), .val (.ref b20), .val (.int dp1), .val (.int (1 : Int32))] [(.int dp1)])) (fun tq kq => XS.iload X25.here hx rfl (hb hby at_198) rfl kq) ?_
    refine Gl.st (b := T25.setTop (mkF m 201 #[.val (.int z0), .val (.int z1), .val (.int z2), .val (.ref b1), .val (.ref b20), .val (.int dp1), .val (.int (1 : Int32))] [(.ref b1), (.int dp1)])) (fun tq kq => XS.aloadN X25.here hx rfl (hb hby at_200) rfl rfl kq) ?_
    refine Gl.st (b := T25.setTop (mkF m 202 #[.val (.int z0), .val (.int z1), .val (.int z2), .val (.ref b1), .val (.ref b20), .val (.int dp1), .val (.int (1 : Int32))] [(.int (2 : Int32)), (.ref b1), (.int dp1)])) (fun tq kq => XS.iconst X25.here hx rfl (hb hby at_201) kq) ?_
    have AC2 : Ar Z T25.heap b1 .char (([c0, c1, c2, c3, c4, c5, c6, c7, c8] : List Int32).map Value.int) := A_b1_25
    refine Gl.callP (W := 1) (argsL := [(.ref b1), (.int (2 : Int32))]) (rest := [(.int dp1)]) (w := (.int (own_dl ([c0, c1, c2, c3, c4, c5, c6, c7, c8] : List Int32) (2 : Int32)))) X25 hx hZ hown (hw _ (List.mem_of_getElem? (i := 16) rfl)) (hw _ (List.mem_of_getElem? (i := 17) rfl)) (hw _ (List.mem_of_getElem? (i := 3) rfl)) (hw _ (List.mem_of_getElem? (i := 18) rfl)) (by decide) (rm3 l Z a0 hw [] b1 (2 : Int32) ([c0, c1, c2, c3, c4, c5, c6, c7, c8] : List Int32) T25.heap n0 Z_25 AC2 (by decide) (show (2 : Int32).toInt < ((9 : Nat) : Int) by decide)) (by decide) (by decide) rfl N25 (by decide) (by decide) (by rw [hml]; rfl) (lenOf own_pd2 rfl) rfl rfl (Nat.le_of_eq rfl) (hb hby at_202) ?_
    intro T26 L26 X26 e26 N26
    show Gl _ _ _ _ _ _ _ (T26.setTop (mkF m 205 #[.val (.int z0), .val (.int z1), .val (.int z2), .val (.ref b1), .val (.ref b20), .val (.int dp1), .val (.int (1 : Int32))] [(.int (own_dl ([c0, c1, c2, c3, c4, c5, c6, c7, c8] : List Int32) (2 : Int32))), (.int dp1)]))
    refine Gl.st (b := T26.setTop (mkF m 206 #[.val (.int z0), .val (.int z1), .val (.int z2), .val (.ref b1), .val (.ref b20), .val (.int dp1), .val (.int (1 : Int32))] [(.int (dp1 + (own_dl ([c0, c1, c2, c3, c4, c5, c6, c7, c8] : List Int32) (2 : Int32))))])) (fun tq kq => XS.iadd X26.here hx rfl (hb hby at_205) rfl kq) ?_
    refine Gl.st (b := T26.setTop (mkF m 208 #[.val (.int z0), .val (.int z1), .val (.int z2), .val (.ref b1), .val (.ref b20), .val (.int (dp1 + (own_dl ([c0, c1, c2, c3, c4, c5, c6, c7, c8] : List Int32) (2 : Int32)))), .val (.int (1 : Int32))] [])) (fun tq kq => XS.istore X26.here hx rfl (hb hby at_206) rfl (l' := #[.val (.int z0), .val (.int z1), .val (.int z2), .val (.ref b1), .val (.ref b20), .val (.int (dp1 + (own_dl ([c0, c1, c2, c3, c4, c5, c6, c7, c8] : List Int32) (2 : Int32)))), .val (.int (1 : Int32))]) rfl kq) ?_
    obtain ⟨dp2, hdp2⟩ : ∃ q, q = (dp1 + (own_dl ([c0, c1, c2, c3, c4, c5, c6, c7, c8] : List Int32) (2 : Int32))) := ⟨_, rfl⟩
    rw [← hdp2]
    show Gl _ _ _ _ _ _ _ (T26.setTop (mkF m 208 #[.val (.int z0), .val (.int z1), .val (.int z2), .val (.ref b1), .val (.ref b20), .val (.int dp2), .val (.int (1 : Int32))] []))
    refine Gl.st (b := T26.setTop (mkF m 210 #[.val (.int z0), .val (.int z1), .val (.int z2), .val (.ref b1), .val (.ref b20), .val (.int dp2), .val (.int (1 : Int32))] [(.int (1 : Int32))])) (fun tq kq => XS.iload X26.here hx rfl (hb hby at_208) rfl kq) ?_
    refine Gl.st (b := T26.setTop (mkF m 212 #[.val (.int z0), .val (.int z1), .val (.int z2), .val (.ref b1), .val (.ref b20), .val (.int dp2), .val (.int (1 : Int32))] [(.ref b20), (.int (1 : Int32))])) (fun tq kq => XS.aload X26.here hx rfl (hb hby at_210) rfl rfl kq) ?_
    refine Gl.st (b := T26.setTop (mkF m 213 #[.val (.int z0), .val (.int z1), .val (.int z2), .val (.ref b1), .val (.ref b20), .val (.int dp2), .val (.int (1 : Int32))] [(.ref b1), (.ref b20), (.int (1 : Int32))])) (fun tq kq => XS.aloadN X26.here hx rfl (hb hby at_212) rfl rfl kq) ?_
    refine Gl.st (b := T26.setTop (mkF m 214 #[.val (.int z0), .val (.int z1), .val (.int z2), .val (.ref b1), .val (.ref b20), .val (.int dp2), .val (.int (1 : Int32))] [(.int (2 : Int32)), (.ref b1), (.ref b20), (.int (1 : Int32))])) (fun tq kq => XS.iconst X26.here hx rfl (hb hby at_213) kq) ?_
    refine Gl.caload (k := 2) (v := (.int c2)) X26 hx hZ e26 A_b1_25 rfl rfl (hb hby at_214) ?_
    show Gl _ _ _ _ _ _ _ (T26.setTop (mkF m 215 #[.val (.int z0), .val (.int z1), .val (.int z2), .val (.ref b1), .val (.ref b20), .val (.int dp2), .val (.int (1 : Int32))] [(.int c2), (.ref b20), (.int (1 : Int32))]))
    refine Gl.callV (W := 1) (argsL := [(.int c2)]) (rest := [(.int (1 : Int32))]) (a := b20) X26 hx hZ hown (hw _ (List.mem_of_getElem? (i := 19) rfl)) (hw _ (List.mem_of_getElem? (i := 20) rfl)) (hw _ (List.mem_of_getElem? (i := 22) rfl)) (hw _ (List.mem_of_getElem? (i := 21) rfl)) (hw _ (List.mem_of_getElem? (i := 7) rfl)) (hw _ (List.mem_of_getElem? (i := 23) rfl)) (by decide) (rm4 l Z a0 hw [] b20 c2 cl1 op1 se1 T25.heap n0 Z_25 B25 Fc25 Fo25 Fs25 G_b20) (by decide) (by decide) e26 B25 (by decide) (by decide) (by rw [hml]; rfl) (lenOf own_pd3 rfl) rfl rfl (Nat.le_of_eq rfl) (hb hby at_215) ?_
    intro T27 v27 L27 X27 hQ27
    obtain ⟨cl2, op2, se2, rfl, N27q, K27, B27, Fc27, Fo27, Fs27, hcl2, hop2, hse2⟩ := hQ27
    have N27 := N26.app N27q
    have Z_27 : n0 ≤ T27.heap.size := Nat.le_trans Z_25 K27.1
    have A_b1_27 := A_b1_25.keep K27 (ninS ne_b1_b20 nin0)
    have hI3 : own_I c1.toInt c2.toInt 3 cl2 op2 := by rw [hcl2, hop2]; exact own_Is c2 hI2 (by decide)
    have hsd2 : se2 = dp2 := by
      rw [hse2, own_Ie c2 _ hI2, hdp2, hsd1]
      first | rfl | (simp [own_dl, own_d, own_ch]; done)
    show Gl _ _ _ _ _ _ _ (T27.setTop (mkF m 218 #[.val (.int z0), .val (.int z1), .val (.int z2), .val (.ref b1), .val (.ref b20), .val (.int dp2), .val (.int (1 : Int32))] [(.int (own_b (decide (se2.toInt = 0)))), (.int (1 : Int32))]))
    refine Gl.st (b := T27.setTop (mkF m 220 #[.val (.int z0), .val (.int z1), .val (.int z2), .val (.ref b1), .val (.ref b20), .val (.int dp2), .val (.int (1 : Int32))] [(.int dp2), (.int (own_b (decide (se2.toInt = 0)))), (.int (1 : Int32))])) (fun tq kq => XS.iload X27.here hx rfl (hb hby at_218) rfl kq) ?_
    suffices tail2 : Gl p e below s (QL n0) 2 12 (T27.setTop (mkF m 239 #[.val (.int z0), .val (.int z1), .val (.int z2), .val (.ref b1), .val (.ref b20), .val (.int dp2), .val (.int (1 : Int32))] [])) by
      by_cases hz2 : dp2.toInt = 0
      ·
        refine Gl.st (b := T27.setTop (mkF m 223 #[.val (.int z0), .val (.int z1), .val (.int z2), .val (.ref b1), .val (.ref b20), .val (.int dp2), .val (.int (1 : Int32))] [(.int (own_b (decide (se2.toInt = 0)))), (.int (1 : Int32))])) (fun tq kq => XS.ifNo X27.here hx rfl (hb hby at_220) rfl ((if0 _ _).trans (teq (x := dp2) (y := (0 : Int32)) (own_eqI.mpr hz2)).2) kq) ?_
        refine Gl.st (b := T27.setTop (mkF m 224 #[.val (.int z0), .val (.int z1), .val (.int z2), .val (.ref b1), .val (.ref b20), .val (.int dp2), .val (.int (1 : Int32))] [(.int (1 : Int32)), (.int (own_b (decide (se2.toInt = 0)))), (.int (1 : Int32))])) (fun tq kq => XS.iconst X27.here hx rfl (hb hby at_223) kq) ?_
        refine Gl.st (b := T27.setTop (mkF m 228 #[.val (.int z0), .val (.int z1), .val (.int z2), .val (.ref b1), .val (.ref b20), .val (.int dp2), .val (.int (1 : Int32))] [(.int (1 : Int32)), (.int (own_b (decide (se2.toInt = 0)))), (.int (1 : Int32))])) (fun tq kq => XS.goto X27.here hx rfl (pc0 := 224) (pc' := 228) rfl (hb hby at_224) (by decide) (by decide) kq) ?_
        refine Gl.st (b := T27.setTop (mkF m 231 #[.val (.int z0), .val (.int z1), .val (.int z2), .val (.ref b1), .val (.ref b20), .val (.int dp2), .val (.int (1 : Int32))] [(.int (1 : Int32))])) (fun tq kq => XS.icmpNo X27.here hx rfl (hb hby at_228) rfl (teq (x := own_b (decide (se2.toInt = 0))) (y := (1 : Int32)) (by rw [hsd2, decide_eq_true hz2]; rfl)).2 kq) ?_
        refine Gl.st (b := T27.setTop (mkF m 232 #[.val (.int z0), .val (.int z1), .val (.int z2), .val (.ref b1), .val (.ref b20), .val (.int dp2), .val (.int (1 : Int32))] [(.int (1 : Int32)), (.int (1 : Int32))])) (fun tq kq => XS.iconst X27.here hx rfl (hb hby at_231) kq) ?_
        refine Gl.st (b := T27.setTop (mkF m 236 #[.val (.int z0), .val (.int z1), .val (.int z2), .val (.ref b1), .val (.ref b20), .val (.int dp2), .val (.int (1 : Int32))] [(.int (1 : Int32)), (.int (1 : Int32))])) (fun tq kq => XS.goto X27.here hx rfl (pc0 := 232) (pc' := 236) rfl (hb hby at_232) (by decide) (by decide) kq) ?_
        refine Gl.st (b := T27.setTop (mkF m 237 #[.val (.int z0), .val (.int z1), .val (.int z2), .val (.ref b1), .val (.ref b20), .val (.int dp2), .val (.int (1 : Int32))] [(.int (1 : Int32))])) (fun tq kq => XS.iand X27.here hx rfl (hb hby at_236) rfl kq) ?_
        refine Gl.st (b := T27.setTop (mkF m 239 #[.val (.int z0), .val (.int z1), .val (.int z2), .val (.ref b1), .val (.ref b20), .val (.int dp2), .val (.int (1 : Int32))] [])) (fun tq kq => XS.istore X27.here hx rfl (hb hby at_237) rfl (l' := #[.val (.int z0), .val (.int z1), .val (.int z2), .val (.ref b1), .val (.ref b20), .val (.int dp2), .val (.int (1 : Int32))]) rfl kq) ?_
        exact tail2
      ·
        refine Gl.st (b := T27.setTop (mkF m 227 #[.val (.int z0), .val (.int z1), .val (.int z2), .val (.ref b1), .val (.ref b20), .val (.int dp2), .val (.int (1 : Int32))] [(.int (own_b (decide (se2.toInt = 0)))), (.int (1 : Int32))])) (fun tq kq => XS.ifYes X27.here hx rfl (pc0 := 220) (pc' := 227) rfl (hb hby at_220) rfl ((if0 _ _).trans (feq (x := dp2) (y := (0 : Int32)) (fun q => hz2 (own_eqI.mp q))).2) (by decide) (by decide) kq) ?_
        refine Gl.st (b := T27.setTop (mkF m 228 #[.val (.int z0), .val (.int z1), .val (.int z2), .val (.ref b1), .val (.ref b20), .val (.int dp2), .val (.int (1 : Int32))] [(.int (0 : Int32)), (.int (own_b (decide (se2.toInt = 0)))), (.int (1 : Int32))])) (fun tq kq => XS.iconst X27.here hx rfl (hb hby at_227) kq) ?_
        refine Gl.st (b := T27.setTop (mkF m 231 #[.val (.int z0), .val (.int z1), .val (.int z2), .val (.ref b1), .val (.ref b20), .val (.int dp2), .val (.int (1 : Int32))] [(.int (1 : Int32))])) (fun tq kq => XS.icmpNo X27.here hx rfl (hb hby at_228) rfl (teq (x := own_b (decide (se2.toInt = 0))) (y := (0 : Int32)) (by rw [hsd2, decide_eq_false hz2]; rfl)).2 kq) ?_
        refine Gl.st (b := T27.setTop (mkF m 232 #[.val (.int z0), .val (.int z1), .val (.int z2), .val (.ref b1), .val (.ref b20), .val (.int dp2), .val (.int (1 : Int32))] [(.int (1 : Int32)), (.int (1 : Int32))])) (fun tq kq => XS.iconst X27.here hx rfl (hb hby at_231) kq) ?_
        refine Gl.st (b := T27.setTop (mkF m 236 #[.val (.int z0), .val (.int z1), .val (.int z2), .val (.ref b1), .val (.ref b20), .val (.int dp2), .val (.int (1 : Int32))] [(.int (1 : Int32)), (.int (1 : Int32))])) (fun tq kq => XS.goto X27.here hx rfl (pc0 := 232) (pc' := 236) rfl (hb hby at_232) (by decide) (by decide) kq) ?_
        refine Gl.st (b := T27.setTop (mkF m 237 #[.val (.int z0), .val (.int z1), .val (.int z2), .val (.ref b1), .val (.ref b20), .val (.int dp2), .val (.int (1 : Int32))] [(.int (1 : Int32))])) (fun tq kq => XS.iand X27.here hx rfl (hb hby at_236) rfl kq) ?_
        refine Gl.st (b := T27.setTop (mkF m 239 #[.val (.int z0), .val (.int z1), .val (.int z2), .val (.ref b1), .val (.ref b20), .val (.int dp2), .val (.int (1 : Int32))] [])) (fun tq kq => XS.istore X27.here hx rfl (hb hby at_237) rfl (l' := #[.val (.int z0), .val (.int z1), .val (.int z2), .val (.ref b1), .val (.ref b20), .val (.int dp2), .val (.int (1 : Int32))]) rfl kq) ?_
        exact tail2
    refine Gl.st (b := T27.setTop (mkF m 241 #[.val (.int z0), .val (.int z1), .val (.int z2), .val (.ref b1), .val (.ref b20), .val (.int dp2), .val (.int (1 : Int32))] [(.int dp2)])) (fun tq kq => XS.iload X27.here hx rfl (hb hby at_239) rfl kq) ?_
    refine Gl.st (b := T27.setTop (mkF m 242 #[.val (.int z0), .val (.int z1), .val (.int z2), .val (.ref b1), .val (.ref b20), .val (.int dp2), .val (.int (1 : Int32))] [(.ref b1), (.int dp2)])) (fun tq kq => XS.aloadN X27.here hx rfl (hb hby at_241) rfl rfl kq) ?_
    refine Gl.st (b := T27.setTop (mkF m 243 #[.val (.int z0), .val (.int z1), .val (.int z2), .val (.ref b1), .val (.ref b20), .val (.int dp2), .val (.int (1 : Int32))] [(.int (3 : Int32)), (.ref b1), (.int dp2)])) (fun tq kq => XS.iconst X27.here hx rfl (hb hby at_242) kq) ?_
    have AC3 : Ar Z T27.heap b1 .char (([c0, c1, c2, c3, c4, c5, c6, c7, c8] : List Int32).map Value.int) := A_b1_27
    refine Gl.callP (W := 1) (argsL := [(.ref b1), (.int (3 : Int32))]) (rest := [(.int dp2)]) (w := (.int (own_dl ([c0, c1, c2, c3, c4, c5, c6, c7, c8] : List Int32) (3 : Int32)))) X27 hx hZ hown (hw _ (List.mem_of_getElem? (i := 16) rfl)) (hw _ (List.mem_of_getElem? (i := 17) rfl)) (hw _ (List.mem_of_getElem? (i := 3) rfl)) (hw _ (List.mem_of_getElem? (i := 18) rfl)) (by decide) (rm3 l Z a0 hw [] b1 (3 : Int32) ([c0, c1, c2, c3, c4, c5, c6, c7, c8] : List Int32) T27.heap n0 Z_27 AC3 (by decide) (show (3 : Int32).toInt < ((9 : Nat) : Int) by decide)) (by decide) (by decide) rfl N27 (by decide) (by decide) (by rw [hml]; rfl) (lenOf own_pd2 rfl) rfl rfl (Nat.le_of_eq rfl) (hb hby at_243) ?_
    intro T28 L28 X28 e28 N28
    show Gl _ _ _ _ _ _ _ (T28.setTop (mkF m 246 #[.val (.int z0), .val (.int z1), .val (.int z2), .val (.ref b1), .val (.ref b20), .val (.int dp2), .val (.int (1 : Int32))] [(.int (own_dl ([c0, c1, c2, c3, c4, c5, c6, c7, c8] : List Int32) (3 : Int32))), (.int dp2)]))
    refine Gl.st (b := T28.setTop (mkF m 247 #[.val (.int z0), .val (.int z1), .val (.int z2), .val (.ref b1), .val (.ref b20), .val (.int dp2), .val (.int (1 : Int32))] [(.int (dp2 + (own_dl ([c0, c1, c2, c3, c4, c5, c6, c7, c8] : List Int32) (3 : Int32))))])) (fun tq kq => XS.iadd X28.here hx rfl (hb hby at_246) rfl kq) ?_
    refine Gl.st (b := T28.setTop (mkF m 249 #[.val (.int z0), .val (.int z1), .val (.int z2), .val (.ref b1), .val (.ref b20), .val (.int (dp2 + (own_dl ([c0, c1, c2, c3, c4, c5, c6, c7, c8] : List Int32) (3 : Int32)))), .val (.int (1 : Int32))] [])) (fun tq kq => XS.istore X28.here hx rfl (hb hby at_247) rfl (l' := #[.val (.int z0), .val (.int z1), .val (.int z2), .val (.ref b1), .val (.ref b20), .val (.int (dp2 + (own_dl ([c0, c1, c2, c3, c4, c5, c6, c7, c8] : List Int32) (3 : Int32)))), .val (.int (1 : Int32))]) rfl kq) ?_
    obtain ⟨dp3, hdp3⟩ : ∃ q, q = (dp2 + (own_dl ([c0, c1, c2, c3, c4, c5, c6, c7, c8] : List Int32) (3 : Int32))) := ⟨_, rfl⟩
    rw [← hdp3]
    show Gl _ _ _ _ _ _ _ (T28.setTop (mkF m 249 #[.val (.int z0), .val (.int z1), .val (.int z2), .val (.ref b1), .val (.ref b20), .val (.int dp3), .val (.int (1 : Int32))] []))
    refine Gl.st (b := T28.setTop (mkF m 251 #[.val (.int z0), .val (.int z1), .val (.int z2), .val (.ref b1), .val (.ref b20), .val (.int dp3), .val (.int (1 : Int32))] [(.int (1 : Int32))])) (fun tq kq => XS.iload X28.here hx rfl (hb hby at_249) rfl kq) ?_
    refine Gl.st (b := T28.setTop (mkF m 253 #[.val (.int z0), .val (.int z1), .val (.int z2), .val (.ref b1), .val (.ref b20), .val (.int dp3), .val (.int (1 : Int32))] [(.ref b20), (.int (1 : Int32))])) (fun tq kq => XS.aload X28.here hx rfl (hb hby at_251) rfl rfl kq) ?_
    refine Gl.st (b := T28.setTop (mkF m 254 #[.val (.int z0), .val (.int z1), .val (.int z2), .val (.ref b1), .val (.ref b20), .val (.int dp3), .val (.int (1 : Int32))] [(.ref b1), (.ref b20), (.int (1 : Int32))])) (fun tq kq => XS.aloadN X28.here hx rfl (hb hby at_253) rfl rfl kq) ?_
    refine Gl.st (b := T28.setTop (mkF m 255 #[.val (.int z0), .val (.int z1), .val (.int z2), .val (.ref b1), .val (.ref b20), .val (.int dp3), .val (.int (1 : Int32))] [(.int (3 : Int32)), (.ref b1), (.ref b20), (.int (1 : Int32))])) (fun tq kq => XS.iconst X28.here hx rfl (hb hby at_254) kq) ?_
    refine Gl.caload (k := 3) (v := (.int c3)) X28 hx hZ e28 A_b1_27 rfl rfl (hb hby at_255) ?_
    show Gl _ _ _ _ _ _ _ (T28.setTop (mkF m 256 #[.val (.int z0), .val (.int z1), .val (.int z2), .val (.ref b1), .val (.ref b20), .val (.int dp3), .val (.int (1 : Int32))] [(.int c3), (.ref b20), (.int (1 : Int32))]))
    refine Gl.callV (W := 1) (argsL := [(.int c3)]) (rest := [(.int (1 : Int32))]) (a := b20) X28 hx hZ hown (hw _ (List.mem_of_getElem? (i := 19) rfl)) (hw _ (List.mem_of_getElem? (i := 20) rfl)) (hw _ (List.mem_of_getElem? (i := 22) rfl)) (hw _ (List.mem_of_getElem? (i := 21) rfl)) (hw _ (List.mem_of_getElem? (i := 7) rfl)) (hw _ (List.mem_of_getElem? (i := 23) rfl)) (by decide) (rm4 l Z a0 hw [] b20 c3 cl2 op2 se2 T27.heap n0 Z_27 B27 Fc27 Fo27 Fs27 G_b20) (by decide) (by decide) e28 B27 (by decide) (by decide) (by rw [hml]; rfl) (lenOf own_pd3 rfl) rfl rfl (Nat.le_of_eq rfl) (hb hby at_256) ?_
    intro T29 v29 L29 X29 hQ29
    obtain ⟨cl3, op3, se3, rfl, N29q, K29, B29, Fc29, Fo29, Fs29, hcl3, hop3, hse3⟩ := hQ29
    have N29 := N28.app N29q
    have Z_29 : n0 ≤ T29.heap.size := Nat.le_trans Z_27 K29.1
    have A_b1_29 := A_b1_27.keep K29 (ninS ne_b1_b20 nin0)
    have hI4 : own_I c2.toInt c3.toInt 4 cl3 op3 := by rw [hcl3, hop3]; exact own_Is c3 hI3 (by decide)
    have hsd3 : se3 = dp3 := by
      rw [hse3, own_Ie c3 _ hI3, hdp3, hsd2]
      first | rfl | (simp [own_dl, own_d, own_ch]; done)
    show Gl _ _ _ _ _ _ _ (T29.setTop (mkF m 259 #[.val (.int z0), .val (.int z1), .val (.int z2), .val (.ref b1), .val (.ref b20), .val (.int dp3), .val (.int (1 : Int32))] [(.int (own_b (decide (se3.toInt = 0)))), (.int (1 : Int32))]))
    refine Gl.st (b := T29.setTop (mkF m 261 #[.val (.int z0), .val (.int z1), .val (.int z2), .val (.ref b1), .val (.ref b20), .val (.int dp3), .val (.int (1 : Int32))] [(.int dp3), (.int (own_b (decide (se3.toInt = 0)))), (.int (1 : Int32))])) (fun tq kq => XS.iload X29.here hx rfl (hb hby at_259) rfl kq) ?_
    suffices tail3 : Gl p e below s (QL n0) 2 12 (T29.setTop (mkF m 280 #[.val (.int z0), .val (.int z1), .val (.int z2), .val (.ref b1), .val (.ref b20), .val (.int dp3), .val (.int (1 : Int32))] [])) by
      by_cases hz3 : dp3.toInt = 0
      ·
        refine Gl.st (b := T29.setTop (mkF m 264 #[.val (.int z0), .val (.int z1), .val (.int z2), .val (.ref b1), .val (.ref b20), .val (.int dp3), .val (.int (1 : Int32))] [(.int (own_b (decide (se3.toInt = 0)))), (.int (1 : Int32))])) (fun tq kq => XS.ifNo X29.here hx rfl (hb hby at_261) rfl ((if0 _ _).trans (teq (x := dp3) (y := (0 : Int32)) (own_eqI.mpr hz3)).2) kq) ?_
        refine Gl.st (b := T29.setTop (mkF m 265 #[.val (.int z0), .val (.int z1), .val (.int z2), .val (.ref b1), .val (.ref b20), .val (.int dp3), .val (.int (1 : Int32))] [(.int (1 : Int32)), (.int (own_b (decide (se3.toInt = 0)))), (.int (1 : Int32))])) (fun tq kq => XS.iconst X29.here hx rfl (hb hby at_264) kq) ?_
        refine Gl.st (b := T29.setTop (mkF m 269 #[.val (.int z0), .val (.int z1), .val (.int z2), .val (.ref b1), .val (.ref b20), .val (.int dp3), .val (.int (1 : Int32))] [(.int (1 : Int32)), (.int (own_b (decide (se3.toInt = 0)))), (.int (1 : Int32))])) (fun tq kq => XS.goto X29.here hx rfl (pc0 := 265) (pc' := 269) rfl (hb hby at_265) (by decide) (by decide) kq) ?_
        refine Gl.st (b := T29.setTop (mkF m 272 #[.val (.int z0), .val (.int z1), .val (.int z2), .val (.ref b1), .val (.ref b20), .val (.int dp3), .val (.int (1 : Int32))] [(.int (1 : Int32))])) (fun tq kq => XS.icmpNo X29.here hx rfl (hb hby at_269) rfl (teq (x := own_b (decide (se3.toInt = 0))) (y := (1 : Int32)) (by rw [hsd3, decide_eq_true hz3]; rfl)).2 kq) ?_
        refine Gl.st (b := T29.setTop (mkF m 273 #[.val (.int z0), .val (.int z1), .val (.int z2), .val (.ref b1), .val (.ref b20), .val (.int dp3), .val (.int (1 : Int32))] [(.int (1 : Int32)), (.int (1 : Int32))])) (fun tq kq => XS.iconst X29.here hx rfl (hb hby at_272) kq) ?_
        refine Gl.st (b := T29.setTop (mkF m 277 #[.val (.int z0), .val (.int z1), .val (.int z2), .val (.ref b1), .val (.ref b20), .val (.int dp3), .val (.int (1 : Int32))] [(.int (1 : Int32)), (.int (1 : Int32))])) (fun tq kq => XS.goto X29.here hx rfl (pc0 := 273) (pc' := 277) rfl (hb hby at_273) (by decide) (by decide) kq) ?_
        refine Gl.st (b := T29.setTop (mkF m 278 #[.val (.int z0), .val (.int z1), .val (.int z2), .val (.ref b1), .val (.ref b20), .val (.int dp3), .val (.int (1 : Int32))] [(.int (1 : Int32))])) (fun tq kq => XS.iand X29.here hx rfl (hb hby at_277) rfl kq) ?_
        refine Gl.st (b := T29.setTop (mkF m 280 #[.val (.int z0), .val (.int z1), .val (.int z2), .val (.ref b1), .val (.ref b20), .val (.int dp3), .val (.int (1 : Int32))] [])) (fun tq kq => XS.istore X29.here hx rfl (hb hby at_278) rfl (l' := #[.val (.int z0), .val (.int z1), .val (.int z2), .val (.ref b1), .val (.ref b20), .val (.int dp3), .val (.int (1 : Int32))]) rfl kq) ?_
        exact tail3
      ·
        refine Gl.st (b := T29.setTop (mkF m 268 #[.val (.int z0), .val (.int z1), .val (.int z2), .val (.ref b1), .val (.ref b20), .val (.int dp3), .val (.int (1 : Int32))] [(.int (own_b (decide (se3.toInt = 0)))), (.int (1 : Int32))])) (fun tq kq => XS.ifYes X29.here hx rfl (pc0 := 261) (pc' := 268) rfl (hb hby at_261) rfl ((if0 _ _).trans (feq (x := dp3) (y := (0 : Int32)) (fun q => hz3 (own_eqI.mp q))).2) (by decide) (by decide) kq) ?_
        refine Gl.st (b := T29.setTop (mkF m 269 #[.val (.int z0), .val (.int z1), .val (.int z2), .val (.ref b1), .val (.ref b20), .val (.int dp3), .val (.int (1 : Int32))] [(.int (0 : Int32)), (.int (own_b (decide (se3.toInt = 0)))), (.int (1 : Int32))])) (fun tq kq => XS.iconst X29.here hx rfl (hb hby at_268) kq) ?_
        refine Gl.st (b := T29.setTop (mkF m 272 #[.val (.int z0), .val (.int z1), .val (.int z2), .val (.ref b1), .val (.ref b20), .val (.int dp3), .val (.int (1 : Int32))] [(.int (1 : Int32))])) (fun tq kq => XS.icmpNo X29.here hx rfl (hb hby at_269) rfl (teq (x := own_b (decide (se3.toInt = 0))) (y := (0 : Int32)) (by rw [hsd3, decide_eq_false hz3]; rfl)).2 kq) ?_
        refine Gl.st (b := T29.setTop (mkF m 273 #[.val (.int z0), .val (.int z1), .val (.int z2), .val (.ref b1), .val (.ref b20), .val (.int dp3), .val (.int (1 : Int32))] [(.int (1 : Int32)), (.int (1 : Int32))])) (fun tq kq => XS.iconst X29.here hx rfl (hb hby at_272) kq) ?_
        refine Gl.st (b := T29.setTop (mkF m 277 #[.val (.int z0), .val (.int z1), .val (.int z2), .val (.ref b1), .val (.ref b20), .val (.int dp3), .val (.int (1 : Int32))] [(.int (1 : Int32)), (.int (1 : Int32))])) (fun tq kq => XS.goto X29.here hx rfl (pc0 := 273) (pc' := 277) rfl (hb hby at_273) (by decide) (by decide) kq) ?_
        refine Gl.st (b := T29.setTop (mkF m 278 #[.val (.int z0), .val (.int z1), .val (.int z2), .val (.ref b1), .val (.ref b20), .val (.int dp3), .val (.int (1 : Int32))] [(.int (1 : Int32))])) (fun tq kq => XS.iand X29.here hx rfl (hb hby at_277) rfl kq) ?_
        refine Gl.st (b := T29.setTop (mkF m 280 #[.val (.int z0), .val (.int z1), .val (.int z2), .val (.ref b1), .val (.ref b20), .val (.int dp3), .val (.int (1 : Int32))] [])) (fun tq kq => XS.istore X29.here hx rfl (hb hby at_278) rfl (l' := #[.val (.int z0), .val (.int z1), .val (.int z2), .val (.ref b1), .val (.ref b20), .val (.int dp3), .val (.int (1 : Int32))]) rfl kq) ?_
        exact tail3
    refine Gl.st (b := T29.setTop (mkF m 282 #[.val (.int z0), .val (.int z1), .val (.int z2), .val (.ref b1), .val (.ref b20), .val (.int dp3), .val (.int (1 : Int32))] [(.int dp3)])) (fun tq kq => XS.iload X29.here hx rfl (hb hby at_280) rfl kq) ?_
    refine Gl.st (b := T29.setTop (mkF m 283 #[.val (.int z0), .val (.int z1), .val (.int z2), .val (.ref b1), .val (.ref b20), .val (.int dp3), .val (.int (1 : Int32))] [(.ref b1), (.int dp3)])) (fun tq kq => XS.aloadN X29.here hx rfl (hb hby at_282) rfl rfl kq) ?_
    refine Gl.st (b := T29.setTop (mkF m 284 #[.val (.int z0), .val (.int z1), .val (.int z2), .val (.ref b1), .val (.ref b20), .val (.int dp3), .val (.int (1 : Int32))] [(.int (4 : Int32)), (.ref b1), (.int dp3)])) (fun tq kq => XS.iconst X29.here hx rfl (hb hby at_283) kq) ?_
    have AC4 : Ar Z T29.heap b1 .char (([c0, c1, c2, c3, c4, c5, c6, c7, c8] : List Int32).map Value.int) := A_b1_29
    refine Gl.callP (W := 1) (argsL := [(.ref b1), (.int (4 : Int32))]) (rest := [(.int dp3)]) (w := (.int (own_dl ([c0, c1, c2, c3, c4, c5, c6, c7, c8] : List Int32) (4 : Int32)))) X29 hx hZ hown (hw _ (List.mem_of_getElem? (i := 16) rfl)) (hw _ (List.mem_of_getElem? (i := 17) rfl)) (hw _ (List.mem_of_getElem? (i := 3) rfl)) (hw _ (List.mem_of_getElem? (i := 18) rfl)) (by decide) (rm3 l Z a0 hw [] b1 (4 : Int32) ([c0, c1, c2, c3, c4, c5, c6, c7, c8] : List Int32) T29.heap n0 Z_29 AC4 (by decide) (show (4 : Int32).toInt < ((9 : Nat) : Int) by decide)) (by decide) (by decide) rfl N29 (by decide) (by decide) (by rw [hml]; rfl) (lenOf own_pd2 rfl) rfl rfl (Nat.le_of_eq rfl) (hb hby at_284) ?_
    intro T30 L30 X30 e30 N30
    show Gl _ _ _ _ _ _ _ (T30.setTop (mkF m 287 #[.val (.int z0), .val (.int z1), .val (.int z2), .val (.ref b1), .val (.ref b20), .val (.int dp3), .val (.int (1 : Int32))] [(.int (own_dl ([c0, c1, c2, c3, c4, c5, c6, c7, c8] : List Int32) (4 : Int32))), (.int dp3)]))
    refine Gl.st (b := T30.setTop (mkF m 288 #[.val (.int z0), .val (.int z1), .val (.int z2), .val (.ref b1), .val (.ref b20), .val (.int dp3), .val (.int (1 : Int32))] [(.int (dp3 + (own_dl ([c0, c1, c2, c3, c4, c5, c6, c7, c8] : List Int32) (4 : Int32))))])) (fun tq kq => XS.iadd X30.here hx rfl (hb hby at_287) rfl kq) ?_
    refine Gl.st (b := T30.setTop (mkF m 290 #[.val (.int z0), .val (.int z1), .val (.int z2), .val (.ref b1), .val (.ref b20), .val (.int (dp3 + (own_dl ([c0, c1, c2, c3, c4, c5, c6, c7, c8] : List Int32) (4 : Int32)))), .val (.int (1 : Int32))] [])) (fun tq kq => XS.istore X30.here hx rfl (hb hby at_288) rfl (l' := #[.val (.int z0), .val (.int z1), .val (.int z2), .val (.ref b1), .val (.ref b20), .val (.int (dp3 + (own_dl ([c0, c1, c2, c3, c4, c5, c6, c7, c8] : List Int32) (4 : Int32)))), .val (.int (1 : Int32))]) rfl kq) ?_
    obtain ⟨dp4, hdp4⟩ : ∃ q, q = (dp3 + (own_dl ([c0, c1, c2, c3, c4, c5, c6, c7, c8] : List Int32) (4 : Int32))) := ⟨_, rfl⟩
    rw [← hdp4]
    show Gl _ _ _ _ _ _ _ (T30.setTop (mkF m 290 #[.val (.int z0), .val (.int z1), .val (.int z2), .val (.ref b1), .val (.ref b20), .val (.int dp4), .val (.int (1 : Int32))] []))
    refine Gl.st (b := T30.setTop (mkF m 292 #[.val (.int z0), .val (.int z1), .val (.int z2), .val (.ref b1), .val (.ref b20), .val (.int dp4), .val (.int (1 : Int32))] [(.int (1 : Int32))])) (fun tq kq => XS.iload X30.here hx rfl (hb hby at_290) rfl kq) ?_
    refine Gl.st (b := T30.setTop (mkF m 294 #[.val (.int z0), .val (.int z1), .val (.int z2), .val (.ref b1), .val (.ref b20), .val (.int dp4), .val (.int (1 : Int32))] [(.ref b20), (.int (1 : Int32))])) (fun tq kq => XS.aload X30.here hx rfl (hb hby at_292) rfl rfl kq) ?_
    refine Gl.st (b := T30.setTop (mkF m 295 #[.val (.int z0), .val (.int z1), .val (.int z2), .val (.ref b1), .val (.ref b20), .val (.int dp4), .val (.int (1 : Int32))] [(.ref b1), (.ref b20), (.int (1 : Int32))])) (fun tq kq => XS.aloadN X30.here hx rfl (hb hby at_294) rfl rfl kq) ?_
    refine Gl.st (b := T30.setTop (mkF m 296 #[.val (.int z0), .val (.int z1), .val (.int z2), .val (.ref b1), .val (.ref b20), .val (.int dp4), .val (.int (1 : Int32))] [(.int (4 : Int32)), (.ref b1), (.ref b20), (.int (1 : Int32))])) (fun tq kq => XS.iconst X30.here hx rfl (hb hby at_295) kq) ?_
    refine Gl.caload (k := 4) (v := (.int c4)) X30 hx hZ e30 A_b1_29 rfl rfl (hb hby at_296) ?_
    show Gl _ _ _ _ _ _ _ (T30.setTop (mkF m 297 #[.val (.int z0), .val (.int z1), .val (.int z2), .val (.ref b1), .val (.ref b20), .val (.int dp4), .val (.int (1 : Int32))] [(.int c4), (.ref b20), (.int (1 : Int32))]))
    refine Gl.callV (W := 1) (argsL := [(.int c4)]) (rest := [(.int (1 : Int32))]) (a := b20) X30 hx hZ hown (hw _ (List.mem_of_getElem? (i := 19) rfl)) (hw _ (List.mem_of_getElem? (i := 20) rfl)) (hw _ (List.mem_of_getElem? (i := 22) rfl)) (hw _ (List.mem_of_getElem? (i := 21) rfl)) (hw _ (List.mem_of_getElem? (i := 7) rfl)) (hw _ (List.mem_of_getElem? (i := 23) rfl)) (by decide) (rm4 l Z a0 hw [] b20 c4 cl3 op3 se3 T29.heap n0 Z_29 B29 Fc29 Fo29 Fs29 G_b20) (by decide) (by decide) e30 B29 (by decide) (by decide) (by rw [hml]; rfl) (lenOf own_pd3 rfl) rfl rfl (Nat.le_of_eq rfl) (hb hby at_297) ?_
    intro T31 v31 L31 X31 hQ31
    obtain ⟨cl4, op4, se4, rfl, N31q, K31, B31, Fc31, Fo31, Fs31, hcl4, hop4, hse4⟩ := hQ31
    have N31 := N30.app N31q
    have Z_31 : n0 ≤ T31.heap.size := Nat.le_trans Z_29 K31.1
    have A_b1_31 := A_b1_29.keep K31 (ninS ne_b1_b20 nin0)
    have hI5 : own_I c3.toInt c4.toInt 5 cl4 op4 := by rw [hcl4, hop4]; exact own_Is c4 hI4 (by decide)
    have hsd4 : se4 = dp4 := by
      rw [hse4, own_Ie c4 _ hI4, hdp4, hsd3]
      first | rfl | (simp [own_dl, own_d, own_ch]; done)
    show Gl _ _ _ _ _ _ _ (T31.setTop (mkF m 300 #[.val (.int z0), .val (.int z1), .val (.int z2), .val (.ref b1), .val (.ref b20), .val (.int dp4), .val (.int (1 : Int32))] [(.int (own_b (decide (se4.toInt = 0)))), (.int (1 : Int32))]))
    refine Gl.st (b := T31.setTop (mkF m 302 #[.val (.int z0), .val (.int z1), .val (.int z2), .val (.ref b1), .val (.ref b20), .val (.int dp4), .val (.int (1 : Int32))] [(.int dp4), (.int (own_b (decide (se4.toInt = 0)))), (.int (1 : Int32))])) (fun tq kq => XS.iload X31.here hx rfl (hb hby at_300) rfl kq) ?_
    suffices tail4 : Gl p e below s (QL n0) 2 12 (T31.setTop (mkF m 321 #[.val (.int z0), .val (.int z1), .val (.int z2), .val (.ref b1), .val (.ref b20), .val (.int dp4), .val (.int (1 : Int32))] [])) by
      by_cases hz4 : dp4.toInt = 0
      ·
        refine Gl.st (b := T31.setTop (mkF m 305 #[.val (.int z0), .val (.int z1), .val (.int z2), .val (.ref b1), .val (.ref b20), .val (.int dp4), .val (.int (1 : Int32))] [(.int (own_b (decide (se4.toInt = 0)))), (.int (1 : Int32))])) (fun tq kq => XS.ifNo X31.here hx rfl (hb hby at_302) rfl ((if0 _ _).trans (teq (x := dp4) (y := (0 : Int32)) (own_eqI.mpr hz4)).2) kq) ?_
        refine Gl.st (b := T31.setTop (mkF m 306 #[.val (.int z0), .val (.int z1), .val (.int z2), .val (.ref b1), .val (.ref b20), .val (.int dp4), .val (.int (1 : Int32))] [(.int (1 : Int32)), (.int (own_b (decide (se4.toInt = 0)))), (.int (1 : Int32))])) (fun tq kq => XS.iconst X31.here hx rfl (hb hby at_305) kq) ?_
        refine Gl.st (b := T31.setTop (mkF m 310 #[.val (.int z0), .val (.int z1), .val (.int z2), .val (.ref b1), .val (.ref b20), .val (.int dp4), .val (.int (1 : Int32))] [(.int (1 : Int32)), (.int (own_b (decide (se4.toInt = 0)))), (.int (1 : Int32))])) (fun tq kq => XS.goto X31.here hx rfl (pc0 := 306) (pc' := 310) rfl (hb hby at_306) (by decide) (by decide) kq) ?_
        refine Gl.st (b := T31.setTop (mkF m 313 #[.val (.int z0), .val (.int z1), .val (.int z2), .val (.ref b1), .val (.ref b20), .val (.int dp4), .val (.int (1 : Int32))] [(.int (1 : Int32))])) (fun tq kq => XS.icmpNo X31.here hx rfl (hb hby at_310) rfl (teq (x := own_b (decide (se4.toInt = 0))) (y := (1 : Int32)) (by rw [hsd4, decide_eq_true hz4]; rfl)).2 kq) ?_
        refine Gl.st (b := T31.setTop (mkF m 314 #[.val (.int z0), .val (.int z1), .val (.int z2), .val (.ref b1), .val (.ref b20), .val (.int dp4), .val (.int (1 : Int32))] [(.int (1 : Int32)), (.int (1 : Int32))])) (fun tq kq => XS.iconst X31.here hx rfl (hb hby at_313) kq) ?_
        refine Gl.st (b := T31.setTop (mkF m 318 #[.val (.int z0), .val (.int z1), .val (.int z2), .val (.ref b1), .val (.ref b20), .val (.int dp4), .val (.int (1 : Int32))] [(.int (1 : Int32)), (.int (1 : Int32))])) (fun tq kq => XS.goto X31.here hx rfl (pc0 := 314) (pc' := 318) rfl (hb hby at_314) (by decide) (by decide) kq) ?_
        refine Gl.st (b := T31.setTop (mkF m 319 #[.val (.int z0), .val (.int z1), .val (.int z2), .val (.ref b1), .val (.ref b20), .val (.int dp4), .val (.int (1 : Int32))] [(.int (1 : Int32))])) (fun tq kq => XS.iand X31.here hx rfl (hb hby at_318) rfl kq) ?_
        refine Gl.st (b := T31.setTop (mkF m 321 #[.val (.int z0), .val (.int z1), .val (.int z2), .val (.ref b1), .val (.ref b20), .val (.int dp4), .val (.int (1 : Int32))] [])) (fun tq kq => XS.istore X31.here hx rfl (hb hby at_319) rfl (l' := #[.val (.int z0), .val (.int z1), .val (.int z2), .val (.ref b1), .val (.ref b20), .val (.int dp4), .val (.int (1 : Int32))]) rfl kq) ?_
        exact tail4
      ·
        refine Gl.st (b := T31.setTop (mkF m 309 #[.val (.int z0), .val (.int z1), .val (.int z2), .val (.ref b1), .val (.ref b20), .val (.int dp4), .val (.int (1 : Int32))] [(.int (own_b (decide (se4.toInt = 0)))), (.int (1 : Int32))])) (fun tq kq => XS.ifYes X31.here hx rfl (pc0 := 302) (pc' := 309) rfl (hb hby at_302) rfl ((if0 _ _).trans (feq (x := dp4) (y := (0 : Int32)) (fun q => hz4 (own_eqI.mp q))).2) (by decide) (by decide) kq) ?_
        refine Gl.st (b := T31.setTop (mkF m 310 #[.val (.int z0), .val (.int z1), .val (.int z2), .val (.ref b1), .val (.ref b20), .val (.int dp4), .val (.int (1 : Int32))] [(.int (0 : Int32)), (.int (own_b (decide (se4.toInt = 0)))), (.int (1 : Int32))])) (fun tq kq => XS.iconst X31.here hx rfl (hb hby at_309) kq) ?_
        refine Gl.st (b := T31.setTop (mkF m 313 #[.val (.int z0), .val (.int z1), .val (.int z2), .val (.ref b1), .val (.ref b20), .val (.int dp4), .val (.int (1 : Int32))] [(.int (1 : Int32))])) (fun tq kq => XS.icmpNo X31.here hx rfl (hb hby at_310) rfl (teq (x := own_b (decide (se4.toInt = 0))) (y := (0 : Int32)) (by rw [hsd4, decide_eq_false hz4]; rfl)).2 kq) ?_
        refine Gl.st (b := T31.setTop (mkF m 314 #[.val (.int z0), .val (.int z1), .val (.int z2), .val (.ref b1), .val (.ref b20), .val (.int dp4), .val (.int (1 : Int32))] [(.int (1 : Int32)), (.int (1 : Int32))])) (fun tq kq => XS.iconst X31.here hx rfl (hb hby at_313) kq) ?_
        refine Gl.st (b := T31.setTop (mkF m 318 #[.val (.int z0), .val (.int z1), .val (.int z2), .val (.ref b1), .val (.ref b20), .val (.int dp4), .val (.int (1 : Int32))] [(.int (1 : Int32)), (.int (1 : Int32))])) (fun tq kq => XS.goto X31.here hx rfl (pc0 := 314) (pc' := 318) rfl (hb hby at_314) (by decide) (by decide) kq) ?_
        refine Gl.st (b := T31.setTop (mkF m 319 #[.val (.int z0), .val (.int z1), .val (.int z2), .val (.ref b1), .val (.ref b20), .val (.int dp4), .val (.int (1 : Int32))] [(.int (1 : Int32))])) (fun tq kq => XS.iand X31.here hx rfl (hb hby at_318) rfl kq) ?_
        refine Gl.st (b := T31.setTop (mkF m 321 #[.val (.int z0), .val (.int z1), .val (.int z2), .val (.ref b1), .val (.ref b20), .val (.int dp4), .val (.int (1 : Int32))] [])) (fun tq kq => XS.istore X31.here hx rfl (hb hby at_319) rfl (l' := #[.val (.int z0), .val (.int z1), .val (.int z2), .val (.ref b1), .val (.ref b20), .val (.int dp4), .val (.int (1 : Int32))]) rfl kq) ?_
        exact tail4
    refine Gl.st (b := T31.setTop (mkF m 323 #[.val (.int z0), .val (.int z1), .val (.int z2), .val (.ref b1), .val (.ref b20), .val (.int dp4), .val (.int (1 : Int32))] [(.int dp4)])) (fun tq kq => XS.iload X31.here hx rfl (hb hby at_321) rfl kq) ?_
    refine Gl.st (b := T31.setTop (mkF m 324 #[.val (.int z0), .val (.int z1), .val (.int z2), .val (.ref b1), .val (.ref b20), .val (.int dp4), .val (.int (1 : Int32))] [(.ref b1), (.int dp4)])) (fun tq kq => XS.aloadN X31.here hx rfl (hb hby at_323) rfl rfl kq) ?_
    refine Gl.st (b := T31.setTop (mkF m 325 #[.val (.int z0), .val (.int z1), .val (.int z2), .val (.ref b1), .val (.ref b20), .val (.int dp4), .val (.int (1 : Int32))] [(.int (5 : Int32)), (.ref b1), (.int dp4)])) (fun tq kq => XS.iconst X31.here hx rfl (hb hby at_324) kq) ?_
    have AC5 : Ar Z T31.heap b1 .char (([c0, c1, c2, c3, c4, c5, c6, c7, c8] : List Int32).map Value.int) := A_b1_31
    refine Gl.callP (W := 1) (argsL := [(.ref b1), (.int (5 : Int32))]) (rest := [(.int dp4)]) (w := (.int (own_dl ([c0, c1, c2, c3, c4, c5, c6, c7, c8] : List Int32) (5 : Int32)))) X31 hx hZ hown (hw _ (List.mem_of_getElem? (i := 16) rfl)) (hw _ (List.mem_of_getElem? (i := 17) rfl)) (hw _ (List.mem_of_getElem? (i := 3) rfl)) (hw _ (List.mem_of_getElem? (i := 18) rfl)) (by decide) (rm3 l Z a0 hw [] b1 (5 : Int32) ([c0, c1, c2, c3, c4, c5, c6, c7, c8] : List Int32) T31.heap n0 Z_31 AC5 (by decide) (show (5 : Int32).toInt < ((9 : Nat) : Int) by decide)) (by decide) (by decide) rfl N31 (by decide) (by decide) (by rw [hml]; rfl) (lenOf own_pd2 rfl) rfl rfl (Nat.le_of_eq rfl) (hb hby at_325) ?_
    intro T32 L32 X32 e32 N32
    show Gl _ _ _ _ _ _ _ (T32.setTop (mkF m 328 #[.val (.int z0), .val (.int z1), .val (.int z2), .val (.ref b1), .val (.ref b20), .val (.int dp4), .val (.int (1 : Int32))] [(.int (own_dl ([c0, c1, c2, c3, c4, c5, c6, c7, c8] : List Int32) (5 : Int32))), (.int dp4)]))
    refine Gl.st (b := T32.setTop (mkF m 329 #[.val (.int z0), .val (.int z1), .val (.int z2), .val (.ref b1), .val (.ref b20), .val (.int dp4), .val (.int (1 : Int32))] [(.int (dp4 + (own_dl ([c0, c1, c2, c3, c4, c5, c6, c7, c8] : List Int32) (5 : Int32))))])) (fun tq kq => XS.iadd X32.here hx rfl (hb hby at_328) rfl kq) ?_
    refine Gl.st (b := T32.setTop (mkF m 331 #[.val (.int z0), .val (.int z1), .val (.int z2), .val (.ref b1), .val (.ref b20), .val (.int (dp4 + (own_dl ([c0, c1, c2, c3, c4, c5, c6, c7, c8] : List Int32) (5 : Int32)))), .val (.int (1 : Int32))] [])) (fun tq kq => XS.istore X32.here hx rfl (hb hby at_329) rfl (l' := #[.val (.int z0), .val (.int z1), .val (.int z2), .val (.ref b1), .val (.ref b20), .val (.int (dp4 + (own_dl ([c0, c1, c2, c3, c4, c5, c6, c7, c8] : List Int32) (5 : Int32)))), .val (.int (1 : Int32))]) rfl kq) ?_
    obtain ⟨dp5, hdp5⟩ : ∃ q, q = (dp4 + (own_dl ([c0, c1, c2, c3, c4, c5, c6, c7, c8] : List Int32) (5 : Int32))) := ⟨_, rfl⟩
    rw [← hdp5]
    show Gl _ _ _ _ _ _ _ (T32.setTop (mkF m 331 #[.val (.int z0), .val (.int z1), .val (.int z2), .val (.ref b1), .val (.ref b20), .val (.int dp5), .val (.int (1 : Int32))] []))
    refine Gl.st (b := T32.setTop (mkF m 333 #[.val (.int z0), .val (.int z1), .val (.int z2), .val (.ref b1), .val (.ref b20), .val (.int dp5), .val (.int (1 : Int32))] [(.int (1 : Int32))])) (fun tq kq => XS.iload X32.here hx rfl (hb hby at_331) rfl kq) ?_
    refine Gl.st (b := T32.setTop (mkF m 335 #[.val (.int z0), .val (.int z1), .val (.int z2), .val (.ref b1), .val (.ref b20), .val (.int dp5), .val (.int (1 : Int32))] [(.ref b20), (.int (1 : Int32))])) (fun tq kq => XS.aload X32.here hx rfl (hb hby at_333) rfl rfl kq) ?_
    refine Gl.st (b := T32.setTop (mkF m 336 #[.val (.int z0), .val (.int z1), .val (.int z2), .val (.ref b1), .val (.ref b20), .val (.int dp5), .val (.int (1 : Int32))] [(.ref b1), (.ref b20), (.int (1 : Int32))])) (fun tq kq => XS.aloadN X32.here hx rfl (hb hby at_335) rfl rfl kq) ?_
    refine Gl.st (b := T32.setTop (mkF m 337 #[.val (.int z0), .val (.int z1), .val (.int z2), .val (.ref b1), .val (.ref b20), .val (.int dp5), .val (.int (1 : Int32))] [(.int (5 : Int32)), (.ref b1), (.ref b20), (.int (1 : Int32))])) (fun tq kq => XS.iconst X32.here hx rfl (hb hby at_336) kq) ?_
    refine Gl.caload (k := 5) (v := (.int c5)) X32 hx hZ e32 A_b1_31 rfl rfl (hb hby at_337) ?_
    show Gl _ _ _ _ _ _ _ (T32.setTop (mkF m 338 #[.val (.int z0), .val (.int z1), .val (.int z2), .val (.ref b1), .val (.ref b20), .val (.int dp5), .val (.int (1 : Int32))] [(.int c5), (.ref b20), (.int (1 : Int32))]))
    refine Gl.callV (W := 1) (argsL := [(.int c5)]) (rest := [(.int (1 : Int32))]) (a := b20) X32 hx hZ hown (hw _ (List.mem_of_getElem? (i := 19) rfl)) (hw _ (List.mem_of_getElem? (i := 20) rfl)) (hw _ (List.mem_of_getElem? (i := 22) rfl)) (hw _ (List.mem_of_getElem? (i := 21) rfl)) (hw _ (List.mem_of_getElem? (i := 7) rfl)) (hw _ (List.mem_of_getElem? (i := 23) rfl)) (by decide) (rm4 l Z a0 hw [] b20 c5 cl4 op4 se4 T31.heap n0 Z_31 B31 Fc31 Fo31 Fs31 G_b20) (by decide) (by decide) e32 B31 (by decide) (by decide) (by rw [hml]; rfl) (lenOf own_pd3 rfl) rfl rfl (Nat.le_of_eq rfl) (hb hby at_338) ?_
    intro T33 v33 L33 X33 hQ33
    obtain ⟨cl5, op5, se5, rfl, N33q, K33, B33, Fc33, Fo33, Fs33, hcl5, hop5, hse5⟩ := hQ33
    have N33 := N32.app N33q
    have Z_33 : n0 ≤ T33.heap.size := Nat.le_trans Z_31 K33.1
    have A_b1_33 := A_b1_31.keep K33 (ninS ne_b1_b20 nin0)
    have hI6 : own_I c4.toInt c5.toInt 6 cl5 op5 := by rw [hcl5, hop5]; exact own_Is c5 hI5 (by decide)
    have hsd5 : se5 = dp5 := by
      rw [hse5, own_Ie c5 _ hI5, hdp5, hsd4]
      first | rfl | (simp [own_dl, own_d, own_ch]; done)
    show Gl _ _ _ _ _ _ _ (T33.setTop (mkF m 341 #[.val (.int z0), .val (.int z1), .val (.int z2), .val (.ref b1), .val (.ref b20), .val (.int dp5), .val (.int (1 : Int32))] [(.int (own_b (decide (se5.toInt = 0)))), (.int (1 : Int32))]))
    refine Gl.st (b := T33.setTop (mkF m 343 #[.val (.int z0), .val (.int z1), .val (.int z2), .val (.ref b1), .val (.ref b20), .val (.int dp5), .val (.int (1 : Int32))] [(.int dp5), (.int (own_b (decide (se5.toInt = 0)))), (.int (1 : Int32))])) (fun tq kq => XS.iload X33.here hx rfl (hb hby at_341) rfl kq) ?_
    suffices tail5 : Gl p e below s (QL n0) 2 12 (T33.setTop (mkF m 362 #[.val (.int z0), .val (.int z1), .val (.int z2), .val (.ref b1), .val (.ref b20), .val (.int dp5), .val (.int (1 : Int32))] [])) by
      by_cases hz5 : dp5.toInt = 0
      ·
        refine Gl.st (b := T33.setTop (mkF m 346 #[.val (.int z0), .val (.int z1), .val (.int z2), .val (.ref b1), .val (.ref b20), .val (.int dp5), .val (.int (1 : Int32))] [(.int (own_b (decide (se5.toInt = 0)))), (.int (1 : Int32))])) (fun tq kq => XS.ifNo X33.here hx rfl (hb hby at_343) rfl ((if0 _ _).trans (teq (x := dp5) (y := (0 : Int32)) (own_eqI.mpr hz5)).2) kq) ?_
        refine Gl.st (b := T33.setTop (mkF m 347 #[.val (.int z0), .val (.int z1), .val (.int z2), .val (.ref b1), .val (.ref b20), .val (.int dp5), .val (.int (1 : Int32))] [(.int (1 : Int32)), (.int (own_b (decide (se5.toInt = 0)))), (.int (1 : Int32))])) (fun tq kq => XS.iconst X33.here hx rfl (hb hby at_346) kq) ?_
        refine Gl.st (b := T33.setTop (mkF m 351 #[.val (.int z0), .val (.int z1), .val (.int z2), .val (.ref b1), .val (.ref b20), .val (.int dp5), .val (.int (1 : Int32))] [(.int (1 : Int32)), (.int (own_b (decide (se5.toInt = 0)))), (.int (1 : Int32))])) (fun tq kq => XS.goto X33.here hx rfl (pc0 := 347) (pc' := 351) rfl (hb hby at_347) (by decide) (by decide) kq) ?_
        refine Gl.st (b := T33.setTop (mkF m 354 #[.val (.int z0), .val (.int z1), .val (.int z2), .val (.ref b1), .val (.ref b20), .val (.int dp5), .val (.int (1 : Int32))] [(.int (1 : Int32))])) (fun tq kq => XS.icmpNo X33.here hx rfl (hb hby at_351) rfl (teq (x := own_b (decide (se5.toInt = 0))) (y := (1 : Int32)) (by rw [hsd5, decide_eq_true hz5]; rfl)).2 kq) ?_
        refine Gl.st (b := T33.setTop (mkF m 355 #[.val (.int z0), .val (.int z1), .val (.int z2), .val (.ref b1), .val (.ref b20), .val (.int dp5), .val (.int (1 : Int32))] [(.int (1 : Int32)), (.int (1 : Int32))])) (fun tq kq => XS.iconst X33.here hx rfl (hb hby at_354) kq) ?_
        refine Gl.st (b := T33.setTop (mkF m 359 #[.val (.int z0), .val (.int z1), .val (.int z2), .val (.ref b1), .val (.ref b20), .val (.int dp5), .val (.int (1 : Int32))] [(.int (1 : Int32)), (.int (1 : Int32))])) (fun tq kq => XS.goto X33.here hx rfl (pc0 := 355) (pc' := 359) rfl (hb hby at_355) (by decide) (by decide) kq) ?_
        refine Gl.st (b := T33.setTop (mkF m 360 #[.val (.int z0), .val (.int z1), .val (.int z2), .val (.ref b1), .val (.ref b20), .val (.int dp5), .val (.int (1 : Int32))] [(.int (1 : Int32))])) (fun tq kq => XS.iand X33.here hx rfl (hb hby at_359) rfl kq) ?_
        refine Gl.st (b := T33.setTop (mkF m 362 #[.val (.int z0), .val (.int z1), .val (.int z2), .val (.ref b1), .val (.ref b20), .val (.int dp5), .val (.int (1 : Int32))] [])) (fun tq kq => XS.istore X33.here hx rfl (hb hby at_360) rfl (l' := #[.val (.int z0), .val (.int z1), .val (.int z2), .val (.ref b1), .val (.ref b20), .val (.int dp5), .val (.int (1 : Int32))]) rfl kq) ?_
        exact tail5
      ·
        refine Gl.st (b := T33.setTop (mkF m 350 #[.val (.int z0), .val (.int z1), .val (.int z2), .val (.ref b1), .val (.ref b20), .val (.int dp5), .val (.int (1 : Int32))] [(.int (own_b (decide (se5.toInt = 0)))), (.int (1 : Int32))])) (fun tq kq => XS.ifYes X33.here hx rfl (pc0 := 343) (pc' := 350) rfl (hb hby at_343) rfl ((if0 _ _).trans (feq (x := dp5) (y := (0 : Int32)) (fun q => hz5 (own_eqI.mp q))).2) (by decide) (by decide) kq) ?_
        refine Gl.st (b := T33.setTop (mkF m 351 #[.val (.int z0), .val (.int z1), .val (.int z2), .val (.ref b1), .val (.ref b20), .val (.int dp5), .val (.int (1 : Int32))] [(.int (0 : Int32)), (.int (own_b (decide (se5.toInt = 0)))), (.int (1 : Int32))])) (fun tq kq => XS.iconst X33.here hx rfl (hb hby at_350) kq) ?_
        refine Gl.st (b := T33.setTop (mkF m 354 #[.val (.int z0), .val (.int z1), .val (.int z2), .val (.ref b1), .val (.ref b20), .val (.int dp5), .val (.int (1 : Int32))] [(.int (1 : Int32))])) (fun tq kq => XS.icmpNo X33.here hx rfl (hb hby at_351) rfl (teq (x := own_b (decide (se5.toInt = 0))) (y := (0 : Int32)) (by rw [hsd5, decide_eq_false hz5]; rfl)).2 kq) ?_
        refine Gl.st (b := T33.setTop (mkF m 355 #[.val (.int z0), .val (.int z1), .val (.int z2), .val (.ref b1), .val (.ref b20), .val (.int dp5), .val (.int (1 : Int32))] [(.int (1 : Int32)), (.int (1 : Int32))])) (fun tq kq => XS.iconst X33.here hx rfl (hb hby at_354) kq) ?_
        refine Gl.st (b := T33.setTop (mkF m 359 #[.val (.int z0), .val (.int z1), .val (.int z2), .val (.ref b1), .val (.ref b20), .val (.int dp5), .val (.int (1 : Int32))] [(.int (1 : Int32)), (.int (1 : Int32))])) (fun tq kq => XS.goto X33.here hx rfl (pc0 := 355) (pc' := 359) rfl (hb hby at_355) (by decide) (by decide) kq) ?_
        refine Gl.st (b := T33.setTop (mkF m 360 #[.val (.int z0), .val (.int z1), .val (.int z2), .val (.ref b1), .val (.ref b20), .val (.int dp5), .val (.int (1 : Int32))] [(.int (1 : Int32))])) (fun tq kq => XS.iand X33.here hx rfl (hb hby at_359) rfl kq) ?_
        refine Gl.st (b := T33.setTop (mkF m 362 #[.val (.int z0), .val (.int z1), .val (.int z2), .val (.ref b1), .val (.ref b20), .val (.int dp5), .val (.int (1 : Int32))] [])) (fun tq kq => XS.istore X33.here hx rfl (hb hby at_360) rfl (l' := #[.val (.int z0), .val (.int z1), .val (.int z2), .val (.ref b1), .val (.ref b20), .val (.int dp5), .val (.int (1 : Int32))]) rfl kq) ?_
        exact tail5
    refine Gl.st (b := T33.setTop (mkF m 364 #[.val (.int z0), .val (.int z1), .val (.int z2), .val (.ref b1), .val (.ref b20), .val (.int dp5), .val (.int (1 : Int32))] [(.int dp5)])) (fun tq kq => XS.iload X33.here hx rfl (hb hby at_362) rfl kq) ?_
    refine Gl.st (b := T33.setTop (mkF m 365 #[.val (.int z0), .val (.int z1), .val (.int z2), .val (.ref b1), .val (.ref b20), .val (.int dp5), .val (.int (1 : Int32))] [(.ref b1), (.int dp5)])) (fun tq kq => XS.aloadN X33.here hx rfl (hb hby at_364) rfl rfl kq) ?_
    refine Gl.st (b := T33.setTop (mkF m 367 #[.val (.int z0), .val (.int z1), .val (.int z2), .val (.ref b1), .val (.ref b20), .val (.int dp5), .val (.int (1 : Int32))] [(.int (6 : Int32)), (.ref b1), (.int dp5)])) (fun tq kq => XS.bipush X33.here hx rfl (hb hby at_365) kq) ?_
    have AC6 : Ar Z T33.heap b1 .char (([c0, c1, c2, c3, c4, c5, c6, c7, c8] : List Int32).map Value.int) := A_b1_33
    refine Gl.callP (W := 1) (argsL := [(.ref b1), (.int (6 : Int32))]) (rest := [(.int dp5)]) (w := (.int (own_dl ([c0, c1, c2, c3, c4, c5, c6, c7, c8] : List Int32) (6 : Int32)))) X33 hx hZ hown (hw _ (List.mem_of_getElem? (i := 16) rfl)) (hw _ (List.mem_of_getElem? (i := 17) rfl)) (hw _ (List.mem_of_getElem? (i := 3) rfl)) (hw _ (List.mem_of_getElem? (i := 18) rfl)) (by decide) (rm3 l Z a0 hw [] b1 (6 : Int32) ([c0, c1, c2, c3, c4, c5, c6, c7, c8] : List Int32) T33.heap n0 Z_33 AC6 (by decide) (show (6 : Int32).toInt < ((9 : Nat) : Int) by decide)) (by decide) (by decide) rfl N33 (by decide) (by decide) (by rw [hml]; rfl) (lenOf own_pd2 rfl) rfl rfl (Nat.le_of_eq rfl) (hb hby at_367) ?_
    intro T34 L34 X34 e34 N34
    show Gl _ _ _ _ _ _ _ (T34.setTop (mkF m 370 #[.val (.int z0), .val (.int z1), .val (.int z2), .val (.ref b1), .val (.ref b20), .val (.int dp5), .val (.int (1 : Int32))] [(.int (own_dl ([c0, c1, c2, c3, c4, c5, c6, c7, c8] : List Int32) (6 : Int32))), (.int dp5)]))
    refine Gl.st (b := T34.setTop (mkF m 371 #[.val (.int z0), .val (.int z1), .val (.int z2), .val (.ref b1), .val (.ref b20), .val (.int dp5), .val (.int (1 : Int32))] [(.int (dp5 + (own_dl ([c0, c1, c2, c3, c4, c5, c6, c7, c8] : List Int32) (6 : Int32))))])) (fun tq kq => XS.iadd X34.here hx rfl (hb hby at_370) rfl kq) ?_
    refine Gl.st (b := T34.setTop (mkF m 373 #[.val (.int z0), .val (.int z1), .val (.int z2), .val (.ref b1), .val (.ref b20), .val (.int (dp5 + (own_dl ([c0, c1, c2, c3, c4, c5, c6, c7, c8] : List Int32) (6 : Int32)))), .val (.int (1 : Int32))] [])) (fun tq kq => XS.istore X34.here hx rfl (hb hby at_371) rfl (l' := #[.val (.int z0), .val (.int z1), .val (.int z2), .val (.ref b1), .val (.ref b20), .val (.int (dp5 + (own_dl ([c0, c1, c2, c3, c4, c5, c6, c7, c8] : List Int32) (6 : Int32)))), .val (.int (1 : Int32))]) rfl kq) ?_
    obtain ⟨dp6, hdp6⟩ : ∃ q, q = (dp5 + (own_dl ([c0, c1, c2, c3, c4, c5, c6, c7, c8] : List Int32) (6 : Int32))) := ⟨_, rfl⟩
    rw [← hdp6]
    show Gl _ _ _ _ _ _ _ (T34.setTop (mkF m 373 #[.val (.int z0), .val (.int z1), .val (.int z2), .val (.ref b1), .val (.ref b20), .val (.int dp6), .val (.int (1 : Int32))] []))
    refine Gl.st (b := T34.setTop (mkF m 375 #[.val (.int z0), .val (.int z1), .val (.int z2), .val (.ref b1), .val (.ref b20), .val (.int dp6), .val (.int (1 : Int32))] [(.int (1 : Int32))])) (fun tq kq => XS.iload X34.here hx rfl (hb hby at_373) rfl kq) ?_
    refine Gl.st (b := T34.setTop (mkF m 377 #[.val (.int z0), .val (.int z1), .val (.int z2), .val (.ref b1), .val (.ref b20), .val (.int dp6), .val (.int (1 : Int32))] [(.ref b20), (.int (1 : Int32))])) (fun tq kq => XS.aload X34.here hx rfl (hb hby at_375) rfl rfl kq) ?_
    refine Gl.st (b := T34.setTop (mkF m 378 #[.val (.int z0), .val (.int z1), .val (.int z2), .val (.ref b1), .val (.ref b20), .val (.int dp6), .val (.int (1 : Int32))] [(.ref b1), (.ref b20), (.int (1 : Int32))])) (fun tq kq => XS.aloadN X34.here hx rfl (hb hby at_377) rfl rfl kq) ?_
    refine Gl.st (b := T34.setTop (mkF m 380 #[.val (.int z0), .val (.int z1), .val (.int z2), .val (.ref b1), .val (.ref b20), .val (.int dp6), .val (.int (1 : Int32))] [(.int (6 : Int32)), (.ref b1), (.ref b20), (.int (1 : Int32))])) (fun tq kq => XS.bipush X34.here hx rfl (hb hby at_378) kq) ?_
    refine Gl.caload (k := 6) (v := (.int c6)) X34 hx hZ e34 A_b1_33 rfl rfl (hb hby at_380) ?_
    show Gl _ _ _ _ _ _ _ (T34.setTop (mkF m 381 #[.val (.int z0), .val (.int z1), .val (.int z2), .val (.ref b1), .val (.ref b20), .val (.int dp6), .val (.int (1 : Int32))] [(.int c6), (.ref b20), (.int (1 : Int32))]))
    refine Gl.callV (W := 1) (argsL := [(.int c6)]) (rest := [(.int (1 : Int32))]) (a := b20) X34 hx hZ hown (hw _ (List.mem_of_getElem? (i := 19) rfl)) (hw _ (List.mem_of_getElem? (i := 20) rfl)) (hw _ (List.mem_of_getElem? (i := 22) rfl)) (hw _ (List.mem_of_getElem? (i := 21) rfl)) (hw _ (List.mem_of_getElem? (i := 7) rfl)) (hw _ (List.mem_of_getElem? (i := 23) rfl)) (by decide) (rm4 l Z a0 hw [] b20 c6 cl5 op5 se5 T33.heap n0 Z_33 B33 Fc33 Fo33 Fs33 G_b20) (by decide) (by decide) e34 B33 (by decide) (by decide) (by rw [hml]; rfl) (lenOf own_pd3 rfl) rfl rfl (Nat.le_of_eq rfl) (hb hby at_381) ?_
    intro T35 v35 L35 X35 hQ35
    obtain ⟨cl6, op6, se6, rfl, N35q, K35, B35, Fc35, Fo35, Fs35, hcl6, hop6, hse6⟩ := hQ35
    have N35 := N34.app N35q
    have Z_35 : n0 ≤ T35.heap.size := Nat.le_trans Z_33 K35.1
    have A_b1_35 := A_b1_33.keep K35 (ninS ne_b1_b20 nin0)
    have hI7 : own_I c5.toInt c6.toInt 7 cl6 op6 := by rw [hcl6, hop6]; exact own_Is c6 hI6 (by decide)
    have hsd6 : se6 = dp6 := by
      rw [hse6, own_Ie c6 _ hI6, hdp6, hsd5]
      first | rfl | (simp [own_dl, own_d, own_ch]; done)
    show Gl _ _ _ _ _ _ _ (T35.setTop (mkF m 384 #[.val (.int z0), .val (.int z1), .val (.int z2), .val (.ref b1), .val (.ref b20), .val (.int dp6), .val (.int (1 : Int32))] [(.int (own_b (decide (se6.toInt = 0)))), (.int (1 : Int32))]))
    refine Gl.st (b := T35.setTop (mkF m 386 #[.val (.int z0), .val (.int z1), .val (.int z2), .val (.ref b1), .val (.ref b20), .val (.int dp6), .val (.int (1 : Int32))] [(.int dp6), (.int (own_b (decide (se6.toInt = 0)))), (.int (1 : Int32))])) (fun tq kq => XS.iload X35.here hx rfl (hb hby at_384) rfl kq) ?_
    suffices tail6 : Gl p e below s (QL n0) 2 12 (T35.setTop (mkF m 405 #[.val (.int z0), .val (.int z1), .val (.int z2), .val (.ref b1), .val (.ref b20), .val (.int dp6), .val (.int (1 : Int32))] [])) by
      by_cases hz6 : dp6.toInt = 0
      ·
        refine Gl.st (b := T35.setTop (mkF m 389 #[.val (.int z0), .val (.int z1), .val (.int z2), .val (.ref b1), .val (.ref b20), .val (.int dp6), .val (.int (1 : Int32))] [(.int (own_b (decide (se6.toInt = 0)))), (.int (1 : Int32))])) (fun tq kq => XS.ifNo X35.here hx rfl (hb hby at_386) rfl ((if0 _ _).trans (teq (x := dp6) (y := (0 : Int32)) (own_eqI.mpr hz6)).2) kq) ?_
        refine Gl.st (b := T35.setTop (mkF m 390 #[.val (.int z0), .val (.int z1), .val (.int z2), .val (.ref b1), .val (.ref b20), .val (.int dp6), .val (.int (1 : Int32))] [(.int (1 : Int32)), (.int (own_b (decide (se6.toInt = 0)))), (.int (1 : Int32))])) (fun tq kq => XS.iconst X35.here hx rfl (hb hby at_389) kq) ?_
        refine Gl.st (b := T35.setTop (mkF m 394 #[.val (.int z0), .val (.int z1), .val (.int z2), .val (.ref b1), .val (.ref b20), .val (.int dp6), .val (.int (1 : Int32))] [(.int (1 : Int32)), (.int (own_b (decide (se6.toInt = 0)))), (.int (1 : Int32))])) (fun tq kq => XS.goto X35.here hx rfl (pc0 := 390) (pc' := 394) rfl (hb hby at_390) (by decide) (by decide) kq) ?_
        refine Gl.st (b := T35.setTop (mkF m 397 #[.val (.int z0), .val (.int z1), .val (.int z2), .val (.ref b1), .val (.ref b20), .val (.int dp6), .val (.int (1 : Int32))] [(.int (1 : Int32))])) (fun tq kq => XS.icmpNo X35.here hx rfl (hb hby at_394) rfl (teq (x := own_b (decide (se6.toInt = 0))) (y := (1 : Int32)) (by rw [hsd6, decide_eq_true hz6]; rfl)).2 kq) ?_
        refine Gl.st (b := T35.setTop (mkF m 398 #[.val (.int z0), .val (.int z1), .val (.int z2), .val (.ref b1), .val (.ref b20), .val (.int dp6), .val (.int (1 : Int32))] [(.int (1 : Int32)), (.int (1 : Int32))])) (fun tq kq => XS.iconst X35.here hx rfl (hb hby at_397) kq) ?_
        refine Gl.st (b := T35.setTop (mkF m 402 #[.val (.int z0), .val (.int z1), .val (.int z2), .val (.ref b1), .val (.ref b20), .val (.int dp6), .val (.int (1 : Int32))] [(.int (1 : Int32)), (.int (1 : Int32))])) (fun tq kq => XS.goto X35.here hx rfl (pc0 := 398) (pc' := 402) rfl (hb hby at_398) (by decide) (by decide) kq) ?_
        refine Gl.st (b := T35.setTop (mkF m 403 #[.val (.int z0), .val (.int z1), .val (.int z2), .val (.ref b1), .val (.ref b20), .val (.int dp6), .val (.int (1 : Int32))] [(.int (1 : Int32))])) (fun tq kq => XS.iand X35.here hx rfl (hb hby at_402) rfl kq) ?_
        refine Gl.st (b := T35.setTop (mkF m 405 #[.val (.int z0), .val (.int z1), .val (.int z2), .val (.ref b1), .val (.ref b20), .val (.int dp6), .val (.int (1 : Int32))] [])) (fun tq kq => XS.istore X35.here hx rfl (hb hby at_403) rfl (l' := #[.val (.int z0), .val (.int z1), .val (.int z2), .val (.ref b1), .val (.ref b20), .val (.int dp6), .val (.int (1 : Int32))]) rfl kq) ?_
        exact tail6
      ·
        refine Gl.st (b := T35.setTop (mkF m 393 #[.val (.int z0), .val (.int z1), .val (.int z2), .val (.ref b1), .val (.ref b20), .val (.int dp6), .val (.int (1 : Int32))] [(.int (own_b (decide (se6.toInt = 0)))), (.int (1 : Int32))])) (fun tq kq => XS.ifYes X35.here hx rfl (pc0 := 386) (pc' := 393) rfl (hb hby at_386) rfl ((if0 _ _).trans (feq (x := dp6) (y := (0 : Int32)) (fun q => hz6 (own_eqI.mp q))).2) (by decide) (by decide) kq) ?_
        refine Gl.st (b := T35.setTop (mkF m 394 #[.val (.int z0), .val (.int z1), .val (.int z2), .val (.ref b1), .val (.ref b20), .val (.int dp6), .val (.int (1 : Int32))] [(.int (0 : Int32)), (.int (own_b (decide (se6.toInt = 0)))), (.int (1 : Int32))])) (fun tq kq => XS.iconst X35.here hx rfl (hb hby at_393) kq) ?_
        refine Gl.st (b := T35.setTop (mkF m 397 #[.val (.int z0), .val (.int z1), .val (.int z2), .val (.ref b1), .val (.ref b20), .val (.int dp6), .val (.int (1 : Int32))] [(.int (1 : Int32))])) (fun tq kq => XS.icmpNo X35.here hx rfl (hb hby at_394) rfl (teq (x := own_b (decide (se6.toInt = 0))) (y := (0 : Int32)) (by rw [hsd6, decide_eq_false hz6]; rfl)).2 kq) ?_
        refine Gl.st (b := T35.setTop (mkF m 398 #[.val (.int z0), .val (.int z1), .val (.int z2), .val (.ref b1), .val (.ref b20), .val (.int dp6), .val (.int (1 : Int32))] [(.int (1 : Int32)), (.int (1 : Int32))])) (fun tq kq => XS.iconst X35.here hx rfl (hb hby at_397) kq) ?_
        refine Gl.st (b := T35.setTop (mkF m 402 #[.val (.int z0), .val (.int z1), .val (.int z2), .val (.ref b1), .val (.ref b20), .val (.int dp6), .val (.int (1 : Int32))] [(.int (1 : Int32)), (.int (1 : Int32))])) (fun tq kq => XS.goto X35.here hx rfl (pc0 := 398) (pc' := 402) rfl (hb hby at_398) (by decide) (by decide) kq) ?_
        refine Gl.st (b := T35.setTop (mkF m 403 #[.val (.int z0), .val (.int z1), .val (.int z2), .val (.ref b1), .val (.ref b20), .val (.int dp6), .val (.int (1 : Int32))] [(.int (1 : Int32))])) (fun tq kq => XS.iand X35.here hx rfl (hb hby at_402) rfl kq) ?_
        refine Gl.st (b := T35.setTop (mkF m 405 #[.val (.int z0), .val (.int z1), .val (.int z2), .val (.ref b1), .val (.ref b20), .val (.int dp6), .val (.int (1 : Int32))] [])) (fun tq kq => XS.istore X35.here hx rfl (hb hby at_403) rfl (l' := #[.val (.int z0), .val (.int z1), .val (.int z2), .val (.ref b1), .val (.ref b20), .val (.int dp6), .val (.int (1 : Int32))]) rfl kq) ?_
        exact tail6
    refine Gl.st (b := T35.setTop (mkF m 407 #[.val (.int z0), .val (.int z1), .val (.int z2), .val (.ref b1), .val (.ref b20), .val (.int dp6), .val (.int (1 : Int32))] [(.int dp6)])) (fun tq kq => XS.iload X35.here hx rfl (hb hby at_405) rfl kq) ?_
    refine Gl.st (b := T35.setTop (mkF m 408 #[.val (.int z0), .val (.int z1), .val (.int z2), .val (.ref b1), .val (.ref b20), .val (.int dp6), .val (.int (1 : Int32))] [(.ref b1), (.int dp6)])) (fun tq kq => XS.aloadN X35.here hx rfl (hb hby at_407) rfl rfl kq) ?_
    refine Gl.st (b := T35.setTop (mkF m 410 #[.val (.int z0), .val (.int z1), .val (.int z2), .val (.ref b1), .val (.ref b20), .val (.int dp6), .val (.int (1 : Int32))] [(.int (7 : Int32)), (.ref b1), (.int dp6)])) (fun tq kq => XS.bipush X35.here hx rfl (hb hby at_408) kq) ?_
    have AC7 : Ar Z T35.heap b1 .char (([c0, c1, c2, c3, c4, c5, c6, c7, c8] : List Int32).map Value.int) := A_b1_35
    refine Gl.callP (W := 1) (argsL := [(.ref b1), (.int (7 : Int32))]) (rest := [(.int dp6)]) (w := (.int (own_dl ([c0, c1, c2, c3, c4, c5, c6, c7, c8] : List Int32) (7 : Int32)))) X35 hx hZ hown (hw _ (List.mem_of_getElem? (i := 16) rfl)) (hw _ (List.mem_of_getElem? (i := 17) rfl)) (hw _ (List.mem_of_getElem? (i := 3) rfl)) (hw _ (List.mem_of_getElem? (i := 18) rfl)) (by decide) (rm3 l Z a0 hw [] b1 (7 : Int32) ([c0, c1, c2, c3, c4, c5, c6, c7, c8] : List Int32) T35.heap n0 Z_35 AC7 (by decide) (show (7 : Int32).toInt < ((9 : Nat) : Int) by decide)) (by decide) (by decide) rfl N35 (by decide) (by decide) (by rw [hml]; rfl) (lenOf own_pd2 rfl) rfl rfl (Nat.le_of_eq rfl) (hb hby at_410) ?_
    intro T36 L36 X36 e36 N36
    show Gl _ _ _ _ _ _ _ (T36.setTop (mkF m 413 #[.val (.int z0), .val (.int z1), .val (.int z2), .val (.ref b1), .val (.ref b20), .val (.int dp6), .val (.int (1 : Int32))] [(.int (own_dl ([c0, c1, c2, c3, c4, c5, c6, c7, c8] : List Int32) (7 : Int32))), (.int dp6)]))
    refine Gl.st (b := T36.setTop (mkF m 414 #[.val (.int z0), .val (.int z1), .val (.int z2), .val (.ref b1), .val (.ref b20), .val (.int dp6), .val (.int (1 : Int32))] [(.int (dp6 + (own_dl ([c0, c1, c2, c3, c4, c5, c6, c7, c8] : List Int32) (7 : Int32))))])) (fun tq kq => XS.iadd X36.here hx rfl (hb hby at_413) rfl kq) ?_
    refine Gl.st (b := T36.setTop (mkF m 416 #[.val (.int z0), .val (.int z1), .val (.int z2), .val (.ref b1), .val (.ref b20), .val (.int (dp6 + (own_dl ([c0, c1, c2, c3, c4, c5, c6, c7, c8] : List Int32) (7 : Int32)))), .val (.int (1 : Int32))] [])) (fun tq kq => XS.istore X36.here hx rfl (hb hby at_414) rfl (l' := #[.val (.int z0), .val (.int z1), .val (.int z2), .val (.ref b1), .val (.ref b20), .val (.int (dp6 + (own_dl ([c0, c1, c2, c3, c4, c5, c6, c7, c8] : List Int32) (7 : Int32)))), .val (.int (1 : Int32))]) rfl kq) ?_
    obtain ⟨dp7, hdp7⟩ : ∃ q, q = (dp6 + (own_dl ([c0, c1, c2, c3, c4, c5, c6, c7, c8] : List Int32) (7 : Int32))) := ⟨_, rfl⟩
    rw [← hdp7]
    show Gl _ _ _ _ _ _ _ (T36.setTop (mkF m 416 #[.val (.int z0), .val (.int z1), .val (.int z2), .val (.ref b1), .val (.ref b20), .val (.int dp7), .val (.int (1 : Int32))] []))
    refine Gl.st (b := T36.setTop (mkF m 418 #[.val (.int z0), .val (.int z1), .val (.int z2), .val (.ref b1), .val (.ref b20), .val (.int dp7), .val (.int (1 : Int32))] [(.int (1 : Int32))])) (fun tq kq => XS.iload X36.here hx rfl (hb hby at_416) rfl kq) ?_
    refine Gl.st (b := T36.setTop (mkF m 420 #[.val (.int z0), .val (.int z1), .val (.int z2), .val (.ref b1), .val (.ref b20), .val (.int dp7), .val (.int (1 : Int32))] [(.ref b20), (.int (1 : Int32))])) (fun tq kq => XS.aload X36.here hx rfl (hb hby at_418) rfl rfl kq) ?_
    refine Gl.st (b := T36.setTop (mkF m 421 #[.val (.int z0), .val (.int z1), .val (.int z2), .val (.ref b1), .val (.ref b20), .val (.int dp7), .val (.int (1 : Int32))] [(.ref b1), (.ref b20), (.int (1 : Int32))])) (fun tq kq => XS.aloadN X36.here hx rfl (hb hby at_420) rfl rfl kq) ?_
    refine Gl.st (b := T36.setTop (mkF m 423 #[.val (.int z0), .val (.int z1), .val (.int z2), .val (.ref b1), .val (.ref b20), .val (.int dp7), .val (.int (1 : Int32))] [(.int (7 : Int32)), (.ref b1), (.ref b20), (.int (1 : Int32))])) (fun tq kq => XS.bipush X36.here hx rfl (hb hby at_421) kq) ?_
    refine Gl.caload (k := 7) (v := (.int c7)) X36 hx hZ e36 A_b1_35 rfl rfl (hb hby at_423) ?_
    show Gl _ _ _ _ _ _ _ (T36.setTop (mkF m 424 #[.val (.int z0), .val (.int z1), .val (.int z2), .val (.ref b1), .val (.ref b20), .val (.int dp7), .val (.int (1 : Int32))] [(.int c7), (.ref b20), (.int (1 : Int32))]))
    refine Gl.callV (W := 1) (argsL := [(.int c7)]) (rest := [(.int (1 : Int32))]) (a := b20) X36 hx hZ hown (hw _ (List.mem_of_getElem? (i := 19) rfl)) (hw _ (List.mem_of_getElem? (i := 20) rfl)) (hw _ (List.mem_of_getElem? (i := 22) rfl)) (hw _ (List.mem_of_getElem? (i := 21) rfl)) (hw _ (List.mem_of_getElem? (i := 7) rfl)) (hw _ (List.mem_of_getElem? (i := 23) rfl)) (by decide) (rm4 l Z a0 hw [] b20 c7 cl6 op6 se6 T35.heap n0 Z_35 B35 Fc35 Fo35 Fs35 G_b20) (by decide) (by decide) e36 B35 (by decide) (by decide) (by rw [hml]; rfl) (lenOf own_pd3 rfl) rfl rfl (Nat.le_of_eq rfl) (hb hby at_424) ?_
    intro T37 v37 L37 X37 hQ37
    obtain ⟨cl7, op7, se7, rfl, N37q, K37, B37, Fc37, Fo37, Fs37, hcl7, hop7, hse7⟩ := hQ37
    have N37 := N36.app N37q
    have Z_37 : n0 ≤ T37.heap.size := Nat.le_trans Z_35 K37.1
    have A_b1_37 := A_b1_35.keep K37 (ninS ne_b1_b20 nin0)
    have hI8 : own_I c6.toInt c7.toInt 8 cl7 op7 := by rw [hcl7, hop7]; exact own_Is c7 hI7 (by decide)
    have hsd7 : se7 = dp7 := by
      rw [hse7, own_Ie c7 _ hI7, hdp7, hsd6]
      first | rfl | (simp [own_dl, own_d, own_ch]; done)
    show Gl _ _ _ _ _ _ _ (T37.setTop (mkF m 427 #[.val (.int z0), .val (.int z1), .val (.int z2), .val (.ref b1), .val (.ref b20), .val (.int dp7), .val (.int (1 : Int32))] [(.int (own_b (decide (se7.toInt = 0)))), (.int (1 : Int32))]))
    refine Gl.st (b := T37.setTop (mkF m 429 #[.val (.int z0), .val (.int z1), .val (.int z2), .val (.ref b1), .val (.ref b20), .val (.int dp7), .val (.int (1 : Int32))] [(.int dp7), (.int (own_b (decide (se7.toInt = 0)))), (.int (1 : Int32))])) (fun tq kq => XS.iload X37.here hx rfl (hb hby at_427) rfl kq) ?_
    suffices tail7 : Gl p e below s (QL n0) 2 12 (T37.setTop (mkF m 448 #[.val (.int z0), .val (.int z1), .val (.int z2), .val (.ref b1), .val (.ref b20), .val (.int dp7), .val (.int (1 : Int32))] [])) by
      by_cases hz7 : dp7.toInt = 0
      ·
        refine Gl.st (b := T37.setTop (mkF m 432 #[.val (.int z0), .val (.int z1), .val (.int z2), .val (.ref b1), .val (.ref b20), .val (.int dp7), .val (.int (1 : Int32))] [(.int (own_b (decide (se7.toInt = 0)))), (.int (1 : Int32))])) (fun tq kq => XS.ifNo X37.here hx rfl (hb hby at_429) rfl ((if0 _ _).trans (teq (x := dp7) (y := (0 : Int32)) (own_eqI.mpr hz7)).2) kq) ?_
        refine Gl.st (b := T37.setTop (mkF m 433 #[.val (.int z0), .val (.int z1), .val (.int z2), .val (.ref b1), .val (.ref b20), .val (.int dp7), .val (.int (1 : Int32))] [(.int (1 : Int32)), (.int (own_b (decide (se7.toInt = 0)))), (.int (1 : Int32))])) (fun tq kq => XS.iconst X37.here hx rfl (hb hby at_432) kq) ?_
        refine Gl.st (b := T37.setTop (mkF m 437 #[.val (.int z0), .val (.int z1), .val (.int z2), .val (.ref b1), .val (.ref b20), .val (.int dp7), .val (.int (1 : Int32))] [(.int (1 : Int32)), (.int (own_b (decide (se7.toInt = 0)))), (.int (1 : Int32))])) (fun tq kq => XS.goto X37.here hx rfl (pc0 := 433) (pc' := 437) rfl (hb hby at_433) (by decide) (by decide) kq) ?_
        refine Gl.st (b := T37.setTop (mkF m 440 #[.val (.int z0), .val (.int z1), .val (.int z2), .val (.ref b1), .val (.ref b20), .val (.int dp7), .val (.int (1 : Int32))] [(.int (1 : Int32))])) (fun tq kq => XS.icmpNo X37.here hx rfl (hb hby at_437) rfl (teq (x := own_b (decide (se7.toInt = 0))) (y := (1 : Int32)) (by rw [hsd7, decide_eq_true hz7]; rfl)).2 kq) ?_
        refine Gl.st (b := T37.setTop (mkF m 441 #[.val (.int z0), .val (.int z1), .val (.int z2), .val (.ref b1), .val (.ref b20), .val (.int dp7), .val (.int (1 : Int32))] [(.int (1 : Int32)), (.int (1 : Int32))])) (fun tq kq => XS.iconst X37.here hx rfl (hb hby at_440) kq) ?_
        refine Gl.st (b := T37.setTop (mkF m 445 #[.val (.int z0), .val (.int z1), .val (.int z2), .val (.ref b1), .val (.ref b20), .val (.int dp7), .val (.int (1 : Int32))] [(.int (1 : Int32)), (.int (1 : Int32))])) (fun tq kq => XS.goto X37.here hx rfl (pc0 := 441) (pc' := 445) rfl (hb hby at_441) (by decide) (by decide) kq) ?_
        refine Gl.st (b := T37.setTop (mkF m 446 #[.val (.int z0), .val (.int z1), .val (.int z2), .val (.ref b1), .val (.ref b20), .val (.int dp7), .val (.int (1 : Int32))] [(.int (1 : Int32))])) (fun tq kq => XS.iand X37.here hx rfl (hb hby at_445) rfl kq) ?_
        refine Gl.st (b := T37.setTop (mkF m 448 #[.val (.int z0), .val (.int z1), .val (.int z2), .val (.ref b1), .val (.ref b20), .val (.int dp7), .val (.int (1 : Int32))] [])) (fun tq kq => XS.istore X37.here hx rfl (hb hby at_446) rfl (l' := #[.val (.int z0), .val (.int z1), .val (.int z2), .val (.ref b1), .val (.ref b20), .val (.int dp7), .val (.int (1 : Int32))]) rfl kq) ?_
        exact tail7
      ·
        refine Gl.st (b := T37.setTop (mkF m 436 #[.val (.int z0), .val (.int z1), .val (.int z2), .val (.ref b1), .val (.ref b20), .val (.int dp7), .val (.int (1 : Int32))] [(.int (own_b (decide (se7.toInt = 0)))), (.int (1 : Int32))])) (fun tq kq => XS.ifYes X37.here hx rfl (pc0 := 429) (pc' := 436) rfl (hb hby at_429) rfl ((if0 _ _).trans (feq (x := dp7) (y := (0 : Int32)) (fun q => hz7 (own_eqI.mp q))).2) (by decide) (by decide) kq) ?_
        refine Gl.st (b := T37.setTop (mkF m 437 #[.val (.int z0), .val (.int z1), .val (.int z2), .val (.ref b1), .val (.ref b20), .val (.int dp7), .val (.int (1 : Int32))] [(.int (0 : Int32)), (.int (own_b (decide (se7.toInt = 0)))), (.int (1 : Int32))])) (fun tq kq => XS.iconst X37.here hx rfl (hb hby at_436) kq) ?_
        refine Gl.st (b := T37.setTop (mkF m 440 #[.val (.int z0), .val (.int z1), .val (.int z2), .val (.ref b1), .val (.ref b20), .val (.int dp7), .val (.int (1 : Int32))] [(.int (1 : Int32))])) (fun tq kq => XS.icmpNo X37.here hx rfl (hb hby at_437) rfl (teq (x := own_b (decide (se7.toInt = 0))) (y := (0 : Int32)) (by rw [hsd7, decide_eq_false hz7]; rfl)).2 kq) ?_
        refine Gl.st (b := T37.setTop (mkF m 441 #[.val (.int z0), .val (.int z1), .val (.int z2), .val (.ref b1), .val (.ref b20), .val (.int dp7), .val (.int (1 : Int32))] [(.int (1 : Int32)), (.int (1 : Int32))])) (fun tq kq => XS.iconst X37.here hx rfl (hb hby at_440) kq) ?_
        refine Gl.st (b := T37.setTop (mkF m 445 #[.val (.int z0), .val (.int z1), .val (.int z2), .val (.ref b1), .val (.ref b20), .val (.int dp7), .val (.int (1 : Int32))] [(.int (1 : Int32)), (.int (1 : Int32))])) (fun tq kq => XS.goto X37.here hx rfl (pc0 := 441) (pc' := 445) rfl (hb hby at_441) (by decide) (by decide) kq) ?_
        refine Gl.st (b := T37.setTop (mkF m 446 #[.val (.int z0), .val (.int z1), .val (.int z2), .val (.ref b1), .val (.ref b20), .val (.int dp7), .val (.int (1 : Int32))] [(.int (1 : Int32))])) (fun tq kq => XS.iand X37.here hx rfl (hb hby at_445) rfl kq) ?_
        refine Gl.st (b := T37.setTop (mkF m 448 #[.val (.int z0), .val (.int z1), .val (.int z2), .val (.ref b1), .val (.ref b20), .val (.int dp7), .val (.int (1 : Int32))] [])) (fun tq kq => XS.istore X37.here hx rfl (hb hby at_446) rfl (l' := #[.val (.int z0), .val (.int z1), .val (.int z2), .val (.ref b1), .val (.ref b20), .val (.int dp7), .val (.int (1 : Int32))]) rfl kq) ?_
        exact tail7
    refine Gl.st (b := T37.setTop (mkF m 450 #[.val (.int z0), .val (.int z1), .val (.int z2), .val (.ref b1), .val (.ref b20), .val (.int dp7), .val (.int (1 : Int32))] [(.int dp7)])) (fun tq kq => XS.iload X37.here hx rfl (hb hby at_448) rfl kq) ?_
    refine Gl.st (b := T37.setTop (mkF m 451 #[.val (.int z0), .val (.int z1), .val (.int z2), .val (.ref b1), .val (.ref b20), .val (.int dp7), .val (.int (1 : Int32))] [(.ref b1), (.int dp7)])) (fun tq kq => XS.aloadN X37.here hx rfl (hb hby at_450) rfl rfl kq) ?_
    refine Gl.st (b := T37.setTop (mkF m 453 #[.val (.int z0), .val (.int z1), .val (.int z2), .val (.ref b1), .val (.ref b20), .val (.int dp7), .val (.int (1 : Int32))] [(.int (8 : Int32)), (.ref b1), (.int dp7)])) (fun tq kq => XS.bipush X37.here hx rfl (hb hby at_451) kq) ?_
    have AC8 : Ar Z T37.heap b1 .char (([c0, c1, c2, c3, c4, c5, c6, c7, c8] : List Int32).map Value.int) := A_b1_37
    refine Gl.callP (W := 1) (argsL := [(.ref b1), (.int (8 : Int32))]) (rest := [(.int dp7)]) (w := (.int (own_dl ([c0, c1, c2, c3, c4, c5, c6, c7, c8] : List Int32) (8 : Int32)))) X37 hx hZ hown (hw _ (List.mem_of_getElem? (i := 16) rfl)) (hw _ (List.mem_of_getElem? (i := 17) rfl)) (hw _ (List.mem_of_getElem? (i := 3) rfl)) (hw _ (List.mem_of_getElem? (i := 18) rfl)) (by decide) (rm3 l Z a0 hw [] b1 (8 : Int32) ([c0, c1, c2, c3, c4, c5, c6, c7, c8] : List Int32) T37.heap n0 Z_37 AC8 (by decide) (show (8 : Int32).toInt < ((9 : Nat) : Int) by decide)) (by decide) (by decide) rfl N37 (by decide) (by decide) (by rw [hml]; rfl) (lenOf own_pd2 rfl) rfl rfl (Nat.le_of_eq rfl) (hb hby at_453) ?_
    intro T38 L38 X38 e38 N38
    show Gl _ _ _ _ _ _ _ (T38.setTop (mkF m 456 #[.val (.int z0), .val (.int z1), .val (.int z2), .val (.ref b1), .val (.ref b20), .val (.int dp7), .val (.int (1 : Int32))] [(.int (own_dl ([c0, c1, c2, c3, c4, c5, c6, c7, c8] : List Int32) (8 : Int32))), (.int dp7)]))
    refine Gl.st (b := T38.setTop (mkF m 457 #[.val (.int z0), .val (.int z1), .val (.int z2), .val (.ref b1), .val (.ref b20), .val (.int dp7), .val (.int (1 : Int32))] [(.int (dp7 + (own_dl ([c0, c1, c2, c3, c4, c5, c6, c7, c8] : List Int32) (8 : Int32))))])) (fun tq kq => XS.iadd X38.here hx rfl (hb hby at_456) rfl kq) ?_
    refine Gl.st (b := T38.setTop (mkF m 459 #[.val (.int z0), .val (.int z1), .val (.int z2), .val (.ref b1), .val (.ref b20), .val (.int (dp7 + (own_dl ([c0, c1, c2, c3, c4, c5, c6, c7, c8] : List Int32) (8 : Int32)))), .val (.int (1 : Int32))] [])) (fun tq kq => XS.istore X38.here hx rfl (hb hby at_457) rfl (l' := #[.val (.int z0), .val (.int z1), .val (.int z2), .val (.ref b1), .val (.ref b20), .val (.int (dp7 + (own_dl ([c0, c1, c2, c3, c4, c5, c6, c7, c8] : List Int32) (8 : Int32)))), .val (.int (1 : Int32))]) rfl kq) ?_
    obtain ⟨dp8, hdp8⟩ : ∃ q, q = (dp7 + (own_dl ([c0, c1, c2, c3, c4, c5, c6, c7, c8] : List Int32) (8 : Int32))) := ⟨_, rfl⟩
    rw [← hdp8]
    show Gl _ _ _ _ _ _ _ (T38.setTop (mkF m 459 #[.val (.int z0), .val (.int z1), .val (.int z2), .val (.ref b1), .val (.ref b20), .val (.int dp8), .val (.int (1 : Int32))] []))
    refine Gl.st (b := T38.setTop (mkF m 461 #[.val (.int z0), .val (.int z1), .val (.int z2), .val (.ref b1), .val (.ref b20), .val (.int dp8), .val (.int (1 : Int32))] [(.int (1 : Int32))])) (fun tq kq => XS.iload X38.here hx rfl (hb hby at_459) rfl kq) ?_
    refine Gl.st (b := T38.setTop (mkF m 463 #[.val (.int z0), .val (.int z1), .val (.int z2), .val (.ref b1), .val (.ref b20), .val (.int dp8), .val (.int (1 : Int32))] [(.ref b20), (.int (1 : Int32))])) (fun tq kq => XS.aload X38.here hx rfl (hb hby at_461) rfl rfl kq) ?_
    refine Gl.st (b := T38.setTop (mkF m 464 #[.val (.int z0), .val (.int z1), .val (.int z2), .val (.ref b1), .val (.ref b20), .val (.int dp8), .val (.int (1 : Int32))] [(.ref b1), (.ref b20), (.int (1 : Int32))])) (fun tq kq => XS.aloadN X38.here hx rfl (hb hby at_463) rfl rfl kq) ?_
    refine Gl.st (b := T38.setTop (mkF m 466 #[.val (.int z0), .val (.int z1), .val (.int z2), .val (.ref b1), .val (.ref b20), .val (.int dp8), .val (.int (1 : Int32))] [(.int (8 : Int32)), (.ref b1), (.ref b20), (.int (1 : Int32))])) (fun tq kq => XS.bipush X38.here hx rfl (hb hby at_464) kq) ?_
    refine Gl.caload (k := 8) (v := (.int c8)) X38 hx hZ e38 A_b1_37 rfl rfl (hb hby at_466) ?_
    show Gl _ _ _ _ _ _ _ (T38.setTop (mkF m 467 #[.val (.int z0), .val (.int z1), .val (.int z2), .val (.ref b1), .val (.ref b20), .val (.int dp8), .val (.int (1 : Int32))] [(.int c8), (.ref b20), (.int (1 : Int32))]))
    refine Gl.callV (W := 1) (argsL := [(.int c8)]) (rest := [(.int (1 : Int32))]) (a := b20) X38 hx hZ hown (hw _ (List.mem_of_getElem? (i := 19) rfl)) (hw _ (List.mem_of_getElem? (i := 20) rfl)) (hw _ (List.mem_of_getElem? (i := 22) rfl)) (hw _ (List.mem_of_getElem? (i := 21) rfl)) (hw _ (List.mem_of_getElem? (i := 7) rfl)) (hw _ (List.mem_of_getElem? (i := 23) rfl)) (by decide) (rm4 l Z a0 hw [] b20 c8 cl7 op7 se7 T37.heap n0 Z_37 B37 Fc37 Fo37 Fs37 G_b20) (by decide) (by decide) e38 B37 (by decide) (by decide) (by rw [hml]; rfl) (lenOf own_pd3 rfl) rfl rfl (Nat.le_of_eq rfl) (hb hby at_467) ?_
    intro T39 v39 L39 X39 hQ39
    obtain ⟨cl8, op8, se8, rfl, N39q, K39, B39, Fc39, Fo39, Fs39, hcl8, hop8, hse8⟩ := hQ39
    have N39 := N38.app N39q
    have Z_39 : n0 ≤ T39.heap.size := Nat.le_trans Z_37 K39.1
    have A_b1_39 := A_b1_37.keep K39 (ninS ne_b1_b20 nin0)
    have hI9 : own_I c7.toInt c8.toInt 9 cl8 op8 := by rw [hcl8, hop8]; exact own_Is c8 hI8 (by decide)
    have hsd8 : se8 = dp8 := by
      rw [hse8, own_Ie c8 _ hI8, hdp8, hsd7]
      first | rfl | (simp [own_dl, own_d, own_ch]; done)
    show Gl _ _ _ _ _ _ _ (T39.setTop (mkF m 470 #[.val (.int z0), .val (.int z1), .val (.int z2), .val (.ref b1), .val (.ref b20), .val (.int dp8), .val (.int (1 : Int32))] [(.int (own_b (decide (se8.toInt = 0)))), (.int (1 : Int32))]))
    refine Gl.st (b := T39.setTop (mkF m 472 #[.val (.int z0), .val (.int z1), .val (.int z2), .val (.ref b1), .val (.ref b20), .val (.int dp8), .val (.int (1 : Int32))] [(.int dp8), (.int (own_b (decide (se8.toInt = 0)))), (.int (1 : Int32))])) (fun tq kq => XS.iload X39.here hx rfl (hb hby at_470) rfl kq) ?_
    suffices tail8 : Gl p e below s (QL n0) 2 12 (T39.setTop (mkF m 491 #[.val (.int z0), .val (.int z1), .val (.int z2), .val (.ref b1), .val (.ref b20), .val (.int dp8), .val (.int (1 : Int32))] [])) by
      by_cases hz8 : dp8.toInt = 0
      ·
        refine Gl.st (b := T39.setTop (mkF m 475 #[.val (.int z0), .val (.int z1), .val (.int z2), .val (.ref b1), .val (.ref b20), .val (.int dp8), .val (.int (1 : Int32))] [(.int (own_b (decide (se8.toInt = 0)))), (.int (1 : Int32))])) (fun tq kq => XS.ifNo X39.here hx rfl (hb hby at_472) rfl ((if0 _ _).trans (teq (x := dp8) (y := (0 : Int32)) (own_eqI.mpr hz8)).2) kq) ?_
        refine Gl.st (b := T39.setTop (mkF m 476 #[.val (.int z0), .val (.int z1), .val (.int z2), .val (.ref b1), .val (.ref b20), .val (.int dp8), .val (.int (1 : Int32))] [(.int (1 : Int32)), (.int (own_b (decide (se8.toInt = 0)))), (.int (1 : Int32))])) (fun tq kq => XS.iconst X39.here hx rfl (hb hby at_475) kq) ?_
        refine Gl.st (b := T39.setTop (mkF m 480 #[.val (.int z0), .val (.int z1), .val (.int z2), .val (.ref b1), .val (.ref b20), .val (.int dp8), .val (.int (1 : Int32))] [(.int (1 : Int32)), (.int (own_b (decide (se8.toInt = 0)))), (.int (1 : Int32))])) (fun tq kq => XS.goto X39.here hx rfl (pc0 := 476) (pc' := 480) rfl (hb hby at_476) (by decide) (by decide) kq) ?_
        refine Gl.st (b := T39.setTop (mkF m 483 #[.val (.int z0), .val (.int z1), .val (.int z2), .val (.ref b1), .val (.ref b20), .val (.int dp8), .val (.int (1 : Int32))] [(.int (1 : Int32))])) (fun tq kq => XS.icmpNo X39.here hx rfl (hb hby at_480) rfl (teq (x := own_b (decide (se8.toInt = 0))) (y := (1 : Int32)) (by rw [hsd8, decide_eq_true hz8]; rfl)).2 kq) ?_
        refine Gl.st (b := T39.setTop (mkF m 484 #[.val (.int z0), .val (.int z1), .val (.int z2), .val (.ref b1), .val (.ref b20), .val (.int dp8), .val (.int (1 : Int32))] [(.int (1 : Int32)), (.int (1 : Int32))])) (fun tq kq => XS.iconst X39.here hx rfl (hb hby at_483) kq) ?_
        refine Gl.st (b := T39.setTop (mkF m 488 #[.val (.int z0), .val (.int z1), .val (.int z2), .val (.ref b1), .val (.ref b20), .val (.int dp8), .val (.int (1 : Int32))] [(.int (1 : Int32)), (.int (1 : Int32))])) (fun tq kq => XS.goto X39.here hx rfl (pc0 := 484) (pc' := 488) rfl (hb hby at_484) (by decide) (by decide) kq) ?_
        refine Gl.st (b := T39.setTop (mkF m 489 #[.val (.int z0), .val (.int z1), .val (.int z2), .val (.ref b1), .val (.ref b20), .val (.int dp8), .val (.int (1 : Int32))] [(.int (1 : Int32))])) (fun tq kq => XS.iand X39.here hx rfl (hb hby at_488) rfl kq) ?_
        refine Gl.st (b := T39.setTop (mkF m 491 #[.val (.int z0), .val (.int z1), .val (.int z2), .val (.ref b1), .val (.ref b20), .val (.int dp8), .val (.int (1 : Int32))] [])) (fun tq kq => XS.istore X39.here hx rfl (hb hby at_489) rfl (l' := #[.val (.int z0), .val (.int z1), .val (.int z2), .val (.ref b1), .val (.ref b20), .val (.int dp8), .val (.int (1 : Int32))]) rfl kq) ?_
        exact tail8
      ·
        refine Gl.st (b := T39.setTop (mkF m 479 #[.val (.int z0), .val (.int z1), .val (.int z2), .val (.ref b1), .val (.ref b20), .val (.int dp8), .val (.int (1 : Int32))] [(.int (own_b (decide (se8.toInt = 0)))), (.int (1 : Int32))])) (fun tq kq => XS.ifYes X39.here hx rfl (pc0 := 472) (pc' := 479) rfl (hb hby at_472) rfl ((if0 _ _).trans (feq (x := dp8) (y := (0 : Int32)) (fun q => hz8 (own_eqI.mp q))).2) (by decide) (by decide) kq) ?_
        refine Gl.st (b := T39.setTop (mkF m 480 #[.val (.int z0), .val (.int z1), .val (.int z2), .val (.ref b1), .val (.ref b20), .val (.int dp8), .val (.int (1 : Int32))] [(.int (0 : Int32)), (.int (own_b (decide (se8.toInt = 0)))), (.int (1 : Int32))])) (fun tq kq => XS.iconst X39.here hx rfl (hb hby at_479) kq) ?_
        refine Gl.st (b := T39.setTop (mkF m 483 #[.val (.int z0), .val (.int z1), .val (.int z2), .val (.ref b1), .val (.ref b20), .val (.int dp8), .val (.int (1 : Int32))] [(.int (1 : Int32))])) (fun tq kq => XS.icmpNo X39.here hx rfl (hb hby at_480) rfl (teq (x := own_b (decide (se8.toInt = 0))) (y := (0 : Int32)) (by rw [hsd8, decide_eq_false hz8]; rfl)).2 kq) ?_
        refine Gl.st (b := T39.setTop (mkF m 484 #[.val (.int z0), .val (.int z1), .val (.int z2), .val (.ref b1), .val (.ref b20), .val (.int dp8), .val (.int (1 : Int32))] [(.int (1 : Int32)), (.int (1 : Int32))])) (fun tq kq => XS.iconst X39.here hx rfl (hb hby at_483) kq) ?_
        refine Gl.st (b := T39.setTop (mkF m 488 #[.val (.int z0), .val (.int z1), .val (.int z2), .val (.ref b1), .val (.ref b20), .val (.int dp8), .val (.int (1 : Int32))] [(.int (1 : Int32)), (.int (1 : Int32))])) (fun tq kq => XS.goto X39.here hx rfl (pc0 := 484) (pc' := 488) rfl (hb hby at_484) (by decide) (by decide) kq) ?_
        refine Gl.st (b := T39.setTop (mkF m 489 #[.val (.int z0), .val (.int z1), .val (.int z2), .val (.ref b1), .val (.ref b20), .val (.int dp8), .val (.int (1 : Int32))] [(.int (1 : Int32))])) (fun tq kq => XS.iand X39.here hx rfl (hb hby at_488) rfl kq) ?_
        refine Gl.st (b := T39.setTop (mkF m 491 #[.val (.int z0), .val (.int z1), .val (.int z2), .val (.ref b1), .val (.ref b20), .val (.int dp8), .val (.int (1 : Int32))] [])) (fun tq kq => XS.istore X39.here hx rfl (hb hby at_489) rfl (l' := #[.val (.int z0), .val (.int z1), .val (.int z2), .val (.ref b1), .val (.ref b20), .val (.int dp8), .val (.int (1 : Int32))]) rfl kq) ?_
        exact tail8
    refine Gl.st (b := T39.setTop (mkF m 493 #[.val (.int z0), .val (.int z1), .val (.int z2), .val (.ref b1), .val (.ref b20), .val (.int dp8), .val (.int (1 : Int32))] [(.int (1 : Int32))])) (fun tq kq => XS.iload X39.here hx rfl (hb hby at_491) rfl kq) ?_
    exact Gl.retN X39 hx hret (by simp) (hb hby at_493) hlk (by decide) (by decide) ⟨rfl, N39⟩
  exact GOAL
set_option maxRecDepth 65536 in
set_option maxHeartbeats 40000000 in
theorem comes_1 {Post : Tables → Env → Array Value → State → Outcome → State → Prop} (hpost : ∀ tb e args s v u, (limb_1_1.after args s (.returned v) u = true ∧ limb_1_2.after args s (.returned v) u = true ∧ True) → FrameEnd s (.returned v) u (Jvm.fieldLocs frame_1_writes args s ++ Jvm.arrayLocs frame_1_arrays args s ++ Jvm.staticLocs frame_1_statics s) 16 128 → Post tb e args s (.returned v) u) :
    ArmFor flags0 classFile x code maxLocals ret World_1 tables_1 room_1 Calls_1 rest_1 Pre_1 Post := by
  intro l hfl _ _ p e ha hc hk s m args below hf hA hF happ hP
  obtain ⟨hcalls, hrest, hpre⟩ := hP
  obtain ⟨-, -, -, hnamed, -, -, -, hat⟩ := (Spec.applies_iff hf).mp happ
  obtain ⟨hg, hn⟩ := and_e (Cond.before_iff.mp (show (Jvm.Cond.and given_1 narrow_1).before args s = true from hpre))
  obtain ⟨g1, k1⟩ := and_e hg
  obtain ⟨g2, k2⟩ := and_e k1
  obtain ⟨g3, k3⟩ := and_e k2
  obtain ⟨w0, w1, w2, rfl⟩ : ∃ w0 w1 w2 : Value, args = #[w0, w1, w2] := by
    have hs : args.size = 3 := by simpa [Cond.value, given_1] using g1
    obtain ⟨L⟩ := args
    match L, hs with
    | [w0, w1, w2], _ => exact ⟨w0, w1, w2, rfl⟩
  have hw := fun d (hd : d ∈ tables_1) => atoms_spec (ws := Jvm.Cond.code x code maxLocals ret :: tables_1) hat d (List.mem_cons_of_mem _ hd)
  obtain ⟨i0, ei0⟩ := is_v g2
  obtain rfl : w0 = (.int i0) := Option.some.inj ei0
  obtain ⟨i1, ei1⟩ := is_v g3
  obtain rfl : w1 = (.int i1) := Option.some.inj ei1
  obtain ⟨i2, ei2⟩ := is_v k3
  obtain rfl : w2 = (.int i2) := Option.some.inj ei2
  obtain ⟨n, o, h1, h2, h3, _, L, rfl, ⟨rfl, N⟩, hq⟩ := rm0 l s _ hw tables_1 i0 i1 i2 s.heap s.heap.size (Nat.le_refl _)  p e ha hc hk s m _ below hf ((Spec.applies_iff_loose hf).mp happ).1 ⟨rfl, State.Warmed39.refl s, rfl⟩ trivial
  refine ⟨n, _, h1, h2, h3, hpost _ _ _ _ _ _ ⟨Cond.after_iff.mpr rfl, Cond.after_iff.mpr (eq_i res_at (Term.int_eval (1)) rfl), trivial⟩ ⟨hq.1, hq.2.1, (hq.2.2.sift fun y hy => Or.inr (N y hy)).mono (by decide) (by decide)⟩⟩
theorem main_1_1 : Claimed_1_1 := comes_1 fun _ _ _ _ _ _ h hF => ⟨h.1, hF⟩
theorem main_1_2 : Claimed_1_2 := comes_1 fun _ _ _ _ _ _ h hF => ⟨h.2.1, hF⟩

end Jvm.Pilot.@@N@@
namespace Jvm.Pilot.@@N@@
open Jvm Jvm.ClassFile Sem Op Lib Jvm.Free Jvm.Stand Jvm.Pilot.@@N@@.Jvm.D
/-! MADE BY PROGRAM (witnessworld.py) out of the Statement's table words and the real class files: 11 classes; the members and pool entries that the words name. The judged class is class 1, her method 3. -/
namespace start1
open Jvm.ClassFile
def u (s : String) : CpInfo := .utf8 (stringToUtf16 s)
/-- a pool by its gaps: so many unusable entries, then the entry; so many at the end -/
def gap : Nat → List CpInfo → List CpInfo
  | 0, r => r
  | n + 1, r => .unusable :: gap n r
def poolList (es : List (Nat × CpInfo)) (last : Nat) : List CpInfo := es.foldr (fun e r => gap e.1 (e.2 :: r)) (gap last [])
def pool (es : List (Nat × CpInfo)) (last : Nat) : Array CpInfo := ⟨poolList es last⟩
def fileOf (pool : Array CpInfo) (this : Nat) (attrs : Array Attribute := #[]) (ms : Array MethodInfo := #[]) (fl : Nat := 33) (sup : Nat := 0) (ifs : Array Nat := #[]) (fds : Array FieldInfo := #[]) : ClassFile where
  minorVersion := 0
  majorVersion := 65
  constantPool := pool
  accessFlags := fl
  thisClass := this
  superClass := sup
  interfaces := ifs
  fields := fds
  methods := ms
  attributes := attrs
def plain (name : String) (sup : Option ClassId) : Class where
  name := name
  kind := .ordinary
  loader := none
  accessFlags := 33
  super := sup
  interfaces := #[]
  cf := none
  fields := #[]
  methods := #[]
  instanceTypes := #[]
  staticTypes := #[]
  resolved := #[]
  callSites := []
  init := .initialized
  statics := none
  mirror := none

def pool0 : Array CpInfo := pool [(5, u "<init>"), (0, u "()V"), (1, .class_ 10), (1, u "java/lang/Object")] 113

def k0c0 : Code := { maxStack := 0, maxLocals := 1, code := object_method_1_code, exceptionTable := #[], attributes := #[] }
def k0m0 : Method := { name := "<init>", desc := "()V", sig := { parameters := [], returnType := none }, accessFlags := 1, code := some k0c0 }
/-- java/lang/Object -/
def k0 : Class := { plain "java/lang/Object" none with
  accessFlags := 33
  interfaces := #[]
  cf := some (fileOf pool0 8 #[] #[{ accessFlags := 1, nameIndex := 5, descriptorIndex := 6, attributes := #[] }] 33 0 #[] #[])
  fields := #[]
  methods := #[k0m0]
  instanceTypes := #[]
  staticTypes := #[]
  resolved := Array.replicate 124 none
  statics := none }

def pool1 : Array CpInfo := pool [(2, .class_ 4), (0, .nameAndType 5 6), (0, u "java/lang/Object"), (0, u "<init>"), (0, u "()V"), (0, .methodref 8 9), (0, .class_ 10), (0, .nameAndType 11 12), (0, u "com/example/leafrank/leafrank/core/IgnoredSectionNextPinLaw"), (0, u "pick"), (0, u "(IIII)C"), (0, .class_ 14), (0, u "com/example/leafrank/leafrank/core/IgnoredSection"), (0, .methodref 13 3), (0, .methodref 8 17), (0, .nameAndType 18 19), (0, u "delta"), (0, u "([CI)I"), (0, .methodref 13 21), (0, .nameAndType 22 23), (0, u "next"), (0, u "(C)Z"), (3, u "law"), (0, u "(III)Z")] 4

def k1m0 : Method := { name := "<init>", desc := "()V", sig := { parameters := [], returnType := none }, accessFlags := 1, code := none }
def k1c1 : Code := { maxStack := 3, maxLocals := 5, code := method_2_code, exceptionTable := #[], attributes := #[] }
def k1m1 : Method := { name := "pick", desc := "(IIII)C", sig := { parameters := [.int, .int, .int, .int], returnType := some .char }, accessFlags := 10, code := some k1c1 }
def k1c2 : Code := { maxStack := 3, maxLocals := 2, code := method_3_code, exceptionTable := #[], attributes := #[] }
def k1m2 : Method := { name := "delta", desc := "([CI)I", sig := { parameters := [(.array .char), .int], returnType := some .int }, accessFlags := 10, code := some k1c2 }
def k1c3 : Code := { maxStack := 6, maxLocals := 7, code := code, exceptionTable := #[], attributes := #[] }
def k1m3 : Method := { name := "law", desc := "(III)Z", sig := { parameters := [.int, .int, .int], returnType := some .boolean }, accessFlags := 9, code := some k1c3 }
/-- com/example/leafrank/leafrank/core/IgnoredSectionNextPinLaw -/
def k1 : Class := { plain "com/example/leafrank/leafrank/core/IgnoredSectionNextPinLaw" (some 0) with
  accessFlags := 49
  interfaces := #[]
  cf := some (fileOf pool1 8 #[] #[{ accessFlags := 1, nameIndex := 5, descriptorIndex := 6, attributes := #[] }, { accessFlags := 10, nameIndex := 11, descriptorIndex := 12, attributes := #[] }, { accessFlags := 10, nameIndex := 18, descriptorIndex := 19, attributes := #[] }, { accessFlags := 9, nameIndex := 27, descriptorIndex := 28, attributes := #[] }] 49 2 #[] #[])
  fields := #[]
  methods := #[k1m0, k1m1, k1m2, k1m3]
  instanceTypes := #[]
  staticTypes := #[]
  resolved := Array.replicate 33 none
  statics := none }

def pool2 : Array CpInfo := pool [(1, .methodref 2 3), (0, .class_ 4), (0, .nameAndType 5 6), (0, u "java/lang/Object"), (0, u "<init>"), (0, u "()V"), (0, .fieldref 8 9), (0, .class_ 10), (0, .nameAndType 11 12), (0, u "com/example/leafrank/leafrank/core/IgnoredSection"), (0, u "sections"), (0, u "I"), (0, .fieldref 8 14), (0, .nameAndType 15 12), (0, u "closing"), (0, .fieldref 8 17), (0, .nameAndType 18 12), (0, u "opening"), (2, u "next"), (0, u "(C)Z")] 3

def k2c0 : Code := { maxStack := 2, maxLocals := 1, code := prog_81_method_1_code, exceptionTable := #[], attributes := #[] }
def k2m0 : Method := { name := "<init>", desc := "()V", sig := { parameters := [], returnType := none }, accessFlags := 0, code := some k2c0 }
def k2c1 : Code := { maxStack := 3, maxLocals := 2, code := prog_81_method_2_code, exceptionTable := #[], attributes := #[] }
def k2m1 : Method := { name := "next", desc := "(C)Z", sig := { parameters := [.char], returnType := some .boolean }, accessFlags := 0, code := some k2c1 }
/-- com/example/leafrank/leafrank/core/IgnoredSection -/
def k2 : Class := { plain "com/example/leafrank/leafrank/core/IgnoredSection" (some 0) with
  accessFlags := 48
  interfaces := #[]
  cf := some (fileOf pool2 8 #[] #[{ accessFlags := 0, nameIndex := 5, descriptorIndex := 6, attributes := #[] }, { accessFlags := 0, nameIndex := 21, descriptorIndex := 22, attributes := #[] }] 48 2 #[] #[{ accessFlags := 2, nameIndex := 11, descriptorIndex := 12, attributes := #[] }, { accessFlags := 2, nameIndex := 15, descriptorIndex := 12, attributes := #[] }, { accessFlags := 2, nameIndex := 18, descriptorIndex := 12, attributes := #[] }])
  fields := #[{ name := "sections", type := .int, accessFlags := 2, slot := 0, constantValue := 0 }, { name := "closing", type := .int, accessFlags := 2, slot := 1, constantValue := 0 }, { name := "opening", type := .int, accessFlags := 2, slot := 2, constantValue := 0 }]
  methods := #[k2m0, k2m1]
  instanceTypes := #[.int, .int, .int]
  staticTypes := #[]
  resolved := Array.replicate 26 none
  statics := none }

def pool3 : Array CpInfo := pool [(1, u "java/lang/Cloneable"), (0, .class_ 1), (0, u "java/lang/Object"), (0, .class_ 3)] 3

/-- java/lang/Cloneable -/
def k3 : Class := { plain "java/lang/Cloneable" (some 0) with
  accessFlags := 1537
  interfaces := #[]
  cf := some (fileOf pool3 2 #[] #[] 1537 4 #[] #[])
  fields := #[]
  methods := #[]
  instanceTypes := #[]
  staticTypes := #[]
  resolved := Array.replicate 8 none
  statics := none }

def pool4 : Array CpInfo := pool [(1, u "java/io/Serializable"), (0, .class_ 1), (0, u "java/lang/Object"), (0, .class_ 3)] 3

/-- java/io/Serializable -/
def k4 : Class := { plain "java/io/Serializable" (some 0) with
  accessFlags := 1537
  interfaces := #[]
  cf := some (fileOf pool4 2 #[] #[] 1537 4 #[] #[])
  fields := #[]
  methods := #[]
  instanceTypes := #[]
  staticTypes := #[]
  resolved := Array.replicate 8 none
  statics := none }

/-- the primitive byte -/
def k5 : Class := { plain "byte" none with kind := .primitive 'B', accessFlags := 0x411 }
/-- [B -/
def k6 : Class := { plain "[B" (some 0) with kind := .array 5 .byte, interfaces := #[3, 4], accessFlags := 1041 }

/-- the primitive char -/
def k7 : Class := { plain "char" none with kind := .primitive 'C', accessFlags := 0x411 }
/-- [C -/
def k8 : Class := { plain "[C" (some 0) with kind := .array 7 .char, interfaces := #[3, 4], accessFlags := 1041 }

/-- the primitive int -/
def k9 : Class := { plain "int" none with kind := .primitive 'I', accessFlags := 0x411 }
/-- [I -/
def k10 : Class := { plain "[I" (some 0) with kind := .array 9 .int, interfaces := #[3, 4], accessFlags := 1041 }

def heap : Heap := #[]
def classes : Array Class := #[k0, k1, k2, k3, k4, k5, k6, k7, k8, k9, k10]
def interned : List (Array UInt16 × Addr) := []
def slotsUsed : Nat := 0
def theMethod : MethodId := ⟨1, 3⟩
def args0 : Array Value := #[.int 5, .int 5, .int 5]
def aboutOver (below : List Frame) : State where
  vm := { classes := classes, interned := interned.toArray }
  heap := heap
  slotsUsed := slotsUsed
  threads := #[{ frames := .invoking theMethod args0 :: below }]
def below0 : List Frame := [.native { method := ⟨0, 0⟩, args := #[] }]
def about1 : State := aboutOver below0
def p0 : Program := .bare "" "" ""
def e0 : Env := launch0.env 0 0 0
theorem w_frames : about1.frames = Frame.invoking theMethod args0 :: below0 := rfl
set_option maxRecDepth 65536 in
theorem w_args : argsFit about1.vm theMethod args0 = true := by decide +kernel
set_option maxRecDepth 65536 in
theorem w_heap : heapFits about1 = true := by decide +kernel
set_option maxRecDepth 65536 in
theorem w_runnable : about1.curStatus? = some .runnable := by decide +kernel
set_option maxRecDepth 65536 in
theorem w_alone : about1.alone = true := by decide +kernel
set_option maxRecDepth 65536 in
theorem w_named : about1.methodNamed? x = some theMethod := by decide +kernel
set_option maxRecDepth 65536 in
theorem w_hears : about1.hears theMethod below0 = true := by decide +kernel
set_option maxRecDepth 65536 in
theorem w_ripe : about1.ripe theMethod args0 below0 = true := by decide +kernel
theorem w_running : about1.status = .running := rfl
set_option maxRecDepth 65536 in
theorem w_room : about1.hasRoom e0.platform room_1 = true :=
  launch0.hasRoom_least _ room_1 (by decide +kernel) (by decide +kernel) (by decide +kernel) (by decide +kernel) (by decide +kernel) (by decide +kernel)
theorem allAtoms_all (ts : List Jvm.Cond) (a : Array Jvm.Value) (st : Jvm.State) : (allAtoms ts).before a st = ts.all (fun c => c.before a st) := by
  induction ts with
  | nil => rfl
  | cons c t ih =>
    show (Jvm.Cond.and c (allAtoms t)).before a st = _
    rw [Jvm.Cond.before_and, ih, List.all_cons]
def words1 : List Jvm.Cond := Jvm.Cond.code x code maxLocals ret :: tables_1
/-- a 'code' word, met by the world's own term for the bytes: nothing is compared byte by byte -/
theorem code_word {y : MethodName} {bytes : ByteArray} {mx : Nat} {rt : Option FieldType} {a : Array Value} {s : State} {m : MethodId} {meth : Method} {c : Code} (h1 : s.methodNamed? y = some m) (h2 : s.vm.method? m = some meth) (h3 : meth.code = some c) (h4 : c.code = bytes)
    (h5 : (c.maxLocals == mx && c.exceptionTable.isEmpty && decide (c.maxStack ≤ mostOperands) && decide (meth.sig.returnType = rt) && !meth.locks && decide (parseMethodDescriptor y.desc = some meth.sig)) = true) : (Jvm.Cond.code y bytes mx rt).before a s = true := by
  simp only [Bool.and_eq_true, beq_iff_eq, Bool.not_eq_true', decide_eq_true_eq] at h5
  obtain ⟨⟨⟨⟨⟨g1, g2⟩, g3⟩, g4⟩, g5⟩, g6⟩ := h5
  simp [Cond.before, Cond.holds, Cond.value, h1, h2, h3, h4, g1, g2, g3, g4, g5, g6]
def isCode : Jvm.Cond → Bool
  | .code _ _ _ _ => true
  | _ => false
theorem all_split {L : List Jvm.Cond} {P : Jvm.Cond → Bool} (h1 : L.all (fun c => isCode c || P c) = true) (h2 : ∀ c ∈ L.filter isCode, P c = true) : L.all P = true := by
  refine List.all_eq_true.mpr fun c hc => ?_
  have h := List.all_eq_true.mp h1 c hc
  rcases Bool.eq_false_or_eq_true (isCode c) with hi | hi
  · exact h2 c (List.mem_filter.mpr ⟨hc, hi⟩)
  · simpa [hi] using h
set_option maxRecDepth 65536 in
theorem w_c0 : (Jvm.Cond.code x code maxLocals ret).before args0 about1 = true := code_word (m := ⟨1, 3⟩) (meth := k1m3) (c := k1c3) (by decide +kernel) rfl rfl rfl (by decide +kernel)
set_option maxRecDepth 65536 in
theorem w_c1 : (Jvm.Cond.code ({ cls := "com/example/leafrank/leafrank/core/IgnoredSectionNextPinLaw", name := "pick", desc := "(IIII)C" } : Jvm.MethodName) method_2_code (5 : Nat) (Option.some Jvm.ClassFile.FieldType.char)).before args0 about1 = true := code_word (m := ⟨1, 1⟩) (meth := k1m1) (c := k1c1) (by decide +kernel) rfl rfl rfl (by decide +kernel)
set_option maxRecDepth 65536 in
theorem w_c2 : (Jvm.Cond.code ({ cls := "com/example/leafrank/leafrank/core/IgnoredSection", name := "<init>", desc := "()V" } : Jvm.MethodName) prog_81_method_1_code (1 : Nat) (Option.none : Option Jvm.ClassFile.FieldType)).before args0 about1 = true := code_word (m := ⟨2, 0⟩) (meth := k2m0) (c := k2c0) (by decide +kernel) rfl rfl rfl (by decide +kernel)
set_option maxRecDepth 65536 in
theorem w_c3 : (Jvm.Cond.code ({ cls := "java/lang/Object", name := "<init>", desc := "()V" } : Jvm.MethodName) object_method_1_code (1 : Nat) (Option.none : Option Jvm.ClassFile.FieldType)).before args0 about1 = true := code_word (m := ⟨0, 0⟩) (meth := k0m0) (c := k0c0) (by decide +kernel) rfl rfl rfl (by decide +kernel)
set_option maxRecDepth 65536 in
theorem w_c4 : (Jvm.Cond.code ({ cls := "com/example/leafrank/leafrank/core/IgnoredSectionNextPinLaw", name := "delta", desc := "([CI)I" } : Jvm.MethodName) method_3_code (2 : Nat) (Option.some Jvm.ClassFile.FieldType.int)).before args0 about1 = true := code_word (m := ⟨1, 2⟩) (meth := k1m2) (c := k1c2) (by decide +kernel) rfl rfl rfl (by decide +kernel)
set_option maxRecDepth 65536 in
theorem w_c5 : (Jvm.Cond.code ({ cls := "com/example/leafrank/leafrank/core/IgnoredSection", name := "next", desc := "(C)Z" } : Jvm.MethodName) prog_81_method_2_code (2 : Nat) (Option.some Jvm.ClassFile.FieldType.boolean)).before args0 about1 = true := code_word (m := ⟨2, 1⟩) (meth := k2m1) (c := k2c1) (by decide +kernel) rfl rfl rfl (by decide +kernel)
def codes1 : List Jvm.Cond := [Jvm.Cond.code x code maxLocals ret, Jvm.Cond.code ({ cls := "com/example/leafrank/leafrank/core/IgnoredSectionNextPinLaw", name := "pick", desc := "(IIII)C" } : Jvm.MethodName) method_2_code (5 : Nat) (Option.some Jvm.ClassFile.FieldType.char), Jvm.Cond.code ({ cls := "com/example/leafrank/leafrank/core/IgnoredSection", name := "<init>", desc := "()V" } : Jvm.MethodName) prog_81_method_1_code (1 : Nat) (Option.none : Option Jvm.ClassFile.FieldType), Jvm.Cond.code ({ cls := "java/lang/Object", name := "<init>", desc := "()V" } : Jvm.MethodName) object_method_1_code (1 : Nat) (Option.none : Option Jvm.ClassFile.FieldType), Jvm.Cond.code ({ cls := "com/example/leafrank/leafrank/core/IgnoredSectionNextPinLaw", name := "delta", desc := "([CI)I" } : Jvm.MethodName) method_3_code (2 : Nat) (Option.some Jvm.ClassFile.FieldType.int), Jvm.Cond.code ({ cls := "com/example/leafrank/leafrank/core/IgnoredSection", name := "next", desc := "(C)Z" } : Jvm.MethodName) prog_81_method_2_code (2 : Nat) (Option.some Jvm.ClassFile.FieldType.boolean)]
set_option maxRecDepth 65536 in
theorem codes_eq : words1.filter isCode = codes1 := rfl
theorem w_codes : ∀ c ∈ words1.filter isCode, c.before args0 about1 = true := by
  rw [codes_eq]
  intro c hc
  simp only [codes1, List.mem_cons, List.not_mem_nil, or_false] at hc
  rcases hc with rfl | rfl | rfl | rfl | rfl | rfl
  · exact w_c0
  · exact w_c1
  · exact w_c2
  · exact w_c3
  · exact w_c4
  · exact w_c5
set_option maxRecDepth 65536 in
theorem w_t1 : (words1.take 24).all (fun c => isCode c || c.before args0 about1) = true := by decide +kernel
set_option maxRecDepth 65536 in
theorem w_t2 : (words1.drop 24).all (fun c => isCode c || c.before args0 about1) = true := by decide +kernel
theorem w_tables : (allAtoms (Jvm.Cond.code x code maxLocals ret :: tables_1)).before args0 about1 = true := by
  rw [allAtoms_all]
  show words1.all (fun c => c.before args0 about1) = true
  refine all_split ?_ w_codes
  rw [← List.take_append_drop 24 words1, List.all_append, w_t1, w_t2]
  rfl
set_option maxRecDepth 65536 in
theorem w_case : (Jvm.Cond.and given_1 narrow_1).before args0 about1 = true := by decide +kernel
theorem w_applies : (headSpec (Jvm.Cond.code x code maxLocals ret :: tables_1) room_1).applies x e0.platform about1 = true :=
  (Spec.applies_iff w_frames).mpr ⟨w_running, w_runnable, w_alone, w_named, w_hears, w_ripe, w_room, w_tables⟩
theorem atStart : AtStart classFile x code maxLocals ret World_1 tables_1 room_1 Calls_1 rest_1 Pre_1 launch0 p0 e0 about1 theMethod args0 below0 :=
  ⟨lists_1, trivial, launch0.admits_env _ _ _, launch0.least_env, fairChoices_fair.cas, fairChoices_fair.clock, w_frames, w_args, w_heap, w_applies, trivial, trivial, w_case⟩
end start1
theorem witness_1 : WitnessClaimed_1 := ⟨start1.p0, start1.e0, start1.about1, start1.theMethod, start1.args0, start1.below0, start1.atStart⟩
end Jvm.Pilot.@@N@@
