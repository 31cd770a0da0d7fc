import JvmDerived
import JvmDerived.Pilot.@@N@@Statement
import JvmDerived.Pilot.@@N@@Code
set_option linter.unusedVariables false
set_option linter.unusedSimpArgs false
namespace Jvm.Pilot.@@N@@
open Jvm Jvm.ClassFile Sem Op Lib Jvm.Free Jvm.Stand Jvm.LawKit Jvm.RoadKit Bundle Jvm.Pilot.@@N@@.Jvm.D
section Own
variable {p : Program} {l : Launch} {e : Env} {R : Room} {s : State} {m : MethodId} {args : Array Value} {below : List Frame} {meth : Method} {c : Code} {T : State} {locs : List Loc} {cells slots : Nat} {Z : State} {a0 : Array Value} {h h' : Heap} {Q : Option Value → Heap → List Loc → Prop} {kc ks n0 : Nat}
/-- from the state st the invocation ends as the contract asks -/
def Gl (p : Program) (e : Env) (below : List Frame) (s : State) (Q : Option Value → Heap → List Loc → Prop) (kc ks : Nat) (st : State) : Prop :=
  ∃ s₂ o, Steps p.tables e below st s₂ ∧ s₂.status = .running ∧ Ended s₂ below o ∧ ∃ v L, o = .returned v ∧ Q v s₂.heap L ∧ FrameEnd s o s₂ L kc ks
theorem Gl.st {a b : State} (h : ∀ t, Steps p.tables e below b t → Steps p.tables e below a t) (H : Gl p e below s Q kc ks b) : Gl p e below s Q kc ks a := by
  obtain ⟨s₂, o, h1, r⟩ := H
  exact ⟨s₂, o, h _ h1, r⟩
theorem Gl.cast {g g' : JFrame} (q : g = g') (H : Gl p e below s Q kc ks (T.setTop g')) : Gl p e below s Q kc ks (T.setTop g) := q ▸ H
theorem Gl.ret (X : Stand p l e R s m args below meth c T locs cells slots) {v : Option Value} (hv : meth.sig.returnType = none → v = none) (hlk : meth.locks = false) {g : State}
    (hst : ∀ fs, (∀ (f : JFrame) (acts : List Action), f.method = m → f.locked = none → f.entered = [] → (doReturn e (T.setTop f) acts v).1 = T.setFrames fs) → Steps p.tables e below g (T.setFrames fs))
    (hQ : Q v T.heap locs) (h1 : cells ≤ kc) (h2 : slots ≤ ks) : Gl p e below s Q kc ks g := by
  obtain ⟨fs, hr, hrun, hended, hW, hsame⟩ := X.leave (v := v) hv hlk
  exact ⟨_, _, hst fs hr, hrun, hended, _, _, rfl, hQ, ⟨_, rfl⟩, hW, hsame.mono h1 h2⟩
theorem Gl.retN (X : Stand p l e R s m args below meth c T locs cells slots) (hx : p.tables.exec = Jvm.exec) {pc : Nat} {Ls : Array Slot} {z : Int32} {t : FieldType} {rest : List Value} (hret : meth.sig.returnType = some t) (ht : t = .boolean ∨ t = .byte ∨ t = .char ∨ t = .short)
    (hd : decode c.code pc = .ok (.ireturn, 1)) (hlk : meth.locks = false) (h1 : cells ≤ kc) (h2 : slots ≤ ks) (hQ : Q (some (.int (nar t z))) T.heap locs) : Gl p e below s Q kc ks (T.setTop (mkF m pc Ls (.int z :: rest))) :=
  Gl.ret X (fun q => by rw [hret] at q; cases q) hlk (fun _ hr => Jvm.RoadKit.retN X hx hret ht hd hr) hQ h1 h2
theorem Gl.retI (X : Stand p l e R s m args below meth c T locs cells slots) (hx : p.tables.exec = Jvm.exec) {pc : Nat} {Ls : Array Slot} {z : Int32} {rest : List Value} (hret : meth.sig.returnType = some .int)
    (hd : decode c.code pc = .ok (.ireturn, 1)) (hlk : meth.locks = false) (h1 : cells ≤ kc) (h2 : slots ≤ ks) (hQ : Q (some (.int z)) T.heap locs) : Gl p e below s Q kc ks (T.setTop (mkF m pc Ls (.int z :: rest))) :=
  Gl.ret X (fun q => by rw [hret] at q; cases q) hlk (fun _ hr => retOut X hx hret rfl (Or.inl ⟨rfl, Or.inl rfl, _, rfl⟩) hd hr) hQ h1 h2
theorem Gl.retJ (X : Stand p l e R s m args below meth c T locs cells slots) (hx : p.tables.exec = Jvm.exec) {pc : Nat} {Ls : Array Slot} {z : Int64} {rest : List Value} (hret : meth.sig.returnType = some .long)
    (hd : decode c.code pc = .ok (.lreturn, 1)) (hlk : meth.locks = false) (h1 : cells ≤ kc) (h2 : slots ≤ ks) (hQ : Q (some (.long z)) T.heap locs) : Gl p e below s Q kc ks (T.setTop (mkF m pc Ls (.long z :: rest))) :=
  Gl.ret X (fun q => by rw [hret] at q; cases q) hlk (fun _ hr => retOut X hx hret rfl (Or.inr (Or.inl ⟨rfl, rfl, _, rfl⟩)) hd hr) hQ h1 h2
theorem Gl.retA (X : Stand p l e R s m args below meth c T locs cells slots) (hx : p.tables.exec = Jvm.exec) {pc : Nat} {Ls : Array Slot} {z : Addr} {t : FieldType} {rest : List Value} (hret : meth.sig.returnType = some (.array t))
    (hd : decode c.code pc = .ok (.areturn, 1)) (hlk : meth.locks = false) (h1 : cells ≤ kc) (h2 : slots ≤ ks) (hQ : Q (some (.ref z)) T.heap locs) : Gl p e below s Q kc ks (T.setTop (mkF m pc Ls (.ref z :: rest))) :=
  Gl.ret X (fun q => by rw [hret] at q; cases q) hlk (fun _ hr => retOut X hx hret rfl (Or.inr (Or.inr (Or.inr (Or.inr ⟨rfl, rfl, rfl⟩)))) hd hr) hQ h1 h2
theorem Gl.retV (X : Stand p l e R s m args below meth c T locs cells slots) (hx : p.tables.exec = Jvm.exec) {pc : Nat} {Ls : Array Slot} (hret : meth.sig.returnType = none)
    (hd : decode c.code pc = .ok (.return_, 1)) (hlk : meth.locks = false) (h1 : cells ≤ kc) (h2 : slots ≤ ks) (hQ : Q none T.heap locs) : Gl p e below s Q kc ks (T.setTop (mkF m pc Ls [])) :=
  Gl.ret X (fun _ => rfl) hlk (fun _ hr => X.returnOut hx hret hd hr) hQ h1 h2
/-- what a body that changes nothing leaves: the value w, the heap as it was -/
def QP (n0 : Nat) (h0 : Heap) (w : Value) (v : Option Value) (h : Heap) (L : List Loc) : Prop := v = some w ∧ Fr n0 L ∧ h = h0
/-- a static call by its contract -/
theorem Gl.callS (X : Stand p l e R s m args below meth c T locs cells slots) (hx : p.tables.exec = Jvm.exec) (hZ : Z.Warmed39 s.vm) {own : String} {index : Nat} {y : MethodName} {bytes : ByteArray} {maxL : Nat} {ret : Option FieldType} {rm : Room} {W : Nat} {as' : Array Value} {Qc : Option Value → Heap → List Loc → Prop}
    (hown : s.vm.findClass own = some m.cls) (w1 : (Cond.methodLink own index y).before a0 Z = true) (w2 : (Cond.static y).before a0 Z = true) (w3 : (Cond.initialized y.cls).before a0 Z = true) (w4 : (Cond.code y bytes maxL ret).before a0 Z = true)
    (hy : y.cls ≠ "java/lang/invoke/MethodHandle" ∧ y.cls ≠ "java/lang/invoke/VarHandle")
    (hM : MetFree l y (head1 [Cond.code y bytes maxL ret] rm) (fun a U => a = as' ∧ Z.Warmed39 U.vm ∧ U.heap = h) (fun _ _ _ _ _ => True) (fun _ U o U' => ∃ v L, o = .returned v ∧ Qc v U'.heap L ∧ FrameEnd U o U' L rm.cells rm.slots))
    (hf : rm.frames + 1 ≤ R.frames) (hl : W + (maxL + 11) + rm.locals ≤ R.locals) (eT : T.heap = h) (hc1 : cells + rm.cells ≤ R.cells) (hs1 : slots + rm.slots ≤ R.slots)
    {pc : Nat} {Ls : Array Slot} {stk argsL rest : List Value} (hsz : Ls.size = c.maxLocals) (hlen : ∀ sig, parseMethodDescriptor y.desc = some sig → argsL.length = sig.parameters.length) (hstk : stk = argsL.reverse ++ rest) (has : argsL.toArray = as')
    (hW : (rest.map fun v => v.category).sum ≤ W) (hd : decode c.code pc = .ok (.invokestatic index, 3))
    (K : ∀ (T' : State) (v : Option Value) (L : List Loc), Stand p l e R s m args below meth c T' (locs ++ L) (cells + rm.cells) (slots + rm.slots) → Qc v T'.heap L → Gl p e below s Q kc ks (T'.setTop (mkF m (pc + 3) Ls (v.toList ++ rest)))) :
    Gl p e below s Q kc ks (T.setTop (mkF m pc Ls stk)) := by
  obtain ⟨v, _, ⟨T', L', k', n'⟩, -, X', ⟨Lc, hQ, l1, y1, z1⟩, st⟩ := Jvm.LawKit.callS X hx (y := y) hown (mvT hZ w1) (mvT hZ w2) (mvT hZ w3) (mvT hZ w4) hy (backOf (W := W) hM hZ w4 w3 hf hl) (g := mkF m pc Ls stk) rfl hsz (argsL := argsL) (rest := rest) hlen hstk
    (by show 2 * 0 + _ ≤ _; rw [Nat.mul_zero, Nat.zero_add]; exact hW) hd (fun _ _ => ⟨has, eT, hc1, hs1⟩)
  dsimp only [Pt.U, Pt.locs, Pt.cells, Pt.slots] at X' l1 y1 z1 st hQ
  subst l1 y1 z1
  exact Gl.st (fun t k => st t k) (K T' v Lc X' hQ)
/-- a static call of a body that changes nothing -/
theorem Gl.callP (X : Stand p l e R s m args below meth c T locs cells slots) (hx : p.tables.exec = Jvm.exec) (hZ : Z.Warmed39 s.vm) {own : String} {index : Nat} {y : MethodName} {bytes : ByteArray} {maxL : Nat} {ret : Option FieldType} {fr lo W : Nat} {as' : Array Value} {w : Value}
    (hown : s.vm.findClass own = some m.cls) (w1 : (Cond.methodLink own index y).before a0 Z = true) (w2 : (Cond.static y).before a0 Z = true) (w3 : (Cond.initialized y.cls).before a0 Z = true) (w4 : (Cond.code y bytes maxL ret).before a0 Z = true)
    (hy : y.cls ≠ "java/lang/invoke/MethodHandle" ∧ y.cls ≠ "java/lang/invoke/VarHandle")
    (hM : MetFree l y (head1 [Cond.code y bytes maxL ret] ⟨fr, 0, 0, lo⟩) (fun a U => a = as' ∧ Z.Warmed39 U.vm ∧ U.heap = h) (fun _ _ _ _ _ => True) (fun _ U o U' => ∃ v L, o = .returned v ∧ QP n0 h w v U'.heap L ∧ FrameEnd U o U' L 0 0))
    (hf : fr + 1 ≤ R.frames) (hl : W + (maxL + 11) + lo ≤ R.locals) (eT : T.heap = h) (N : Fr n0 locs) (hc1 : cells ≤ R.cells) (hs1 : slots ≤ R.slots)
    {pc : Nat} {Ls : Array Slot} {stk argsL rest : List Value} (hsz : Ls.size = c.maxLocals) (hlen : ∀ sig, parseMethodDescriptor y.desc = some sig → argsL.length = sig.parameters.length) (hstk : stk = argsL.reverse ++ rest) (has : argsL.toArray = as')
    (hW : (rest.map fun v => v.category).sum ≤ W) (hd : decode c.code pc = .ok (.invokestatic index, 3))
    (K : ∀ (T' : State) (L : List Loc), Stand p l e R s m args below meth c T' L cells slots → T'.heap = h → Fr n0 L → Gl p e below s Q kc ks (T'.setTop (mkF m (pc + 3) Ls (w :: rest)))) :
    Gl p e below s Q kc ks (T.setTop (mkF m pc Ls stk)) :=
  Gl.callS (rm := ⟨fr, 0, 0, lo⟩) X hx hZ hown w1 w2 w3 w4 hy hM hf hl eT hc1 hs1 hsz hlen hstk has hW hd fun T' v L X' hq => by
    obtain ⟨rfl, N', e'⟩ := hq
    exact K T' _ X' e' (N.app N')
end Own
theorem own_ltI {x y : Int32} : x < y ↔ x.toInt < y.toInt := Int32.lt_iff_toInt_lt
theorem own_eqI {x y : Int32} : x = y ↔ x.toInt = y.toInt := ⟨fun h => h ▸ rfl, fun h => Int32.toInt_inj.mp h⟩
theorem own_ltJ {x y : Int64} : x < y ↔ x.toInt < y.toInt := Int64.lt_iff_toInt_lt
theorem own_eqJ {x y : Int64} : x = y ↔ x.toInt = y.toInt := ⟨fun h => h ▸ rfl, fun h => Int64.toInt_inj.mp h⟩
/-- a truth as the int that a boolean method returns -/
def own_b (b : Bool) : Int32 := if b then 1 else 0
theorem own_b1 {b : Bool} (h : b = true) : some (Value.int (nar .boolean 1)) = some (Value.int (own_b b)) := by subst h; rfl
theorem own_b0 {b : Bool} (h : b = false) : some (Value.int (nar .boolean 0)) = some (Value.int (own_b b)) := by subst h; rfl
theorem own_bn (b : Bool) : nar .boolean (own_b b) = own_b b := by cases b <;> rfl
theorem own_bt {b : Bool} (h : b = true) : ¬ own_b b = 0 := by subst h; decide
theorem own_bf {b : Bool} (h : ¬ b = true) : own_b b = 0 := by cases b with | true => exact absurd rfl h | false => rfl
def QL (n0 : Nat) (v : Option Value) (h : Heap) (L : List Loc) : Prop := v = some (.int 1) ∧ Fr n0 L
theorem own_pn0 : plainName "org/membrana/input/MarkupTextClosingQuotePinLaw" = true := by first | (simp [plainName, overriddenIn]; done) | decide +kernel
theorem own_pn1 : plainName "org/membrana/input/MarkupText" = true := by first | (simp [plainName, overriddenIn]; done) | decide +kernel
theorem own_pd0 : parseMethodDescriptor "(JI)C" = some ⟨[.long, .int], some .char⟩ := by decide +kernel
theorem own_pd1 : parseMethodDescriptor "([CIII)Z" = some ⟨[(.array .char), .int, .int, .int], some .boolean⟩ := by decide +kernel
theorem own_pd2 : parseMethodDescriptor "([CII)I" = some ⟨[(.array .char), .int, .int], some .int⟩ := by decide +kernel
section OwnA
variable {p : Program} {l : Launch} {e : Env} {R : Room} {s : State} {m : MethodId} {args : Array Value} {below : List Frame} {meth : Method} {c : Code} {T : State} {locs : List Loc} {cells slots : Nat} {Z : State} {a0 : Array Value} {h h' : Heap} {Q : Option Value → Heap → List Loc → Prop} {kc ks n0 : Nat} {a b : Addr} {ty : FieldType} {vs : List Value}
/-- the array at a is of the kind ty and holds just vs -/
def Ar (Z : State) (h : Heap) (a : Addr) (ty : FieldType) (vs : List Value) : Prop := ∃ c : Cell, Arr Z h a c ty ∧ c.slots.toList = vs
theorem Ar.lt (F : Ar Z h a ty vs) : a < h.size := by obtain ⟨c, A, -⟩ := F; exact A.lt
theorem Ar.ext (F : Ar Z h a ty vs) (E : Ext h h') : Ar Z h' a ty vs := by obtain ⟨c, A, r⟩ := F; exact ⟨c, A.ext E, r⟩
theorem Ar.other {sl : Nat} {v : Value} (F : Ar Z h b ty vs) (W : Wr h h' a sl v) (q : b ≠ a) : Ar Z h' b ty vs := by obtain ⟨c, A, r⟩ := F; exact ⟨c, A.other W q, r⟩
theorem Ar.keep {ws : List Addr} (F : Ar Z h a ty vs) (K : Keep h h' ws) (q : a ∉ ws) : Ar Z h' a ty vs := by obtain ⟨c, A, r⟩ := F; exact ⟨c, ⟨K.2.1 a c A.1 q, A.2⟩, r⟩
theorem Ar.same {k : Nat} {v : Value} (F : Ar Z h a ty vs) (W : Wr h h' a k v) : Ar Z h' a ty (vs.set k v) := by
  obtain ⟨c, A, r⟩ := F
  exact ⟨c.setSlot k v, A.same W, by subst r; simp [Cell.setSlot]⟩
theorem own_clamp {j : Int32} {k : Nat} (hj : j.toInt = k) : j.toNatClampNeg = k ∧ ¬ j < 0 := by
  refine ⟨?_, fun q => ?_⟩
  · have : j.toNatClampNeg = j.toInt.toNat := rfl
    rw [this, hj]; rfl
  · have := own_ltI.mp q
    have h0 : (0 : Int32).toInt = 0 := by decide
    omega
theorem own_in {cl : Cell} {j : Int32} {k : Nat} (hj : j.toInt = k) (e : cl.slots.toList = vs) (hk : k < vs.length) : ¬ (j < 0 ∨ cl.slots.size ≤ j.toNatClampNeg) := by
  obtain ⟨h1, h2⟩ := own_clamp hj
  have : cl.slots.size = vs.length := by rw [← e]; simp
  rw [h1, this]
  exact fun q => q.elim h2 fun q => absurd q (by omega)
theorem own_at {cl : Cell} {j : Int32} {k : Nat} {v : Value} (hj : j.toInt = k) (e : cl.slots.toList = vs) (hv : vs[k]? = some v) : cl.slots[j.toNatClampNeg]? = some v := by
  rw [(own_clamp hj).1, ← Array.getElem?_toList, e]; exact hv
theorem own_len {k : Nat} {v : Value} (hv : vs[k]? = some v) : k < vs.length := (List.getElem?_eq_some_iff.mp hv).1
theorem Gl.caload (X : Stand p l e R s m args below meth c T locs cells slots) (hx : p.tables.exec = Jvm.exec) (hZ : Z.Warmed39 s.vm) (eT : T.heap = h) (A : Ar Z h a .char vs) {j : Int32} {k : Nat} {v : Value} (hj : j.toInt = k) (hv : vs[k]? = some v)
    {pc : Nat} {Ls : Array Slot} {rest : List Value} (hd : decode c.code pc = .ok (.caload, 1)) (K : Gl p e below s Q kc ks (T.setTop (mkF m (pc + 1) Ls (v :: rest)))) : Gl p e below s Q kc ks (T.setTop (mkF m pc Ls (.int j :: .ref a :: rest))) := by
  obtain ⟨cl, A, q⟩ := A
  exact Gl.st (fun t k => X.caload hx (by rw [eT]; exact A.1) (State.isArrayOf_alike hZ.alike A.2.1) A.2.2 (own_in hj q (own_len hv)) (own_at hj q hv) (g := mkF m pc Ls (.int j :: .ref a :: rest)) rfl rfl hd t k) K
theorem Gl.baload (X : Stand p l e R s m args below meth c T locs cells slots) (hx : p.tables.exec = Jvm.exec) (hZ : Z.Warmed39 s.vm) (eT : T.heap = h) (A : Ar Z h a .byte vs) {j : Int32} {k : Nat} {v : Value} (hj : j.toInt = k) (hv : vs[k]? = some v)
    {pc : Nat} {Ls : Array Slot} {rest : List Value} (hd : decode c.code pc = .ok (.baload, 1)) (K : Gl p e below s Q kc ks (T.setTop (mkF m (pc + 1) Ls (v :: rest)))) : Gl p e below s Q kc ks (T.setTop (mkF m pc Ls (.int j :: .ref a :: rest))) := by
  obtain ⟨cl, A, q⟩ := A
  exact Gl.st (fun t k => X.baloadBytes hx (by rw [eT]; exact A.1) (State.isArrayOf_alike hZ.alike A.2.1) A.2.2 (own_in hj q (own_len hv)) (own_at hj q hv) (g := mkF m pc Ls (.int j :: .ref a :: rest)) rfl rfl hd t k) K
theorem Gl.iaload (X : Stand p l e R s m args below meth c T locs cells slots) (hx : p.tables.exec = Jvm.exec) (hZ : Z.Warmed39 s.vm) (eT : T.heap = h) (A : Ar Z h a .int vs) {j : Int32} {k : Nat} {v : Value} (hj : j.toInt = k) (hv : vs[k]? = some v)
    {pc : Nat} {Ls : Array Slot} {rest : List Value} (hd : decode c.code pc = .ok (.iaload, 1)) (K : Gl p e below s Q kc ks (T.setTop (mkF m (pc + 1) Ls (v :: rest)))) : Gl p e below s Q kc ks (T.setTop (mkF m pc Ls (.int j :: .ref a :: rest))) := by
  obtain ⟨cl, A, q⟩ := A
  exact Gl.st (fun t k => X.iaload hx (by rw [eT]; exact A.1) (State.isArrayOf_alike hZ.alike A.2.1) A.2.2 (own_in hj q (own_len hv)) (own_at hj q hv) (g := mkF m pc Ls (.int j :: .ref a :: rest)) rfl rfl hd t k) K
theorem Gl.laload (X : Stand p l e R s m args below meth c T locs cells slots) (hx : p.tables.exec = Jvm.exec) (hZ : Z.Warmed39 s.vm) (eT : T.heap = h) (A : Ar Z h a .long vs) {j : Int32} {k : Nat} {v : Value} (hj : j.toInt = k) (hv : vs[k]? = some v)
    {pc : Nat} {Ls : Array Slot} {rest : List Value} (hd : decode c.code pc = .ok (.laload, 1)) (K : Gl p e below s Q kc ks (T.setTop (mkF m (pc + 1) Ls (v :: rest)))) : Gl p e below s Q kc ks (T.setTop (mkF m pc Ls (.int j :: .ref a :: rest))) := by
  obtain ⟨cl, A, q⟩ := A
  exact Gl.st (fun t k => X.laload hx (by rw [eT]; exact A.1) (State.isArrayOf_alike hZ.alike A.2.1) A.2.2 (own_in hj q (own_len hv)) (own_at hj q hv) (g := mkF m pc Ls (.int j :: .ref a :: rest)) rfl rfl hd t k) K
theorem Gl.alen (X : Stand p l e R s m args below meth c T locs cells slots) (hx : p.tables.exec = Jvm.exec) (hZ : Z.Warmed39 s.vm) (eT : T.heap = h) (A : Ar Z h a ty vs) {z : Int32} (hz : vs.length.toInt32 = z)
    {pc : Nat} {Ls : Array Slot} {rest : List Value} (hd : decode c.code pc = .ok (.arraylength, 1)) (K : Gl p e below s Q kc ks (T.setTop (mkF m (pc + 1) Ls (.int z :: rest)))) : Gl p e below s Q kc ks (T.setTop (mkF m pc Ls (.ref a :: rest))) := by
  obtain ⟨cl, A, q⟩ := A
  have e1 : cl.slots.size.toInt32 = z := by rw [← hz, ← q]; simp
  exact Gl.st (fun t k => X.arraylength hx (by rw [eT]; exact A.1) (State.isArrayOf_alike hZ.alike A.2.1) (g := mkF m pc Ls (.ref a :: rest)) rfl rfl hd t k) (by rw [e1]; exact K)
theorem Gl.castore (X : Stand p l e R s m args below meth c T locs cells slots) (hx : p.tables.exec = Jvm.exec) (hZ : Z.Warmed39 s.vm) (eT : T.heap = h) (A : Ar Z h a .char vs) (N : Fr n0 locs) (ga : n0 ≤ a) {j x : Int32} {k : Nat} (hj : j.toInt = k) (hk : k < vs.length)
    {pc : Nat} {Ls : Array Slot} {rest : List Value} (hd : decode c.code pc = .ok (.castore, 1))
    (K : ∀ (T' : State) (h' : Heap) (L : List Loc), Stand p l e R s m args below meth c T' L cells slots → T'.heap = h' → Fr n0 L → Wr h h' a k (.int (nar .char x)) → Ar Z h' a .char (vs.set k (.int (nar .char x))) → Gl p e below s Q kc ks (T'.setTop (mkF m (pc + 1) Ls rest))) :
    Gl p e below s Q kc ks (T.setTop (mkF m pc Ls (.int x :: .int j :: .ref a :: rest))) := by
  obtain ⟨cl, B, q⟩ := A
  obtain ⟨T', h', X', e', W', st⟩ := stC X hx hZ eT B (j := j) (x := x) (own_in hj q hk) (g := mkF m pc Ls (.int x :: .int j :: .ref a :: rest)) rfl rfl hd
  have N' := Fr.snoc X' N ga
  rw [(own_clamp hj).1] at W'
  exact Gl.st st (K T' h' _ X' e' N' W' (Ar.same ⟨cl, B, q⟩ W'))
theorem Gl.bastore (X : Stand p l e R s m args below meth c T locs cells slots) (hx : p.tables.exec = Jvm.exec) (hZ : Z.Warmed39 s.vm) (eT : T.heap = h) (A : Ar Z h a .byte vs) (N : Fr n0 locs) (ga : n0 ≤ a) {j x : Int32} {k : Nat} (hj : j.toInt = k) (hk : k < vs.length)
    {pc : Nat} {Ls : Array Slot} {rest : List Value} (hd : decode c.code pc = .ok (.bastore, 1))
    (K : ∀ (T' : State) (h' : Heap) (L : List Loc), Stand p l e R s m args below meth c T' L cells slots → T'.heap = h' → Fr n0 L → Wr h h' a k (.int (nar .byte x)) → Ar Z h' a .byte (vs.set k (.int (nar .byte x))) → Gl p e below s Q kc ks (T'.setTop (mkF m (pc + 1) Ls rest))) :
    Gl p e below s Q kc ks (T.setTop (mkF m pc Ls (.int x :: .int j :: .ref a :: rest))) := by
  obtain ⟨cl, B, q⟩ := A
  obtain ⟨T', h', X', e', W', st⟩ := stB X hx hZ eT B (j := j) (x := x) (own_in hj q hk) (g := mkF m pc Ls (.int x :: .int j :: .ref a :: rest)) rfl rfl hd
  have N' := Fr.snoc X' N ga
  rw [(own_clamp hj).1] at W'
  exact Gl.st st (K T' h' _ X' e' N' W' (Ar.same ⟨cl, B, q⟩ W'))
theorem Gl.iastore (X : Stand p l e R s m args below meth c T locs cells slots) (hx : p.tables.exec = Jvm.exec) (hZ : Z.Warmed39 s.vm) (eT : T.heap = h) (A : Ar Z h a .int vs) (N : Fr n0 locs) (ga : n0 ≤ a) {j x : Int32} {k : Nat} (hj : j.toInt = k) (hk : k < vs.length)
    {pc : Nat} {Ls : Array Slot} {rest : List Value} (hd : decode c.code pc = .ok (.iastore, 1))
    (K : ∀ (T' : State) (h' : Heap) (L : List Loc), Stand p l e R s m args below meth c T' L cells slots → T'.heap = h' → Fr n0 L → Wr h h' a k (.int x) → Ar Z h' a .int (vs.set k (.int x)) → Gl p e below s Q kc ks (T'.setTop (mkF m (pc + 1) Ls rest))) :
    Gl p e below s Q kc ks (T.setTop (mkF m pc Ls (.int x :: .int j :: .ref a :: rest))) := by
  obtain ⟨cl, B, q⟩ := A
  obtain ⟨T', h', X', e', W', st⟩ := stI X hx hZ eT B (j := j) (x := x) (own_in hj q hk) (g := mkF m pc Ls (.int x :: .int j :: .ref a :: rest)) rfl rfl hd
  have N' := Fr.snoc X' N ga
  rw [(own_clamp hj).1] at W'
  exact Gl.st st (K T' h' _ X' e' N' W' (Ar.same ⟨cl, B, q⟩ W'))
theorem Gl.lastore (X : Stand p l e R s m args below meth c T locs cells slots) (hx : p.tables.exec = Jvm.exec) (hZ : Z.Warmed39 s.vm) (eT : T.heap = h) (A : Ar Z h a .long vs) (N : Fr n0 locs) (ga : n0 ≤ a) {j : Int32} {x : Int64} {k : Nat} (hj : j.toInt = k) (hk : k < vs.length)
    {pc : Nat} {Ls : Array Slot} {rest : List Value} (hd : decode c.code pc = .ok (.lastore, 1))
    (K : ∀ (T' : State) (h' : Heap) (L : List Loc), Stand p l e R s m args below meth c T' L cells slots → T'.heap = h' → Fr n0 L → Wr h h' a k (.long x) → Ar Z h' a .long (vs.set k (.long x)) → Gl p e below s Q kc ks (T'.setTop (mkF m (pc + 1) Ls rest))) :
    Gl p e below s Q kc ks (T.setTop (mkF m pc Ls (.long x :: .int j :: .ref a :: rest))) := by
  obtain ⟨cl, B, q⟩ := A
  obtain ⟨T', h', X', e', W', st⟩ := stJ X hx hZ eT B (j := j) (x := x) (own_in hj q hk) (g := mkF m pc Ls (.long x :: .int j :: .ref a :: rest)) rfl rfl hd
  have N' := Fr.snoc X' N ga
  rw [(own_clamp hj).1] at W'
  exact Gl.st st (K T' h' _ X' e' N' W' (Ar.same ⟨cl, B, q⟩ W'))
theorem Gl.newA (X : Stand p l e R s m args below meth c T locs cells slots) (hx : p.tables.exec = Jvm.exec) (hZ : Z.Warmed39 s.vm) {aty : ArrayType} (w : (Cond.arrayClass (newarray.typeOf aty)).before a0 Z = true) (eT : T.heap = h) {n : Int32} {k cap : Nat} (hn : n.toInt = k) (hcap : k ≤ cap) (hb : cap * 8 ≤ 536870912) (hc : cells + 1 ≤ R.cells) (hl : slots + cap ≤ R.slots)
    {pc : Nat} {Ls : Array Slot} {rest : List Value} (hd : decode c.code pc = .ok (.newarray aty, 2))
    (K : ∀ (T' : State) (h' : Heap) (b : Addr), b = h.size → Stand p l e R s m args below meth c T' locs (cells + 1) (slots + cap) → T'.heap = h' → Ext h h' → Ar Z h' b (newarray.typeOf aty) (List.replicate k (defaultValue (newarray.typeOf aty))) → Gl p e below s Q kc ks (T'.setTop (mkF m (pc + 2) Ls (.ref b :: rest)))) :
    Gl p e below s Q kc ks (T.setTop (mkF m pc Ls (.int n :: rest))) := by
  obtain ⟨h1, h2⟩ := own_clamp hn
  obtain ⟨T', h', cA, X', e', E', A', st⟩ := newP X hx hZ w eT (g := mkF m pc Ls (.int n :: rest)) rfl hd rfl h2 (cap := cap) (by rw [h1]; exact hcap) hb hc hl
  exact Gl.st st (K T' h' _ rfl X' e' E' ⟨_, A', by simp [Jvm.RoadKit.newA, h1]⟩)
theorem Gl.getF (X : Stand p l e R s m args below meth c T locs cells slots) (hx : p.tables.exec = Jvm.exec) (hZ : Z.Warmed39 s.vm) {own O n d : String} {index : Nat} (hown : s.vm.findClass own = some m.cls) (w : (Cond.fieldLink own index O n d).before a0 Z = true) (eT : T.heap = h) {v : Value} (F : Fld Z h a O n d v)
    {pc : Nat} {Ls : Array Slot} {rest : List Value} (hd : decode c.code pc = .ok (.getfield index, 3))
    (K : ∀ (T' : State), Stand p l e R s m args below meth c T' locs cells slots → T'.heap = h → Gl p e below s Q kc ks (T'.setTop (mkF m (pc + 3) Ls (v :: rest)))) :
    Gl p e below s Q kc ks (T.setTop (mkF m pc Ls (.ref a :: rest))) := by
  obtain ⟨T', X', e', st⟩ := Jvm.RoadKit.getF X hx hZ hown (host := "") (Or.inl w) Via.refl eT F (g := mkF m pc Ls (.ref a :: rest)) rfl rfl hd
  exact Gl.st st (K T' X' e')
theorem Gl.putF (X : Stand p l e R s m args below meth c T locs cells slots) (hx : p.tables.exec = Jvm.exec) (hZ : Z.Warmed39 s.vm) {own O n d C : String} {index kk : Nat} {ty : FieldType} (hown : s.vm.findClass own = some m.cls) (w : (Cond.fieldLink own index O n d).before a0 Z = true) (eT : T.heap = h) {v old : Value} (F : Fld Z h a O n d old)
    (E : Exa Z h a C) (L : (Cond.lays C O n d).before a0 Z = true ∨ ((Cond.laysFinal C O n d).before a0 Z = true ∧ own = O ∧ meth.name = "<init>")) (wi : (Cond.instantiable C kk).before a0 Z = true) (hty : parseFieldDescriptor d = some ty) (hn : narrow ty v = v) (hf : fits ty v = true) (N : Fr n0 locs) (ga : n0 ≤ a)
    {pc : Nat} {Ls : Array Slot} {rest : List Value} (hd : decode c.code pc = .ok (.putfield index, 3))
    (K : ∀ (T' : State) (h' : Heap) (L : List Loc), Stand p l e R s m args below meth c T' L cells slots → T'.heap = h' → Fr n0 L → Wr h h' a (Jvm.RoadKit.slotOf Z O n d) v → Gl p e below s Q kc ks (T'.setTop (mkF m (pc + 3) Ls rest))) :
    Gl p e below s Q kc ks (T.setTop (mkF m pc Ls (v :: .ref a :: rest))) := by
  obtain ⟨T', h', X', e', W', st⟩ := Jvm.RoadKit.putF X hx hZ hown (host := "") (Or.inl w) Via.refl eT F E L wi hty hn hf (g := mkF m pc Ls (v :: .ref a :: rest)) rfl rfl hd
  exact Gl.st st (K T' h' _ X' e' (Fr.snoc X' N ga) W')
theorem Gl.newO (X : Stand p l e R s m args below meth c T locs cells slots) (hx : p.tables.exec = Jvm.exec) (hZ : Z.Warmed39 s.vm) {own C : String} {index n : Nat} (hown : s.vm.findClass own = some m.cls) (w : (Cond.classLink own index C).before a0 Z = true) (wi : (Cond.instantiable C n).before a0 Z = true) (wz : (Cond.initialized C).before a0 Z = true) (eT : T.heap = h) (hc : cells + 1 ≤ R.cells) (hl : slots + n ≤ R.slots)
    {pc : Nat} {Ls : Array Slot} {rest : List Value} (hd : decode c.code pc = .ok (.new index, 3))
    (K : ∀ (T' : State) (h' : Heap) (b : Addr), b = h.size → Stand p l e R s m args below meth c T' locs (cells + 1) (slots + n) → T'.heap = h' → Ext h h' → Exa Z h' b C → (∀ {O nm d : String} {ty : FieldType}, Laid Z a0 C O nm d → parseFieldDescriptor d = some ty → Fld Z h' b O nm d (defaultValue ty)) → Gl p e below s Q kc ks (T'.setTop (mkF m (pc + 3) Ls (.ref b :: rest)))) :
    Gl p e below s Q kc ks (T.setTop (mkF m pc Ls rest)) := by
  obtain ⟨T', h', X', e', E', A', D', -, st⟩ := Jvm.RoadKit.newO X hx hZ hown w wi wz eT (g := mkF m pc Ls rest) rfl hd hc hl
  exact Gl.st st (K T' h' _ rfl X' e' E' A' D')
/-- a step that a law of the library hands out as 'there is a state' with the heap as it was -/
theorem Gl.ex {g g0 : JFrame} (H : ∃ T', Stand p l e R s m args below meth c T' locs cells slots ∧ T'.heap = h ∧ ∀ target, Steps p.tables e below (T'.setTop g) target → Steps p.tables e below (T.setTop g0) target)
    (K : ∀ (T' : State), Stand p l e R s m args below meth c T' locs cells slots → T'.heap = h → Gl p e below s Q kc ks (T'.setTop g)) : Gl p e below s Q kc ks (T.setTop g0) := by
  obtain ⟨T', X', e', st⟩ := H
  exact Gl.st st (K T' X' e')
/-- a constructor by its contract -/
theorem Gl.callI (X : Stand p l e R s m args below meth c T locs cells slots) (hx : p.tables.exec = Jvm.exec) (hZ : Z.Warmed39 s.vm) {own : String} {index : Nat} {y : MethodName} {bytes : ByteArray} {maxL : Nat} {rm : Room} {W : Nat} {as' : Array Value} {Qc : Option Value → Heap → List Loc → Prop}
    (hy1 : y.name = "<init>") (hown : s.vm.findClass own = some m.cls) (w1 : (Cond.methodLink own index y).before a0 Z = true) (w2 : (Cond.instanceMethod y).before a0 Z = true) (w3 : (Cond.initialized y.cls).before a0 Z = true) (w4 : (Cond.code y bytes maxL none).before a0 Z = true)
    (hy : y.cls ≠ "java/lang/invoke/MethodHandle" ∧ y.cls ≠ "java/lang/invoke/VarHandle")
    (hM : MetFree l y (head1 [Cond.code y bytes maxL none] rm) (fun a U => a = as' ∧ Z.Warmed39 U.vm ∧ U.heap = h) (fun _ _ _ _ _ => True) (fun _ U o U' => ∃ v L, o = .returned v ∧ Qc v U'.heap L ∧ FrameEnd U o U' L rm.cells rm.slots))
    (hf : rm.frames + 1 ≤ R.frames) (hl : W + (maxL + 11) + rm.locals ≤ R.locals) (eT : T.heap = h) (hc1 : cells + rm.cells ≤ R.cells) (hs1 : slots + rm.slots ≤ R.slots)
    {pc : Nat} {Ls : Array Slot} {stk argsL rest : List Value} (hsz : Ls.size = c.maxLocals) (hlen : ∀ sig, parseMethodDescriptor y.desc = some sig → argsL.length = sig.parameters.length) (hstk : stk = argsL.reverse ++ .ref a :: rest) (has : (.ref a :: argsL).toArray = as')
    (hW : (rest.map fun v => v.category).sum ≤ W) (hd : decode c.code pc = .ok (.invokespecial index, 3))
    (K : ∀ (T' : State) (v : Option Value) (L : List Loc), Stand p l e R s m args below meth c T' (locs ++ L) (cells + rm.cells) (slots + rm.slots) → Qc v T'.heap L → Gl p e below s Q kc ks (T'.setTop (mkF m (pc + 3) Ls (v.toList ++ rest)))) :
    Gl p e below s Q kc ks (T.setTop (mkF m pc Ls stk)) := by
  obtain ⟨v, _, ⟨T', L', k', n'⟩, -, X', ⟨Lc, hQ, l1, y1, z1⟩, st⟩ := X.specialBack hx (y := y) hy1 hown (mvT hZ w1) (mvT hZ w2) (mvT hZ w4) hy (backOf (W := W) hM hZ w4 w3 hf hl) (g := mkF m pc Ls stk) rfl hsz (Steps.refl _) (a := a) (argsL := argsL) (rest := rest) hlen hstk
    (by show 2 * 0 + _ ≤ _; rw [Nat.mul_zero, Nat.zero_add]; exact hW) hd (fun _ _ => ⟨has, eT, hc1, hs1⟩)
  dsimp only [Pt.U, Pt.locs, Pt.cells, Pt.slots] at X' l1 y1 z1 st hQ
  subst l1 y1 z1
  exact Gl.st (fun t k => st.trans k) (K T' v Lc X' hQ)
/-- an instance method of the receiver's own class by its contract -/
theorem Gl.callV (X : Stand p l e R s m args below meth c T locs cells slots) (hx : p.tables.exec = Jvm.exec) (hZ : Z.Warmed39 s.vm) {own : String} {index : Nat} {y : MethodName} {bytes : ByteArray} {maxL : Nat} {ret : Option FieldType} {rm : Room} {W : Nat} {as' : Array Value} {Qc : Option Value → Heap → List Loc → Prop}
    (hown : s.vm.findClass own = some m.cls) (w1 : (Cond.methodLink own index y).before a0 Z = true) (w2 : (Cond.declares y).before a0 Z = true) (w5 : (Cond.selects y.cls y y).before a0 Z = true) (w6 : (Cond.instanceMethod y).before a0 Z = true) (w3 : (Cond.initialized y.cls).before a0 Z = true) (w4 : (Cond.code y bytes maxL ret).before a0 Z = true)
    (hy : y.cls ≠ "java/lang/invoke/MethodHandle" ∧ y.cls ≠ "java/lang/invoke/VarHandle")
    (hM : MetFree l y (head1 [Cond.code y bytes maxL ret] rm) (fun a U => a = as' ∧ Z.Warmed39 U.vm ∧ U.heap = h) (fun _ _ _ _ _ => True) (fun _ U o U' => ∃ v L, o = .returned v ∧ Qc v U'.heap L ∧ FrameEnd U o U' L rm.cells rm.slots))
    (hf : rm.frames + 1 ≤ R.frames) (hl : W + (maxL + 11) + rm.locals ≤ R.locals) (eT : T.heap = h) (E : Exa Z h a y.cls) (hc1 : cells + rm.cells ≤ R.cells) (hs1 : slots + rm.slots ≤ R.slots)
    {pc : Nat} {Ls : Array Slot} {stk argsL rest : List Value} (hsz : Ls.size = c.maxLocals) (hlen : ∀ sig, parseMethodDescriptor y.desc = some sig → argsL.length = sig.parameters.length) (hstk : stk = argsL.reverse ++ .ref a :: rest) (has : (.ref a :: argsL).toArray = as')
    (hW : (rest.map fun v => v.category).sum ≤ W) (hd : decode c.code pc = .ok (.invokevirtual index, 3))
    (K : ∀ (T' : State) (v : Option Value) (L : List Loc), Stand p l e R s m args below meth c T' (locs ++ L) (cells + rm.cells) (slots + rm.slots) → Qc v T'.heap L → Gl p e below s Q kc ks (T'.setTop (mkF m (pc + 3) Ls (v.toList ++ rest)))) :
    Gl p e below s Q kc ks (T.setTop (mkF m pc Ls stk)) := by
  obtain ⟨cq, kq, q1, q2, q3⟩ := isOf hZ eT E
  obtain ⟨v, _, ⟨T', L', k', n'⟩, -, X', ⟨Lc, hQ, l1, y1, z1⟩, st⟩ := X.virtualBack hx (y := y) (z := y) hown (mvT hZ w1) (mvT hZ w2) (notFace_of_selects (args := #[]) (mvT hZ w5)) (mvT hZ w5) (mvT hZ w6) hy (backOf (W := W) hM hZ w4 w3 hf hl) q1 q3 (g := mkF m pc Ls stk) rfl hsz (Steps.refl _) (argsL := argsL) (rest := rest) hlen hstk
    (by show 2 * 0 + _ ≤ _; rw [Nat.mul_zero, Nat.zero_add]; exact hW) hd (fun _ _ => ⟨has, eT, hc1, hs1⟩)
  dsimp only [Pt.U, Pt.locs, Pt.cells, Pt.slots] at X' l1 y1 z1 st hQ
  subst l1 y1 z1
  exact Gl.st (fun t k => st.trans k) (K T' v Lc X' hQ)
end OwnA

def QE (n0 : Nat) (h0 : Heap) (v : Option Value) (h : Heap) (L : List Loc) : Prop := ∃ r : Int32, v = some (.int r) ∧ Fr n0 L ∧ h = h0
def own_ch (cs : List Int32) (i : Int) : Int := (cs.getD i.toNat 0).toInt
def own_hit (cs : List Int32) (o t i : Int32) : Bool := decide (i.toInt < t.toInt ∧ own_ch cs i.toInt = own_ch cs o.toInt)
def own_cq (cs : List Int32) (o t r : Int32) : Prop := (r.toInt = -1 ∧ ∀ i : Int, o.toInt < i → i < t.toInt → ¬ own_ch cs i = own_ch cs o.toInt) ∨ (o.toInt < r.toInt ∧ r.toInt < t.toInt ∧ own_ch cs r.toInt = own_ch cs o.toInt ∧ ∀ i : Int, o.toInt < i → i < r.toInt → ¬ own_ch cs i = own_ch cs o.toInt)
def QC (cs : List Int32) (o t : Int32) (n0 : Nat) (h0 : Heap) (v : Option Value) (h : Heap) (L : List Loc) : Prop := ∃ r : Int32, v = some (.int r) ∧ Fr n0 L ∧ h = h0 ∧ own_cq cs o t r
theorem own_get {cs : List Int32} {k : Nat} (h : k < cs.length) : (cs.map Value.int)[k]? = some (.int (cs.getD k 0)) := by
  rw [List.getElem?_map, List.getElem?_eq_getElem h, List.getD_eq_getElem?_getD, List.getElem?_eq_getElem h]; rfl
theorem own_pin {cs : List Int32} {o t r : Int32} (S : own_cq cs o t r) (e : Int) (h1 : o.toInt < e) (h2 : e < t.toInt) (h3 : own_ch cs e = own_ch cs o.toInt) (h4 : ∀ i : Int, o.toInt < i → i < e → ¬ (i < t.toInt ∧ own_ch cs i = own_ch cs o.toInt)) : r.toInt = e := by
  rcases S with ⟨a, b⟩ | ⟨a, b, c, d⟩
  · exact absurd h3 (b e h1 h2)
  · rcases Int.lt_trichotomy r.toInt e with q | q | q
    · exact absurd ⟨b, c⟩ (h4 _ a q)
    · exact q
    · exact absurd h3 (d e h1 q)
theorem own_pin0 {cs : List Int32} {o t r : Int32} (S : own_cq cs o t r) (h4 : ∀ i : Int, o.toInt < i → i < t.toInt → ¬ own_ch cs i = own_ch cs o.toInt) : r.toInt = -1 := by
  rcases S with ⟨a, b⟩ | ⟨a, b, c, d⟩
  · exact a
  · exact absurd c (h4 _ a b)

theorem d1_0 : decode method_2_code 0 = .ok (.lload_n 0, 1) := by decide +kernel
theorem d1_1 : decode method_2_code 1 = .ok (.iload_n 2, 1) := by decide +kernel
theorem d1_2 : decode method_2_code 2 = .ok (.lushr, 1) := by decide +kernel
theorem d1_3 : decode method_2_code 3 = .ok (.ldc2_w 7, 3) := by decide +kernel
theorem d1_6 : decode method_2_code 6 = .ok (.land, 1) := by decide +kernel
theorem d1_7 : decode method_2_code 7 = .ok (.l2i, 1) := by decide +kernel
theorem d1_8 : decode method_2_code 8 = .ok (.istore_n 3, 1) := by decide +kernel
theorem d1_9 : decode method_2_code 9 = .ok (.iload_n 3, 1) := by decide +kernel
theorem d1_10 : decode method_2_code 10 = .ok (.iconst 3, 1) := by decide +kernel
theorem d1_11 : decode method_2_code 11 = .ok (.iand, 1) := by decide +kernel
theorem d1_12 : decode method_2_code 12 = .ok (.istore 4, 2) := by decide +kernel
theorem d1_14 : decode method_2_code 14 = .ok (.iload 4, 2) := by decide +kernel
theorem d1_16 : decode method_2_code 16 = .ok (.ifCond .ne 6, 3) := by decide +kernel
theorem d1_19 : decode method_2_code 19 = .ok (.bipush 34, 2) := by decide +kernel
theorem d1_21 : decode method_2_code 21 = .ok (.ireturn, 1) := by decide +kernel
theorem d1_22 : decode method_2_code 22 = .ok (.iload 4, 2) := by decide +kernel
theorem d1_24 : decode method_2_code 24 = .ok (.iconst 1, 1) := by decide +kernel
theorem d1_25 : decode method_2_code 25 = .ok (.if_icmp .ne 6, 3) := by decide +kernel
theorem d1_28 : decode method_2_code 28 = .ok (.bipush 39, 2) := by decide +kernel
theorem d1_30 : decode method_2_code 30 = .ok (.ireturn, 1) := by decide +kernel
theorem d1_31 : decode method_2_code 31 = .ok (.iload 4, 2) := by decide +kernel
theorem d1_33 : decode method_2_code 33 = .ok (.iconst 2, 1) := by decide +kernel
theorem d1_34 : decode method_2_code 34 = .ok (.if_icmp .ne 6, 3) := by decide +kernel
theorem d1_37 : decode method_2_code 37 = .ok (.bipush 120, 2) := by decide +kernel
theorem d1_39 : decode method_2_code 39 = .ok (.ireturn, 1) := by decide +kernel
theorem d1_40 : decode method_2_code 40 = .ok (.iload_n 3, 1) := by decide +kernel
theorem d1_41 : decode method_2_code 41 = .ok (.iconst 2, 1) := by decide +kernel
theorem d1_42 : decode method_2_code 42 = .ok (.iushr, 1) := by decide +kernel
theorem d1_43 : decode method_2_code 43 = .ok (.sipush 255, 3) := by decide +kernel
theorem d1_46 : decode method_2_code 46 = .ok (.iand, 1) := by decide +kernel
theorem d1_47 : decode method_2_code 47 = .ok (.i2c, 1) := by decide +kernel
theorem d1_48 : decode method_2_code 48 = .ok (.ireturn, 1) := by decide +kernel
theorem ef1 (m : MethodId) (z0 : Int64) (z1 : Int32) : entryFrame m #[(.long z0), (.int z1)] 5 = mkF m 0 #[.val (.long z0), .second, .val (.int z1), .unset, .unset] [] := by first | (simp [entryFrame, mkF, argsToLocals, Value.category]; done) | rfl
set_option maxRecDepth 65536 in
set_option maxHeartbeats 40000000 in
theorem rm1 (l : Launch) (Z : State) (a0 : Array Value) (hw : ∀ d ∈ tables_1, d.before a0 Z = true) (ws : List Jvm.Cond) (z0 : Int64) (z1 : Int32)  (h0 : Heap) (n0 : Nat) (Z0 : n0 ≤ h0.size)  :
    MetFree l (⟨"org/membrana/input/MarkupTextClosingQuotePinLaw", "pick", "(JI)C"⟩ : MethodName) (head1 (Jvm.Cond.code (⟨"org/membrana/input/MarkupTextClosingQuotePinLaw", "pick", "(JI)C"⟩ : MethodName) method_2_code 5 (some .char) :: ws) (⟨0, 0, 0, 0⟩ : Room)) (fun a U => a = #[(.long z0), (.int z1)] ∧ Z.Warmed39 U.vm ∧ U.heap = h0) (fun _ _ _ _ _ => True) (fun _ U o U' => ∃ v L, o = .returned v ∧ QE n0 h0 v U'.heap L ∧ FrameEnd U o U' L 0 0) := by
  refine MetFree.of_bodySF (plainFor_of_name own_pn0) hisR ?_
  intro p e s m args below meth c s₁ Bd hml0 hP hK
  obtain ⟨rfl, hZ, hh⟩ := hP
  have hx := Bd.exec
  have hby := Bd.bytes
  have hml : c.maxLocals = 5 := hml0
  have hown : s.vm.findClass "org/membrana/input/MarkupTextClosingQuotePinLaw" = some m.cls := findClass_of_methodNamed Bd.named
  have hnm := (name_of_methodNamed Bd.named Bd.method).1
  have hlk : meth.locks = false := Bd.notSynchronized
  have hret := Bd.returns
  have X0 : Stand p l e (⟨0, 0, 0, 0⟩ : Room) s m #[(.long z0), (.int z1)] below meth c s₁ [] 0 0 := Stand.of_body Bd
  have e0 : s₁.heap = h0 := by rw [← hh, Bd.state]; rfl
  have N0 := Fr.nil n0
  have GOAL : Gl p e below s (QE n0 h0) 0 0 (s₁.setTop (entryFrame m #[(.long z0), (.int z1)] 5)) := by
    refine Gl.cast (ef1 m z0 z1) ?_
    refine Gl.st (b := s₁.setTop (mkF m 1 #[.val (.long z0), .second, .val (.int z1), .unset, .unset] [(.long z0)])) (fun tq kq => XS.lloadN X0.here hx rfl (hb hby d1_0) rfl kq) ?_
    refine Gl.st (b := s₁.setTop (mkF m 2 #[.val (.long z0), .second, .val (.int z1), .unset, .unset] [(.int z1), (.long z0)])) (fun tq kq => XS.iloadN X0.here hx rfl (hb hby d1_1) rfl kq) ?_
    refine Gl.st (b := s₁.setTop (mkF m 3 #[.val (.long z0), .second, .val (.int z1), .unset, .unset] [(.long ((z0.toUInt64 >>> (z1 &&& 0x3f).toInt64.toUInt64).toInt64))])) (fun tq kq => XS.lushr X0.here hx rfl (hb hby d1_2) rfl kq) ?_
    refine Gl.st (b := s₁.setTop (mkF m 6 #[.val (.long z0), .second, .val (.int z1), .unset, .unset] [(.long (1023 : Int64)), (.long ((z0.toUInt64 >>> (z1 &&& 0x3f).toInt64.toUInt64).toInt64))])) (fun tq kq => X0.ldc2Long hx hown (mvT hZ (hw _ (List.mem_of_getElem? (i := 5) rfl))) (g := (mkF m 3 #[.val (.long z0), .second, .val (.int z1), .unset, .unset] [(.long ((z0.toUInt64 >>> (z1 &&& 0x3f).toInt64.toUInt64).toInt64))])) rfl (hb hby d1_3) tq kq) ?_
    refine Gl.st (b := s₁.setTop (mkF m 7 #[.val (.long z0), .second, .val (.int z1), .unset, .unset] [(.long (((z0.toUInt64 >>> (z1 &&& 0x3f).toInt64.toUInt64).toInt64) &&& (1023 : Int64)))])) (fun tq kq => XS.land X0.here hx rfl (hb hby d1_6) rfl kq) ?_
    refine Gl.st (b := s₁.setTop (mkF m 8 #[.val (.long z0), .second, .val (.int z1), .unset, .unset] [(.int ((((z0.toUInt64 >>> (z1 &&& 0x3f).toInt64.toUInt64).toInt64) &&& (1023 : Int64)).toInt32))])) (fun tq kq => XS.l2i X0.here hx rfl (hb hby d1_7) rfl kq) ?_
    refine Gl.st (b := s₁.setTop (mkF m 9 #[.val (.long z0), .second, .val (.int z1), .val (.int ((((z0.toUInt64 >>> (z1 &&& 0x3f).toInt64.toUInt64).toInt64) &&& (1023 : Int64)).toInt32)), .unset] [])) (fun tq kq => XS.istoreN X0.here hx rfl (hb hby d1_8) rfl (l' := #[.val (.long z0), .second, .val (.int z1), .val (.int ((((z0.toUInt64 >>> (z1 &&& 0x3f).toInt64.toUInt64).toInt64) &&& (1023 : Int64)).toInt32)), .unset]) rfl kq) ?_
    refine Gl.st (b := s₁.setTop (mkF m 10 #[.val (.long z0), .second, .val (.int z1), .val (.int ((((z0.toUInt64 >>> (z1 &&& 0x3f).toInt64.toUInt64).toInt64) &&& (1023 : Int64)).toInt32)), .unset] [(.int ((((z0.toUInt64 >>> (z1 &&& 0x3f).toInt64.toUInt64).toInt64) &&& (1023 : Int64)).toInt32))])) (fun tq kq => XS.iloadN X0.here hx rfl (hb hby d1_9) rfl kq) ?_
    refine Gl.st (b := s₁.setTop (mkF m 11 #[.val (.long z0), .second, .val (.int z1), .val (.int ((((z0.toUInt64 >>> (z1 &&& 0x3f).toInt64.toUInt64).toInt64) &&& (1023 : Int64)).toInt32)), .unset] [(.int (3 : Int32)), (.int ((((z0.toUInt64 >>> (z1 &&& 0x3f).toInt64.toUInt64).toInt64) &&& (1023 : Int64)).toInt32))])) (fun tq kq => XS.iconst X0.here hx rfl (hb hby d1_10) kq) ?_
    refine Gl.st (b := s₁.setTop (mkF m 12 #[.val (.long z0), .second, .val (.int z1), .val (.int ((((z0.toUInt64 >>> (z1 &&& 0x3f).toInt64.toUInt64).toInt64) &&& (1023 : Int64)).toInt32)), .unset] [(.int (((((z0.toUInt64 >>> (z1 &&& 0x3f).toInt64.toUInt64).toInt64) &&& (1023 : Int64)).toInt32) &&& (3 : Int32)))])) (fun tq kq => XS.iand X0.here hx rfl (hb hby d1_11) rfl kq) ?_
    refine Gl.st (b := s₁.setTop (mkF m 14 #[.val (.long z0), .second, .val (.int z1), .val (.int ((((z0.toUInt64 >>> (z1 &&& 0x3f).toInt64.toUInt64).toInt64) &&& (1023 : Int64)).toInt32)), .val (.int (((((z0.toUInt64 >>> (z1 &&& 0x3f).toInt64.toUInt64).toInt64) &&& (1023 : Int64)).toInt32) &&& (3 : Int32)))] [])) (fun tq kq => XS.istore X0.here hx rfl (hb hby d1_12) rfl (l' := #[.val (.long z0), .second, .val (.int z1), .val (.int ((((z0.toUInt64 >>> (z1 &&& 0x3f).toInt64.toUInt64).toInt64) &&& (1023 : Int64)).toInt32)), .val (.int (((((z0.toUInt64 >>> (z1 &&& 0x3f).toInt64.toUInt64).toInt64) &&& (1023 : Int64)).toInt32) &&& (3 : Int32)))]) rfl kq) ?_
    refine Gl.st (b := s₁.setTop (mkF m 16 #[.val (.long z0), .second, .val (.int z1), .val (.int ((((z0.toUInt64 >>> (z1 &&& 0x3f).toInt64.toUInt64).toInt64) &&& (1023 : Int64)).toInt32)), .val (.int (((((z0.toUInt64 >>> (z1 &&& 0x3f).toInt64.toUInt64).toInt64) &&& (1023 : Int64)).toInt32) &&& (3 : Int32)))] [(.int (((((z0.toUInt64 >>> (z1 &&& 0x3f).toInt64.toUInt64).toInt64) &&& (1023 : Int64)).toInt32) &&& (3 : Int32)))])) (fun tq kq => XS.iload X0.here hx rfl (hb hby d1_14) rfl kq) ?_
    by_cases hc16 : (((((z0.toUInt64 >>> (z1 &&& 0x3f).toInt64.toUInt64).toInt64) &&& (1023 : Int64)).toInt32) &&& (3 : Int32)).toInt = 0
    · -- hc16 True
      refine Gl.st (b := s₁.setTop (mkF m 19 #[.val (.long z0), .second, .val (.int z1), .val (.int ((((z0.toUInt64 >>> (z1 &&& 0x3f).toInt64.toUInt64).toInt64) &&& (1023 : Int64)).toInt32)), .val (.int (((((z0.toUInt64 >>> (z1 &&& 0x3f).toInt64.toUInt64).toInt64) &&& (1023 : Int64)).toInt32) &&& (3 : Int32)))] [])) (fun tq kq => XS.ifNo X0.here hx rfl (hb hby d1_16) rfl ((if0 _ _).trans (teq (x := (((((z0.toUInt64 >>> (z1 &&& 0x3f).toInt64.toUInt64).toInt64) &&& (1023 : Int64)).toInt32) &&& (3 : Int32))) (y := (0 : Int32)) (own_eqI.mpr hc16)).2) kq) ?_
      refine Gl.st (b := s₁.setTop (mkF m 21 #[.val (.long z0), .second, .val (.int z1), .val (.int ((((z0.toUInt64 >>> (z1 &&& 0x3f).toInt64.toUInt64).toInt64) &&& (1023 : Int64)).toInt32)), .val (.int (((((z0.toUInt64 >>> (z1 &&& 0x3f).toInt64.toUInt64).toInt64) &&& (1023 : Int64)).toInt32) &&& (3 : Int32)))] [(.int (34 : Int32))])) (fun tq kq => XS.bipush X0.here hx rfl (hb hby d1_19) kq) ?_
      exact Gl.retN X0 hx hret (by simp) (hb hby d1_21) hlk (by decide) (by decide) ⟨_, rfl, N0, e0⟩
    · -- hc16 False
      refine Gl.st (b := s₁.setTop (mkF m 22 #[.val (.long z0), .second, .val (.int z1), .val (.int ((((z0.toUInt64 >>> (z1 &&& 0x3f).toInt64.toUInt64).toInt64) &&& (1023 : Int64)).toInt32)), .val (.int (((((z0.toUInt64 >>> (z1 &&& 0x3f).toInt64.toUInt64).toInt64) &&& (1023 : Int64)).toInt32) &&& (3 : Int32)))] [])) (fun tq kq => XS.ifYes X0.here hx rfl (pc0 := 16) (pc' := 22) rfl (hb hby d1_16) rfl ((if0 _ _).trans (feq (x := (((((z0.toUInt64 >>> (z1 &&& 0x3f).toInt64.toUInt64).toInt64) &&& (1023 : Int64)).toInt32) &&& (3 : Int32))) (y := (0 : Int32)) (fun q => hc16 (own_eqI.mp q))).2) (by decide) (by decide) kq) ?_
      refine Gl.st (b := s₁.setTop (mkF m 24 #[.val (.long z0), .second, .val (.int z1), .val (.int ((((z0.toUInt64 >>> (z1 &&& 0x3f).toInt64.toUInt64).toInt64) &&& (1023 : Int64)).toInt32)), .val (.int (((((z0.toUInt64 >>> (z1 &&& 0x3f).toInt64.toUInt64).toInt64) &&& (1023 : Int64)).toInt32) &&& (3 : Int32)))] [(.int (((((z0.toUInt64 >>> (z1 &&& 0x3f).toInt64.toUInt64).toInt64) &&& (1023 : Int64)).toInt32) &&& (3 : Int32)))])) (fun tq kq => XS.iload X0.here hx rfl (hb hby d1_22) rfl kq) ?_
      refine Gl.st (b := s₁.setTop (mkF m 25 #[.val (.long z0), .second, .val (.int z1), .val (.int ((((z0.toUInt64 >>> (z1 &&& 0x3f).toInt64.toUInt64).toInt64) &&& (1023 : Int64)).toInt32)), .val (.int (((((z0.toUInt64 >>> (z1 &&& 0x3f).toInt64.toUInt64).toInt64) &&& (1023 : Int64)).toInt32) &&& (3 : Int32)))] [(.int (1 : Int32)), (.int (((((z0.toUInt64 >>> (z1 &&& 0x3f).toInt64.toUInt64).toInt64) &&& (1023 : Int64)).toInt32) &&& (3 : Int32)))])) (fun tq kq => XS.iconst X0.here hx rfl (hb hby d1_24) kq) ?_
      by_cases hc25 : (((((z0.toUInt64 >>> (z1 &&& 0x3f).toInt64.toUInt64).toInt64) &&& (1023 : Int64)).toInt32) &&& (3 : Int32)).toInt = 1
      · -- hc25 True
        refine Gl.st (b := s₁.setTop (mkF m 28 #[.val (.long z0), .second, .val (.int z1), .val (.int ((((z0.toUInt64 >>> (z1 &&& 0x3f).toInt64.toUInt64).toInt64) &&& (1023 : Int64)).toInt32)), .val (.int (((((z0.toUInt64 >>> (z1 &&& 0x3f).toInt64.toUInt64).toInt64) &&& (1023 : Int64)).toInt32) &&& (3 : Int32)))] [])) (fun tq kq => XS.icmpNo X0.here hx rfl (hb hby d1_25) rfl (teq (x := (((((z0.toUInt64 >>> (z1 &&& 0x3f).toInt64.toUInt64).toInt64) &&& (1023 : Int64)).toInt32) &&& (3 : Int32))) (y := (1 : Int32)) (own_eqI.mpr hc25)).2 kq) ?_
        refine Gl.st (b := s₁.setTop (mkF m 30 #[.val (.long z0), .second, .val (.int z1), .val (.int ((((z0.toUInt64 >>> (z1 &&& 0x3f).toInt64.toUInt64).toInt64) &&& (1023 : Int64)).toInt32)), .val (.int (((((z0.toUInt64 >>> (z1 &&& 0x3f).toInt64.toUInt64).toInt64) &&& (1023 : Int64)).toInt32) &&& (3 : Int32)))] [(.int (39 : Int32))])) (fun tq kq => XS.bipush X0.here hx rfl (hb hby d1_28) kq) ?_
        exact Gl.retN X0 hx hret (by simp) (hb hby d1_30) hlk (by decide) (by decide) ⟨_, rfl, N0, e0⟩
      · -- hc25 False
        refine Gl.st (b := s₁.setTop (mkF m 31 #[.val (.long z0), .second, .val (.int z1), .val (.int ((((z0.toUInt64 >>> (z1 &&& 0x3f).toInt64.toUInt64).toInt64) &&& (1023 : Int64)).toInt32)), .val (.int (((((z0.toUInt64 >>> (z1 &&& 0x3f).toInt64.toUInt64).toInt64) &&& (1023 : Int64)).toInt32) &&& (3 : Int32)))] [])) (fun tq kq => XS.icmpYes X0.here hx rfl (pc0 := 25) (pc' := 31) rfl (hb hby d1_25) rfl (feq (x := (((((z0.toUInt64 >>> (z1 &&& 0x3f).toInt64.toUInt64).toInt64) &&& (1023 : Int64)).toInt32) &&& (3 : Int32))) (y := (1 : Int32)) (fun q => hc25 (own_eqI.mp q))).2 (by decide) (by decide) kq) ?_
        refine Gl.st (b := s₁.setTop (mkF m 33 #[.val (.long z0), .second, .val (.int z1), .val (.int ((((z0.toUInt64 >>> (z1 &&& 0x3f).toInt64.toUInt64).toInt64) &&& (1023 : Int64)).toInt32)), .val (.int (((((z0.toUInt64 >>> (z1 &&& 0x3f).toInt64.toUInt64).toInt64) &&& (1023 : Int64)).toInt32) &&& (3 : Int32)))] [(.int (((((z0.toUInt64 >>> (z1 &&& 0x3f).toInt64.toUInt64).toInt64) &&& (1023 : Int64)).toInt32) &&& (3 : Int32)))])) (fun tq kq => XS.iload X0.here hx rfl (hb hby d1_31) rfl kq) ?_
        refine Gl.st (b := s₁.setTop (mkF m 34 #[.val (.long z0), .second, .val (.int z1), .val (.int ((((z0.toUInt64 >>> (z1 &&& 0x3f).toInt64.toUInt64).toInt64) &&& (1023 : Int64)).toInt32)), .val (.int (((((z0.toUInt64 >>> (z1 &&& 0x3f).toInt64.toUInt64).toInt64) &&& (1023 : Int64)).toInt32) &&& (3 : Int32)))] [(.int (2 : Int32)), (.int (((((z0.toUInt64 >>> (z1 &&& 0x3f).toInt64.toUInt64).toInt64) &&& (1023 : Int64)).toInt32) &&& (3 : Int32)))])) (fun tq kq => XS.iconst X0.here hx rfl (hb hby d1_33) kq) ?_
        by_cases hc34 : (((((z0.toUInt64 >>> (z1 &&& 0x3f).toInt64.toUInt64).toInt64) &&& (1023 : Int64)).toInt32) &&& (3 : Int32)).toInt = 2
        · -- hc34 True
          refine Gl.st (b := s₁.setTop (mkF m 37 #[.val (.long z0), .second, .val (.int z1), .val (.int ((((z0.toUInt64 >>> (z1 &&& 0x3f).toInt64.toUInt64).toInt64) &&& (1023 : Int64)).toInt32)), .val (.int (((((z0.toUInt64 >>> (z1 &&& 0x3f).toInt64.toUInt64).toInt64) &&& (1023 : Int64)).toInt32) &&& (3 : Int32)))] [])) (fun tq kq => XS.icmpNo X0.here hx rfl (hb hby d1_34) rfl (teq (x := (((((z0.toUInt64 >>> (z1 &&& 0x3f).toInt64.toUInt64).toInt64) &&& (1023 : Int64)).toInt32) &&& (3 : Int32))) (y := (2 : Int32)) (own_eqI.mpr hc34)).2 kq) ?_
          refine Gl.st (b := s₁.setTop (mkF m 39 #[.val (.long z0), .second, .val (.int z1), .val (.int ((((z0.toUInt64 >>> (z1 &&& 0x3f).toInt64.toUInt64).toInt64) &&& (1023 : Int64)).toInt32)), .val (.int (((((z0.toUInt64 >>> (z1 &&& 0x3f).toInt64.toUInt64).toInt64) &&& (1023 : Int64)).toInt32) &&& (3 : Int32)))] [(.int (120 : Int32))])) (fun tq kq => XS.bipush X0.here hx rfl (hb hby d1_37) kq) ?_
          exact Gl.retN X0 hx hret (by simp) (hb hby d1_39) hlk (by decide) (by decide) ⟨_, rfl, N0, e0⟩
        · -- hc34 False
          refine Gl.st (b := s₁.setTop (mkF m 40 #[.val (.long z0), .second, .val (.int z1), .val (.int ((((z0.toUInt64 >>> (z1 &&& 0x3f).toInt64.toUInt64).toInt64) &&& (1023 : Int64)).toInt32)), .val (.int (((((z0.toUInt64 >>> (z1 &&& 0x3f).toInt64.toUInt64).toInt64) &&& (1023 : Int64)).toInt32) &&& (3 : Int32)))] [])) (fun tq kq => XS.icmpYes X0.here hx rfl (pc0 := 34) (pc' := 40) rfl (hb hby d1_34) rfl (feq (x := (((((z0.toUInt64 >>> (z1 &&& 0x3f).toInt64.toUInt64).toInt64) &&& (1023 : Int64)).toInt32) &&& (3 : Int32))) (y := (2 : Int32)) (fun q => hc34 (own_eqI.mp q))).2 (by decide) (by decide) kq) ?_
          refine Gl.st (b := s₁.setTop (mkF m 41 #[.val (.long z0), .second, .val (.int z1), .val (.int ((((z0.toUInt64 >>> (z1 &&& 0x3f).toInt64.toUInt64).toInt64) &&& (1023 : Int64)).toInt32)), .val (.int (((((z0.toUInt64 >>> (z1 &&& 0x3f).toInt64.toUInt64).toInt64) &&& (1023 : Int64)).toInt32) &&& (3 : Int32)))] [(.int ((((z0.toUInt64 >>> (z1 &&& 0x3f).toInt64.toUInt64).toInt64) &&& (1023 : Int64)).toInt32))])) (fun tq kq => XS.iloadN X0.here hx rfl (hb hby d1_40) rfl kq) ?_
          refine Gl.st (b := s₁.setTop (mkF m 42 #[.val (.long z0), .second, .val (.int z1), .val (.int ((((z0.toUInt64 >>> (z1 &&& 0x3f).toInt64.toUInt64).toInt64) &&& (1023 : Int64)).toInt32)), .val (.int (((((z0.toUInt64 >>> (z1 &&& 0x3f).toInt64.toUInt64).toInt64) &&& (1023 : Int64)).toInt32) &&& (3 : Int32)))] [(.int (2 : Int32)), (.int ((((z0.toUInt64 >>> (z1 &&& 0x3f).toInt64.toUInt64).toInt64) &&& (1023 : Int64)).toInt32))])) (fun tq kq => XS.iconst X0.here hx rfl (hb hby d1_41) kq) ?_
          refine Gl.st (b := s₁.setTop (mkF m 43 #[.val (.long z0), .second, .val (.int z1), .val (.int ((((z0.toUInt64 >>> (z1 &&& 0x3f).toInt64.toUInt64).toInt64) &&& (1023 : Int64)).toInt32)), .val (.int (((((z0.toUInt64 >>> (z1 &&& 0x3f).toInt64.toUInt64).toInt64) &&& (1023 : Int64)).toInt32) &&& (3 : Int32)))] [(.int ((((((z0.toUInt64 >>> (z1 &&& 0x3f).toInt64.toUInt64).toInt64) &&& (1023 : Int64)).toInt32).toUInt32 >>> ((2 : Int32) &&& 31).toUInt32).toInt32))])) (fun tq kq => XS.iushr X0.here hx rfl (hb hby d1_42) rfl kq) ?_
          refine Gl.st (b := s₁.setTop (mkF m 46 #[.val (.long z0), .second, .val (.int z1), .val (.int ((((z0.toUInt64 >>> (z1 &&& 0x3f).toInt64.toUInt64).toInt64) &&& (1023 : Int64)).toInt32)), .val (.int (((((z0.toUInt64 >>> (z1 &&& 0x3f).toInt64.toUInt64).toInt64) &&& (1023 : Int64)).toInt32) &&& (3 : Int32)))] [(.int (255 : Int32)), (.int ((((((z0.toUInt64 >>> (z1 &&& 0x3f).toInt64.toUInt64).toInt64) &&& (1023 : Int64)).toInt32).toUInt32 >>> ((2 : Int32) &&& 31).toUInt32).toInt32))])) (fun tq kq => XS.sipush X0.here hx rfl (hb hby d1_43) kq) ?_
          refine Gl.st (b := s₁.setTop (mkF m 47 #[.val (.long z0), .second, .val (.int z1), .val (.int ((((z0.toUInt64 >>> (z1 &&& 0x3f).toInt64.toUInt64).toInt64) &&& (1023 : Int64)).toInt32)), .val (.int (((((z0.toUInt64 >>> (z1 &&& 0x3f).toInt64.toUInt64).toInt64) &&& (1023 : Int64)).toInt32) &&& (3 : Int32)))] [(.int (((((((z0.toUInt64 >>> (z1 &&& 0x3f).toInt64.toUInt64).toInt64) &&& (1023 : Int64)).toInt32).toUInt32 >>> ((2 : Int32) &&& 31).toUInt32).toInt32) &&& (255 : Int32)))])) (fun tq kq => XS.iand X0.here hx rfl (hb hby d1_46) rfl kq) ?_
          refine Gl.st (b := s₁.setTop (mkF m 48 #[.val (.long z0), .second, .val (.int z1), .val (.int ((((z0.toUInt64 >>> (z1 &&& 0x3f).toInt64.toUInt64).toInt64) &&& (1023 : Int64)).toInt32)), .val (.int (((((z0.toUInt64 >>> (z1 &&& 0x3f).toInt64.toUInt64).toInt64) &&& (1023 : Int64)).toInt32) &&& (3 : Int32)))] [(.int ((((((((z0.toUInt64 >>> (z1 &&& 0x3f).toInt64.toUInt64).toInt64) &&& (1023 : Int64)).toInt32).toUInt32 >>> ((2 : Int32) &&& 31).toUInt32).toInt32) &&& (255 : Int32)).toUInt32.toUInt16.toUInt32.toInt32))])) (fun tq kq => XS.i2c X0.here hx rfl (hb hby d1_47) rfl kq) ?_
          exact Gl.retN X0 hx hret (by simp) (hb hby d1_48) hlk (by decide) (by decide) ⟨_, rfl, N0, e0⟩
  exact GOAL
theorem d2_0 : decode method_3_code 0 = .ok (.iload_n 3, 1) := by decide +kernel
theorem d2_1 : decode method_3_code 1 = .ok (.iload_n 2, 1) := by decide +kernel
theorem d2_2 : decode method_3_code 2 = .ok (.if_icmp .ge 16, 3) := by decide +kernel
theorem d2_5 : decode method_3_code 5 = .ok (.aload_n 0, 1) := by decide +kernel
theorem d2_6 : decode method_3_code 6 = .ok (.iload_n 3, 1) := by decide +kernel
theorem d2_7 : decode method_3_code 7 = .ok (.caload, 1) := by decide +kernel
theorem d2_8 : decode method_3_code 8 = .ok (.aload_n 0, 1) := by decide +kernel
theorem d2_9 : decode method_3_code 9 = .ok (.iload_n 1, 1) := by decide +kernel
theorem d2_10 : decode method_3_code 10 = .ok (.caload, 1) := by decide +kernel
theorem d2_11 : decode method_3_code 11 = .ok (.if_icmp .ne 7, 3) := by decide +kernel
theorem d2_14 : decode method_3_code 14 = .ok (.iconst 1, 1) := by decide +kernel
theorem d2_15 : decode method_3_code 15 = .ok (.goto 4, 3) := by decide +kernel
theorem d2_18 : decode method_3_code 18 = .ok (.iconst 0, 1) := by decide +kernel
theorem d2_19 : decode method_3_code 19 = .ok (.ireturn, 1) := by decide +kernel
theorem ef2 (m : MethodId) (a0_ : Addr) (z1 : Int32) (z2 : Int32) (z3 : Int32) : entryFrame m #[(.ref a0_), (.int z1), (.int z2), (.int z3)] 4 = mkF m 0 #[.val (.ref a0_), .val (.int z1), .val (.int z2), .val (.int z3)] [] := by first | (simp [entryFrame, mkF, argsToLocals, Value.category]; done) | rfl
set_option maxRecDepth 65536 in
set_option maxHeartbeats 40000000 in
theorem rm2 (l : Launch) (Z : State) (a0 : Array Value) (hw : ∀ d ∈ tables_1, d.before a0 Z = true) (ws : List Jvm.Cond) (a0_ : Addr) (z1 : Int32) (z2 : Int32) (z3 : Int32) (cs : List Int32) (h0 : Heap) (n0 : Nat) (Z0 : n0 ≤ h0.size) (A : Ar Z h0 a0_ .char (cs.map Value.int)) (ho0 : 0 ≤ z1.toInt) (ho : z1.toInt < cs.length) (ht : z2.toInt ≤ cs.length) (hi0 : 0 ≤ z3.toInt) :
    MetFree l (⟨"org/membrana/input/MarkupTextClosingQuotePinLaw", "hit", "([CIII)Z"⟩ : MethodName) (head1 (Jvm.Cond.code (⟨"org/membrana/input/MarkupTextClosingQuotePinLaw", "hit", "([CIII)Z"⟩ : MethodName) method_3_code 4 (some .boolean) :: ws) (⟨0, 0, 0, 0⟩ : Room)) (fun a U => a = #[(.ref a0_), (.int z1), (.int z2), (.int z3)] ∧ Z.Warmed39 U.vm ∧ U.heap = h0) (fun _ _ _ _ _ => True) (fun _ U o U' => ∃ v L, o = .returned v ∧ QP n0 h0 (.int (own_b (own_hit cs z1 z2 z3))) v U'.heap L ∧ FrameEnd U o U' L 0 0) := by
  refine MetFree.of_bodySF (plainFor_of_name own_pn0) hisR ?_
  intro p e s m args below meth c s₁ Bd hml0 hP hK
  obtain ⟨rfl, hZ, hh⟩ := hP
  have hx := Bd.exec
  have hby := Bd.bytes
  have hml : c.maxLocals = 4 := hml0
  have hown : s.vm.findClass "org/membrana/input/MarkupTextClosingQuotePinLaw" = some m.cls := findClass_of_methodNamed Bd.named
  have hnm := (name_of_methodNamed Bd.named Bd.method).1
  have hlk : meth.locks = false := Bd.notSynchronized
  have hret := Bd.returns
  have X0 : Stand p l e (⟨0, 0, 0, 0⟩ : Room) s m #[(.ref a0_), (.int z1), (.int z2), (.int z3)] below meth c s₁ [] 0 0 := Stand.of_body Bd
  have e0 : s₁.heap = h0 := by rw [← hh, Bd.state]; rfl
  have N0 := Fr.nil n0
  have GOAL : Gl p e below s (QP n0 h0 (.int (own_b (own_hit cs z1 z2 z3)))) 0 0 (s₁.setTop (entryFrame m #[(.ref a0_), (.int z1), (.int z2), (.int z3)] 4)) := by
    refine Gl.cast (ef2 m a0_ z1 z2 z3) ?_
    refine Gl.st (b := s₁.setTop (mkF m 1 #[.val (.ref a0_), .val (.int z1), .val (.int z2), .val (.int z3)] [(.int z3)])) (fun tq kq => XS.iloadN X0.here hx rfl (hb hby d2_0) rfl kq) ?_
    refine Gl.st (b := s₁.setTop (mkF m 2 #[.val (.ref a0_), .val (.int z1), .val (.int z2), .val (.int z3)] [(.int z2), (.int z3)])) (fun tq kq => XS.iloadN X0.here hx rfl (hb hby d2_1) rfl kq) ?_
    by_cases hc2 : z3.toInt < z2.toInt
    · -- hc2 True
      refine Gl.st (b := s₁.setTop (mkF m 5 #[.val (.ref a0_), .val (.int z1), .val (.int z2), .val (.int z3)] [])) (fun tq kq => XS.icmpNo X0.here hx rfl (hb hby d2_2) rfl (tlt (x := z3) (y := z2) (own_ltI.mpr hc2)).2.1 kq) ?_
      refine Gl.st (b := s₁.setTop (mkF m 6 #[.val (.ref a0_), .val (.int z1), .val (.int z2), .val (.int z3)] [(.ref a0_)])) (fun tq kq => XS.aloadN X0.here hx rfl (hb hby d2_5) rfl rfl kq) ?_
      refine Gl.st (b := s₁.setTop (mkF m 7 #[.val (.ref a0_), .val (.int z1), .val (.int z2), .val (.int z3)] [(.int z3), (.ref a0_)])) (fun tq kq => XS.iloadN X0.here hx rfl (hb hby d2_6) rfl kq) ?_
      refine Gl.caload (k := z3.toInt.toNat) (v := (.int (cs.getD z3.toInt.toNat 0))) X0 hx hZ e0 A (by omega) (own_get (by omega)) (hb hby d2_7) ?_
      show Gl _ _ _ _ _ _ _ (s₁.setTop (mkF m 8 #[.val (.ref a0_), .val (.int z1), .val (.int z2), .val (.int z3)] [(.int (cs.getD z3.toInt.toNat 0))]))
      refine Gl.st (b := s₁.setTop (mkF m 9 #[.val (.ref a0_), .val (.int z1), .val (.int z2), .val (.int z3)] [(.ref a0_), (.int (cs.getD z3.toInt.toNat 0))])) (fun tq kq => XS.aloadN X0.here hx rfl (hb hby d2_8) rfl rfl kq) ?_
      refine Gl.st (b := s₁.setTop (mkF m 10 #[.val (.ref a0_), .val (.int z1), .val (.int z2), .val (.int z3)] [(.int z1), (.ref a0_), (.int (cs.getD z3.toInt.toNat 0))])) (fun tq kq => XS.iloadN X0.here hx rfl (hb hby d2_9) rfl kq) ?_
      refine Gl.caload (k := z1.toInt.toNat) (v := (.int (cs.getD z1.toInt.toNat 0))) X0 hx hZ e0 A (by omega) (own_get (by omega)) (hb hby d2_10) ?_
      show Gl _ _ _ _ _ _ _ (s₁.setTop (mkF m 11 #[.val (.ref a0_), .val (.int z1), .val (.int z2), .val (.int z3)] [(.int (cs.getD z1.toInt.toNat 0)), (.int (cs.getD z3.toInt.toNat 0))]))
      by_cases hc11 : (cs.getD z3.toInt.toNat 0).toInt = (cs.getD z1.toInt.toNat 0).toInt
      · -- hc11 True
        refine Gl.st (b := s₁.setTop (mkF m 14 #[.val (.ref a0_), .val (.int z1), .val (.int z2), .val (.int z3)] [])) (fun tq kq => XS.icmpNo X0.here hx rfl (hb hby d2_11) rfl (teq (x := (cs.getD z3.toInt.toNat 0)) (y := (cs.getD z1.toInt.toNat 0)) (own_eqI.mpr hc11)).2 kq) ?_
        refine Gl.st (b := s₁.setTop (mkF m 15 #[.val (.ref a0_), .val (.int z1), .val (.int z2), .val (.int z3)] [(.int (1 : Int32))])) (fun tq kq => XS.iconst X0.here hx rfl (hb hby d2_14) kq) ?_
        refine Gl.st (b := s₁.setTop (mkF m 19 #[.val (.ref a0_), .val (.int z1), .val (.int z2), .val (.int z3)] [(.int (1 : Int32))])) (fun tq kq => XS.goto X0.here hx rfl (pc0 := 15) (pc' := 19) rfl (hb hby d2_15) (by decide) (by decide) kq) ?_
        exact Gl.retN X0 hx hret (by simp) (hb hby d2_19) hlk (by decide) (by decide) ⟨own_b1 (by unfold own_hit own_ch; apply decide_eq_true; omega), N0, e0⟩
      · -- hc11 False
        refine Gl.st (b := s₁.setTop (mkF m 18 #[.val (.ref a0_), .val (.int z1), .val (.int z2), .val (.int z3)] [])) (fun tq kq => XS.icmpYes X0.here hx rfl (pc0 := 11) (pc' := 18) rfl (hb hby d2_11) rfl (feq (x := (cs.getD z3.toInt.toNat 0)) (y := (cs.getD z1.toInt.toNat 0)) (fun q => hc11 (own_eqI.mp q))).2 (by decide) (by decide) kq) ?_
        refine Gl.st (b := s₁.setTop (mkF m 19 #[.val (.ref a0_), .val (.int z1), .val (.int z2), .val (.int z3)] [(.int (0 : Int32))])) (fun tq kq => XS.iconst X0.here hx rfl (hb hby d2_18) kq) ?_
        exact Gl.retN X0 hx hret (by simp) (hb hby d2_19) hlk (by decide) (by decide) ⟨own_b0 (by unfold own_hit own_ch; apply decide_eq_false; omega), N0, e0⟩
    · -- hc2 False
      refine Gl.st (b := s₁.setTop (mkF m 18 #[.val (.ref a0_), .val (.int z1), .val (.int z2), .val (.int z3)] [])) (fun tq kq => XS.icmpYes X0.here hx rfl (pc0 := 2) (pc' := 18) rfl (hb hby d2_2) rfl (flt (x := z3) (y := z2) (fun q => hc2 (own_ltI.mp q))).2.1 (by decide) (by decide) kq) ?_
      refine Gl.st (b := s₁.setTop (mkF m 19 #[.val (.ref a0_), .val (.int z1), .val (.int z2), .val (.int z3)] [(.int (0 : Int32))])) (fun tq kq => XS.iconst X0.here hx rfl (hb hby d2_18) kq) ?_
      exact Gl.retN X0 hx hret (by simp) (hb hby d2_19) hlk (by decide) (by decide) ⟨own_b0 (by unfold own_hit own_ch; apply decide_eq_false; omega), N0, e0⟩
  exact GOAL
theorem d3_0 : decode prog_19_method_4_code 0 = .ok (.iload_n 1, 1) := by decide +kernel
theorem d3_1 : decode prog_19_method_4_code 1 = .ok (.iconst 1, 1) := by decide +kernel
theorem d3_2 : decode prog_19_method_4_code 2 = .ok (.iadd, 1) := by decide +kernel
theorem d3_3 : decode prog_19_method_4_code 3 = .ok (.istore_n 3, 1) := by decide +kernel
theorem d3_4 : decode prog_19_method_4_code 4 = .ok (.iload_n 3, 1) := by decide +kernel
theorem d3_5 : decode prog_19_method_4_code 5 = .ok (.iload_n 2, 1) := by decide +kernel
theorem d3_6 : decode prog_19_method_4_code 6 = .ok (.if_icmp .ge 20, 3) := by decide +kernel
theorem d3_9 : decode prog_19_method_4_code 9 = .ok (.aload_n 0, 1) := by decide +kernel
theorem d3_10 : decode prog_19_method_4_code 10 = .ok (.iload_n 3, 1) := by decide +kernel
theorem d3_11 : decode prog_19_method_4_code 11 = .ok (.caload, 1) := by decide +kernel
theorem d3_12 : decode prog_19_method_4_code 12 = .ok (.aload_n 0, 1) := by decide +kernel
theorem d3_13 : decode prog_19_method_4_code 13 = .ok (.iload_n 1, 1) := by decide +kernel
theorem d3_14 : decode prog_19_method_4_code 14 = .ok (.caload, 1) := by decide +kernel
theorem d3_15 : decode prog_19_method_4_code 15 = .ok (.if_icmp .ne 5, 3) := by decide +kernel
theorem d3_18 : decode prog_19_method_4_code 18 = .ok (.iload_n 3, 1) := by decide +kernel
theorem d3_19 : decode prog_19_method_4_code 19 = .ok (.ireturn, 1) := by decide +kernel
theorem d3_20 : decode prog_19_method_4_code 20 = .ok (.iinc 3 1, 3) := by decide +kernel
theorem d3_23 : decode prog_19_method_4_code 23 = .ok (.goto (-19), 3) := by decide +kernel
theorem d3_26 : decode prog_19_method_4_code 26 = .ok (.iconst (-1), 1) := by decide +kernel
theorem d3_27 : decode prog_19_method_4_code 27 = .ok (.ireturn, 1) := by decide +kernel
theorem ef3 (m : MethodId) (a0_ : Addr) (z1 : Int32) (z2 : Int32) : entryFrame m #[(.ref a0_), (.int z1), (.int z2)] 4 = mkF m 0 #[.val (.ref a0_), .val (.int z1), .val (.int z2), .unset] [] := by first | (simp [entryFrame, mkF, argsToLocals, Value.category]; done) | rfl
set_option maxRecDepth 65536 in
set_option maxHeartbeats 40000000 in
theorem rm3 (l : Launch) (Z : State) (a0 : Array Value) (hw : ∀ d ∈ tables_1, d.before a0 Z = true) (ws : List Jvm.Cond) (a0_ : Addr) (z1 : Int32) (z2 : Int32) (cs : List Int32) (h0 : Heap) (n0 : Nat) (Z0 : n0 ≤ h0.size) (A : Ar Z h0 a0_ .char (cs.map Value.int)) (ho0 : 0 ≤ z1.toInt) (ho : z1.toInt < cs.length) (ht : z2.toInt ≤ cs.length) (hl : cs.length = 5) :
    MetFree l (⟨"org/membrana/input/MarkupText", "closingQuote", "([CII)I"⟩ : MethodName) (head1 (Jvm.Cond.code (⟨"org/membrana/input/MarkupText", "closingQuote", "([CII)I"⟩ : MethodName) prog_19_method_4_code 4 (some .int) :: ws) (⟨0, 0, 0, 0⟩ : Room)) (fun a U => a = #[(.ref a0_), (.int z1), (.int z2)] ∧ Z.Warmed39 U.vm ∧ U.heap = h0) (fun _ _ _ _ _ => True) (fun _ U o U' => ∃ v L, o = .returned v ∧ QC cs z1 z2 n0 h0 v U'.heap L ∧ FrameEnd U o U' L 0 0) := by
  refine MetFree.of_bodySF (plainFor_of_name own_pn1) hisR ?_
  intro p e s m args below meth c s₁ Bd hml0 hP hK
  obtain ⟨rfl, hZ, hh⟩ := hP
  have hx := Bd.exec
  have hby := Bd.bytes
  have hml : c.maxLocals = 4 := hml0
  have hown : s.vm.findClass "org/membrana/input/MarkupText" = some m.cls := findClass_of_methodNamed Bd.named
  have hnm := (name_of_methodNamed Bd.named Bd.method).1
  have hlk : meth.locks = false := Bd.notSynchronized
  have hret := Bd.returns
  have X0 : Stand p l e (⟨0, 0, 0, 0⟩ : Room) s m #[(.ref a0_), (.int z1), (.int z2)] below meth c s₁ [] 0 0 := Stand.of_body Bd
  have e0 : s₁.heap = h0 := by rw [← hh, Bd.state]; rfl
  have N0 := Fr.nil n0
  have GOAL : Gl p e below s (QC cs z1 z2 n0 h0) 0 0 (s₁.setTop (entryFrame m #[(.ref a0_), (.int z1), (.int z2)] 4)) := by
    refine Gl.cast (ef3 m a0_ z1 z2) ?_
    have k1 : (1 : Int32).toInt = 1 := by decide
    have loop : ∀ (n : Nat) (i : Int32), z2.toInt - i.toInt ≤ n → z1.toInt < i.toInt → (∀ j : Int, z1.toInt < j → j < i.toInt → ¬ own_ch cs j = own_ch cs z1.toInt) → Gl p e below s (QC cs z1 z2 n0 h0) 0 0 (s₁.setTop (mkF m 4 #[.val (.ref a0_), .val (.int z1), .val (.int z2), .val (.int i)] [])) := by
      intro n
      induction n with
      | zero =>
        intro i h1 h2 h3
        show Gl _ _ _ _ _ _ _ (s₁.setTop (mkF m 4 #[.val (.ref a0_), .val (.int z1), .val (.int z2), .val (.int i)] []))
        refine Gl.st (b := s₁.setTop (mkF m 5 #[.val (.ref a0_), .val (.int z1), .val (.int z2), .val (.int i)] [(.int i)])) (fun tq kq => XS.iloadN X0.here hx rfl (hb hby d3_4) rfl kq) ?_
        refine Gl.st (b := s₁.setTop (mkF m 6 #[.val (.ref a0_), .val (.int z1), .val (.int z2), .val (.int i)] [(.int z2), (.int i)])) (fun tq kq => XS.iloadN X0.here hx rfl (hb hby d3_5) rfl kq) ?_
        by_cases hc6 : i.toInt < z2.toInt
        · -- hc6 True
          refine Gl.st (b := s₁.setTop (mkF m 9 #[.val (.ref a0_), .val (.int z1), .val (.int z2), .val (.int i)] [])) (fun tq kq => XS.icmpNo X0.here hx rfl (hb hby d3_6) rfl (tlt (x := i) (y := z2) (own_ltI.mpr hc6)).2.1 kq) ?_
          refine Gl.st (b := s₁.setTop (mkF m 10 #[.val (.ref a0_), .val (.int z1), .val (.int z2), .val (.int i)] [(.ref a0_)])) (fun tq kq => XS.aloadN X0.here hx rfl (hb hby d3_9) rfl rfl kq) ?_
          refine Gl.st (b := s₁.setTop (mkF m 11 #[.val (.ref a0_), .val (.int z1), .val (.int z2), .val (.int i)] [(.int i), (.ref a0_)])) (fun tq kq => XS.iloadN X0.here hx rfl (hb hby d3_10) rfl kq) ?_
          refine Gl.caload (k := i.toInt.toNat) (v := (.int (cs.getD i.toInt.toNat 0))) X0 hx hZ e0 A (by omega) (own_get (by omega)) (hb hby d3_11) ?_
          show Gl _ _ _ _ _ _ _ (s₁.setTop (mkF m 12 #[.val (.ref a0_), .val (.int z1), .val (.int z2), .val (.int i)] [(.int (cs.getD i.toInt.toNat 0))]))
          refine Gl.st (b := s₁.setTop (mkF m 13 #[.val (.ref a0_), .val (.int z1), .val (.int z2), .val (.int i)] [(.ref a0_), (.int (cs.getD i.toInt.toNat 0))])) (fun tq kq => XS.aloadN X0.here hx rfl (hb hby d3_12) rfl rfl kq) ?_
          refine Gl.st (b := s₁.setTop (mkF m 14 #[.val (.ref a0_), .val (.int z1), .val (.int z2), .val (.int i)] [(.int z1), (.ref a0_), (.int (cs.getD i.toInt.toNat 0))])) (fun tq kq => XS.iloadN X0.here hx rfl (hb hby d3_13) rfl kq) ?_
          refine Gl.caload (k := z1.toInt.toNat) (v := (.int (cs.getD z1.toInt.toNat 0))) X0 hx hZ e0 A (by omega) (own_get (by omega)) (hb hby d3_14) ?_
          show Gl _ _ _ _ _ _ _ (s₁.setTop (mkF m 15 #[.val (.ref a0_), .val (.int z1), .val (.int z2), .val (.int i)] [(.int (cs.getD z1.toInt.toNat 0)), (.int (cs.getD i.toInt.toNat 0))]))
          by_cases hc15 : (cs.getD i.toInt.toNat 0).toInt = (cs.getD z1.toInt.toNat 0).toInt
          · -- hc15 True
            refine Gl.st (b := s₁.setTop (mkF m 18 #[.val (.ref a0_), .val (.int z1), .val (.int z2), .val (.int i)] [])) (fun tq kq => XS.icmpNo X0.here hx rfl (hb hby d3_15) rfl (teq (x := (cs.getD i.toInt.toNat 0)) (y := (cs.getD z1.toInt.toNat 0)) (own_eqI.mpr hc15)).2 kq) ?_
            refine Gl.st (b := s₁.setTop (mkF m 19 #[.val (.ref a0_), .val (.int z1), .val (.int z2), .val (.int i)] [(.int i)])) (fun tq kq => XS.iloadN X0.here hx rfl (hb hby d3_18) rfl kq) ?_
            exact Gl.retI X0 hx hret (hb hby d3_19) hlk (by decide) (by decide) ⟨_, rfl, N0, e0, Or.inr ⟨h2, hc6, hc15, h3⟩⟩
          · -- hc15 False
            refine Gl.st (b := s₁.setTop (mkF m 20 #[.val (.ref a0_), .val (.int z1), .val (.int z2), .val (.int i)] [])) (fun tq kq => XS.icmpYes X0.here hx rfl (pc0 := 15) (pc' := 20) rfl (hb hby d3_15) rfl (feq (x := (cs.getD i.toInt.toNat 0)) (y := (cs.getD z1.toInt.toNat 0)) (fun q => hc15 (own_eqI.mp q))).2 (by decide) (by decide) kq) ?_
            refine Gl.st (b := s₁.setTop (mkF m 23 #[.val (.ref a0_), .val (.int z1), .val (.int z2), .val (.int (i + (1 : Int32)))] [])) (fun tq kq => XS.iinc X0.here hx rfl (hb hby d3_20) rfl (l' := #[.val (.ref a0_), .val (.int z1), .val (.int z2), .val (.int (i + (1 : Int32)))]) rfl kq) ?_
            refine Gl.st (b := s₁.setTop (mkF m 4 #[.val (.ref a0_), .val (.int z1), .val (.int z2), .val (.int (i + (1 : Int32)))] [])) (fun tq kq => XS.goto X0.here hx rfl (pc0 := 23) (pc' := 4) rfl (hb hby d3_23) (by decide) (by decide) kq) ?_
            exact absurd hc6 (by omega)
        · -- hc6 False
          refine Gl.st (b := s₁.setTop (mkF m 26 #[.val (.ref a0_), .val (.int z1), .val (.int z2), .val (.int i)] [])) (fun tq kq => XS.icmpYes X0.here hx rfl (pc0 := 6) (pc' := 26) rfl (hb hby d3_6) rfl (flt (x := i) (y := z2) (fun q => hc6 (own_ltI.mp q))).2.1 (by decide) (by decide) kq) ?_
          refine Gl.st (b := s₁.setTop (mkF m 27 #[.val (.ref a0_), .val (.int z1), .val (.int z2), .val (.int i)] [(.int (-1 : Int32))])) (fun tq kq => XS.iconst X0.here hx rfl (hb hby d3_26) kq) ?_
          exact Gl.retI X0 hx hret (hb hby d3_27) hlk (by decide) (by decide) ⟨_, rfl, N0, e0, Or.inl ⟨by decide, fun j q1 q2 => h3 j q1 (by omega)⟩⟩
      | succ n ih =>
        intro i h1 h2 h3
        show Gl _ _ _ _ _ _ _ (s₁.setTop (mkF m 4 #[.val (.ref a0_), .val (.int z1), .val (.int z2), .val (.int i)] []))
        refine Gl.st (b := s₁.setTop (mkF m 5 #[.val (.ref a0_), .val (.int z1), .val (.int z2), .val (.int i)] [(.int i)])) (fun tq kq => XS.iloadN X0.here hx rfl (hb hby d3_4) rfl kq) ?_
        refine Gl.st (b := s₁.setTop (mkF m 6 #[.val (.ref a0_), .val (.int z1), .val (.int z2), .val (.int i)] [(.int z2), (.int i)])) (fun tq kq => XS.iloadN X0.here hx rfl (hb hby d3_5) rfl kq) ?_
        by_cases hc6 : i.toInt < z2.toInt
        · -- hc6 True
          refine Gl.st (b := s₁.setTop (mkF m 9 #[.val (.ref a0_), .val (.int z1), .val (.int z2), .val (.int i)] [])) (fun tq kq => XS.icmpNo X0.here hx rfl (hb hby d3_6) rfl (tlt (x := i) (y := z2) (own_ltI.mpr hc6)).2.1 kq) ?_
          refine Gl.st (b := s₁.setTop (mkF m 10 #[.val (.ref a0_), .val (.int z1), .val (.int z2), .val (.int i)] [(.ref a0_)])) (fun tq kq => XS.aloadN X0.here hx rfl (hb hby d3_9) rfl rfl kq) ?_
          refine Gl.st (b := s₁.setTop (mkF m 11 #[.val (.ref a0_), .val (.int z1), .val (.int z2), .val (.int i)] [(.int i), (.ref a0_)])) (fun tq kq => XS.iloadN X0.here hx rfl (hb hby d3_10) rfl kq) ?_
          refine Gl.caload (k := i.toInt.toNat) (v := (.int (cs.getD i.toInt.toNat 0))) X0 hx hZ e0 A (by omega) (own_get (by omega)) (hb hby d3_11) ?_
          show Gl _ _ _ _ _ _ _ (s₁.setTop (mkF m 12 #[.val (.ref a0_), .val (.int z1), .val (.int z2), .val (.int i)] [(.int (cs.getD i.toInt.toNat 0))]))
          refine Gl.st (b := s₁.setTop (mkF m 13 #[.val (.ref a0_), .val (.int z1), .val (.int z2), .val (.int i)] [(.ref a0_), (.int (cs.getD i.toInt.toNat 0))])) (fun tq kq => XS.aloadN X0.here hx rfl (hb hby d3_12) rfl rfl kq) ?_
          refine Gl.st (b := s₁.setTop (mkF m 14 #[.val (.ref a0_), .val (.int z1), .val (.int z2), .val (.int i)] [(.int z1), (.ref a0_), (.int (cs.getD i.toInt.toNat 0))])) (fun tq kq => XS.iloadN X0.here hx rfl (hb hby d3_13) rfl kq) ?_
          refine Gl.caload (k := z1.toInt.toNat) (v := (.int (cs.getD z1.toInt.toNat 0))) X0 hx hZ e0 A (by omega) (own_get (by omega)) (hb hby d3_14) ?_
          show Gl _ _ _ _ _ _ _ (s₁.setTop (mkF m 15 #[.val (.ref a0_), .val (.int z1), .val (.int z2), .val (.int i)] [(.int (cs.getD z1.toInt.toNat 0)), (.int (cs.getD i.toInt.toNat 0))]))
          by_cases hc15 : (cs.getD i.toInt.toNat 0).toInt = (cs.getD z1.toInt.toNat 0).toInt
          · -- hc15 True
            refine Gl.st (b := s₁.setTop (mkF m 18 #[.val (.ref a0_), .val (.int z1), .val (.int z2), .val (.int i)] [])) (fun tq kq => XS.icmpNo X0.here hx rfl (hb hby d3_15) rfl (teq (x := (cs.getD i.toInt.toNat 0)) (y := (cs.getD z1.toInt.toNat 0)) (own_eqI.mpr hc15)).2 kq) ?_
            refine Gl.st (b := s₁.setTop (mkF m 19 #[.val (.ref a0_), .val (.int z1), .val (.int z2), .val (.int i)] [(.int i)])) (fun tq kq => XS.iloadN X0.here hx rfl (hb hby d3_18) rfl kq) ?_
            exact Gl.retI X0 hx hret (hb hby d3_19) hlk (by decide) (by decide) ⟨_, rfl, N0, e0, Or.inr ⟨h2, hc6, hc15, h3⟩⟩
          · -- hc15 False
            refine Gl.st (b := s₁.setTop (mkF m 20 #[.val (.ref a0_), .val (.int z1), .val (.int z2), .val (.int i)] [])) (fun tq kq => XS.icmpYes X0.here hx rfl (pc0 := 15) (pc' := 20) rfl (hb hby d3_15) rfl (feq (x := (cs.getD i.toInt.toNat 0)) (y := (cs.getD z1.toInt.toNat 0)) (fun q => hc15 (own_eqI.mp q))).2 (by decide) (by decide) kq) ?_
            refine Gl.st (b := s₁.setTop (mkF m 23 #[.val (.ref a0_), .val (.int z1), .val (.int z2), .val (.int (i + (1 : Int32)))] [])) (fun tq kq => XS.iinc X0.here hx rfl (hb hby d3_20) rfl (l' := #[.val (.ref a0_), .val (.int z1), .val (.int z2), .val (.int (i + (1 : Int32)))]) rfl kq) ?_
            refine Gl.st (b := s₁.setTop (mkF m 4 #[.val (.ref a0_), .val (.int z1), .val (.int z2), .val (.int (i + (1 : Int32)))] [])) (fun tq kq => XS.goto X0.here hx rfl (pc0 := 23) (pc' := 4) rfl (hb hby d3_23) (by decide) (by decide) kq) ?_
            have hs := c_iadd i (1 : Int32)
            have hr := rng32 (i + (1 : Int32))
            have hu : (i + (1 : Int32)).toInt = i.toInt + 1 := by omega
            refine ih (i + (1 : Int32)) (by omega) (by omega) ?_
            intro j q1 q2
            rcases Int.lt_or_eq_of_le (show j ≤ i.toInt by omega) with q | q
            · exact h3 j q1 q
            · rw [q]; exact hc15
        · -- hc6 False
          refine Gl.st (b := s₁.setTop (mkF m 26 #[.val (.ref a0_), .val (.int z1), .val (.int z2), .val (.int i)] [])) (fun tq kq => XS.icmpYes X0.here hx rfl (pc0 := 6) (pc' := 26) rfl (hb hby d3_6) rfl (flt (x := i) (y := z2) (fun q => hc6 (own_ltI.mp q))).2.1 (by decide) (by decide) kq) ?_
          refine Gl.st (b := s₁.setTop (mkF m 27 #[.val (.ref a0_), .val (.int z1), .val (.int z2), .val (.int i)] [(.int (-1 : Int32))])) (fun tq kq => XS.iconst X0.here hx rfl (hb hby d3_26) kq) ?_
          exact Gl.retI X0 hx hret (hb hby d3_27) hlk (by decide) (by decide) ⟨_, rfl, N0, e0, Or.inl ⟨by decide, fun j q1 q2 => h3 j q1 (by omega)⟩⟩
    have hs := c_iadd z1 (1 : Int32)
    have hr := rng32 (z1 + (1 : Int32))
    have hu : (z1 + (1 : Int32)).toInt = z1.toInt + 1 := by omega
    refine Gl.st (b := s₁.setTop (mkF m 1 #[.val (.ref a0_), .val (.int z1), .val (.int z2), .unset] [(.int z1)])) (fun tq kq => XS.iloadN X0.here hx rfl (hb hby d3_0) rfl kq) ?_
    refine Gl.st (b := s₁.setTop (mkF m 2 #[.val (.ref a0_), .val (.int z1), .val (.int z2), .unset] [(.int (1 : Int32)), (.int z1)])) (fun tq kq => XS.iconst X0.here hx rfl (hb hby d3_1) kq) ?_
    refine Gl.st (b := s₁.setTop (mkF m 3 #[.val (.ref a0_), .val (.int z1), .val (.int z2), .unset] [(.int (z1 + (1 : Int32)))])) (fun tq kq => XS.iadd X0.here hx rfl (hb hby d3_2) rfl kq) ?_
    refine Gl.st (b := s₁.setTop (mkF m 4 #[.val (.ref a0_), .val (.int z1), .val (.int z2), .val (.int (z1 + (1 : Int32)))] [])) (fun tq kq => XS.istoreN X0.here hx rfl (hb hby d3_3) rfl (l' := #[.val (.ref a0_), .val (.int z1), .val (.int z2), .val (.int (z1 + (1 : Int32)))]) rfl kq) ?_
    exact loop (z2.toInt - (z1 + (1 : Int32)).toInt).toNat (z1 + (1 : Int32)) (by omega) (by omega) (fun j q1 q2 => absurd q1 (by omega))
  exact GOAL
theorem ef0 (m : MethodId) (z0 : Int64) (z1 : Int32) (z2 : Int32) : entryFrame m #[(.long z0), (.int z1), (.int z2)] maxLocals = mkF m 0 #[.val (.long z0), .second, .val (.int z1), .val (.int z2), .unset, .unset, .unset, .unset] [] := by first | (simp [entryFrame, mkF, argsToLocals, Value.category, maxLocals]; done) | rfl
set_option maxRecDepth 65536 in
set_option maxHeartbeats 40000000 in
theorem rm0 (l : Launch) (Z : State) (a0 : Array Value) (hw : ∀ d ∈ tables_1, d.before a0 Z = true) (ws : List Jvm.Cond) (z0 : Int64) (z1 : Int32) (z2 : Int32)  (h0 : Heap) (n0 : Nat) (Z0 : n0 ≤ h0.size)  :
    MetFree l x (head1 (Jvm.Cond.code x code maxLocals ret :: ws) room_1) (fun a U => a = #[(.long z0), (.int z1), (.int z2)] ∧ Z.Warmed39 U.vm ∧ U.heap = h0) (fun _ _ _ _ _ => True) (fun _ U o U' => ∃ v L, o = .returned v ∧ QL n0 v U'.heap L ∧ FrameEnd U o U' L 1 5) := by
  refine MetFree.of_bodySF (plainFor_of_name own_pn0) hisR ?_
  intro p e s m args below meth c s₁ Bd hml0 hP hK
  obtain ⟨rfl, hZ, hh⟩ := hP
  have hx := Bd.exec
  have hby := Bd.bytes
  have hml : c.maxLocals = 8 := hml0
  have hown : s.vm.findClass "org/membrana/input/MarkupTextClosingQuotePinLaw" = some m.cls := findClass_of_methodNamed Bd.named
  have hnm := (name_of_methodNamed Bd.named Bd.method).1
  have hlk : meth.locks = false := Bd.notSynchronized
  have hret := Bd.returns
  have X0 : Stand p l e room_1 s m #[(.long z0), (.int z1), (.int z2)] below meth c s₁ [] 0 0 := Stand.of_body Bd
  have e0 : s₁.heap = h0 := by rw [← hh, Bd.state]; rfl
  have N0 := Fr.nil n0
  have GOAL : Gl p e below s (QL n0) 1 5 (s₁.setTop (entryFrame m #[(.long z0), (.int z1), (.int z2)] maxLocals)) := by
    refine Gl.cast (ef0 m z0 z1 z2) ?_
    refine Gl.st (b := s₁.setTop (mkF m 1 #[.val (.long z0), .second, .val (.int z1), .val (.int z2), .unset, .unset, .unset, .unset] [(.int (5 : Int32))])) (fun tq kq => XS.iconst X0.here hx rfl (hb hby at_0) kq) ?_
    refine Gl.newA (k := 5) (cap := 5) X0 hx hZ (hw _ (List.mem_of_getElem? (i := 0) rfl)) e0 rfl (by decide) (by decide) (by decide) (by decide) (hb hby at_1) ?_
    intro T1 h1 b1 g1 X1 e1 E1 A1
    have AA1 : Ar Z h1 b1 .char [(.int (0 : Int32)), (.int (0 : Int32)), (.int (0 : Int32)), (.int (0 : Int32)), (.int (0 : Int32))] := A1
    have G_b1 : n0 ≤ b1 := Nat.le_trans Z0 (Nat.le_of_eq g1.symm)
    have Z_1 : n0 ≤ h1.size := Nat.le_trans Z0 E1.1
    show Gl _ _ _ _ _ _ _ (T1.setTop (mkF m 3 #[.val (.long z0), .second, .val (.int z1), .val (.int z2), .unset, .unset, .unset, .unset] [(.ref b1)]))
    refine Gl.st (b := T1.setTop (mkF m 5 #[.val (.long z0), .second, .val (.int z1), .val (.int z2), .val (.ref b1), .unset, .unset, .unset] [])) (fun tq kq => XS.astore X1.here hx rfl (hb hby at_3) rfl rfl (l' := #[.val (.long z0), .second, .val (.int z1), .val (.int z2), .val (.ref b1), .unset, .unset, .unset]) rfl kq) ?_
    refine Gl.st (b := T1.setTop (mkF m 7 #[.val (.long z0), .second, .val (.int z1), .val (.int z2), .val (.ref b1), .unset, .unset, .unset] [(.ref b1)])) (fun tq kq => XS.aload X1.here hx rfl (hb hby at_5) rfl rfl kq) ?_
    refine Gl.st (b := T1.setTop (mkF m 8 #[.val (.long z0), .second, .val (.int z1), .val (.int z2), .val (.ref b1), .unset, .unset, .unset] [(.int (0 : Int32)), (.ref b1)])) (fun tq kq => XS.iconst X1.here hx rfl (hb hby at_7) kq) ?_
    refine Gl.st (b := T1.setTop (mkF m 9 #[.val (.long z0), .second, .val (.int z1), .val (.int z2), .val (.ref b1), .unset, .unset, .unset] [(.long z0), (.int (0 : Int32)), (.ref b1)])) (fun tq kq => XS.lloadN X1.here hx rfl (hb hby at_8) rfl kq) ?_
    refine Gl.st (b := T1.setTop (mkF m 10 #[.val (.long z0), .second, .val (.int z1), .val (.int z2), .val (.ref b1), .unset, .unset, .unset] [(.int (0 : Int32)), (.long z0), (.int (0 : Int32)), (.ref b1)])) (fun tq kq => XS.iconst X1.here hx rfl (hb hby at_9) kq) ?_
    refine Gl.callS (W := 2) (argsL := [(.long z0), (.int (0 : Int32))]) (rest := [(.int (0 : Int32)), (.ref b1)]) X1 hx hZ hown (hw _ (List.mem_of_getElem? (i := 1) rfl)) (hw _ (List.mem_of_getElem? (i := 2) rfl)) (hw _ (List.mem_of_getElem? (i := 3) rfl)) (hw _ (List.mem_of_getElem? (i := 4) rfl)) (by decide) (rm1 l Z a0 hw [] z0 (0 : Int32) h1 n0 Z_1) (by decide) (by decide) e1 (by decide) (by decide) (by rw [hml]; rfl) (lenOf own_pd0 rfl) rfl rfl (Nat.le_of_eq rfl) (hb hby at_10) ?_
    intro T2 v2 L2 X2 hQ2
    obtain ⟨r2, rfl, N2q, e2q⟩ := hQ2
    have N2 := N0.app N2q
    show Gl _ _ _ _ _ _ _ (T2.setTop (mkF m 13 #[.val (.long z0), .second, .val (.int z1), .val (.int z2), .val (.ref b1), .unset, .unset, .unset] [(.int r2), (.int (0 : Int32)), (.ref b1)]))
    refine Gl.castore (k := 0) X2 hx hZ e2q AA1 N2 G_b1 rfl (Nat.le_of_ble_eq_true rfl) (hb hby at_13) ?_
    intro T3 h3 L3 X3 e3 N3 W3 A3
    have AA3 : Ar Z h3 b1 .char [(.int (nar .char r2)), (.int (0 : Int32)), (.int (0 : Int32)), (.int (0 : Int32)), (.int (0 : Int32))] := A3
    have Z_3 : n0 ≤ h3.size := Nat.le_trans Z_1 (Nat.le_of_eq W3.size.symm)
    show Gl _ _ _ _ _ _ _ (T3.setTop (mkF m 14 #[.val (.long z0), .second, .val (.int z1), .val (.int z2), .val (.ref b1), .unset, .unset, .unset] []))
    refine Gl.st (b := T3.setTop (mkF m 16 #[.val (.long z0), .second, .val (.int z1), .val (.int z2), .val (.ref b1), .unset, .unset, .unset] [(.ref b1)])) (fun tq kq => XS.aload X3.here hx rfl (hb hby at_14) rfl rfl kq) ?_
    refine Gl.st (b := T3.setTop (mkF m 17 #[.val (.long z0), .second, .val (.int z1), .val (.int z2), .val (.ref b1), .unset, .unset, .unset] [(.int (1 : Int32)), (.ref b1)])) (fun tq kq => XS.iconst X3.here hx rfl (hb hby at_16) kq) ?_
    refine Gl.st (b := T3.setTop (mkF m 18 #[.val (.long z0), .second, .val (.int z1), .val (.int z2), .val (.ref b1), .unset, .unset, .unset] [(.long z0), (.int (1 : Int32)), (.ref b1)])) (fun tq kq => XS.lloadN X3.here hx rfl (hb hby at_17) rfl kq) ?_
    refine Gl.st (b := T3.setTop (mkF m 20 #[.val (.long z0), .second, .val (.int z1), .val (.int z2), .val (.ref b1), .unset, .unset, .unset] [(.int (10 : Int32)), (.long z0), (.int (1 : Int32)), (.ref b1)])) (fun tq kq => XS.bipush X3.here hx rfl (hb hby at_18) kq) ?_
    refine Gl.callS (W := 2) (argsL := [(.long z0), (.int (10 : Int32))]) (rest := [(.int (1 : Int32)), (.ref b1)]) X3 hx hZ hown (hw _ (List.mem_of_getElem? (i := 1) rfl)) (hw _ (List.mem_of_getElem? (i := 2) rfl)) (hw _ (List.mem_of_getElem? (i := 3) rfl)) (hw _ (List.mem_of_getElem? (i := 4) rfl)) (by decide) (rm1 l Z a0 hw [] z0 (10 : Int32) h3 n0 Z_3) (by decide) (by decide) e3 (by decide) (by decide) (by rw [hml]; rfl) (lenOf own_pd0 rfl) rfl rfl (Nat.le_of_eq rfl) (hb hby at_20) ?_
    intro T4 v4 L4 X4 hQ4
    obtain ⟨r4, rfl, N4q, e4q⟩ := hQ4
    have N4 := N3.app N4q
    show Gl _ _ _ _ _ _ _ (T4.setTop (mkF m 23 #[.val (.long z0), .second, .val (.int z1), .val (.int z2), .val (.ref b1), .unset, .unset, .unset] [(.int r4), (.int (1 : Int32)), (.ref b1)]))
    refine Gl.castore (k := 1) X4 hx hZ e4q AA3 N4 G_b1 rfl (Nat.le_of_ble_eq_true rfl) (hb hby at_23) ?_
    intro T5 h5 L5 X5 e5 N5 W5 A5
    have AA5 : Ar Z h5 b1 .char [(.int (nar .char r2)), (.int (nar .char r4)), (.int (0 : Int32)), (.int (0 : Int32)), (.int (0 : Int32))] := A5
    have Z_5 : n0 ≤ h5.size := Nat.le_trans Z_3 (Nat.le_of_eq W5.size.symm)
    show Gl _ _ _ _ _ _ _ (T5.setTop (mkF m 24 #[.val (.long z0), .second, .val (.int z1), .val (.int z2), .val (.ref b1), .unset, .unset, .unset] []))
    refine Gl.st (b := T5.setTop (mkF m 26 #[.val (.long z0), .second, .val (.int z1), .val (.int z2), .val (.ref b1), .unset, .unset, .unset] [(.ref b1)])) (fun tq kq => XS.aload X5.here hx rfl (hb hby at_24) rfl rfl kq) ?_
    refine Gl.st (b := T5.setTop (mkF m 27 #[.val (.long z0), .second, .val (.int z1), .val (.int z2), .val (.ref b1), .unset, .unset, .unset] [(.int (2 : Int32)), (.ref b1)])) (fun tq kq => XS.iconst X5.here hx rfl (hb hby at_26) kq) ?_
    refine Gl.st (b := T5.setTop (mkF m 28 #[.val (.long z0), .second, .val (.int z1), .val (.int z2), .val (.ref b1), .unset, .unset, .unset] [(.long z0), (.int (2 : Int32)), (.ref b1)])) (fun tq kq => XS.lloadN X5.here hx rfl (hb hby at_27) rfl kq) ?_
    refine Gl.st (b := T5.setTop (mkF m 30 #[.val (.long z0), .second, .val (.int z1), .val (.int z2), .val (.ref b1), .unset, .unset, .unset] [(.int (20 : Int32)), (.long z0), (.int (2 : Int32)), (.ref b1)])) (fun tq kq => XS.bipush X5.here hx rfl (hb hby at_28) kq) ?_
    refine Gl.callS (W := 2) (argsL := [(.long z0), (.int (20 : Int32))]) (rest := [(.int (2 : Int32)), (.ref b1)]) X5 hx hZ hown (hw _ (List.mem_of_getElem? (i := 1) rfl)) (hw _ (List.mem_of_getElem? (i := 2) rfl)) (hw _ (List.mem_of_getElem? (i := 3) rfl)) (hw _ (List.mem_of_getElem? (i := 4) rfl)) (by decide) (rm1 l Z a0 hw [] z0 (20 : Int32) h5 n0 Z_5) (by decide) (by decide) e5 (by decide) (by decide) (by rw [hml]; rfl) (lenOf own_pd0 rfl) rfl rfl (Nat.le_of_eq rfl) (hb hby at_30) ?_
    intro T6 v6 L6 X6 hQ6
    obtain ⟨r6, rfl, N6q, e6q⟩ := hQ6
    have N6 := N5.app N6q
    show Gl _ _ _ _ _ _ _ (T6.setTop (mkF m 33 #[.val (.long z0), .second, .val (.int z1), .val (.int z2), .val (.ref b1), .unset, .unset, .unset] [(.int r6), (.int (2 : Int32)), (.ref b1)]))
    refine Gl.castore (k := 2) X6 hx hZ e6q AA5 N6 G_b1 rfl (Nat.le_of_ble_eq_true rfl) (hb hby at_33) ?_
    intro T7 h7 L7 X7 e7 N7 W7 A7
    have AA7 : Ar Z h7 b1 .char [(.int (nar .char r2)), (.int (nar .char r4)), (.int (nar .char r6)), (.int (0 : Int32)), (.int (0 : Int32))] := A7
    have Z_7 : n0 ≤ h7.size := Nat.le_trans Z_5 (Nat.le_of_eq W7.size.symm)
    show Gl _ _ _ _ _ _ _ (T7.setTop (mkF m 34 #[.val (.long z0), .second, .val (.int z1), .val (.int z2), .val (.ref b1), .unset, .unset, .unset] []))
    refine Gl.st (b := T7.setTop (mkF m 36 #[.val (.long z0), .second, .val (.int z1), .val (.int z2), .val (.ref b1), .unset, .unset, .unset] [(.ref b1)])) (fun tq kq => XS.aload X7.here hx rfl (hb hby at_34) rfl rfl kq) ?_
    refine Gl.st (b := T7.setTop (mkF m 37 #[.val (.long z0), .second, .val (.int z1), .val (.int z2), .val (.ref b1), .unset, .unset, .unset] [(.int (3 : Int32)), (.ref b1)])) (fun tq kq => XS.iconst X7.here hx rfl (hb hby at_36) kq) ?_
    refine Gl.st (b := T7.setTop (mkF m 38 #[.val (.long z0), .second, .val (.int z1), .val (.int z2), .val (.ref b1), .unset, .unset, .unset] [(.long z0), (.int (3 : Int32)), (.ref b1)])) (fun tq kq => XS.lloadN X7.here hx rfl (hb hby at_37) rfl kq) ?_
    refine Gl.st (b := T7.setTop (mkF m 40 #[.val (.long z0), .second, .val (.int z1), .val (.int z2), .val (.ref b1), .unset, .unset, .unset] [(.int (30 : Int32)), (.long z0), (.int (3 : Int32)), (.ref b1)])) (fun tq kq => XS.bipush X7.here hx rfl (hb hby at_38) kq) ?_
    refine Gl.callS (W := 2) (argsL := [(.long z0), (.int (30 : Int32))]) (rest := [(.int (3 : Int32)), (.ref b1)]) X7 hx hZ hown (hw _ (List.mem_of_getElem? (i := 1) rfl)) (hw _ (List.mem_of_getElem? (i := 2) rfl)) (hw _ (List.mem_of_getElem? (i := 3) rfl)) (hw _ (List.mem_of_getElem? (i := 4) rfl)) (by decide) (rm1 l Z a0 hw [] z0 (30 : Int32) h7 n0 Z_7) (by decide) (by decide) e7 (by decide) (by decide) (by rw [hml]; rfl) (lenOf own_pd0 rfl) rfl rfl (Nat.le_of_eq rfl) (hb hby at_40) ?_
    intro T8 v8 L8 X8 hQ8
    obtain ⟨r8, rfl, N8q, e8q⟩ := hQ8
    have N8 := N7.app N8q
    show Gl _ _ _ _ _ _ _ (T8.setTop (mkF m 43 #[.val (.long z0), .second, .val (.int z1), .val (.int z2), .val (.ref b1), .unset, .unset, .unset] [(.int r8), (.int (3 : Int32)), (.ref b1)]))
    refine Gl.castore (k := 3) X8 hx hZ e8q AA7 N8 G_b1 rfl (Nat.le_of_ble_eq_true rfl) (hb hby at_43) ?_
    intro T9 h9 L9 X9 e9 N9 W9 A9
    have AA9 : Ar Z h9 b1 .char [(.int (nar .char r2)), (.int (nar .char r4)), (.int (nar .char r6)), (.int (nar .char r8)), (.int (0 : Int32))] := A9
    have Z_9 : n0 ≤ h9.size := Nat.le_trans Z_7 (Nat.le_of_eq W9.size.symm)
    show Gl _ _ _ _ _ _ _ (T9.setTop (mkF m 44 #[.val (.long z0), .second, .val (.int z1), .val (.int z2), .val (.ref b1), .unset, .unset, .unset] []))
    refine Gl.st (b := T9.setTop (mkF m 46 #[.val (.long z0), .second, .val (.int z1), .val (.int z2), .val (.ref b1), .unset, .unset, .unset] [(.ref b1)])) (fun tq kq => XS.aload X9.here hx rfl (hb hby at_44) rfl rfl kq) ?_
    refine Gl.st (b := T9.setTop (mkF m 47 #[.val (.long z0), .second, .val (.int z1), .val (.int z2), .val (.ref b1), .unset, .unset, .unset] [(.int (4 : Int32)), (.ref b1)])) (fun tq kq => XS.iconst X9.here hx rfl (hb hby at_46) kq) ?_
    refine Gl.st (b := T9.setTop (mkF m 48 #[.val (.long z0), .second, .val (.int z1), .val (.int z2), .val (.ref b1), .unset, .unset, .unset] [(.long z0), (.int (4 : Int32)), (.ref b1)])) (fun tq kq => XS.lloadN X9.here hx rfl (hb hby at_47) rfl kq) ?_
    refine Gl.st (b := T9.setTop (mkF m 50 #[.val (.long z0), .second, .val (.int z1), .val (.int z2), .val (.ref b1), .unset, .unset, .unset] [(.int (40 : Int32)), (.long z0), (.int (4 : Int32)), (.ref b1)])) (fun tq kq => XS.bipush X9.here hx rfl (hb hby at_48) kq) ?_
    refine Gl.callS (W := 2) (argsL := [(.long z0), (.int (40 : Int32))]) (rest := [(.int (4 : Int32)), (.ref b1)]) X9 hx hZ hown (hw _ (List.mem_of_getElem? (i := 1) rfl)) (hw _ (List.mem_of_getElem? (i := 2) rfl)) (hw _ (List.mem_of_getElem? (i := 3) rfl)) (hw _ (List.mem_of_getElem? (i := 4) rfl)) (by decide) (rm1 l Z a0 hw [] z0 (40 : Int32) h9 n0 Z_9) (by decide) (by decide) e9 (by decide) (by decide) (by rw [hml]; rfl) (lenOf own_pd0 rfl) rfl rfl (Nat.le_of_eq rfl) (hb hby at_50) ?_
    intro T10 v10 L10 X10 hQ10
    obtain ⟨r10, rfl, N10q, e10q⟩ := hQ10
    have N10 := N9.app N10q
    show Gl _ _ _ _ _ _ _ (T10.setTop (mkF m 53 #[.val (.long z0), .second, .val (.int z1), .val (.int z2), .val (.ref b1), .unset, .unset, .unset] [(.int r10), (.int (4 : Int32)), (.ref b1)]))
    refine Gl.castore (k := 4) X10 hx hZ e10q AA9 N10 G_b1 rfl (Nat.le_of_ble_eq_true rfl) (hb hby at_53) ?_
    intro T11 h11 L11 X11 e11 N11 W11 A11
    have AA11 : Ar Z h11 b1 .char [(.int (nar .char r2)), (.int (nar .char r4)), (.int (nar .char r6)), (.int (nar .char r8)), (.int (nar .char r10))] := A11
    have Z_11 : n0 ≤ h11.size := Nat.le_trans Z_9 (Nat.le_of_eq W11.size.symm)
    show Gl _ _ _ _ _ _ _ (T11.setTop (mkF m 54 #[.val (.long z0), .second, .val (.int z1), .val (.int z2), .val (.ref b1), .unset, .unset, .unset] []))
    refine Gl.st (b := T11.setTop (mkF m 55 #[.val (.long z0), .second, .val (.int z1), .val (.int z2), .val (.ref b1), .unset, .unset, .unset] [(.int z1)])) (fun tq kq => XS.iloadN X11.here hx rfl (hb hby at_54) rfl kq) ?_
    refine Gl.st (b := T11.setTop (mkF m 57 #[.val (.long z0), .second, .val (.int z1), .val (.int z2), .val (.ref b1), .unset, .unset, .unset] [(.int (2147483647 : Int32)), (.int z1)])) (fun tq kq => X11.ldcInt hx hown (mvT hZ (hw _ (List.mem_of_getElem? (i := 6) rfl))) (g := (mkF m 55 #[.val (.long z0), .second, .val (.int z1), .val (.int z2), .val (.ref b1), .unset, .unset, .unset] [(.int z1)])) rfl (hb hby at_55) tq kq) ?_
    refine Gl.st (b := T11.setTop (mkF m 58 #[.val (.long z0), .second, .val (.int z1), .val (.int z2), .val (.ref b1), .unset, .unset, .unset] [(.int (z1 &&& (2147483647 : Int32)))])) (fun tq kq => XS.iand X11.here hx rfl (hb hby at_57) rfl kq) ?_
    refine Gl.st (b := T11.setTop (mkF m 59 #[.val (.long z0), .second, .val (.int z1), .val (.int z2), .val (.ref b1), .unset, .unset, .unset] [(.int (5 : Int32)), (.int (z1 &&& (2147483647 : Int32)))])) (fun tq kq => XS.iconst X11.here hx rfl (hb hby at_58) kq) ?_
    refine Gl.st (b := T11.setTop (mkF m 60 #[.val (.long z0), .second, .val (.int z1), .val (.int z2), .val (.ref b1), .unset, .unset, .unset] [(.int ((z1 &&& (2147483647 : Int32)) % (5 : Int32)))])) (fun tq kq => iremM (g := (mkF m 59 #[.val (.long z0), .second, .val (.int z1), .val (.int z2), .val (.ref b1), .unset, .unset, .unset] [(.int (5 : Int32)), (.int (z1 &&& (2147483647 : Int32)))])) X11 hx rfl (hb hby at_59) rfl (by decide) kq) ?_
    refine Gl.st (b := T11.setTop (mkF m 62 #[.val (.long z0), .second, .val (.int z1), .val (.int z2), .val (.ref b1), .val (.int ((z1 &&& (2147483647 : Int32)) % (5 : Int32))), .unset, .unset] [])) (fun tq kq => XS.istore X11.here hx rfl (hb hby at_60) rfl (l' := #[.val (.long z0), .second, .val (.int z1), .val (.int z2), .val (.ref b1), .val (.int ((z1 &&& (2147483647 : Int32)) % (5 : Int32))), .unset, .unset]) rfl kq) ?_
    refine Gl.st (b := T11.setTop (mkF m 63 #[.val (.long z0), .second, .val (.int z1), .val (.int z2), .val (.ref b1), .val (.int ((z1 &&& (2147483647 : Int32)) % (5 : Int32))), .unset, .unset] [(.int z2)])) (fun tq kq => XS.iloadN X11.here hx rfl (hb hby at_62) rfl kq) ?_
    refine Gl.st (b := T11.setTop (mkF m 65 #[.val (.long z0), .second, .val (.int z1), .val (.int z2), .val (.ref b1), .val (.int ((z1 &&& (2147483647 : Int32)) % (5 : Int32))), .unset, .unset] [(.int (2147483647 : Int32)), (.int z2)])) (fun tq kq => X11.ldcInt hx hown (mvT hZ (hw _ (List.mem_of_getElem? (i := 6) rfl))) (g := (mkF m 63 #[.val (.long z0), .second, .val (.int z1), .val (.int z2), .val (.ref b1), .val (.int ((z1 &&& (2147483647 : Int32)) % (5 : Int32))), .unset, .unset] [(.int z2)])) rfl (hb hby at_63) tq kq) ?_
    refine Gl.st (b := T11.setTop (mkF m 66 #[.val (.long z0), .second, .val (.int z1), .val (.int z2), .val (.ref b1), .val (.int ((z1 &&& (2147483647 : Int32)) % (5 : Int32))), .unset, .unset] [(.int (z2 &&& (2147483647 : Int32)))])) (fun tq kq => XS.iand X11.here hx rfl (hb hby at_65) rfl kq) ?_
    refine Gl.st (b := T11.setTop (mkF m 68 #[.val (.long z0), .second, .val (.int z1), .val (.int z2), .val (.ref b1), .val (.int ((z1 &&& (2147483647 : Int32)) % (5 : Int32))), .unset, .unset] [(.int (6 : Int32)), (.int (z2 &&& (2147483647 : Int32)))])) (fun tq kq => XS.bipush X11.here hx rfl (hb hby at_66) kq) ?_
    refine Gl.st (b := T11.setTop (mkF m 69 #[.val (.long z0), .second, .val (.int z1), .val (.int z2), .val (.ref b1), .val (.int ((z1 &&& (2147483647 : Int32)) % (5 : Int32))), .unset, .unset] [(.int ((z2 &&& (2147483647 : Int32)) % (6 : Int32)))])) (fun tq kq => iremM (g := (mkF m 68 #[.val (.long z0), .second, .val (.int z1), .val (.int z2), .val (.ref b1), .val (.int ((z1 &&& (2147483647 : Int32)) % (5 : Int32))), .unset, .unset] [(.int (6 : Int32)), (.int (z2 &&& (2147483647 : Int32)))])) X11 hx rfl (hb hby at_68) rfl (by decide) kq) ?_
    refine Gl.st (b := T11.setTop (mkF m 71 #[.val (.long z0), .second, .val (.int z1), .val (.int z2), .val (.ref b1), .val (.int ((z1 &&& (2147483647 : Int32)) % (5 : Int32))), .val (.int ((z2 &&& (2147483647 : Int32)) % (6 : Int32))), .unset] [])) (fun tq kq => XS.istore X11.here hx rfl (hb hby at_69) rfl (l' := #[.val (.long z0), .second, .val (.int z1), .val (.int z2), .val (.ref b1), .val (.int ((z1 &&& (2147483647 : Int32)) % (5 : Int32))), .val (.int ((z2 &&& (2147483647 : Int32)) % (6 : Int32))), .unset]) rfl kq) ?_
    obtain ⟨oo, hoo⟩ : ∃ q, q = ((z1 &&& (2147483647 : Int32)) % (5 : Int32)) := ⟨_, rfl⟩
    rw [← hoo]
    show Gl _ _ _ _ _ _ _ (T11.setTop (mkF m 71 #[.val (.long z0), .second, .val (.int z1), .val (.int z2), .val (.ref b1), .val (.int oo), .val (.int ((z2 &&& (2147483647 : Int32)) % (6 : Int32))), .unset] []))
    obtain ⟨tt, htt⟩ : ∃ q, q = ((z2 &&& (2147483647 : Int32)) % (6 : Int32)) := ⟨_, rfl⟩
    rw [← htt]
    show Gl _ _ _ _ _ _ _ (T11.setTop (mkF m 71 #[.val (.long z0), .second, .val (.int z1), .val (.int z2), .val (.ref b1), .val (.int oo), .val (.int tt), .unset] []))
    have hmoo : (z1 &&& (2147483647 : Int32)).toInt = z1.toInt % (2 ^ 31 : Nat) := c_mask z1 2147483647 31 (by decide) (by decide)
    have hroo := (c_irem (z1 &&& (2147483647 : Int32)) (5 : Int32) 5 (by decide)).1 (by omega)
    rw [← hoo] at hroo
    have hmtt : (z2 &&& (2147483647 : Int32)).toInt = z2.toInt % (2 ^ 31 : Nat) := c_mask z2 2147483647 31 (by decide) (by decide)
    have hrtt := (c_irem (z2 &&& (2147483647 : Int32)) (6 : Int32) 6 (by decide)).1 (by omega)
    rw [← htt] at hrtt
    have ho0 : 0 ≤ oo.toInt := by omega
    have ho4 : oo.toInt < 5 := by omega
    have ht5 : tt.toInt ≤ 5 := by omega
    have u1 : (oo + (1 : Int32)).toInt = oo.toInt + 1 := by have a := c_iadd oo (1 : Int32); have b := rng32 (oo + (1 : Int32)); have c : (1 : Int32).toInt = 1 := (by decide); omega
    have u2 : (oo + (2 : Int32)).toInt = oo.toInt + 2 := by have a := c_iadd oo (2 : Int32); have b := rng32 (oo + (2 : Int32)); have c : (2 : Int32).toInt = 2 := (by decide); omega
    have u3 : (oo + (3 : Int32)).toInt = oo.toInt + 3 := by have a := c_iadd oo (3 : Int32); have b := rng32 (oo + (3 : Int32)); have c : (3 : Int32).toInt = 3 := (by decide); omega
    have u4 : (oo + (4 : Int32)).toInt = oo.toInt + 4 := by have a := c_iadd oo (4 : Int32); have b := rng32 (oo + (4 : Int32)); have c : (4 : Int32).toInt = 4 := (by decide); omega
    have AC : Ar Z h11 b1 .char (([(nar .char r2), (nar .char r4), (nar .char r6), (nar .char r8), (nar .char r10)] : List Int32).map Value.int) := AA11
    obtain ⟨cs, hcs⟩ : ∃ q : List Int32, q = [(nar .char r2), (nar .char r4), (nar .char r6), (nar .char r8), (nar .char r10)] := ⟨_, rfl⟩
    have hl : cs.length = 5 := by rw [hcs]; rfl
    rw [← hcs] at AC
    refine Gl.st (b := T11.setTop (mkF m 73 #[.val (.long z0), .second, .val (.int z1), .val (.int z2), .val (.ref b1), .val (.int oo), .val (.int tt), .unset] [(.ref b1)])) (fun tq kq => XS.aload X11.here hx rfl (hb hby at_71) rfl rfl kq) ?_
    refine Gl.st (b := T11.setTop (mkF m 75 #[.val (.long z0), .second, .val (.int z1), .val (.int z2), .val (.ref b1), .val (.int oo), .val (.int tt), .unset] [(.int oo), (.ref b1)])) (fun tq kq => XS.iload X11.here hx rfl (hb hby at_73) rfl kq) ?_
    refine Gl.st (b := T11.setTop (mkF m 77 #[.val (.long z0), .second, .val (.int z1), .val (.int z2), .val (.ref b1), .val (.int oo), .val (.int tt), .unset] [(.int tt), (.int oo), (.ref b1)])) (fun tq kq => XS.iload X11.here hx rfl (hb hby at_75) rfl kq) ?_
    refine Gl.st (b := T11.setTop (mkF m 79 #[.val (.long z0), .second, .val (.int z1), .val (.int z2), .val (.ref b1), .val (.int oo), .val (.int tt), .unset] [(.int oo), (.int tt), (.int oo), (.ref b1)])) (fun tq kq => XS.iload X11.here hx rfl (hb hby at_77) rfl kq) ?_
    refine Gl.st (b := T11.setTop (mkF m 80 #[.val (.long z0), .second, .val (.int z1), .val (.int z2), .val (.ref b1), .val (.int oo), .val (.int tt), .unset] [(.int (1 : Int32)), (.int oo), (.int tt), (.int oo), (.ref b1)])) (fun tq kq => XS.iconst X11.here hx rfl (hb hby at_79) kq) ?_
    refine Gl.st (b := T11.setTop (mkF m 81 #[.val (.long z0), .second, .val (.int z1), .val (.int z2), .val (.ref b1), .val (.int oo), .val (.int tt), .unset] [(.int (oo + (1 : Int32))), (.int tt), (.int oo), (.ref b1)])) (fun tq kq => XS.iadd X11.here hx rfl (hb hby at_80) rfl kq) ?_
    refine Gl.callP (W := 0) (argsL := [(.ref b1), (.int oo), (.int tt), (.int (oo + (1 : Int32)))]) (rest := []) (w := (.int (own_b (own_hit cs oo tt (oo + (1 : Int32)))))) X11 hx hZ hown (hw _ (List.mem_of_getElem? (i := 7) rfl)) (hw _ (List.mem_of_getElem? (i := 8) rfl)) (hw _ (List.mem_of_getElem? (i := 3) rfl)) (hw _ (List.mem_of_getElem? (i := 9) rfl)) (by decide) (rm2 l Z a0 hw [] b1 oo tt (oo + (1 : Int32)) cs h11 n0 Z_11 AC ho0 (by omega) (by omega) (by omega)) (by decide) (by decide) e11 N11 (by decide) (by decide) (by rw [hml]; rfl) (lenOf own_pd1 rfl) rfl rfl (Nat.le_of_eq rfl) (hb hby at_81) ?_
    intro T12 L12 X12 e12 N12
    show Gl _ _ _ _ _ _ _ (T12.setTop (mkF m 84 #[.val (.long z0), .second, .val (.int z1), .val (.int z2), .val (.ref b1), .val (.int oo), .val (.int tt), .unset] [(.int (own_b (own_hit cs oo tt (oo + (1 : Int32)))))]))
    by_cases hb84_13 : (own_hit cs oo tt (oo + (1 : Int32))) = true
    ·
      refine Gl.st (b := T12.setTop (mkF m 87 #[.val (.long z0), .second, .val (.int z1), .val (.int z2), .val (.ref b1), .val (.int oo), .val (.int tt), .unset] [])) (fun tq kq => XS.ifNo X12.here hx rfl (hb hby at_84) rfl ((if0 _ _).trans (feq (x := own_b (own_hit cs oo tt (oo + (1 : Int32)))) (y := (0 : Int32)) (own_bt hb84_13)).1) kq) ?_
      refine Gl.st (b := T12.setTop (mkF m 89 #[.val (.long z0), .second, .val (.int z1), .val (.int z2), .val (.ref b1), .val (.int oo), .val (.int tt), .unset] [(.int oo)])) (fun tq kq => XS.iload X12.here hx rfl (hb hby at_87) rfl kq) ?_
      refine Gl.st (b := T12.setTop (mkF m 90 #[.val (.long z0), .second, .val (.int z1), .val (.int z2), .val (.ref b1), .val (.int oo), .val (.int tt), .unset] [(.int (1 : Int32)), (.int oo)])) (fun tq kq => XS.iconst X12.here hx rfl (hb hby at_89) kq) ?_
      refine Gl.st (b := T12.setTop (mkF m 91 #[.val (.long z0), .second, .val (.int z1), .val (.int z2), .val (.ref b1), .val (.int oo), .val (.int tt), .unset] [(.int (oo + (1 : Int32)))])) (fun tq kq => XS.iadd X12.here hx rfl (hb hby at_90) rfl kq) ?_
      refine Gl.st (b := T12.setTop (mkF m 93 #[.val (.long z0), .second, .val (.int z1), .val (.int z2), .val (.ref b1), .val (.int oo), .val (.int tt), .val (.int (oo + (1 : Int32)))] [])) (fun tq kq => XS.istore X12.here hx rfl (hb hby at_91) rfl (l' := #[.val (.long z0), .second, .val (.int z1), .val (.int z2), .val (.ref b1), .val (.int oo), .val (.int tt), .val (.int (oo + (1 : Int32)))]) rfl kq) ?_
      refine Gl.st (b := T12.setTop (mkF m 174 #[.val (.long z0), .second, .val (.int z1), .val (.int z2), .val (.ref b1), .val (.int oo), .val (.int tt), .val (.int (oo + (1 : Int32)))] [])) (fun tq kq => XS.goto X12.here hx rfl (pc0 := 93) (pc' := 174) rfl (hb hby at_93) (by decide) (by decide) kq) ?_
      refine Gl.st (b := T12.setTop (mkF m 176 #[.val (.long z0), .second, .val (.int z1), .val (.int z2), .val (.ref b1), .val (.int oo), .val (.int tt), .val (.int (oo + (1 : Int32)))] [(.ref b1)])) (fun tq kq => XS.aload X12.here hx rfl (hb hby at_174) rfl rfl kq) ?_
      refine Gl.st (b := T12.setTop (mkF m 178 #[.val (.long z0), .second, .val (.int z1), .val (.int z2), .val (.ref b1), .val (.int oo), .val (.int tt), .val (.int (oo + (1 : Int32)))] [(.int oo), (.ref b1)])) (fun tq kq => XS.iload X12.here hx rfl (hb hby at_176) rfl kq) ?_
      refine Gl.st (b := T12.setTop (mkF m 180 #[.val (.long z0), .second, .val (.int z1), .val (.int z2), .val (.ref b1), .val (.int oo), .val (.int tt), .val (.int (oo + (1 : Int32)))] [(.int tt), (.int oo), (.ref b1)])) (fun tq kq => XS.iload X12.here hx rfl (hb hby at_178) rfl kq) ?_
      refine Gl.callS (W := 0) (argsL := [(.ref b1), (.int oo), (.int tt)]) (rest := []) X12 hx hZ hown (hw _ (List.mem_of_getElem? (i := 10) rfl)) (hw _ (List.mem_of_getElem? (i := 11) rfl)) (hw _ (List.mem_of_getElem? (i := 12) rfl)) (hw _ (List.mem_of_getElem? (i := 13) rfl)) (by decide) (rm3 l Z a0 hw [] b1 oo tt cs h11 n0 Z_11 AC ho0 (by omega) (by omega) hl) (by decide) (by decide) e12 (by decide) (by decide) (by rw [hml]; rfl) (lenOf own_pd2 rfl) rfl rfl (Nat.le_of_eq rfl) (hb hby at_180) ?_
      intro T14 v14 L14 X14 hQ14
      obtain ⟨rr, rfl, N14q, e14q, SP⟩ := hQ14
      have N14 := N12.app N14q
      show Gl _ _ _ _ _ _ _ (T14.setTop (mkF m 183 #[.val (.long z0), .second, .val (.int z1), .val (.int z2), .val (.ref b1), .val (.int oo), .val (.int tt), .val (.int (oo + (1 : Int32)))] [(.int rr)]))
      refine Gl.st (b := T14.setTop (mkF m 185 #[.val (.long z0), .second, .val (.int z1), .val (.int z2), .val (.ref b1), .val (.int oo), .val (.int tt), .val (.int (oo + (1 : Int32)))] [(.int (oo + (1 : Int32))), (.int rr)])) (fun tq kq => XS.iload X14.here hx rfl (hb hby at_183) rfl kq) ?_
      have nb1 := hb84_13
      simp only [own_hit, decide_eq_true_eq, u1] at nb1
      have hfin : rr.toInt = oo.toInt + 1 := own_pin SP _ (by omega) nb1.1 nb1.2 (by
        intro i q1 q2
        omega)
      refine Gl.st (b := T14.setTop (mkF m 188 #[.val (.long z0), .second, .val (.int z1), .val (.int z2), .val (.ref b1), .val (.int oo), .val (.int tt), .val (.int (oo + (1 : Int32)))] [])) (fun tq kq => XS.icmpNo X14.here hx rfl (hb hby at_185) rfl (teq (own_eqI.mpr (hfin.trans u1.symm))).2 kq) ?_
      refine Gl.st (b := T14.setTop (mkF m 189 #[.val (.long z0), .second, .val (.int z1), .val (.int z2), .val (.ref b1), .val (.int oo), .val (.int tt), .val (.int (oo + (1 : Int32)))] [(.int (1 : Int32))])) (fun tq kq => XS.iconst X14.here hx rfl (hb hby at_188) kq) ?_
      refine Gl.st (b := T14.setTop (mkF m 193 #[.val (.long z0), .second, .val (.int z1), .val (.int z2), .val (.ref b1), .val (.int oo), .val (.int tt), .val (.int (oo + (1 : Int32)))] [(.int (1 : Int32))])) (fun tq kq => XS.goto X14.here hx rfl (pc0 := 189) (pc' := 193) rfl (hb hby at_189) (by decide) (by decide) kq) ?_
      exact Gl.retN X14 hx hret (by simp) (hb hby at_193) hlk (by decide) (by decide) ⟨rfl, N14⟩
    ·
      refine Gl.st (b := T12.setTop (mkF m 96 #[.val (.long z0), .second, .val (.int z1), .val (.int z2), .val (.ref b1), .val (.int oo), .val (.int tt), .unset] [])) (fun tq kq => XS.ifYes X12.here hx rfl (pc0 := 84) (pc' := 96) rfl (hb hby at_84) rfl ((if0 _ _).trans (teq (x := own_b (own_hit cs oo tt (oo + (1 : Int32)))) (y := (0 : Int32)) (own_bf hb84_13)).1) (by decide) (by decide) kq) ?_
      refine Gl.st (b := T12.setTop (mkF m 98 #[.val (.long z0), .second, .val (.int z1), .val (.int z2), .val (.ref b1), .val (.int oo), .val (.int tt), .unset] [(.ref b1)])) (fun tq kq => XS.aload X12.here hx rfl (hb hby at_96) rfl rfl kq) ?_
      refine Gl.st (b := T12.setTop (mkF m 100 #[.val (.long z0), .second, .val (.int z1), .val (.int z2), .val (.ref b1), .val (.int oo), .val (.int tt), .unset] [(.int oo), (.ref b1)])) (fun tq kq => XS.iload X12.here hx rfl (hb hby at_98) rfl kq) ?_
      refine Gl.st (b := T12.setTop (mkF m 102 #[.val (.long z0), .second, .val (.int z1), .val (.int z2), .val (.ref b1), .val (.int oo), .val (.int tt), .unset] [(.int tt), (.int oo), (.ref b1)])) (fun tq kq => XS.iload X12.here hx rfl (hb hby at_100) rfl kq) ?_
      refine Gl.st (b := T12.setTop (mkF m 104 #[.val (.long z0), .second, .val (.int z1), .val (.int z2), .val (.ref b1), .val (.int oo), .val (.int tt), .unset] [(.int oo), (.int tt), (.int oo), (.ref b1)])) (fun tq kq => XS.iload X12.here hx rfl (hb hby at_102) rfl kq) ?_
      refine Gl.st (b := T12.setTop (mkF m 105 #[.val (.long z0), .second, .val (.int z1), .val (.int z2), .val (.ref b1), .val (.int oo), .val (.int tt), .unset] [(.int (2 : Int32)), (.int oo), (.int tt), (.int oo), (.ref b1)])) (fun tq kq => XS.iconst X12.here hx rfl (hb hby at_104) kq) ?_
      refine Gl.st (b := T12.setTop (mkF m 106 #[.val (.long z0), .second, .val (.int z1), .val (.int z2), .val (.ref b1), .val (.int oo), .val (.int tt), .unset] [(.int (oo + (2 : Int32))), (.int tt), (.int oo), (.ref b1)])) (fun tq kq => XS.iadd X12.here hx rfl (hb hby at_105) rfl kq) ?_
      refine Gl.callP (W := 0) (argsL := [(.ref b1), (.int oo), (.int tt), (.int (oo + (2 : Int32)))]) (rest := []) (w := (.int (own_b (own_hit cs oo tt (oo + (2 : Int32)))))) X12 hx hZ hown (hw _ (List.mem_of_getElem? (i := 7) rfl)) (hw _ (List.mem_of_getElem? (i := 8) rfl)) (hw _ (List.mem_of_getElem? (i := 3) rfl)) (hw _ (List.mem_of_getElem? (i := 9) rfl)) (by decide) (rm2 l Z a0 hw [] b1 oo tt (oo + (2 : Int32)) cs h11 n0 Z_11 AC ho0 (by omega) (by omega) (by omega)) (by decide) (by decide) e12 N12 (by decide) (by decide) (by rw [hml]; rfl) (lenOf own_pd1 rfl) rfl rfl (Nat.le_of_eq rfl) (hb hby at_106) ?_
      intro T15 L15 X15 e15 N15
      show Gl _ _ _ _ _ _ _ (T15.setTop (mkF m 109 #[.val (.long z0), .second, .val (.int z1), .val (.int z2), .val (.ref b1), .val (.int oo), .val (.int tt), .unset] [(.int (own_b (own_hit cs oo tt (oo + (2 : Int32)))))]))
      by_cases hb109_16 : (own_hit cs oo tt (oo + (2 : Int32))) = true
      ·
        refine Gl.st (b := T15.setTop (mkF m 112 #[.val (.long z0), .second, .val (.int z1), .val (.int z2), .val (.ref b1), .val (.int oo), .val (.int tt), .unset] [])) (fun tq kq => XS.ifNo X15.here hx rfl (hb hby at_109) rfl ((if0 _ _).trans (feq (x := own_b (own_hit cs oo tt (oo + (2 : Int32)))) (y := (0 : Int32)) (own_bt hb109_16)).1) kq) ?_
        refine Gl.st (b := T15.setTop (mkF m 114 #[.val (.long z0), .second, .val (.int z1), .val (.int z2), .val (.ref b1), .val (.int oo), .val (.int tt), .unset] [(.int oo)])) (fun tq kq => XS.iload X15.here hx rfl (hb hby at_112) rfl kq) ?_
        refine Gl.st (b := T15.setTop (mkF m 115 #[.val (.long z0), .second, .val (.int z1), .val (.int z2), .val (.ref b1), .val (.int oo), .val (.int tt), .unset] [(.int (2 : Int32)), (.int oo)])) (fun tq kq => XS.iconst X15.here hx rfl (hb hby at_114) kq) ?_
        refine Gl.st (b := T15.setTop (mkF m 116 #[.val (.long z0), .second, .val (.int z1), .val (.int z2), .val (.ref b1), .val (.int oo), .val (.int tt), .unset] [(.int (oo + (2 : Int32)))])) (fun tq kq => XS.iadd X15.here hx rfl (hb hby at_115) rfl kq) ?_
        refine Gl.st (b := T15.setTop (mkF m 118 #[.val (.long z0), .second, .val (.int z1), .val (.int z2), .val (.ref b1), .val (.int oo), .val (.int tt), .val (.int (oo + (2 : Int32)))] [])) (fun tq kq => XS.istore X15.here hx rfl (hb hby at_116) rfl (l' := #[.val (.long z0), .second, .val (.int z1), .val (.int z2), .val (.ref b1), .val (.int oo), .val (.int tt), .val (.int (oo + (2 : Int32)))]) rfl kq) ?_
        refine Gl.st (b := T15.setTop (mkF m 174 #[.val (.long z0), .second, .val (.int z1), .val (.int z2), .val (.ref b1), .val (.int oo), .val (.int tt), .val (.int (oo + (2 : Int32)))] [])) (fun tq kq => XS.goto X15.here hx rfl (pc0 := 118) (pc' := 174) rfl (hb hby at_118) (by decide) (by decide) kq) ?_
        refine Gl.st (b := T15.setTop (mkF m 176 #[.val (.long z0), .second, .val (.int z1), .val (.int z2), .val (.ref b1), .val (.int oo), .val (.int tt), .val (.int (oo + (2 : Int32)))] [(.ref b1)])) (fun tq kq => XS.aload X15.here hx rfl (hb hby at_174) rfl rfl kq) ?_
        refine Gl.st (b := T15.setTop (mkF m 178 #[.val (.long z0), .second, .val (.int z1), .val (.int z2), .val (.ref b1), .val (.int oo), .val (.int tt), .val (.int (oo + (2 : Int32)))] [(.int oo), (.ref b1)])) (fun tq kq => XS.iload X15.here hx rfl (hb hby at_176) rfl kq) ?_
        refine Gl.st (b := T15.setTop (mkF m 180 #[.val (.long z0), .second, .val (.int z1), .val (.int z2), .val (.ref b1), .val (.int oo), .val (.int tt), .val (.int (oo + (2 : Int32)))] [(.int tt), (.int oo), (.ref b1)])) (fun tq kq => XS.iload X15.here hx rfl (hb hby at_178) rfl kq) ?_
        refine Gl.callS (W := 0) (argsL := [(.ref b1), (.int oo), (.int tt)]) (rest := []) X15 hx hZ hown (hw _ (List.mem_of_getElem? (i := 10) rfl)) (hw _ (List.mem_of_getElem? (i := 11) rfl)) (hw _ (List.mem_of_getElem? (i := 12) rfl)) (hw _ (List.mem_of_getElem? (i := 13) rfl)) (by decide) (rm3 l Z a0 hw [] b1 oo tt cs h11 n0 Z_11 AC ho0 (by omega) (by omega) hl) (by decide) (by decide) e15 (by decide) (by decide) (by rw [hml]; rfl) (lenOf own_pd2 rfl) rfl rfl (Nat.le_of_eq rfl) (hb hby at_180) ?_
        intro T17 v17 L17 X17 hQ17
        obtain ⟨rr, rfl, N17q, e17q, SP⟩ := hQ17
        have N17 := N15.app N17q
        show Gl _ _ _ _ _ _ _ (T17.setTop (mkF m 183 #[.val (.long z0), .second, .val (.int z1), .val (.int z2), .val (.ref b1), .val (.int oo), .val (.int tt), .val (.int (oo + (2 : Int32)))] [(.int rr)]))
        refine Gl.st (b := T17.setTop (mkF m 185 #[.val (.long z0), .second, .val (.int z1), .val (.int z2), .val (.ref b1), .val (.int oo), .val (.int tt), .val (.int (oo + (2 : Int32)))] [(.int (oo + (2 : Int32))), (.int rr)])) (fun tq kq => XS.iload X17.here hx rfl (hb hby at_183) rfl kq) ?_
        have nb1 := hb84_13
        simp only [own_hit, decide_eq_true_eq, u1] at nb1
        have nb2 := hb109_16
        simp only [own_hit, decide_eq_true_eq, u2] at nb2
        have hfin : rr.toInt = oo.toInt + 2 := own_pin SP _ (by omega) nb2.1 nb2.2 (by
          intro i q1 q2
          have hi : i = oo.toInt + 1 := by omega
          rcases hi with rfl
          · exact nb1)
        refine Gl.st (b := T17.setTop (mkF m 188 #[.val (.long z0), .second, .val (.int z1), .val (.int z2), .val (.ref b1), .val (.int oo), .val (.int tt), .val (.int (oo + (2 : Int32)))] [])) (fun tq kq => XS.icmpNo X17.here hx rfl (hb hby at_185) rfl (teq (own_eqI.mpr (hfin.trans u2.symm))).2 kq) ?_
        refine Gl.st (b := T17.setTop (mkF m 189 #[.val (.long z0), .second, .val (.int z1), .val (.int z2), .val (.ref b1), .val (.int oo), .val (.int tt), .val (.int (oo + (2 : Int32)))] [(.int (1 : Int32))])) (fun tq kq => XS.iconst X17.here hx rfl (hb hby at_188) kq) ?_
        refine Gl.st (b := T17.setTop (mkF m 193 #[.val (.long z0), .second, .val (.int z1), .val (.int z2), .val (.ref b1), .val (.int oo), .val (.int tt), .val (.int (oo + (2 : Int32)))] [(.int (1 : Int32))])) (fun tq kq => XS.goto X17.here hx rfl (pc0 := 189) (pc' := 193) rfl (hb hby at_189) (by decide) (by decide) kq) ?_
        exact Gl.retN X17 hx hret (by simp) (hb hby at_193) hlk (by decide) (by decide) ⟨rfl, N17⟩
      ·
        refine Gl.st (b := T15.setTop (mkF m 121 #[.val (.long z0), .second, .val (.int z1), .val (.int z2), .val (.ref b1), .val (.int oo), .val (.int tt), .unset] [])) (fun tq kq => XS.ifYes X15.here hx rfl (pc0 := 109) (pc' := 121) rfl (hb hby at_109) rfl ((if0 _ _).trans (teq (x := own_b (own_hit cs oo tt (oo + (2 : Int32)))) (y := (0 : Int32)) (own_bf hb109_16)).1) (by decide) (by decide) kq) ?_
        refine Gl.st (b := T15.setTop (mkF m 123 #[.val (.long z0), .second, .val (.int z1), .val (.int z2), .val (.ref b1), .val (.int oo), .val (.int tt), .unset] [(.ref b1)])) (fun tq kq => XS.aload X15.here hx rfl (hb hby at_121) rfl rfl kq) ?_
        refine Gl.st (b := T15.setTop (mkF m 125 #[.val (.long z0), .second, .val (.int z1), .val (.int z2), .val (.ref b1), .val (.int oo), .val (.int tt), .unset] [(.int oo), (.ref b1)])) (fun tq kq => XS.iload X15.here hx rfl (hb hby at_123) rfl kq) ?_
        refine Gl.st (b := T15.setTop (mkF m 127 #[.val (.long z0), .second, .val (.int z1), .val (.int z2), .val (.ref b1), .val (.int oo), .val (.int tt), .unset] [(.int tt), (.int oo), (.ref b1)])) (fun tq kq => XS.iload X15.here hx rfl (hb hby at_125) rfl kq) ?_
        refine Gl.st (b := T15.setTop (mkF m 129 #[.val (.long z0), .second, .val (.int z1), .val (.int z2), .val (.ref b1), .val (.int oo), .val (.int tt), .unset] [(.int oo), (.int tt), (.int oo), (.ref b1)])) (fun tq kq => XS.iload X15.here hx rfl (hb hby at_127) rfl kq) ?_
        refine Gl.st (b := T15.setTop (mkF m 130 #[.val (.long z0), .second, .val (.int z1), .val (.int z2), .val (.ref b1), .val (.int oo), .val (.int tt), .unset] [(.int (3 : Int32)), (.int oo), (.int tt), (.int oo), (.ref b1)])) (fun tq kq => XS.iconst X15.here hx rfl (hb hby at_129) kq) ?_
        refine Gl.st (b := T15.setTop (mkF m 131 #[.val (.long z0), .second, .val (.int z1), .val (.int z2), .val (.ref b1), .val (.int oo), .val (.int tt), .unset] [(.int (oo + (3 : Int32))), (.int tt), (.int oo), (.ref b1)])) (fun tq kq => XS.iadd X15.here hx rfl (hb hby at_130) rfl kq) ?_
        refine Gl.callP (W := 0) (argsL := [(.ref b1), (.int oo), (.int tt), (.int (oo + (3 : Int32)))]) (rest := []) (w := (.int (own_b (own_hit cs oo tt (oo + (3 : Int32)))))) X15 hx hZ hown (hw _ (List.mem_of_getElem? (i := 7) rfl)) (hw _ (List.mem_of_getElem? (i := 8) rfl)) (hw _ (List.mem_of_getElem? (i := 3) rfl)) (hw _ (List.mem_of_getElem? (i := 9) rfl)) (by decide) (rm2 l Z a0 hw [] b1 oo tt (oo + (3 : Int32)) cs h11 n0 Z_11 AC ho0 (by omega) (by omega) (by omega)) (by decide) (by decide) e15 N15 (by decide) (by decide) (by rw [hml]; rfl) (lenOf own_pd1 rfl) rfl rfl (Nat.le_of_eq rfl) (hb hby at_131) ?_
        intro T18 L18 X18 e18 N18
        show Gl _ _ _ _ _ _ _ (T18.setTop (mkF m 134 #[.val (.long z0), .second, .val (.int z1), .val (.int z2), .val (.ref b1), .val (.int oo), .val (.int tt), .unset] [(.int (own_b (own_hit cs oo tt (oo + (3 : Int32)))))]))
        by_cases hb134_19 : (own_hit cs oo tt (oo + (3 : Int32))) = true
        ·
          refine Gl.st (b := T18.setTop (mkF m 137 #[.val (.long z0), .second, .val (.int z1), .val (.int z2), .val (.ref b1), .val (.int oo), .val (.int tt), .unset] [])) (fun tq kq => XS.ifNo X18.here hx rfl (hb hby at_134) rfl ((if0 _ _).trans (feq (x := own_b (own_hit cs oo tt (oo + (3 : Int32)))) (y := (0 : Int32)) (own_bt hb134_19)).1) kq) ?_
          refine Gl.st (b := T18.setTop (mkF m 139 #[.val (.long z0), .second, .val (.int z1), .val (.int z2), .val (.ref b1), .val (.int oo), .val (.int tt), .unset] [(.int oo)])) (fun tq kq => XS.iload X18.here hx rfl (hb hby at_137) rfl kq) ?_
          refine Gl.st (b := T18.setTop (mkF m 140 #[.val (.long z0), .second, .val (.int z1), .val (.int z2), .val (.ref b1), .val (.int oo), .val (.int tt), .unset] [(.int (3 : Int32)), (.int oo)])) (fun tq kq => XS.iconst X18.here hx rfl (hb hby at_139) kq) ?_
          refine Gl.st (b := T18.setTop (mkF m 141 #[.val (.long z0), .second, .val (.int z1), .val (.int z2), .val (.ref b1), .val (.int oo), .val (.int tt), .unset] [(.int (oo + (3 : Int32)))])) (fun tq kq => XS.iadd X18.here hx rfl (hb hby at_140) rfl kq) ?_
          refine Gl.st (b := T18.setTop (mkF m 143 #[.val (.long z0), .second, .val (.int z1), .val (.int z2), .val (.ref b1), .val (.int oo), .val (.int tt), .val (.int (oo + (3 : Int32)))] [])) (fun tq kq => XS.istore X18.here hx rfl (hb hby at_141) rfl (l' := #[.val (.long z0), .second, .val (.int z1), .val (.int z2), .val (.ref b1), .val (.int oo), .val (.int tt), .val (.int (oo + (3 : Int32)))]) rfl kq) ?_
          refine Gl.st (b := T18.setTop (mkF m 174 #[.val (.long z0), .second, .val (.int z1), .val (.int z2), .val (.ref b1), .val (.int oo), .val (.int tt), .val (.int (oo + (3 : Int32)))] [])) (fun tq kq => XS.goto X18.here hx rfl (pc0 := 143) (pc' := 174) rfl (hb hby at_143) (by decide) (by decide) kq) ?_
          refine Gl.st (b := T18.setTop (mkF m 176 #[.val (.long z0), .second, .val (.int z1), .val (.int z2), .val (.ref b1), .val (.int oo), .val (.int tt), .val (.int (oo + (3 : Int32)))] [(.ref b1)])) (fun tq kq => XS.aload X18.here hx rfl (hb hby at_174) rfl rfl kq) ?_
          refine Gl.st (b := T18.setTop (mkF m 178 #[.val (.long z0), .second, .val (.int z1), .val (.int z2), .val (.ref b1), .val (.int oo), .val (.int tt), .val (.int (oo + (3 : Int32)))] [(.int oo), (.ref b1)])) (fun tq kq => XS.iload X18.here hx rfl (hb hby at_176) rfl kq) ?_
          refine Gl.st (b := T18.setTop (mkF m 180 #[.val (.long z0), .second, .val (.int z1), .val (.int z2), .val (.ref b1), .val (.int oo), .val (.int tt), .val (.int (oo + (3 : Int32)))] [(.int tt), (.int oo), (.ref b1)])) (fun tq kq => XS.iload X18.here hx rfl (hb hby at_178) rfl kq) ?_
          refine Gl.callS (W := 0) (argsL := [(.ref b1), (.int oo), (.int tt)]) (rest := []) X18 hx hZ hown (hw _ (List.mem_of_getElem? (i := 10) rfl)) (hw _ (List.mem_of_getElem? (i := 11) rfl)) (hw _ (List.mem_of_getElem? (i := 12) rfl)) (hw _ (List.mem_of_getElem? (i := 13) rfl)) (by decide) (rm3 l Z a0 hw [] b1 oo tt cs h11 n0 Z_11 AC ho0 (by omega) (by omega) hl) (by decide) (by decide) e18 (by decide) (by decide) (by rw [hml]; rfl) (lenOf own_pd2 rfl) rfl rfl (Nat.le_of_eq rfl) (hb hby at_180) ?_
          intro T20 v20 L20 X20 hQ20
          obtain ⟨rr, rfl, N20q, e20q, SP⟩ := hQ20
          have N20 := N18.app N20q
          show Gl _ _ _ _ _ _ _ (T20.setTop (mkF m 183 #[.val (.long z0), .second, .val (.int z1), .val (.int z2), .val (.ref b1), .val (.int oo), .val (.int tt), .val (.int (oo + (3 : Int32)))] [(.int rr)]))
          refine Gl.st (b := T20.setTop (mkF m 185 #[.val (.long z0), .second, .val (.int z1), .val (.int z2), .val (.ref b1), .val (.int oo), .val (.int tt), .val (.int (oo + (3 : Int32)))] [(.int (oo + (3 : Int32))), (.int rr)])) (fun tq kq => XS.iload X20.here hx rfl (hb hby at_183) rfl kq) ?_
          have nb1 := hb84_13
          simp only [own_hit, decide_eq_true_eq, u1] at nb1
          have nb2 := hb109_16
          simp only [own_hit, decide_eq_true_eq, u2] at nb2
          have nb3 := hb134_19
          simp only [own_hit, decide_eq_true_eq, u3] at nb3
          have hfin : rr.toInt = oo.toInt + 3 := own_pin SP _ (by omega) nb3.1 nb3.2 (by
            intro i q1 q2
            have hi : i = oo.toInt + 1 ∨ i = oo.toInt + 2 := by omega
            rcases hi with rfl | rfl
            · exact nb1
            · exact nb2)
          refine Gl.st (b := T20.setTop (mkF m 188 #[.val (.long z0), .second, .val (.int z1), .val (.int z2), .val (.ref b1), .val (.int oo), .val (.int tt), .val (.int (oo + (3 : Int32)))] [])) (fun tq kq => XS.icmpNo X20.here hx rfl (hb hby at_185) rfl (teq (own_eqI.mpr (hfin.trans u3.symm))).2 kq) ?_
          refine Gl.st (b := T20.setTop (mkF m 189 #[.val (.long z0), .second, .val (.int z1), .val (.int z2), .val (.ref b1), .val (.int oo), .val (.int tt), .val (.int (oo + (3 : Int32)))] [(.int (1 : Int32))])) (fun tq kq => XS.iconst X20.here hx rfl (hb hby at_188) kq) ?_
          refine Gl.st (b := T20.setTop (mkF m 193 #[.val (.long z0), .second, .val (.int z1), .val (.int z2), .val (.ref b1), .val (.int oo), .val (.int tt), .val (.int (oo + (3 : Int32)))] [(.int (1 : Int32))])) (fun tq kq => XS.goto X20.here hx rfl (pc0 := 189) (pc' := 193) rfl (hb hby at_189) (by decide) (by decide) kq) ?_
          exact Gl.retN X20 hx hret (by simp) (hb hby at_193) hlk (by decide) (by decide) ⟨rfl, N20⟩
        ·
          refine Gl.st (b := T18.setTop (mkF m 146 #[.val (.long z0), .second, .val (.int z1), .val (.int z2), .val (.ref b1), .val (.int oo), .val (.int tt), .unset] [])) (fun tq kq => XS.ifYes X18.here hx rfl (pc0 := 134) (pc' := 146) rfl (hb hby at_134) rfl ((if0 _ _).trans (teq (x := own_b (own_hit cs oo tt (oo + (3 : Int32)))) (y := (0 : Int32)) (own_bf hb134_19)).1) (by decide) (by decide) kq) ?_
          refine Gl.st (b := T18.setTop (mkF m 148 #[.val (.long z0), .second, .val (.int z1), .val (.int z2), .val (.ref b1), .val (.int oo), .val (.int tt), .unset] [(.ref b1)])) (fun tq kq => XS.aload X18.here hx rfl (hb hby at_146) rfl rfl kq) ?_
          refine Gl.st (b := T18.setTop (mkF m 150 #[.val (.long z0), .second, .val (.int z1), .val (.int z2), .val (.ref b1), .val (.int oo), .val (.int tt), .unset] [(.int oo), (.ref b1)])) (fun tq kq => XS.iload X18.here hx rfl (hb hby at_148) rfl kq) ?_
          refine Gl.st (b := T18.setTop (mkF m 152 #[.val (.long z0), .second, .val (.int z1), .val (.int z2), .val (.ref b1), .val (.int oo), .val (.int tt), .unset] [(.int tt), (.int oo), (.ref b1)])) (fun tq kq => XS.iload X18.here hx rfl (hb hby at_150) rfl kq) ?_
          refine Gl.st (b := T18.setTop (mkF m 154 #[.val (.long z0), .second, .val (.int z1), .val (.int z2), .val (.ref b1), .val (.int oo), .val (.int tt), .unset] [(.int oo), (.int tt), (.int oo), (.ref b1)])) (fun tq kq => XS.iload X18.here hx rfl (hb hby at_152) rfl kq) ?_
          refine Gl.st (b := T18.setTop (mkF m 155 #[.val (.long z0), .second, .val (.int z1), .val (.int z2), .val (.ref b1), .val (.int oo), .val (.int tt), .unset] [(.int (4 : Int32)), (.int oo), (.int tt), (.int oo), (.ref b1)])) (fun tq kq => XS.iconst X18.here hx rfl (hb hby at_154) kq) ?_
          refine Gl.st (b := T18.setTop (mkF m 156 #[.val (.long z0), .second, .val (.int z1), .val (.int z2), .val (.ref b1), .val (.int oo), .val (.int tt), .unset] [(.int (oo + (4 : Int32))), (.int tt), (.int oo), (.ref b1)])) (fun tq kq => XS.iadd X18.here hx rfl (hb hby at_155) rfl kq) ?_
          refine Gl.callP (W := 0) (argsL := [(.ref b1), (.int oo), (.int tt), (.int (oo + (4 : Int32)))]) (rest := []) (w := (.int (own_b (own_hit cs oo tt (oo + (4 : Int32)))))) X18 hx hZ hown (hw _ (List.mem_of_getElem? (i := 7) rfl)) (hw _ (List.mem_of_getElem? (i := 8) rfl)) (hw _ (List.mem_of_getElem? (i := 3) rfl)) (hw _ (List.mem_of_getElem? (i := 9) rfl)) (by decide) (rm2 l Z a0 hw [] b1 oo tt (oo + (4 : Int32)) cs h11 n0 Z_11 AC ho0 (by omega) (by omega) (by omega)) (by decide) (by decide) e18 N18 (by decide) (by decide) (by rw [hml]; rfl) (lenOf own_pd1 rfl) rfl rfl (Nat.le_of_eq rfl) (hb hby at_156) ?_
          intro T21 L21 X21 e21 N21
          show Gl _ _ _ _ _ _ _ (T21.setTop (mkF m 159 #[.val (.long z0), .second, .val (.int z1), .val (.int z2), .val (.ref b1), .val (.int oo), .val (.int tt), .unset] [(.int (own_b (own_hit cs oo tt (oo + (4 : Int32)))))]))
          by_cases hb159_22 : (own_hit cs oo tt (oo + (4 : Int32))) = true
          ·
            refine Gl.st (b := T21.setTop (mkF m 162 #[.val (.long z0), .second, .val (.int z1), .val (.int z2), .val (.ref b1), .val (.int oo), .val (.int tt), .unset] [])) (fun tq kq => XS.ifNo X21.here hx rfl (hb hby at_159) rfl ((if0 _ _).trans (feq (x := own_b (own_hit cs oo tt (oo + (4 : Int32)))) (y := (0 : Int32)) (own_bt hb159_22)).1) kq) ?_
            refine Gl.st (b := T21.setTop (mkF m 164 #[.val (.long z0), .second, .val (.int z1), .val (.int z2), .val (.ref b1), .val (.int oo), .val (.int tt), .unset] [(.int oo)])) (fun tq kq => XS.iload X21.here hx rfl (hb hby at_162) rfl kq) ?_
            refine Gl.st (b := T21.setTop (mkF m 165 #[.val (.long z0), .second, .val (.int z1), .val (.int z2), .val (.ref b1), .val (.int oo), .val (.int tt), .unset] [(.int (4 : Int32)), (.int oo)])) (fun tq kq => XS.iconst X21.here hx rfl (hb hby at_164) kq) ?_
            refine Gl.st (b := T21.setTop (mkF m 166 #[.val (.long z0), .second, .val (.int z1), .val (.int z2), .val (.ref b1), .val (.int oo), .val (.int tt), .unset] [(.int (oo + (4 : Int32)))])) (fun tq kq => XS.iadd X21.here hx rfl (hb hby at_165) rfl kq) ?_
            refine Gl.st (b := T21.setTop (mkF m 168 #[.val (.long z0), .second, .val (.int z1), .val (.int z2), .val (.ref b1), .val (.int oo), .val (.int tt), .val (.int (oo + (4 : Int32)))] [])) (fun tq kq => XS.istore X21.here hx rfl (hb hby at_166) rfl (l' := #[.val (.long z0), .second, .val (.int z1), .val (.int z2), .val (.ref b1), .val (.int oo), .val (.int tt), .val (.int (oo + (4 : Int32)))]) rfl kq) ?_
            refine Gl.st (b := T21.setTop (mkF m 174 #[.val (.long z0), .second, .val (.int z1), .val (.int z2), .val (.ref b1), .val (.int oo), .val (.int tt), .val (.int (oo + (4 : Int32)))] [])) (fun tq kq => XS.goto X21.here hx rfl (pc0 := 168) (pc' := 174) rfl (hb hby at_168) (by decide) (by decide) kq) ?_
            refine Gl.st (b := T21.setTop (mkF m 176 #[.val (.long z0), .second, .val (.int z1), .val (.int z2), .val (.ref b1), .val (.int oo), .val (.int tt), .val (.int (oo + (4 : Int32)))] [(.ref b1)])) (fun tq kq => XS.aload X21.here hx rfl (hb hby at_174) rfl rfl kq) ?_
            refine Gl.st (b := T21.setTop (mkF m 178 #[.val (.long z0), .second, .val (.int z1), .val (.int z2), .val (.ref b1), .val (.int oo), .val (.int tt), .val (.int (oo + (4 : Int32)))] [(.int oo), (.ref b1)])) (fun tq kq => XS.iload X21.here hx rfl (hb hby at_176) rfl kq) ?_
            refine Gl.st (b := T21.setTop (mkF m 180 #[.val (.long z0), .second, .val (.int z1), .val (.int z2), .val (.ref b1), .val (.int oo), .val (.int tt), .val (.int (oo + (4 : Int32)))] [(.int tt), (.int oo), (.ref b1)])) (fun tq kq => XS.iload X21.here hx rfl (hb hby at_178) rfl kq) ?_
            refine Gl.callS (W := 0) (argsL := [(.ref b1), (.int oo), (.int tt)]) (rest := []) X21 hx hZ hown (hw _ (List.mem_of_getElem? (i := 10) rfl)) (hw _ (List.mem_of_getElem? (i := 11) rfl)) (hw _ (List.mem_of_getElem? (i := 12) rfl)) (hw _ (List.mem_of_getElem? (i := 13) rfl)) (by decide) (rm3 l Z a0 hw [] b1 oo tt cs h11 n0 Z_11 AC ho0 (by omega) (by omega) hl) (by decide) (by decide) e21 (by decide) (by decide) (by rw [hml]; rfl) (lenOf own_pd2 rfl) rfl rfl (Nat.le_of_eq rfl) (hb hby at_180) ?_
            intro T23 v23 L23 X23 hQ23
            obtain ⟨rr, rfl, N23q, e23q, SP⟩ := hQ23
            have N23 := N21.app N23q
            show Gl _ _ _ _ _ _ _ (T23.setTop (mkF m 183 #[.val (.long z0), .second, .val (.int z1), .val (.int z2), .val (.ref b1), .val (.int oo), .val (.int tt), .val (.int (oo + (4 : Int32)))] [(.int rr)]))
            refine Gl.st (b := T23.setTop (mkF m 185 #[.val (.long z0), .second, .val (.int z1), .val (.int z2), .val (.ref b1), .val (.int oo), .val (.int tt), .val (.int (oo + (4 : Int32)))] [(.int (oo + (4 : Int32))), (.int rr)])) (fun tq kq => XS.iload X23.here hx rfl (hb hby at_183) rfl kq) ?_
            have nb1 := hb84_13
            simp only [own_hit, decide_eq_true_eq, u1] at nb1
            have nb2 := hb109_16
            simp only [own_hit, decide_eq_true_eq, u2] at nb2
            have nb3 := hb134_19
            simp only [own_hit, decide_eq_true_eq, u3] at nb3
            have nb4 := hb159_22
            simp only [own_hit, decide_eq_true_eq, u4] at nb4
            have hfin : rr.toInt = oo.toInt + 4 := own_pin SP _ (by omega) nb4.1 nb4.2 (by
              intro i q1 q2
              have hi : i = oo.toInt + 1 ∨ i = oo.toInt + 2 ∨ i = oo.toInt + 3 := by omega
              rcases hi with rfl | rfl | rfl
              · exact nb1
              · exact nb2
              · exact nb3)
            refine Gl.st (b := T23.setTop (mkF m 188 #[.val (.long z0), .second, .val (.int z1), .val (.int z2), .val (.ref b1), .val (.int oo), .val (.int tt), .val (.int (oo + (4 : Int32)))] [])) (fun tq kq => XS.icmpNo X23.here hx rfl (hb hby at_185) rfl (teq (own_eqI.mpr (hfin.trans u4.symm))).2 kq) ?_
            refine Gl.st (b := T23.setTop (mkF m 189 #[.val (.long z0), .second, .val (.int z1), .val (.int z2), .val (.ref b1), .val (.int oo), .val (.int tt), .val (.int (oo + (4 : Int32)))] [(.int (1 : Int32))])) (fun tq kq => XS.iconst X23.here hx rfl (hb hby at_188) kq) ?_
            refine Gl.st (b := T23.setTop (mkF m 193 #[.val (.long z0), .second, .val (.int z1), .val (.int z2), .val (.ref b1), .val (.int oo), .val (.int tt), .val (.int (oo + (4 : Int32)))] [(.int (1 : Int32))])) (fun tq kq => XS.goto X23.here hx rfl (pc0 := 189) (pc' := 193) rfl (hb hby at_189) (by decide) (by decide) kq) ?_
            exact Gl.retN X23 hx hret (by simp) (hb hby at_193) hlk (by decide) (by decide) ⟨rfl, N23⟩
          ·
            refine Gl.st (b := T21.setTop (mkF m 171 #[.val (.long z0), .second, .val (.int z1), .val (.int z2), .val (.ref b1), .val (.int oo), .val (.int tt), .unset] [])) (fun tq kq => XS.ifYes X21.here hx rfl (pc0 := 159) (pc' := 171) rfl (hb hby at_159) rfl ((if0 _ _).trans (teq (x := own_b (own_hit cs oo tt (oo + (4 : Int32)))) (y := (0 : Int32)) (own_bf hb159_22)).1) (by decide) (by decide) kq) ?_
            refine Gl.st (b := T21.setTop (mkF m 172 #[.val (.long z0), .second, .val (.int z1), .val (.int z2), .val (.ref b1), .val (.int oo), .val (.int tt), .unset] [(.int (-1 : Int32))])) (fun tq kq => XS.iconst X21.here hx rfl (hb hby at_171) kq) ?_
            refine Gl.st (b := T21.setTop (mkF m 174 #[.val (.long z0), .second, .val (.int z1), .val (.int z2), .val (.ref b1), .val (.int oo), .val (.int tt), .val (.int (-1 : Int32))] [])) (fun tq kq => XS.istore X21.here hx rfl (hb hby at_172) rfl (l' := #[.val (.long z0), .second, .val (.int z1), .val (.int z2), .val (.ref b1), .val (.int oo), .val (.int tt), .val (.int (-1 : Int32))]) rfl kq) ?_
            refine Gl.st (b := T21.setTop (mkF m 176 #[.val (.long z0), .second, .val (.int z1), .val (.int z2), .val (.ref b1), .val (.int oo), .val (.int tt), .val (.int (-1 : Int32))] [(.ref b1)])) (fun tq kq => XS.aload X21.here hx rfl (hb hby at_174) rfl rfl kq) ?_
            refine Gl.st (b := T21.setTop (mkF m 178 #[.val (.long z0), .second, .val (.int z1), .val (.int z2), .val (.ref b1), .val (.int oo), .val (.int tt), .val (.int (-1 : Int32))] [(.int oo), (.ref b1)])) (fun tq kq => XS.iload X21.here hx rfl (hb hby at_176) rfl kq) ?_
            refine Gl.st (b := T21.setTop (mkF m 180 #[.val (.long z0), .second, .val (.int z1), .val (.int z2), .val (.ref b1), .val (.int oo), .val (.int tt), .val (.int (-1 : Int32))] [(.int tt), (.int oo), (.ref b1)])) (fun tq kq => XS.iload X21.here hx rfl (hb hby at_178) rfl kq) ?_
            refine Gl.callS (W := 0) (argsL := [(.ref b1), (.int oo), (.int tt)]) (rest := []) X21 hx hZ hown (hw _ (List.mem_of_getElem? (i := 10) rfl)) (hw _ (List.mem_of_getElem? (i := 11) rfl)) (hw _ (List.mem_of_getElem? (i := 12) rfl)) (hw _ (List.mem_of_getElem? (i := 13) rfl)) (by decide) (rm3 l Z a0 hw [] b1 oo tt cs h11 n0 Z_11 AC ho0 (by omega) (by omega) hl) (by decide) (by decide) e21 (by decide) (by decide) (by rw [hml]; rfl) (lenOf own_pd2 rfl) rfl rfl (Nat.le_of_eq rfl) (hb hby at_180) ?_
            intro T24 v24 L24 X24 hQ24
            obtain ⟨rr, rfl, N24q, e24q, SP⟩ := hQ24
            have N24 := N21.app N24q
            show Gl _ _ _ _ _ _ _ (T24.setTop (mkF m 183 #[.val (.long z0), .second, .val (.int z1), .val (.int z2), .val (.ref b1), .val (.int oo), .val (.int tt), .val (.int (-1 : Int32))] [(.int rr)]))
            refine Gl.st (b := T24.setTop (mkF m 185 #[.val (.long z0), .second, .val (.int z1), .val (.int z2), .val (.ref b1), .val (.int oo), .val (.int tt), .val (.int (-1 : Int32))] [(.int (-1 : Int32)), (.int rr)])) (fun tq kq => XS.iload X24.here hx rfl (hb hby at_183) rfl kq) ?_
            have nb1 := hb84_13
            simp only [own_hit, decide_eq_true_eq, u1] at nb1
            have nb2 := hb109_16
            simp only [own_hit, decide_eq_true_eq, u2] at nb2
            have nb3 := hb134_19
            simp only [own_hit, decide_eq_true_eq, u3] at nb3
            have nb4 := hb159_22
            simp only [own_hit, decide_eq_true_eq, u4] at nb4
            have hfin : rr.toInt = -1 := own_pin0 SP (by
              intro i q1 q2 q3
              have hi : i = oo.toInt + 1 ∨ i = oo.toInt + 2 ∨ i = oo.toInt + 3 ∨ i = oo.toInt + 4 := by omega
              rcases hi with rfl | rfl | rfl | rfl
              · exact nb1 ⟨q2, q3⟩
              · exact nb2 ⟨q2, q3⟩
              · exact nb3 ⟨q2, q3⟩
              · exact nb4 ⟨q2, q3⟩)
            refine Gl.st (b := T24.setTop (mkF m 188 #[.val (.long z0), .second, .val (.int z1), .val (.int z2), .val (.ref b1), .val (.int oo), .val (.int tt), .val (.int (-1 : Int32))] [])) (fun tq kq => XS.icmpNo X24.here hx rfl (hb hby at_185) rfl (teq (x := rr) (y := (-1 : Int32)) (own_eqI.mpr hfin)).2 kq) ?_
            refine Gl.st (b := T24.setTop (mkF m 189 #[.val (.long z0), .second, .val (.int z1), .val (.int z2), .val (.ref b1), .val (.int oo), .val (.int tt), .val (.int (-1 : Int32))] [(.int (1 : Int32))])) (fun tq kq => XS.iconst X24.here hx rfl (hb hby at_188) kq) ?_
            refine Gl.st (b := T24.setTop (mkF m 193 #[.val (.long z0), .second, .val (.int z1), .val (.int z2), .val (.ref b1), .val (.int oo), .val (.int tt), .val (.int (-1 : Int32))] [(.int (1 : Int32))])) (fun tq kq => XS.goto X24.here hx rfl (pc0 := 189) (pc' := 193) rfl (hb hby at_189) (by decide) (by decide) kq) ?_
            exact Gl.retN X24 hx hret (by simp) (hb hby at_193) hlk (by decide) (by decide) ⟨rfl, N24⟩
  exact GOAL
set_option maxRecDepth 65536 in
set_option maxHeartbeats 40000000 in
theorem comes_1 {Post : Tables → Env → Array Value → State → Outcome → State → Prop} (hpost : ∀ tb e args s v u, (limb_1_1.after args s (.returned v) u = true ∧ limb_1_2.after args s (.returned v) u = true ∧ True) → FrameEnd s (.returned v) u (Jvm.fieldLocs frame_1_writes args s ++ Jvm.arrayLocs frame_1_arrays args s ++ Jvm.staticLocs frame_1_statics s) 16 128 → Post tb e args s (.returned v) u) :
    ArmFor flags0 classFile x code maxLocals ret World_1 tables_1 room_1 Calls_1 rest_1 Pre_1 Post := by
  intro l hfl _ _ p e ha hc hk s m args below hf hA hF happ hP
  obtain ⟨hcalls, hrest, hpre⟩ := hP
  obtain ⟨-, -, -, hnamed, -, -, -, hat⟩ := (Spec.applies_iff hf).mp happ
  obtain ⟨hg, hn⟩ := and_e (Cond.before_iff.mp (show (Jvm.Cond.and given_1 narrow_1).before args s = true from hpre))
  obtain ⟨g1, k1⟩ := and_e hg
  obtain ⟨g2, k2⟩ := and_e k1
  obtain ⟨g3, k3⟩ := and_e k2
  obtain ⟨w0, w1, w2, rfl⟩ : ∃ w0 w1 w2 : Value, args = #[w0, w1, w2] := by
    have hs : args.size = 3 := by simpa [Cond.value, given_1] using g1
    obtain ⟨L⟩ := args
    match L, hs with
    | [w0, w1, w2], _ => exact ⟨w0, w1, w2, rfl⟩
  have hw := fun d (hd : d ∈ tables_1) => atoms_spec (ws := Jvm.Cond.code x code maxLocals ret :: tables_1) hat d (List.mem_cons_of_mem _ hd)
  obtain ⟨i0, ei0⟩ := isL_v g2
  obtain rfl : w0 = (.long i0) := Option.some.inj ei0
  obtain ⟨i1, ei1⟩ := is_v g3
  obtain rfl : w1 = (.int i1) := Option.some.inj ei1
  obtain ⟨i2, ei2⟩ := is_v k3
  obtain rfl : w2 = (.int i2) := Option.some.inj ei2
  obtain ⟨n, o, h1, h2, h3, _, L, rfl, ⟨rfl, N⟩, hq⟩ := rm0 l s _ hw tables_1 i0 i1 i2 s.heap s.heap.size (Nat.le_refl _)  p e ha hc hk s m _ below hf ((Spec.applies_iff_loose hf).mp happ).1 ⟨rfl, State.Warmed39.refl s, rfl⟩ trivial
  refine ⟨n, _, h1, h2, h3, hpost _ _ _ _ _ _ ⟨Cond.after_iff.mpr rfl, Cond.after_iff.mpr (eq_i res_at (Term.int_eval (1)) rfl), trivial⟩ ⟨hq.1, hq.2.1, (hq.2.2.sift fun y hy => Or.inr (N y hy)).mono (by decide) (by decide)⟩⟩
theorem main_1_1 : Claimed_1_1 := comes_1 fun _ _ _ _ _ _ h hF => ⟨h.1, hF⟩
theorem main_1_2 : Claimed_1_2 := comes_1 fun _ _ _ _ _ _ h hF => ⟨h.2.1, hF⟩

end Jvm.Pilot.@@N@@
namespace Jvm.Pilot.@@N@@
open Jvm Jvm.ClassFile Sem Op Lib Jvm.Free Jvm.Stand Jvm.Pilot.@@N@@.Jvm.D
/-! MADE BY PROGRAM (witnessworld.py) out of the Statement's table words and the real class files: 11 classes; the members and pool entries that the words name. The judged class is class 1, her method 3. -/
namespace start1
open Jvm.ClassFile
def u (s : String) : CpInfo := .utf8 (stringToUtf16 s)
/-- a pool by its gaps: so many unusable entries, then the entry; so many at the end -/
def gap : Nat → List CpInfo → List CpInfo
  | 0, r => r
  | n + 1, r => .unusable :: gap n r
def poolList (es : List (Nat × CpInfo)) (last : Nat) : List CpInfo := es.foldr (fun e r => gap e.1 (e.2 :: r)) (gap last [])
def pool (es : List (Nat × CpInfo)) (last : Nat) : Array CpInfo := ⟨poolList es last⟩
def fileOf (pool : Array CpInfo) (this : Nat) (attrs : Array Attribute := #[]) (ms : Array MethodInfo := #[]) (fl : Nat := 33) (sup : Nat := 0) (ifs : Array Nat := #[]) (fds : Array FieldInfo := #[]) : ClassFile where
  minorVersion := 0
  majorVersion := 65
  constantPool := pool
  accessFlags := fl
  thisClass := this
  superClass := sup
  interfaces := ifs
  fields := fds
  methods := ms
  attributes := attrs
def plain (name : String) (sup : Option ClassId) : Class where
  name := name
  kind := .ordinary
  loader := none
  accessFlags := 33
  super := sup
  interfaces := #[]
  cf := none
  fields := #[]
  methods := #[]
  instanceTypes := #[]
  staticTypes := #[]
  resolved := #[]
  callSites := []
  init := .initialized
  statics := none
  mirror := none

def pool0 : Array CpInfo := pool [(5, u "<init>"), (0, u "()V"), (1, .class_ 10), (1, u "java/lang/Object")] 113

def k0m0 : Method := { name := "<init>", desc := "()V", sig := { parameters := [], returnType := none }, accessFlags := 1, code := none }
/-- java/lang/Object -/
def k0 : Class := { plain "java/lang/Object" none with
  accessFlags := 33
  interfaces := #[]
  cf := some (fileOf pool0 8 #[] #[{ accessFlags := 1, nameIndex := 5, descriptorIndex := 6, attributes := #[] }] 33 0 #[] #[])
  fields := #[]
  methods := #[k0m0]
  instanceTypes := #[]
  staticTypes := #[]
  resolved := Array.replicate 124 none
  statics := none }

def pool1 : Array CpInfo := pool [(2, .class_ 4), (1, u "java/lang/Object"), (0, u "<init>"), (0, u "()V"), (0, .long 1023), (1, .methodref 10 11), (0, .class_ 12), (0, .nameAndType 13 14), (0, u "org/membrana/input/MarkupTextClosingQuotePinLaw"), (0, u "pick"), (0, u "(JI)C"), (0, .integer 2147483647), (0, .methodref 10 17), (0, .nameAndType 18 19), (0, u "hit"), (0, u "([CIII)Z"), (0, .methodref 21 22), (0, .class_ 23), (0, .nameAndType 24 25), (0, u "org/membrana/input/MarkupText"), (0, u "closingQuote"), (0, u "([CII)I"), (3, u "law"), (0, u "(JII)Z")] 4

def k1m0 : Method := { name := "<init>", desc := "()V", sig := { parameters := [], returnType := none }, accessFlags := 1, code := none }
def k1c1 : Code := { maxStack := 4, maxLocals := 5, code := method_2_code, exceptionTable := #[], attributes := #[] }
def k1m1 : Method := { name := "pick", desc := "(JI)C", sig := { parameters := [.long, .int], returnType := some .char }, accessFlags := 10, code := some k1c1 }
def k1c2 : Code := { maxStack := 3, maxLocals := 4, code := method_3_code, exceptionTable := #[], attributes := #[] }
def k1m2 : Method := { name := "hit", desc := "([CIII)Z", sig := { parameters := [(.array .char), .int, .int, .int], returnType := some .boolean }, accessFlags := 10, code := some k1c2 }
def k1c3 : Code := { maxStack := 5, maxLocals := 8, code := code, exceptionTable := #[], attributes := #[] }
def k1m3 : Method := { name := "law", desc := "(JII)Z", sig := { parameters := [.long, .int, .int], returnType := some .boolean }, accessFlags := 9, code := some k1c3 }
/-- org/membrana/input/MarkupTextClosingQuotePinLaw -/
def k1 : Class := { plain "org/membrana/input/MarkupTextClosingQuotePinLaw" (some 0) with
  accessFlags := 49
  interfaces := #[]
  cf := some (fileOf pool1 10 #[] #[{ accessFlags := 1, nameIndex := 5, descriptorIndex := 6, attributes := #[] }, { accessFlags := 10, nameIndex := 13, descriptorIndex := 14, attributes := #[] }, { accessFlags := 10, nameIndex := 18, descriptorIndex := 19, attributes := #[] }, { accessFlags := 9, nameIndex := 29, descriptorIndex := 30, attributes := #[] }] 49 2 #[] #[])
  fields := #[]
  methods := #[k1m0, k1m1, k1m2, k1m3]
  instanceTypes := #[]
  staticTypes := #[]
  resolved := Array.replicate 35 none
  statics := none }

def pool2 : Array CpInfo := pool [(2, .class_ 4), (1, u "java/lang/Object"), (0, u "<init>"), (0, u "()V"), (11, .class_ 20), (1, u "org/membrana/input/MarkupText"), (16, u "closingQuote"), (0, u "([CII)I")] 9

def k2m0 : Method := { name := "<init>", desc := "()V", sig := { parameters := [], returnType := none }, accessFlags := 2, code := none }
def k2c1 : Code := { maxStack := 3, maxLocals := 4, code := prog_19_method_4_code, exceptionTable := #[], attributes := #[] }
def k2m1 : Method := { name := "closingQuote", desc := "([CII)I", sig := { parameters := [(.array .char), .int, .int], returnType := some .int }, accessFlags := 8, code := some k2c1 }
/-- org/membrana/input/MarkupText -/
def k2 : Class := { plain "org/membrana/input/MarkupText" (some 0) with
  accessFlags := 48
  interfaces := #[]
  cf := some (fileOf pool2 18 #[] #[{ accessFlags := 2, nameIndex := 5, descriptorIndex := 6, attributes := #[] }, { accessFlags := 8, nameIndex := 37, descriptorIndex := 38, attributes := #[] }] 48 2 #[] #[])
  fields := #[]
  methods := #[k2m0, k2m1]
  instanceTypes := #[]
  staticTypes := #[]
  resolved := Array.replicate 48 none
  statics := none }

def pool3 : Array CpInfo := pool [(1, u "java/lang/Cloneable"), (0, .class_ 1), (0, u "java/lang/Object"), (0, .class_ 3)] 3

/-- java/lang/Cloneable -/
def k3 : Class := { plain "java/lang/Cloneable" (some 0) with
  accessFlags := 1537
  interfaces := #[]
  cf := some (fileOf pool3 2 #[] #[] 1537 4 #[] #[])
  fields := #[]
  methods := #[]
  instanceTypes := #[]
  staticTypes := #[]
  resolved := Array.replicate 8 none
  statics := none }

def pool4 : Array CpInfo := pool [(1, u "java/io/Serializable"), (0, .class_ 1), (0, u "java/lang/Object"), (0, .class_ 3)] 3

/-- java/io/Serializable -/
def k4 : Class := { plain "java/io/Serializable" (some 0) with
  accessFlags := 1537
  interfaces := #[]
  cf := some (fileOf pool4 2 #[] #[] 1537 4 #[] #[])
  fields := #[]
  methods := #[]
  instanceTypes := #[]
  staticTypes := #[]
  resolved := Array.replicate 8 none
  statics := none }

/-- the primitive byte -/
def k5 : Class := { plain "byte" none with kind := .primitive 'B', accessFlags := 0x411 }
/-- [B -/
def k6 : Class := { plain "[B" (some 0) with kind := .array 5 .byte, interfaces := #[3, 4], accessFlags := 1041 }

/-- the primitive char -/
def k7 : Class := { plain "char" none with kind := .primitive 'C', accessFlags := 0x411 }
/-- [C -/
def k8 : Class := { plain "[C" (some 0) with kind := .array 7 .char, interfaces := #[3, 4], accessFlags := 1041 }

/-- the primitive int -/
def k9 : Class := { plain "int" none with kind := .primitive 'I', accessFlags := 0x411 }
/-- [I -/
def k10 : Class := { plain "[I" (some 0) with kind := .array 9 .int, interfaces := #[3, 4], accessFlags := 1041 }

def heap : Heap := #[]
def classes : Array Class := #[k0, k1, k2, k3, k4, k5, k6, k7, k8, k9, k10]
def interned : List (Array UInt16 × Addr) := []
def slotsUsed : Nat := 0
def theMethod : MethodId := ⟨1, 3⟩
def args0 : Array Value := #[.long 5, .int 1, .int 2]
def aboutOver (below : List Frame) : State where
  vm := { classes := classes, interned := interned.toArray }
  heap := heap
  slotsUsed := slotsUsed
  threads := #[{ frames := .invoking theMethod args0 :: below }]
def below0 : List Frame := [.native { method := ⟨0, 0⟩, args := #[] }]
def about1 : State := aboutOver below0
def p0 : Program := .bare "" "" ""
def e0 : Env := launch0.env 0 0 0
theorem w_frames : about1.frames = Frame.invoking theMethod args0 :: below0 := rfl
set_option maxRecDepth 65536 in
theorem w_args : argsFit about1.vm theMethod args0 = true := by decide +kernel
set_option maxRecDepth 65536 in
theorem w_heap : heapFits about1 = true := by decide +kernel
set_option maxRecDepth 65536 in
theorem w_runnable : about1.curStatus? = some .runnable := by decide +kernel
set_option maxRecDepth 65536 in
theorem w_alone : about1.alone = true := by decide +kernel
set_option maxRecDepth 65536 in
theorem w_named : about1.methodNamed? x = some theMethod := by decide +kernel
set_option maxRecDepth 65536 in
theorem w_hears : about1.hears theMethod below0 = true := by decide +kernel
set_option maxRecDepth 65536 in
theorem w_ripe : about1.ripe theMethod args0 below0 = true := by decide +kernel
theorem w_running : about1.status = .running := rfl
set_option maxRecDepth 65536 in
theorem w_room : about1.hasRoom e0.platform room_1 = true :=
  launch0.hasRoom_least _ room_1 (by decide +kernel) (by decide +kernel) (by decide +kernel) (by decide +kernel) (by decide +kernel) (by decide +kernel)
theorem allAtoms_all (ts : List Jvm.Cond) (a : Array Jvm.Value) (st : Jvm.State) : (allAtoms ts).before a st = ts.all (fun c => c.before a st) := by
  induction ts with
  | nil => rfl
  | cons c t ih =>
    show (Jvm.Cond.and c (allAtoms t)).before a st = _
    rw [Jvm.Cond.before_and, ih, List.all_cons]
def words1 : List Jvm.Cond := Jvm.Cond.code x code maxLocals ret :: tables_1
/-- a 'code' word, met by the world's own term for the bytes: nothing is compared byte by byte -/
theorem code_word {y : MethodName} {bytes : ByteArray} {mx : Nat} {rt : Option FieldType} {a : Array Value} {s : State} {m : MethodId} {meth : Method} {c : Code} (h1 : s.methodNamed? y = some m) (h2 : s.vm.method? m = some meth) (h3 : meth.code = some c) (h4 : c.code = bytes)
    (h5 : (c.maxLocals == mx && c.exceptionTable.isEmpty && decide (c.maxStack ≤ mostOperands) && decide (meth.sig.returnType = rt) && !meth.locks && decide (parseMethodDescriptor y.desc = some meth.sig)) = true) : (Jvm.Cond.code y bytes mx rt).before a s = true := by
  simp only [Bool.and_eq_true, beq_iff_eq, Bool.not_eq_true', decide_eq_true_eq] at h5
  obtain ⟨⟨⟨⟨⟨g1, g2⟩, g3⟩, g4⟩, g5⟩, g6⟩ := h5
  simp [Cond.before, Cond.holds, Cond.value, h1, h2, h3, h4, g1, g2, g3, g4, g5, g6]
def isCode : Jvm.Cond → Bool
  | .code _ _ _ _ => true
  | _ => false
theorem all_split {L : List Jvm.Cond} {P : Jvm.Cond → Bool} (h1 : L.all (fun c => isCode c || P c) = true) (h2 : ∀ c ∈ L.filter isCode, P c = true) : L.all P = true := by
  refine List.all_eq_true.mpr fun c hc => ?_
  have h := List.all_eq_true.mp h1 c hc
  rcases Bool.eq_false_or_eq_true (isCode c) with hi | hi
  · exact h2 c (List.mem_filter.mpr ⟨hc, hi⟩)
  · simpa [hi] using h
set_option maxRecDepth 65536 in
theorem w_c0 : (Jvm.Cond.code x code maxLocals ret).before args0 about1 = true := code_word (m := ⟨1, 3⟩) (meth := k1m3) (c := k1c3) (by decide +kernel) rfl rfl rfl (by decide +kernel)
set_option maxRecDepth 65536 in
theorem w_c1 : (Jvm.Cond.code ({ cls := "org/membrana/input/MarkupTextClosingQuotePinLaw", name := "pick", desc := "(JI)C" } : Jvm.MethodName) method_2_code (5 : Nat) (Option.some Jvm.ClassFile.FieldType.char)).before args0 about1 = true := code_word (m := ⟨1, 1⟩) (meth := k1m1) (c := k1c1) (by decide +kernel) rfl rfl rfl (by decide +kernel)
set_option maxRecDepth 65536 in
theorem w_c2 : (Jvm.Cond.code ({ cls := "org/membrana/input/MarkupTextClosingQuotePinLaw", name := "hit", desc := "([CIII)Z" } : Jvm.MethodName) method_3_code (4 : Nat) (Option.some Jvm.ClassFile.FieldType.boolean)).before args0 about1 = true := code_word (m := ⟨1, 2⟩) (meth := k1m2) (c := k1c2) (by decide +kernel) rfl rfl rfl (by decide +kernel)
set_option maxRecDepth 65536 in
theorem w_c3 : (Jvm.Cond.code ({ cls := "org/membrana/input/MarkupText", name := "closingQuote", desc := "([CII)I" } : Jvm.MethodName) prog_19_method_4_code (4 : Nat) (Option.some Jvm.ClassFile.FieldType.int)).before args0 about1 = true := code_word (m := ⟨2, 1⟩) (meth := k2m1) (c := k2c1) (by decide +kernel) rfl rfl rfl (by decide +kernel)
def codes1 : List Jvm.Cond := [Jvm.Cond.code x code maxLocals ret, Jvm.Cond.code ({ cls := "org/membrana/input/MarkupTextClosingQuotePinLaw", name := "pick", desc := "(JI)C" } : Jvm.MethodName) method_2_code (5 : Nat) (Option.some Jvm.ClassFile.FieldType.char), Jvm.Cond.code ({ cls := "org/membrana/input/MarkupTextClosingQuotePinLaw", name := "hit", desc := "([CIII)Z" } : Jvm.MethodName) method_3_code (4 : Nat) (Option.some Jvm.ClassFile.FieldType.boolean), Jvm.Cond.code ({ cls := "org/membrana/input/MarkupText", name := "closingQuote", desc := "([CII)I" } : Jvm.MethodName) prog_19_method_4_code (4 : Nat) (Option.some Jvm.ClassFile.FieldType.int)]
set_option maxRecDepth 65536 in
theorem codes_eq : words1.filter isCode = codes1 := rfl
theorem w_codes : ∀ c ∈ words1.filter isCode, c.before args0 about1 = true := by
  rw [codes_eq]
  intro c hc
  simp only [codes1, List.mem_cons, List.not_mem_nil, or_false] at hc
  rcases hc with rfl | rfl | rfl | rfl
  · exact w_c0
  · exact w_c1
  · exact w_c2
  · exact w_c3
set_option maxRecDepth 65536 in
theorem w_t1 : words1.all (fun c => isCode c || c.before args0 about1) = true := by decide +kernel
theorem w_tables : (allAtoms (Jvm.Cond.code x code maxLocals ret :: tables_1)).before args0 about1 = true := by
  rw [allAtoms_all]
  show words1.all (fun c => c.before args0 about1) = true
  refine all_split ?_ w_codes
  rw [w_t1]
set_option maxRecDepth 65536 in
theorem w_case : (Jvm.Cond.and given_1 narrow_1).before args0 about1 = true := by decide +kernel
theorem w_applies : (headSpec (Jvm.Cond.code x code maxLocals ret :: tables_1) room_1).applies x e0.platform about1 = true :=
  (Spec.applies_iff w_frames).mpr ⟨w_running, w_runnable, w_alone, w_named, w_hears, w_ripe, w_room, w_tables⟩
theorem atStart : AtStart classFile x code maxLocals ret World_1 tables_1 room_1 Calls_1 rest_1 Pre_1 launch0 p0 e0 about1 theMethod args0 below0 :=
  ⟨lists_1, trivial, launch0.admits_env _ _ _, launch0.least_env, fairChoices_fair.cas, fairChoices_fair.clock, w_frames, w_args, w_heap, w_applies, trivial, trivial, w_case⟩
end start1
theorem witness_1 : WitnessClaimed_1 := ⟨start1.p0, start1.e0, start1.about1, start1.theMethod, start1.args0, start1.below0, start1.atStart⟩
end Jvm.Pilot.@@N@@
