import JvmDerived
import JvmDerived.Pilot.@@N@@Statement
import JvmDerived.Pilot.@@N@@Code
set_option linter.unusedVariables false
set_option linter.unusedSimpArgs false
namespace Jvm.Pilot.@@N@@
open Jvm Jvm.ClassFile Sem Op Lib Jvm.Free Jvm.Stand Jvm.LawKit Jvm.RoadKit Bundle Jvm.Pilot.@@N@@.Jvm.D
section Own
variable {p : Program} {l : Launch} {e : Env} {R : Room} {s : State} {m : MethodId} {args : Array Value} {below : List Frame} {meth : Method} {c : Code} {T : State} {locs : List Loc} {cells slots : Nat} {Z : State} {a0 : Array Value} {h h' : Heap} {Q : Option Value → Heap → List Loc → Prop} {kc ks n0 : Nat}
/-- from the state st the invocation ends as the contract asks -/
def Gl (p : Program) (e : Env) (below : List Frame) (s : State) (Q : Option Value → Heap → List Loc → Prop) (kc ks : Nat) (st : State) : Prop :=
  ∃ s₂ o, Steps p.tables e below st s₂ ∧ s₂.status = .running ∧ Ended s₂ below o ∧ ∃ v L, o = .returned v ∧ Q v s₂.heap L ∧ FrameEnd s o s₂ L kc ks
theorem Gl.st {a b : State} (h : ∀ t, Steps p.tables e below b t → Steps p.tables e below a t) (H : Gl p e below s Q kc ks b) : Gl p e below s Q kc ks a := by
  obtain ⟨s₂, o, h1, r⟩ := H
  exact ⟨s₂, o, h _ h1, r⟩
theorem Gl.cast {g g' : JFrame} (q : g = g') (H : Gl p e below s Q kc ks (T.setTop g')) : Gl p e below s Q kc ks (T.setTop g) := q ▸ H
theorem Gl.ret (X : Stand p l e R s m args below meth c T locs cells slots) {v : Option Value} (hv : meth.sig.returnType = none → v = none) (hlk : meth.locks = false) {g : State}
    (hst : ∀ fs, (∀ (f : JFrame) (acts : List Action), f.method = m → f.locked = none → f.entered = [] → (doReturn e (T.setTop f) acts v).1 = T.setFrames fs) → Steps p.tables e below g (T.setFrames fs))
    (hQ : Q v T.heap locs) (h1 : cells ≤ kc) (h2 : slots ≤ ks) : Gl p e below s Q kc ks g := by
  obtain ⟨fs, hr, hrun, hended, hW, hsame⟩ := X.leave (v := v) hv hlk
  exact ⟨_, _, hst fs hr, hrun, hended, _, _, rfl, hQ, ⟨_, rfl⟩, hW, hsame.mono h1 h2⟩
theorem Gl.retN (X : Stand p l e R s m args below meth c T locs cells slots) (hx : p.tables.exec = Jvm.exec) {pc : Nat} {Ls : Array Slot} {z : Int32} {t : FieldType} {rest : List Value} (hret : meth.sig.returnType = some t) (ht : t = .boolean ∨ t = .byte ∨ t = .char ∨ t = .short)
    (hd : decode c.code pc = .ok (.ireturn, 1)) (hlk : meth.locks = false) (h1 : cells ≤ kc) (h2 : slots ≤ ks) (hQ : Q (some (.int (nar t z))) T.heap locs) : Gl p e below s Q kc ks (T.setTop (mkF m pc Ls (.int z :: rest))) :=
  Gl.ret X (fun q => by rw [hret] at q; cases q) hlk (fun _ hr => Jvm.RoadKit.retN X hx hret ht hd hr) hQ h1 h2
theorem Gl.retI (X : Stand p l e R s m args below meth c T locs cells slots) (hx : p.tables.exec = Jvm.exec) {pc : Nat} {Ls : Array Slot} {z : Int32} {rest : List Value} (hret : meth.sig.returnType = some .int)
    (hd : decode c.code pc = .ok (.ireturn, 1)) (hlk : meth.locks = false) (h1 : cells ≤ kc) (h2 : slots ≤ ks) (hQ : Q (some (.int z)) T.heap locs) : Gl p e below s Q kc ks (T.setTop (mkF m pc Ls (.int z :: rest))) :=
  Gl.ret X (fun q => by rw [hret] at q; cases q) hlk (fun _ hr => retOut X hx hret rfl (Or.inl ⟨rfl, Or.inl rfl, _, rfl⟩) hd hr) hQ h1 h2
theorem Gl.retJ (X : Stand p l e R s m args below meth c T locs cells slots) (hx : p.tables.exec = Jvm.exec) {pc : Nat} {Ls : Array Slot} {z : Int64} {rest : List Value} (hret : meth.sig.returnType = some .long)
    (hd : decode c.code pc = .ok (.lreturn, 1)) (hlk : meth.locks = false) (h1 : cells ≤ kc) (h2 : slots ≤ ks) (hQ : Q (some (.long z)) T.heap locs) : Gl p e below s Q kc ks (T.setTop (mkF m pc Ls (.long z :: rest))) :=
  Gl.ret X (fun q => by rw [hret] at q; cases q) hlk (fun _ hr => retOut X hx hret rfl (Or.inr (Or.inl ⟨rfl, rfl, _, rfl⟩)) hd hr) hQ h1 h2
theorem Gl.retA (X : Stand p l e R s m args below meth c T locs cells slots) (hx : p.tables.exec = Jvm.exec) {pc : Nat} {Ls : Array Slot} {z : Addr} {t : FieldType} {rest : List Value} (hret : meth.sig.returnType = some (.array t))
    (hd : decode c.code pc = .ok (.areturn, 1)) (hlk : meth.locks = false) (h1 : cells ≤ kc) (h2 : slots ≤ ks) (hQ : Q (some (.ref z)) T.heap locs) : Gl p e below s Q kc ks (T.setTop (mkF m pc Ls (.ref z :: rest))) :=
  Gl.ret X (fun q => by rw [hret] at q; cases q) hlk (fun _ hr => retOut X hx hret rfl (Or.inr (Or.inr (Or.inr (Or.inr ⟨rfl, rfl, rfl⟩)))) hd hr) hQ h1 h2
theorem Gl.retV (X : Stand p l e R s m args below meth c T locs cells slots) (hx : p.tables.exec = Jvm.exec) {pc : Nat} {Ls : Array Slot} (hret : meth.sig.returnType = none)
    (hd : decode c.code pc = .ok (.return_, 1)) (hlk : meth.locks = false) (h1 : cells ≤ kc) (h2 : slots ≤ ks) (hQ : Q none T.heap locs) : Gl p e below s Q kc ks (T.setTop (mkF m pc Ls [])) :=
  Gl.ret X (fun _ => rfl) hlk (fun _ hr => X.returnOut hx hret hd hr) hQ h1 h2
/-- what a body that changes nothing leaves: the value w, the heap as it was -/
def QP (n0 : Nat) (h0 : Heap) (w : Value) (v : Option Value) (h : Heap) (L : List Loc) : Prop := v = some w ∧ Fr n0 L ∧ h = h0
/-- a static call by its contract -/
theorem Gl.callS (X : Stand p l e R s m args below meth c T locs cells slots) (hx : p.tables.exec = Jvm.exec) (hZ : Z.Warmed39 s.vm) {own : String} {index : Nat} {y : MethodName} {bytes : ByteArray} {maxL : Nat} {ret : Option FieldType} {rm : Room} {W : Nat} {as' : Array Value} {Qc : Option Value → Heap → List Loc → Prop}
    (hown : s.vm.findClass own = some m.cls) (w1 : (Cond.methodLink own index y).before a0 Z = true) (w2 : (Cond.static y).before a0 Z = true) (w3 : (Cond.initialized y.cls).before a0 Z = true) (w4 : (Cond.code y bytes maxL ret).before a0 Z = true)
    (hy : y.cls ≠ "java/lang/invoke/MethodHandle" ∧ y.cls ≠ "java/lang/invoke/VarHandle")
    (hM : MetFree l y (head1 [Cond.code y bytes maxL ret] rm) (fun a U => a = as' ∧ Z.Warmed39 U.vm ∧ U.heap = h) (fun _ _ _ _ _ => True) (fun _ U o U' => ∃ v L, o = .returned v ∧ Qc v U'.heap L ∧ FrameEnd U o U' L rm.cells rm.slots))
    (hf : rm.frames + 1 ≤ R.frames) (hl : W + (maxL + 11) + rm.locals ≤ R.locals) (eT : T.heap = h) (hc1 : cells + rm.cells ≤ R.cells) (hs1 : slots + rm.slots ≤ R.slots)
    {pc : Nat} {Ls : Array Slot} {stk argsL rest : List Value} (hsz : Ls.size = c.maxLocals) (hlen : ∀ sig, parseMethodDescriptor y.desc = some sig → argsL.length = sig.parameters.length) (hstk : stk = argsL.reverse ++ rest) (has : argsL.toArray = as')
    (hW : (rest.map fun v => v.category).sum ≤ W) (hd : decode c.code pc = .ok (.invokestatic index, 3))
    (K : ∀ (T' : State) (v : Option Value) (L : List Loc), Stand p l e R s m args below meth c T' (locs ++ L) (cells + rm.cells) (slots + rm.slots) → Qc v T'.heap L → Gl p e below s Q kc ks (T'.setTop (mkF m (pc + 3) Ls (v.toList ++ rest)))) :
    Gl p e below s Q kc ks (T.setTop (mkF m pc Ls stk)) := by
  obtain ⟨v, _, ⟨T', L', k', n'⟩, -, X', ⟨Lc, hQ, l1, y1, z1⟩, st⟩ := Jvm.LawKit.callS X hx (y := y) hown (mvT hZ w1) (mvT hZ w2) (mvT hZ w3) (mvT hZ w4) hy (backOf (W := W) hM hZ w4 w3 hf hl) (g := mkF m pc Ls stk) rfl hsz (argsL := argsL) (rest := rest) hlen hstk
    (by show 2 * 0 + _ ≤ _; rw [Nat.mul_zero, Nat.zero_add]; exact hW) hd (fun _ _ => ⟨has, eT, hc1, hs1⟩)
  dsimp only [Pt.U, Pt.locs, Pt.cells, Pt.slots] at X' l1 y1 z1 st hQ
  subst l1 y1 z1
  exact Gl.st (fun t k => st t k) (K T' v Lc X' hQ)
/-- a static call of a body that changes nothing -/
theorem Gl.callP (X : Stand p l e R s m args below meth c T locs cells slots) (hx : p.tables.exec = Jvm.exec) (hZ : Z.Warmed39 s.vm) {own : String} {index : Nat} {y : MethodName} {bytes : ByteArray} {maxL : Nat} {ret : Option FieldType} {fr lo W : Nat} {as' : Array Value} {w : Value}
    (hown : s.vm.findClass own = some m.cls) (w1 : (Cond.methodLink own index y).before a0 Z = true) (w2 : (Cond.static y).before a0 Z = true) (w3 : (Cond.initialized y.cls).before a0 Z = true) (w4 : (Cond.code y bytes maxL ret).before a0 Z = true)
    (hy : y.cls ≠ "java/lang/invoke/MethodHandle" ∧ y.cls ≠ "java/lang/invoke/VarHandle")
    (hM : MetFree l y (head1 [Cond.code y bytes maxL ret] ⟨fr, 0, 0, lo⟩) (fun a U => a = as' ∧ Z.Warmed39 U.vm ∧ U.heap = h) (fun _ _ _ _ _ => True) (fun _ U o U' => ∃ v L, o = .returned v ∧ QP n0 h w v U'.heap L ∧ FrameEnd U o U' L 0 0))
    (hf : fr + 1 ≤ R.frames) (hl : W + (maxL + 11) + lo ≤ R.locals) (eT : T.heap = h) (N : Fr n0 locs) (hc1 : cells ≤ R.cells) (hs1 : slots ≤ R.slots)
    {pc : Nat} {Ls : Array Slot} {stk argsL rest : List Value} (hsz : Ls.size = c.maxLocals) (hlen : ∀ sig, parseMethodDescriptor y.desc = some sig → argsL.length = sig.parameters.length) (hstk : stk = argsL.reverse ++ rest) (has : argsL.toArray = as')
    (hW : (rest.map fun v => v.category).sum ≤ W) (hd : decode c.code pc = .ok (.invokestatic index, 3))
    (K : ∀ (T' : State) (L : List Loc), Stand p l e R s m args below meth c T' L cells slots → T'.heap = h → Fr n0 L → Gl p e below s Q kc ks (T'.setTop (mkF m (pc + 3) Ls (w :: rest)))) :
    Gl p e below s Q kc ks (T.setTop (mkF m pc Ls stk)) :=
  Gl.callS (rm := ⟨fr, 0, 0, lo⟩) X hx hZ hown w1 w2 w3 w4 hy hM hf hl eT hc1 hs1 hsz hlen hstk has hW hd fun T' v L X' hq => by
    obtain ⟨rfl, N', e'⟩ := hq
    exact K T' _ X' e' (N.app N')
end Own
theorem own_ltI {x y : Int32} : x < y ↔ x.toInt < y.toInt := Int32.lt_iff_toInt_lt
theorem own_eqI {x y : Int32} : x = y ↔ x.toInt = y.toInt := ⟨fun h => h ▸ rfl, fun h => Int32.toInt_inj.mp h⟩
theorem own_ltJ {x y : Int64} : x < y ↔ x.toInt < y.toInt := Int64.lt_iff_toInt_lt
theorem own_eqJ {x y : Int64} : x = y ↔ x.toInt = y.toInt := ⟨fun h => h ▸ rfl, fun h => Int64.toInt_inj.mp h⟩
/-- a truth as the int that a boolean method returns -/
def own_b (b : Bool) : Int32 := if b then 1 else 0
theorem own_b1 {b : Bool} (h : b = true) : some (Value.int (nar .boolean 1)) = some (Value.int (own_b b)) := by subst h; rfl
theorem own_b0 {b : Bool} (h : b = false) : some (Value.int (nar .boolean 0)) = some (Value.int (own_b b)) := by subst h; rfl
theorem own_bn (b : Bool) : nar .boolean (own_b b) = own_b b := by cases b <;> rfl
theorem own_bt {b : Bool} (h : b = true) : ¬ own_b b = 0 := by subst h; decide
theorem own_bf {b : Bool} (h : ¬ b = true) : own_b b = 0 := by cases b with | true => exact absurd rfl h | false => rfl
def QL (n0 : Nat) (v : Option Value) (h : Heap) (L : List Loc) : Prop := v = some (.int 1) ∧ Fr n0 L
theorem own_pn0 : plainName "com/example/libstrand/libstrand/BordersLengthsOfPinLaw" = true := by first | (simp [plainName, overriddenIn]; done) | decide +kernel
theorem own_pd0 : parseMethodDescriptor "([CII)Z" = some ⟨[(.array .char), .int, .int], some .boolean⟩ := by decide +kernel
theorem own_pn1 : plainName "com/example/libstrand/libstrand/Borders" = true := by first | (simp [plainName, overriddenIn]; done) | decide +kernel
theorem own_pd1 : parseMethodDescriptor "(IIII)C" = some ⟨[.int, .int, .int, .int], some .char⟩ := by decide +kernel
theorem own_pd2 : parseMethodDescriptor "([C)[I" = some ⟨[(.array .char)], some (.array .int)⟩ := by decide +kernel
theorem own_pd3 : parseMethodDescriptor "([CI)I" = some ⟨[(.array .char), .int], some .int⟩ := by decide +kernel
section OwnA
variable {p : Program} {l : Launch} {e : Env} {R : Room} {s : State} {m : MethodId} {args : Array Value} {below : List Frame} {meth : Method} {c : Code} {T : State} {locs : List Loc} {cells slots : Nat} {Z : State} {a0 : Array Value} {h h' : Heap} {Q : Option Value → Heap → List Loc → Prop} {kc ks n0 : Nat} {a b : Addr} {ty : FieldType} {vs : List Value}
/-- the array at a is of the kind ty and holds just vs -/
def Ar (Z : State) (h : Heap) (a : Addr) (ty : FieldType) (vs : List Value) : Prop := ∃ c : Cell, Arr Z h a c ty ∧ c.slots.toList = vs
theorem Ar.lt (F : Ar Z h a ty vs) : a < h.size := by obtain ⟨c, A, -⟩ := F; exact A.lt
theorem Ar.ext (F : Ar Z h a ty vs) (E : Ext h h') : Ar Z h' a ty vs := by obtain ⟨c, A, r⟩ := F; exact ⟨c, A.ext E, r⟩
theorem Ar.other {sl : Nat} {v : Value} (F : Ar Z h b ty vs) (W : Wr h h' a sl v) (q : b ≠ a) : Ar Z h' b ty vs := by obtain ⟨c, A, r⟩ := F; exact ⟨c, A.other W q, r⟩
theorem Ar.keep {ws : List Addr} (F : Ar Z h a ty vs) (K : Keep h h' ws) (q : a ∉ ws) : Ar Z h' a ty vs := by obtain ⟨c, A, r⟩ := F; exact ⟨c, ⟨K.2.1 a c A.1 q, A.2⟩, r⟩
theorem Ar.same {k : Nat} {v : Value} (F : Ar Z h a ty vs) (W : Wr h h' a k v) : Ar Z h' a ty (vs.set k v) := by
  obtain ⟨c, A, r⟩ := F
  exact ⟨c.setSlot k v, A.same W, by subst r; simp [Cell.setSlot]⟩
theorem own_clamp {j : Int32} {k : Nat} (hj : j.toInt = k) : j.toNatClampNeg = k ∧ ¬ j < 0 := by
  refine ⟨?_, fun q => ?_⟩
  · have : j.toNatClampNeg = j.toInt.toNat := rfl
    rw [this, hj]; rfl
  · have := own_ltI.mp q
    have h0 : (0 : Int32).toInt = 0 := by decide
    omega
theorem own_in {cl : Cell} {j : Int32} {k : Nat} (hj : j.toInt = k) (e : cl.slots.toList = vs) (hk : k < vs.length) : ¬ (j < 0 ∨ cl.slots.size ≤ j.toNatClampNeg) := by
  obtain ⟨h1, h2⟩ := own_clamp hj
  have : cl.slots.size = vs.length := by rw [← e]; simp
  rw [h1, this]
  exact fun q => q.elim h2 fun q => absurd q (by omega)
theorem own_at {cl : Cell} {j : Int32} {k : Nat} {v : Value} (hj : j.toInt = k) (e : cl.slots.toList = vs) (hv : vs[k]? = some v) : cl.slots[j.toNatClampNeg]? = some v := by
  rw [(own_clamp hj).1, ← Array.getElem?_toList, e]; exact hv
theorem own_len {k : Nat} {v : Value} (hv : vs[k]? = some v) : k < vs.length := (List.getElem?_eq_some_iff.mp hv).1
theorem Gl.caload (X : Stand p l e R s m args below meth c T locs cells slots) (hx : p.tables.exec = Jvm.exec) (hZ : Z.Warmed39 s.vm) (eT : T.heap = h) (A : Ar Z h a .char vs) {j : Int32} {k : Nat} {v : Value} (hj : j.toInt = k) (hv : vs[k]? = some v)
    {pc : Nat} {Ls : Array Slot} {rest : List Value} (hd : decode c.code pc = .ok (.caload, 1)) (K : Gl p e below s Q kc ks (T.setTop (mkF m (pc + 1) Ls (v :: rest)))) : Gl p e below s Q kc ks (T.setTop (mkF m pc Ls (.int j :: .ref a :: rest))) := by
  obtain ⟨cl, A, q⟩ := A
  exact Gl.st (fun t k => X.caload hx (by rw [eT]; exact A.1) (State.isArrayOf_alike hZ.alike A.2.1) A.2.2 (own_in hj q (own_len hv)) (own_at hj q hv) (g := mkF m pc Ls (.int j :: .ref a :: rest)) rfl rfl hd t k) K
theorem Gl.baload (X : Stand p l e R s m args below meth c T locs cells slots) (hx : p.tables.exec = Jvm.exec) (hZ : Z.Warmed39 s.vm) (eT : T.heap = h) (A : Ar Z h a .byte vs) {j : Int32} {k : Nat} {v : Value} (hj : j.toInt = k) (hv : vs[k]? = some v)
    {pc : Nat} {Ls : Array Slot} {rest : List Value} (hd : decode c.code pc = .ok (.baload, 1)) (K : Gl p e below s Q kc ks (T.setTop (mkF m (pc + 1) Ls (v :: rest)))) : Gl p e below s Q kc ks (T.setTop (mkF m pc Ls (.int j :: .ref a :: rest))) := by
  obtain ⟨cl, A, q⟩ := A
  exact Gl.st (fun t k => X.baloadBytes hx (by rw [eT]; exact A.1) (State.isArrayOf_alike hZ.alike A.2.1) A.2.2 (own_in hj q (own_len hv)) (own_at hj q hv) (g := mkF m pc Ls (.int j :: .ref a :: rest)) rfl rfl hd t k) K
theorem Gl.iaload (X : Stand p l e R s m args below meth c T locs cells slots) (hx : p.tables.exec = Jvm.exec) (hZ : Z.Warmed39 s.vm) (eT : T.heap = h) (A : Ar Z h a .int vs) {j : Int32} {k : Nat} {v : Value} (hj : j.toInt = k) (hv : vs[k]? = some v)
    {pc : Nat} {Ls : Array Slot} {rest : List Value} (hd : decode c.code pc = .ok (.iaload, 1)) (K : Gl p e below s Q kc ks (T.setTop (mkF m (pc + 1) Ls (v :: rest)))) : Gl p e below s Q kc ks (T.setTop (mkF m pc Ls (.int j :: .ref a :: rest))) := by
  obtain ⟨cl, A, q⟩ := A
  exact Gl.st (fun t k => X.iaload hx (by rw [eT]; exact A.1) (State.isArrayOf_alike hZ.alike A.2.1) A.2.2 (own_in hj q (own_len hv)) (own_at hj q hv) (g := mkF m pc Ls (.int j :: .ref a :: rest)) rfl rfl hd t k) K
theorem Gl.laload (X : Stand p l e R s m args below meth c T locs cells slots) (hx : p.tables.exec = Jvm.exec) (hZ : Z.Warmed39 s.vm) (eT : T.heap = h) (A : Ar Z h a .long vs) {j : Int32} {k : Nat} {v : Value} (hj : j.toInt = k) (hv : vs[k]? = some v)
    {pc : Nat} {Ls : Array Slot} {rest : List Value} (hd : decode c.code pc = .ok (.laload, 1)) (K : Gl p e below s Q kc ks (T.setTop (mkF m (pc + 1) Ls (v :: rest)))) : Gl p e below s Q kc ks (T.setTop (mkF m pc Ls (.int j :: .ref a :: rest))) := by
  obtain ⟨cl, A, q⟩ := A
  exact Gl.st (fun t k => X.laload hx (by rw [eT]; exact A.1) (State.isArrayOf_alike hZ.alike A.2.1) A.2.2 (own_in hj q (own_len hv)) (own_at hj q hv) (g := mkF m pc Ls (.int j :: .ref a :: rest)) rfl rfl hd t k) K
theorem Gl.alen (X : Stand p l e R s m args below meth c T locs cells slots) (hx : p.tables.exec = Jvm.exec) (hZ : Z.Warmed39 s.vm) (eT : T.heap = h) (A : Ar Z h a ty vs) {z : Int32} (hz : vs.length.toInt32 = z)
    {pc : Nat} {Ls : Array Slot} {rest : List Value} (hd : decode c.code pc = .ok (.arraylength, 1)) (K : Gl p e below s Q kc ks (T.setTop (mkF m (pc + 1) Ls (.int z :: rest)))) : Gl p e below s Q kc ks (T.setTop (mkF m pc Ls (.ref a :: rest))) := by
  obtain ⟨cl, A, q⟩ := A
  have e1 : cl.slots.size.toInt32 = z := by rw [← hz, ← q]; simp
  exact Gl.st (fun t k => X.arraylength hx (by rw [eT]; exact A.1) (State.isArrayOf_alike hZ.alike A.2.1) (g := mkF m pc Ls (.ref a :: rest)) rfl rfl hd t k) (by rw [e1]; exact K)
theorem Gl.castore (X : Stand p l e R s m args below meth c T locs cells slots) (hx : p.tables.exec = Jvm.exec) (hZ : Z.Warmed39 s.vm) (eT : T.heap = h) (A : Ar Z h a .char vs) (N : Fr n0 locs) (ga : n0 ≤ a) {j x : Int32} {k : Nat} (hj : j.toInt = k) (hk : k < vs.length)
    {pc : Nat} {Ls : Array Slot} {rest : List Value} (hd : decode c.code pc = .ok (.castore, 1))
    (K : ∀ (T' : State) (h' : Heap) (L : List Loc), Stand p l e R s m args below meth c T' L cells slots → T'.heap = h' → Fr n0 L → Wr h h' a k (.int (nar .char x)) → Ar Z h' a .char (vs.set k (.int (nar .char x))) → Gl p e below s Q kc ks (T'.setTop (mkF m (pc + 1) Ls rest))) :
    Gl p e below s Q kc ks (T.setTop (mkF m pc Ls (.int x :: .int j :: .ref a :: rest))) := by
  obtain ⟨cl, B, q⟩ := A
  obtain ⟨T', h', X', e', W', st⟩ := stC X hx hZ eT B (j := j) (x := x) (own_in hj q hk) (g := mkF m pc Ls (.int x :: .int j :: .ref a :: rest)) rfl rfl hd
  have N' := Fr.snoc X' N ga
  rw [(own_clamp hj).1] at W'
  exact Gl.st st (K T' h' _ X' e' N' W' (Ar.same ⟨cl, B, q⟩ W'))
theorem Gl.bastore (X : Stand p l e R s m args below meth c T locs cells slots) (hx : p.tables.exec = Jvm.exec) (hZ : Z.Warmed39 s.vm) (eT : T.heap = h) (A : Ar Z h a .byte vs) (N : Fr n0 locs) (ga : n0 ≤ a) {j x : Int32} {k : Nat} (hj : j.toInt = k) (hk : k < vs.length)
    {pc : Nat} {Ls : Array Slot} {rest : List Value} (hd : decode c.code pc = .ok (.bastore, 1))
    (K : ∀ (T' : State) (h' : Heap) (L : List Loc), Stand p l e R s m args below meth c T' L cells slots → T'.heap = h' → Fr n0 L → Wr h h' a k (.int (nar .byte x)) → Ar Z h' a .byte (vs.set k (.int (nar .byte x))) → Gl p e below s Q kc ks (T'.setTop (mkF m (pc + 1) Ls rest))) :
    Gl p e below s Q kc ks (T.setTop (mkF m pc Ls (.int x :: .int j :: .ref a :: rest))) := by
  obtain ⟨cl, B, q⟩ := A
  obtain ⟨T', h', X', e', W', st⟩ := stB X hx hZ eT B (j := j) (x := x) (own_in hj q hk) (g := mkF m pc Ls (.int x :: .int j :: .ref a :: rest)) rfl rfl hd
  have N' := Fr.snoc X' N ga
  rw [(own_clamp hj).1] at W'
  exact Gl.st st (K T' h' _ X' e' N' W' (Ar.same ⟨cl, B, q⟩ W'))
theorem Gl.iastore (X : Stand p l e R s m args below meth c T locs cells slots) (hx : p.tables.exec = Jvm.exec) (hZ : Z.Warmed39 s.vm) (eT : T.heap = h) (A : Ar Z h a .int vs) (N : Fr n0 locs) (ga : n0 ≤ a) {j x : Int32} {k : Nat} (hj : j.toInt = k) (hk : k < vs.length)
    {pc : Nat} {Ls : Array Slot} {rest : List Value} (hd : decode c.code pc = .ok (.iastore, 1))
    (K : ∀ (T' : State) (h' : Heap) (L : List Loc), Stand p l e R s m args below meth c T' L cells slots → T'.heap = h' → Fr n0 L → Wr h h' a k (.int x) → Ar Z h' a .int (vs.set k (.int x)) → Gl p e below s Q kc ks (T'.setTop (mkF m (pc + 1) Ls rest))) :
    Gl p e below s Q kc ks (T.setTop (mkF m pc Ls (.int x :: .int j :: .ref a :: rest))) := by
  obtain ⟨cl, B, q⟩ := A
  obtain ⟨T', h', X', e', W', st⟩ := stI X hx hZ eT B (j := j) (x := x) (own_in hj q hk) (g := mkF m pc Ls (.int x :: .int j :: .ref a :: rest)) rfl rfl hd
  have N' := Fr.snoc X' N ga
  rw [(own_clamp hj).1] at W'
  exact Gl.st st (K T' h' _ X' e' N' W' (Ar.same ⟨cl, B, q⟩ W'))
theorem Gl.lastore (X : Stand p l e R s m args below meth c T locs cells slots) (hx : p.tables.exec = Jvm.exec) (hZ : Z.Warmed39 s.vm) (eT : T.heap = h) (A : Ar Z h a .long vs) (N : Fr n0 locs) (ga : n0 ≤ a) {j : Int32} {x : Int64} {k : Nat} (hj : j.toInt = k) (hk : k < vs.length)
    {pc : Nat} {Ls : Array Slot} {rest : List Value} (hd : decode c.code pc = .ok (.lastore, 1))
    (K : ∀ (T' : State) (h' : Heap) (L : List Loc), Stand p l e R s m args below meth c T' L cells slots → T'.heap = h' → Fr n0 L → Wr h h' a k (.long x) → Ar Z h' a .long (vs.set k (.long x)) → Gl p e below s Q kc ks (T'.setTop (mkF m (pc + 1) Ls rest))) :
    Gl p e below s Q kc ks (T.setTop (mkF m pc Ls (.long x :: .int j :: .ref a :: rest))) := by
  obtain ⟨cl, B, q⟩ := A
  obtain ⟨T', h', X', e', W', st⟩ := stJ X hx hZ eT B (j := j) (x := x) (own_in hj q hk) (g := mkF m pc Ls (.long x :: .int j :: .ref a :: rest)) rfl rfl hd
  have N' := Fr.snoc X' N ga
  rw [(own_clamp hj).1] at W'
  exact Gl.st st (K T' h' _ X' e' N' W' (Ar.same ⟨cl, B, q⟩ W'))
theorem Gl.newA (X : Stand p l e R s m args below meth c T locs cells slots) (hx : p.tables.exec = Jvm.exec) (hZ : Z.Warmed39 s.vm) {aty : ArrayType} (w : (Cond.arrayClass (newarray.typeOf aty)).before a0 Z = true) (eT : T.heap = h) {n : Int32} {k cap : Nat} (hn : n.toInt = k) (hcap : k ≤ cap) (hb : cap * 8 ≤ 536870912) (hc : cells + 1 ≤ R.cells) (hl : slots + cap ≤ R.slots)
    {pc : Nat} {Ls : Array Slot} {rest : List Value} (hd : decode c.code pc = .ok (.newarray aty, 2))
    (K : ∀ (T' : State) (h' : Heap) (b : Addr), b = h.size → Stand p l e R s m args below meth c T' locs (cells + 1) (slots + cap) → T'.heap = h' → Ext h h' → Ar Z h' b (newarray.typeOf aty) (List.replicate k (defaultValue (newarray.typeOf aty))) → Gl p e below s Q kc ks (T'.setTop (mkF m (pc + 2) Ls (.ref b :: rest)))) :
    Gl p e below s Q kc ks (T.setTop (mkF m pc Ls (.int n :: rest))) := by
  obtain ⟨h1, h2⟩ := own_clamp hn
  obtain ⟨T', h', cA, X', e', E', A', st⟩ := newP X hx hZ w eT (g := mkF m pc Ls (.int n :: rest)) rfl hd rfl h2 (cap := cap) (by rw [h1]; exact hcap) hb hc hl
  exact Gl.st st (K T' h' _ rfl X' e' E' ⟨_, A', by simp [Jvm.RoadKit.newA, h1]⟩)
theorem Gl.getF (X : Stand p l e R s m args below meth c T locs cells slots) (hx : p.tables.exec = Jvm.exec) (hZ : Z.Warmed39 s.vm) {own O n d : String} {index : Nat} (hown : s.vm.findClass own = some m.cls) (w : (Cond.fieldLink own index O n d).before a0 Z = true) (eT : T.heap = h) {v : Value} (F : Fld Z h a O n d v)
    {pc : Nat} {Ls : Array Slot} {rest : List Value} (hd : decode c.code pc = .ok (.getfield index, 3))
    (K : ∀ (T' : State), Stand p l e R s m args below meth c T' locs cells slots → T'.heap = h → Gl p e below s Q kc ks (T'.setTop (mkF m (pc + 3) Ls (v :: rest)))) :
    Gl p e below s Q kc ks (T.setTop (mkF m pc Ls (.ref a :: rest))) := by
  obtain ⟨T', X', e', st⟩ := Jvm.RoadKit.getF X hx hZ hown (host := "") (Or.inl w) Via.refl eT F (g := mkF m pc Ls (.ref a :: rest)) rfl rfl hd
  exact Gl.st st (K T' X' e')
theorem Gl.putF (X : Stand p l e R s m args below meth c T locs cells slots) (hx : p.tables.exec = Jvm.exec) (hZ : Z.Warmed39 s.vm) {own O n d C : String} {index kk : Nat} {ty : FieldType} (hown : s.vm.findClass own = some m.cls) (w : (Cond.fieldLink own index O n d).before a0 Z = true) (eT : T.heap = h) {v old : Value} (F : Fld Z h a O n d old)
    (E : Exa Z h a C) (L : (Cond.lays C O n d).before a0 Z = true ∨ ((Cond.laysFinal C O n d).before a0 Z = true ∧ own = O ∧ meth.name = "<init>")) (wi : (Cond.instantiable C kk).before a0 Z = true) (hty : parseFieldDescriptor d = some ty) (hn : narrow ty v = v) (hf : fits ty v = true) (N : Fr n0 locs) (ga : n0 ≤ a)
    {pc : Nat} {Ls : Array Slot} {rest : List Value} (hd : decode c.code pc = .ok (.putfield index, 3))
    (K : ∀ (T' : State) (h' : Heap) (L : List Loc), Stand p l e R s m args below meth c T' L cells slots → T'.heap = h' → Fr n0 L → Wr h h' a (Jvm.RoadKit.slotOf Z O n d) v → Gl p e below s Q kc ks (T'.setTop (mkF m (pc + 3) Ls rest))) :
    Gl p e below s Q kc ks (T.setTop (mkF m pc Ls (v :: .ref a :: rest))) := by
  obtain ⟨T', h', X', e', W', st⟩ := Jvm.RoadKit.putF X hx hZ hown (host := "") (Or.inl w) Via.refl eT F E L wi hty hn hf (g := mkF m pc Ls (v :: .ref a :: rest)) rfl rfl hd
  exact Gl.st st (K T' h' _ X' e' (Fr.snoc X' N ga) W')
theorem Gl.newO (X : Stand p l e R s m args below meth c T locs cells slots) (hx : p.tables.exec = Jvm.exec) (hZ : Z.Warmed39 s.vm) {own C : String} {index n : Nat} (hown : s.vm.findClass own = some m.cls) (w : (Cond.classLink own index C).before a0 Z = true) (wi : (Cond.instantiable C n).before a0 Z = true) (wz : (Cond.initialized C).before a0 Z = true) (eT : T.heap = h) (hc : cells + 1 ≤ R.cells) (hl : slots + n ≤ R.slots)
    {pc : Nat} {Ls : Array Slot} {rest : List Value} (hd : decode c.code pc = .ok (.new index, 3))
    (K : ∀ (T' : State) (h' : Heap) (b : Addr), b = h.size → Stand p l e R s m args below meth c T' locs (cells + 1) (slots + n) → T'.heap = h' → Ext h h' → Exa Z h' b C → (∀ {O nm d : String} {ty : FieldType}, Laid Z a0 C O nm d → parseFieldDescriptor d = some ty → Fld Z h' b O nm d (defaultValue ty)) → Gl p e below s Q kc ks (T'.setTop (mkF m (pc + 3) Ls (.ref b :: rest)))) :
    Gl p e below s Q kc ks (T.setTop (mkF m pc Ls rest)) := by
  obtain ⟨T', h', X', e', E', A', D', -, st⟩ := Jvm.RoadKit.newO X hx hZ hown w wi wz eT (g := mkF m pc Ls rest) rfl hd hc hl
  exact Gl.st st (K T' h' _ rfl X' e' E' A' D')
/-- a step that a law of the library hands out as 'there is a state' with the heap as it was -/
theorem Gl.ex {g g0 : JFrame} (H : ∃ T', Stand p l e R s m args below meth c T' locs cells slots ∧ T'.heap = h ∧ ∀ target, Steps p.tables e below (T'.setTop g) target → Steps p.tables e below (T.setTop g0) target)
    (K : ∀ (T' : State), Stand p l e R s m args below meth c T' locs cells slots → T'.heap = h → Gl p e below s Q kc ks (T'.setTop g)) : Gl p e below s Q kc ks (T.setTop g0) := by
  obtain ⟨T', X', e', st⟩ := H
  exact Gl.st st (K T' X' e')
/-- a constructor by its contract -/
theorem Gl.callI (X : Stand p l e R s m args below meth c T locs cells slots) (hx : p.tables.exec = Jvm.exec) (hZ : Z.Warmed39 s.vm) {own : String} {index : Nat} {y : MethodName} {bytes : ByteArray} {maxL : Nat} {rm : Room} {W : Nat} {as' : Array Value} {Qc : Option Value → Heap → List Loc → Prop}
    (hy1 : y.name = "<init>") (hown : s.vm.findClass own = some m.cls) (w1 : (Cond.methodLink own index y).before a0 Z = true) (w2 : (Cond.instanceMethod y).before a0 Z = true) (w3 : (Cond.initialized y.cls).before a0 Z = true) (w4 : (Cond.code y bytes maxL none).before a0 Z = true)
    (hy : y.cls ≠ "java/lang/invoke/MethodHandle" ∧ y.cls ≠ "java/lang/invoke/VarHandle")
    (hM : MetFree l y (head1 [Cond.code y bytes maxL none] rm) (fun a U => a = as' ∧ Z.Warmed39 U.vm ∧ U.heap = h) (fun _ _ _ _ _ => True) (fun _ U o U' => ∃ v L, o = .returned v ∧ Qc v U'.heap L ∧ FrameEnd U o U' L rm.cells rm.slots))
    (hf : rm.frames + 1 ≤ R.frames) (hl : W + (maxL + 11) + rm.locals ≤ R.locals) (eT : T.heap = h) (hc1 : cells + rm.cells ≤ R.cells) (hs1 : slots + rm.slots ≤ R.slots)
    {pc : Nat} {Ls : Array Slot} {stk argsL rest : List Value} (hsz : Ls.size = c.maxLocals) (hlen : ∀ sig, parseMethodDescriptor y.desc = some sig → argsL.length = sig.parameters.length) (hstk : stk = argsL.reverse ++ .ref a :: rest) (has : (.ref a :: argsL).toArray = as')
    (hW : (rest.map fun v => v.category).sum ≤ W) (hd : decode c.code pc = .ok (.invokespecial index, 3))
    (K : ∀ (T' : State) (v : Option Value) (L : List Loc), Stand p l e R s m args below meth c T' (locs ++ L) (cells + rm.cells) (slots + rm.slots) → Qc v T'.heap L → Gl p e below s Q kc ks (T'.setTop (mkF m (pc + 3) Ls (v.toList ++ rest)))) :
    Gl p e below s Q kc ks (T.setTop (mkF m pc Ls stk)) := by
  obtain ⟨v, _, ⟨T', L', k', n'⟩, -, X', ⟨Lc, hQ, l1, y1, z1⟩, st⟩ := X.specialBack hx (y := y) hy1 hown (mvT hZ w1) (mvT hZ w2) (mvT hZ w4) hy (backOf (W := W) hM hZ w4 w3 hf hl) (g := mkF m pc Ls stk) rfl hsz (Steps.refl _) (a := a) (argsL := argsL) (rest := rest) hlen hstk
    (by show 2 * 0 + _ ≤ _; rw [Nat.mul_zero, Nat.zero_add]; exact hW) hd (fun _ _ => ⟨has, eT, hc1, hs1⟩)
  dsimp only [Pt.U, Pt.locs, Pt.cells, Pt.slots] at X' l1 y1 z1 st hQ
  subst l1 y1 z1
  exact Gl.st (fun t k => st.trans k) (K T' v Lc X' hQ)
/-- an instance method of the receiver's own class by its contract -/
theorem Gl.callV (X : Stand p l e R s m args below meth c T locs cells slots) (hx : p.tables.exec = Jvm.exec) (hZ : Z.Warmed39 s.vm) {own : String} {index : Nat} {y : MethodName} {bytes : ByteArray} {maxL : Nat} {ret : Option FieldType} {rm : Room} {W : Nat} {as' : Array Value} {Qc : Option Value → Heap → List Loc → Prop}
    (hown : s.vm.findClass own = some m.cls) (w1 : (Cond.methodLink own index y).before a0 Z = true) (w2 : (Cond.declares y).before a0 Z = true) (w5 : (Cond.selects y.cls y y).before a0 Z = true) (w6 : (Cond.instanceMethod y).before a0 Z = true) (w3 : (Cond.initialized y.cls).before a0 Z = true) (w4 : (Cond.code y bytes maxL ret).before a0 Z = true)
    (hy : y.cls ≠ "java/lang/invoke/MethodHandle" ∧ y.cls ≠ "java/lang/invoke/VarHandle")
    (hM : MetFree l y (head1 [Cond.code y bytes maxL ret] rm) (fun a U => a = as' ∧ Z.Warmed39 U.vm ∧ U.heap = h) (fun _ _ _ _ _ => True) (fun _ U o U' => ∃ v L, o = .returned v ∧ Qc v U'.heap L ∧ FrameEnd U o U' L rm.cells rm.slots))
    (hf : rm.frames + 1 ≤ R.frames) (hl : W + (maxL + 11) + rm.locals ≤ R.locals) (eT : T.heap = h) (E : Exa Z h a y.cls) (hc1 : cells + rm.cells ≤ R.cells) (hs1 : slots + rm.slots ≤ R.slots)
    {pc : Nat} {Ls : Array Slot} {stk argsL rest : List Value} (hsz : Ls.size = c.maxLocals) (hlen : ∀ sig, parseMethodDescriptor y.desc = some sig → argsL.length = sig.parameters.length) (hstk : stk = argsL.reverse ++ .ref a :: rest) (has : (.ref a :: argsL).toArray = as')
    (hW : (rest.map fun v => v.category).sum ≤ W) (hd : decode c.code pc = .ok (.invokevirtual index, 3))
    (K : ∀ (T' : State) (v : Option Value) (L : List Loc), Stand p l e R s m args below meth c T' (locs ++ L) (cells + rm.cells) (slots + rm.slots) → Qc v T'.heap L → Gl p e below s Q kc ks (T'.setTop (mkF m (pc + 3) Ls (v.toList ++ rest)))) :
    Gl p e below s Q kc ks (T.setTop (mkF m pc Ls stk)) := by
  obtain ⟨cq, kq, q1, q2, q3⟩ := isOf hZ eT E
  obtain ⟨v, _, ⟨T', L', k', n'⟩, -, X', ⟨Lc, hQ, l1, y1, z1⟩, st⟩ := X.virtualBack hx (y := y) (z := y) hown (mvT hZ w1) (mvT hZ w2) (notFace_of_selects (args := #[]) (mvT hZ w5)) (mvT hZ w5) (mvT hZ w6) hy (backOf (W := W) hM hZ w4 w3 hf hl) q1 q3 (g := mkF m pc Ls stk) rfl hsz (Steps.refl _) (argsL := argsL) (rest := rest) hlen hstk
    (by show 2 * 0 + _ ≤ _; rw [Nat.mul_zero, Nat.zero_add]; exact hW) hd (fun _ _ => ⟨has, eT, hc1, hs1⟩)
  dsimp only [Pt.U, Pt.locs, Pt.cells, Pt.slots] at X' l1 y1 z1 st hQ
  subst l1 y1 z1
  exact Gl.st (fun t k => st.trans k) (K T' v Lc X' hQ)
end OwnA

def QE (n0 : Nat) (h0 : Heap) (v : Option Value) (h : Heap) (L : List Loc) : Prop := ∃ r : Int32, v = some (.int r) ∧ Fr n0 L ∧ h = h0
def own_c (cs : List Int32) (i : Nat) : Int := (cs.getD i 0).toInt
def own_e (cs : List Int32) (i j : Nat) : Bool := decide (i < 6 ∧ j < 6 ∧ (cs.getD i 0).toInt = (cs.getD j 0).toInt)
def own_match (cs : List Int32) (m k : Int32) : Bool := decide ((k.toInt < 1 ∨ own_c cs 0 = own_c cs (m.toInt - k.toInt + 0).toNat) ∧ (k.toInt < 2 ∨ own_c cs 1 = own_c cs (m.toInt - k.toInt + 1).toNat) ∧ (k.toInt < 3 ∨ own_c cs 2 = own_c cs (m.toInt - k.toInt + 2).toNat) ∧ (k.toInt < 4 ∨ own_c cs 3 = own_c cs (m.toInt - k.toInt + 3).toNat) ∧ (k.toInt < 5 ∨ own_c cs 4 = own_c cs (m.toInt - k.toInt + 4).toNat))
def own_bd0 (cs : List Int32) (m : Int32) : Int32 := (0 : Int32)
def own_bd1 (cs : List Int32) (m : Int32) : Int32 := if 1 < m.toInt ∧ own_match cs m (1 : Int32) = true then (1 : Int32) else own_bd0 cs m
def own_bd2 (cs : List Int32) (m : Int32) : Int32 := if 2 < m.toInt ∧ own_match cs m (2 : Int32) = true then (2 : Int32) else own_bd1 cs m
def own_bd3 (cs : List Int32) (m : Int32) : Int32 := if 3 < m.toInt ∧ own_match cs m (3 : Int32) = true then (3 : Int32) else own_bd2 cs m
def own_bd4 (cs : List Int32) (m : Int32) : Int32 := if 4 < m.toInt ∧ own_match cs m (4 : Int32) = true then (4 : Int32) else own_bd3 cs m
def own_bd5 (cs : List Int32) (m : Int32) : Int32 := if 5 < m.toInt ∧ own_match cs m (5 : Int32) = true then (5 : Int32) else own_bd4 cs m
def own_inner (e : Nat → Nat → Bool) (rs : List Nat) (i : Nat) : Nat → Nat → Nat
  | 0, k => k
  | f + 1, k => if 0 < k ∧ e k i = false then own_inner e rs i f (rs.getD (k - 1) 0) else k
def own_step (e : Nat → Nat → Bool) (rs : List Nat) (i : Nat) : List Nat :=
  rs.set i (if e (own_inner e rs i i (rs.getD (i - 1) 0)) i = true then own_inner e rs i i (rs.getD (i - 1) 0) + 1 else own_inner e rs i i (rs.getD (i - 1) 0))
def own_outer (e : Nat → Nat → Bool) : Nat → Nat → List Nat → List Nat
  | 0, _, rs => rs
  | f + 1, i, rs => own_outer e f (i + 1) (own_step e rs i)
def own_kmp (e : Nat → Nat → Bool) : List Nat := own_outer e 5 1 (List.replicate 6 0)
def QB (Z : State) (a : Addr) (cs : List Int32) (n0 : Nat) (h0 : Heap) (v : Option Value) (h : Heap) (L : List Loc) : Prop := ∃ rb : Addr, v = some (.ref rb) ∧ Fr n0 L ∧ Keep h0 h [] ∧ h0.size ≤ rb ∧ Ar Z h a .char (cs.map Value.int) ∧ Ar Z h rb .int (((own_kmp (own_e cs)).map Int32.ofNat).map Value.int)
theorem own_outs {e : Nat → Nat → Bool} {i : Nat} {rs : List Nat} (h : i < 6) : own_outer e (6 - (i + 1)) (i + 1) (own_step e rs i) = own_outer e (6 - i) i rs := by
  have : 6 - i = (6 - (i + 1)) + 1 := by omega
  rw [this]; rfl
theorem own_get {cs : List Int32} {k : Nat} (h : k < cs.length) : (cs.map Value.int)[k]? = some (.int (cs.getD k 0)) := by
  rw [List.getElem?_map, List.getElem?_eq_getElem h, List.getD_eq_getElem?_getD, List.getElem?_eq_getElem h]; rfl
theorem own_getR {rs : List Nat} {k : Nat} (h : k < rs.length) : ((rs.map Int32.ofNat).map Value.int)[k]? = some (.int (Int32.ofNat (rs.getD k 0))) := by
  rw [List.getElem?_map, List.getElem?_map, List.getElem?_eq_getElem h, List.getD_eq_getElem?_getD, List.getElem?_eq_getElem h]; rfl
theorem own_nat {n : Nat} (h : n < 100) : (Int32.ofNat n).toInt = n := Int32.toInt_ofNat_of_lt (by omega)
theorem own_ofs {n : Nat} (h : n < 90) : Int32.ofNat n + (1 : Int32) = Int32.ofNat (n + 1) := by
  apply own_eqI.mpr
  have a := c_iadd (Int32.ofNat n) (1 : Int32)
  have b := rng32 (Int32.ofNat n + (1 : Int32))
  have k1 : (1 : Int32).toInt = 1 := by decide
  rw [own_nat (n := n + 1) (by omega)]
  rw [own_nat (n := n) (by omega)] at a
  omega
theorem own_et {cs : List Int32} {k i : Nat} (a : k < 6) (b : i < 6) (h : (cs.getD k 0).toInt = (cs.getD i 0).toInt) : own_e cs k i = true := decide_eq_true ⟨a, b, h⟩
theorem own_ef {cs : List Int32} {k i : Nat} (h : ¬ (cs.getD k 0).toInt = (cs.getD i 0).toInt) : ¬ own_e cs k i = true := fun q => h (of_decide_eq_true q).2.2
theorem own_ef' {cs : List Int32} {k i : Nat} (a : k < 6) (b : i < 6) (h : (cs.getD k 0).toInt = (cs.getD i 0).toInt) : ¬ own_e cs k i = false := fun q => absurd (own_et a b h) (by rw [q]; decide)
theorem own_ef'' {cs : List Int32} {k i : Nat} (h : ¬ (cs.getD k 0).toInt = (cs.getD i 0).toInt) : own_e cs k i = false := decide_eq_false fun q => h q.2.2
theorem own_hb {rs : List Nat} {i k : Nat} (hl : rs.length = 6) (hk : k ≤ i) (h : ∀ j : Nat, j < i → rs.getD j 0 ≤ j) : ∀ j : Nat, j < i + 1 → (rs.set i k).getD j 0 ≤ j := by
  intro j hj
  rw [List.getD_eq_getElem?_getD, List.getElem?_set]
  split
  · rename_i q
    subst q
    split
    · simpa using hk
    · simp
  · have := h j (by omega)
    rw [List.getD_eq_getElem?_getD] at this
    exact this
/-! the plain law: only which chars are alike counts; six chars are alike as six labels are -/
def own_mE (e : Nat → Nat → Bool) (m k : Nat) : Bool := (decide (k < 1) || e 0 (m - k)) && (decide (k < 2) || e 1 (m - k + 1)) && (decide (k < 3) || e 2 (m - k + 2)) && (decide (k < 4) || e 3 (m - k + 3)) && (decide (k < 5) || e 4 (m - k + 4))
def own_bE1 (e : Nat → Nat → Bool) (m : Nat) : Nat := if 1 < m ∧ own_mE e m 1 = true then 1 else 0
def own_bE2 (e : Nat → Nat → Bool) (m : Nat) : Nat := if 2 < m ∧ own_mE e m 2 = true then 2 else own_bE1 e m
def own_bE3 (e : Nat → Nat → Bool) (m : Nat) : Nat := if 3 < m ∧ own_mE e m 3 = true then 3 else own_bE2 e m
def own_bE4 (e : Nat → Nat → Bool) (m : Nat) : Nat := if 4 < m ∧ own_mE e m 4 = true then 4 else own_bE3 e m
def own_bE5 (e : Nat → Nat → Bool) (m : Nat) : Nat := if 5 < m ∧ own_mE e m 5 = true then 5 else own_bE4 e m
def own_eL (ls : List Nat) (i j : Nat) : Bool := decide (i < 6 ∧ j < 6 ∧ ls.getD i 0 = ls.getD j 0)
def own_seq {α : Type} (n : Nat) (f : Nat → α) : α := match n with
  | 0 => f 0
  | k + 1 => f (k + 1)
theorem own_seq_eq {α : Type} (n : Nat) (f : Nat → α) : own_seq n f = f n := by cases n <;> rfl
def own_sv (e : Nat → Nat → Bool) (rs : List Nat) (i : Nat) : Nat := own_seq (own_inner e rs i i (rs.getD (i - 1) 0)) fun k => if e k i = true then k + 1 else k
def own_kmpF (e : Nat → Nat → Bool) (f : Nat → Nat → Nat → Nat → Nat → Bool) : Bool :=
  own_seq (own_sv e [0, 0, 0, 0, 0, 0] 1) fun a => own_seq (own_sv e [0, a, 0, 0, 0, 0] 2) fun b => own_seq (own_sv e [0, a, b, 0, 0, 0] 3) fun c => own_seq (own_sv e [0, a, b, c, 0, 0] 4) fun d => own_seq (own_sv e [0, a, b, c, d, 0] 5) fun g => f a b c d g
def own_okF (e : Nat → Nat → Bool) : Bool := own_kmpF e fun a b c d g => (Nat.beq 0 (own_bE5 e 1) && (Nat.beq a (own_bE5 e 2) && (Nat.beq b (own_bE5 e 3) && (Nat.beq c (own_bE5 e 4) && (Nat.beq d (own_bE5 e 5) && Nat.beq g (own_bE5 e 6))))))
theorem own_okE (e : Nat → Nat → Bool) (h : own_okF e = true) : own_kmp e = [1, 2, 3, 4, 5, 6].map (own_bE5 e) := by
  unfold own_okF own_kmpF at h
  simp only [own_seq_eq, Bool.and_eq_true, Nat.beq_eq] at h
  obtain ⟨h1, h2, h3, h4, h5, h6⟩ := h
  have hs : ∀ rs i, own_step e rs i = rs.set i (own_sv e rs i) := fun rs i => by unfold own_step own_sv; rw [own_seq_eq]
  rw [h2] at h3 h4 h5 h6
  rw [h3] at h4 h5 h6
  rw [h4] at h5 h6
  rw [h5] at h6
  have s1 : own_step e [0, 0, 0, 0, 0, 0] 1 = [0, own_bE5 e 2, 0, 0, 0, 0] := by rw [hs, h2]; rfl
  have s2 : own_step e [0, own_bE5 e 2, 0, 0, 0, 0] 2 = [0, own_bE5 e 2, own_bE5 e 3, 0, 0, 0] := by rw [hs, h3]; rfl
  have s3 : own_step e [0, own_bE5 e 2, own_bE5 e 3, 0, 0, 0] 3 = [0, own_bE5 e 2, own_bE5 e 3, own_bE5 e 4, 0, 0] := by rw [hs, h4]; rfl
  have s4 : own_step e [0, own_bE5 e 2, own_bE5 e 3, own_bE5 e 4, 0, 0] 4 = [0, own_bE5 e 2, own_bE5 e 3, own_bE5 e 4, own_bE5 e 5, 0] := by rw [hs, h5]; rfl
  have s5 : own_step e [0, own_bE5 e 2, own_bE5 e 3, own_bE5 e 4, own_bE5 e 5, 0] 5 = [0, own_bE5 e 2, own_bE5 e 3, own_bE5 e 4, own_bE5 e 5, own_bE5 e 6] := by rw [hs, h6]; rfl
  show own_outer e 0 6 (own_step e (own_step e (own_step e (own_step e (own_step e [0, 0, 0, 0, 0, 0] 1) 2) 3) 4) 5) = _
  rw [s1, s2, s3, s4, s5]
  show [0, own_bE5 e 2, own_bE5 e 3, own_bE5 e 4, own_bE5 e 5, own_bE5 e 6] = [own_bE5 e 1, own_bE5 e 2, own_bE5 e 3, own_bE5 e 4, own_bE5 e 5, own_bE5 e 6]
  rw [← h1]
def own_eB (ls : List Nat) (i j : Nat) : Bool := Nat.blt i 6 && (Nat.blt j 6 && Nat.beq (ls.getD i 0) (ls.getD j 0))
theorem own_eLB (ls : List Nat) : own_eL ls = own_eB ls := by
  funext i j
  rw [Bool.eq_iff_iff]
  simp [own_eL, own_eB, Nat.blt_eq]
set_option maxRecDepth 65536 in
theorem own_tabB : ∀ (l1 : Fin 2) (l2 : Fin 3) (l3 : Fin 4) (l4 : Fin 5) (l5 : Fin 6), own_okF (own_eB [0, l1.1, l2.1, l3.1, l4.1, l5.1]) = true := by decide +kernel
theorem own_tab (l1 : Fin 2) (l2 : Fin 3) (l3 : Fin 4) (l4 : Fin 5) (l5 : Fin 6) : own_kmp (own_eL [0, l1.1, l2.1, l3.1, l4.1, l5.1]) = [1, 2, 3, 4, 5, 6].map (own_bE5 (own_eL [0, l1.1, l2.1, l3.1, l4.1, l5.1])) := by
  rw [own_eLB]
  exact own_okE _ (own_tabB l1 l2 l3 l4 l5)
theorem own_least (c : Nat → Int) (v : Int) : ∀ k : Nat, c k = v → ∃ l : Nat, l ≤ k ∧ c l = v ∧ ∀ j : Nat, j < l → ¬ c j = v := by
  intro k
  induction k using Nat.strongRecOn with
  | ind k ih =>
    intro hk
    by_cases h : ∃ j : Nat, j < k ∧ c j = v
    · obtain ⟨j, h1, h2⟩ := h
      obtain ⟨l, q1, q2, q3⟩ := ih j h1 h2
      exact ⟨l, by omega, q2, q3⟩
    · exact ⟨k, Nat.le_refl _, hk, fun j hj q => h ⟨j, hj, q⟩⟩
theorem own_labs (c : Nat → Int) : ∃ l : Nat → Nat, (∀ i, l i ≤ i) ∧ ∀ i j, c i = c j ↔ l i = l j := by
  have h : ∀ i : Nat, ∃ l : Nat, l ≤ i ∧ c l = c i ∧ ∀ j : Nat, j < l → ¬ c j = c i := fun i => own_least c (c i) i rfl
  refine ⟨fun i => Classical.choose (h i), fun i => (Classical.choose_spec (h i)).1, fun i j => ?_⟩
  obtain ⟨-, a2, a3⟩ := Classical.choose_spec (h i)
  obtain ⟨-, b2, b3⟩ := Classical.choose_spec (h j)
  constructor
  · intro q
    rcases Nat.lt_trichotomy (Classical.choose (h i)) (Classical.choose (h j)) with r | r | r
    · exact absurd (a2.trans q) (b3 _ r)
    · exact r
    · exact absurd (b2.trans q.symm) (a3 _ r)
  · intro q
    have q' : Classical.choose (h i) = Classical.choose (h j) := q
    rw [← a2, q', b2]
theorem own_alike (cs : List Int32) : ∃ (l1 : Fin 2) (l2 : Fin 3) (l3 : Fin 4) (l4 : Fin 5) (l5 : Fin 6), own_e cs = own_eL [0, l1.1, l2.1, l3.1, l4.1, l5.1] := by
  obtain ⟨l, h1, h2⟩ := own_labs fun i => (cs.getD i 0).toInt
  have a1 := h1 1
  have a2 := h1 2
  have a3 := h1 3
  have a4 := h1 4
  have a5 := h1 5
  refine ⟨⟨l 1, by omega⟩, ⟨l 2, by omega⟩, ⟨l 3, by omega⟩, ⟨l 4, by omega⟩, ⟨l 5, by omega⟩, ?_⟩
  have e0 : l 0 = 0 := by have := h1 0; omega
  have hL : ∀ i : Nat, i < 6 → [0, l 1, l 2, l 3, l 4, l 5].getD i 0 = l i := by
    intro i hi
    have : i = 0 ∨ i = 1 ∨ i = 2 ∨ i = 3 ∨ i = 4 ∨ i = 5 := by omega
    rcases this with rfl | rfl | rfl | rfl | rfl | rfl
    · exact e0.symm
    all_goals rfl
  funext i j
  simp only [own_e, own_eL, decide_eq_decide]
  constructor
  · rintro ⟨a, b, q⟩
    exact ⟨a, b, by rw [hL i a, hL j b]; exact (h2 i j).mp q⟩
  · rintro ⟨a, b, q⟩
    exact ⟨a, b, (h2 i j).mpr (by rw [hL i a, hL j b] at q; exact q)⟩
theorem own_kmpN (cs : List Int32) : own_kmp (own_e cs) = [1, 2, 3, 4, 5, 6].map (own_bE5 (own_e cs)) := by
  obtain ⟨l1, l2, l3, l4, l5, h⟩ := own_alike cs
  rw [h]
  exact own_tab l1 l2 l3 l4 l5
theorem own_mm (cs : List Int32) (m k : Nat) (hm : m ≤ 6) (hk : k < m) (M K : Int32) (eM : M.toInt = m) (eK : K.toInt = k) : own_match cs M K = own_mE (own_e cs) m k := by
  have t0 : (M.toInt - (k : Int) + 0).toNat = m - k := by omega
  have t1 : (M.toInt - (k : Int) + 1).toNat = m - k + 1 := by omega
  have t2 : (M.toInt - (k : Int) + 2).toNat = m - k + 2 := by omega
  have t3 : (M.toInt - (k : Int) + 3).toNat = m - k + 3 := by omega
  have t4 : (M.toInt - (k : Int) + 4).toNat = m - k + 4 := by omega
  have q : ∀ t : Nat, (((k : Int) < ((t + 1 : Nat) : Int) ∨ own_c cs t = own_c cs (m - k + t)) ↔ (k < t + 1 ∨ (t < 6 ∧ m - k + t < 6 ∧ own_c cs t = own_c cs (m - k + t)))) := by
    intro t
    constructor
    · rintro (h | h)
      · exact Or.inl (by omega)
      · by_cases r : k < t + 1
        · exact Or.inl r
        · exact Or.inr ⟨by omega, by omega, h⟩
    · rintro (h | h)
      · exact Or.inl (by omega)
      · exact Or.inr h.2.2
  rw [Bool.eq_iff_iff]
  simp only [own_match, own_mE, own_e, t0, t1, t2, t3, t4, eK, Bool.and_eq_true, Bool.or_eq_true, decide_eq_true_eq, and_assoc]
  exact and_congr (q 0) (and_congr (q 1) (and_congr (q 2) (and_congr (q 3) (q 4))))
theorem own_bb (cs : List Int32) (m : Nat) (hm : m ≤ 6) (M : Int32) (eM : M.toInt = m) : own_bd5 cs M = Int32.ofNat (own_bE5 (own_e cs) m) := by
  have s : ∀ (k : Nat) (K : Int32) (x : Int32) (y : Nat), K.toInt = k → K = Int32.ofNat k → x = Int32.ofNat y → (if (k : Int) < M.toInt ∧ own_match cs M K = true then K else x) = Int32.ofNat (if k < m ∧ own_mE (own_e cs) m k = true then k else y) := by
    intro k K x y h1 h2 h3
    by_cases q : k < m
    · rw [own_mm cs m k hm q M K eM h1]
      by_cases r : own_mE (own_e cs) m k = true
      · rw [if_pos ⟨by omega, r⟩, if_pos ⟨q, r⟩, h2]
      · rw [if_neg (fun u => r u.2), if_neg (fun u => r u.2), h3]
    · rw [if_neg (fun u => q (by omega)), if_neg (fun u => q u.1), h3]
  exact s 5 5 _ _ (by decide) rfl (s 4 4 _ _ (by decide) rfl (s 3 3 _ _ (by decide) rfl (s 2 2 _ _ (by decide) rfl (s 1 1 _ _ (by decide) rfl rfl))))
theorem own_kmpE (cs : List Int32) : (((own_kmp (own_e cs)).map Int32.ofNat).map Value.int) = [.int (own_bd5 cs (1 : Int32)), .int (own_bd5 cs (2 : Int32)), .int (own_bd5 cs (3 : Int32)), .int (own_bd5 cs (4 : Int32)), .int (own_bd5 cs (5 : Int32)), .int (own_bd5 cs (6 : Int32))] := by
  rw [own_kmpN, own_bb cs 1 (by decide) 1 (by decide), own_bb cs 2 (by decide) 2 (by decide), own_bb cs 3 (by decide) 3 (by decide), own_bb cs 4 (by decide) 4 (by decide), own_bb cs 5 (by decide) 5 (by decide), own_bb cs 6 (by decide) 6 (by decide)]
  rfl

theorem d1_0 : decode method_3_code 0 = .ok (.iload_n 0, 1) := by decide +kernel
theorem d1_1 : decode method_3_code 1 = .ok (.iload_n 1, 1) := by decide +kernel
theorem d1_2 : decode method_3_code 2 = .ok (.iconst 2, 1) := by decide +kernel
theorem d1_3 : decode method_3_code 3 = .ok (.iload_n 3, 1) := by decide +kernel
theorem d1_4 : decode method_3_code 4 = .ok (.imul, 1) := by decide +kernel
theorem d1_5 : decode method_3_code 5 = .ok (.iushr, 1) := by decide +kernel
theorem d1_6 : decode method_3_code 6 = .ok (.iconst 3, 1) := by decide +kernel
theorem d1_7 : decode method_3_code 7 = .ok (.iand, 1) := by decide +kernel
theorem d1_8 : decode method_3_code 8 = .ok (.iload_n 2, 1) := by decide +kernel
theorem d1_9 : decode method_3_code 9 = .ok (.imul, 1) := by decide +kernel
theorem d1_10 : decode method_3_code 10 = .ok (.iadd, 1) := by decide +kernel
theorem d1_11 : decode method_3_code 11 = .ok (.i2c, 1) := by decide +kernel
theorem d1_12 : decode method_3_code 12 = .ok (.ireturn, 1) := by decide +kernel
theorem ef1 (m : MethodId) (z0 : Int32) (z1 : Int32) (z2 : Int32) (z3 : Int32) : entryFrame m #[(.int z0), (.int z1), (.int z2), (.int z3)] 4 = mkF m 0 #[.val (.int z0), .val (.int z1), .val (.int z2), .val (.int z3)] [] := by first | (simp [entryFrame, mkF, argsToLocals, Value.category]; done) | rfl
set_option maxRecDepth 65536 in
set_option maxHeartbeats 40000000 in
theorem rm1 (l : Launch) (Z : State) (a0 : Array Value) (hw : ∀ d ∈ tables_1, d.before a0 Z = true) (ws : List Jvm.Cond) (z0 : Int32) (z1 : Int32) (z2 : Int32) (z3 : Int32)  (h0 : Heap) (n0 : Nat) (Z0 : n0 ≤ h0.size)  :
    MetFree l (⟨"com/example/libstrand/libstrand/BordersLengthsOfPinLaw", "ch", "(IIII)C"⟩ : MethodName) (head1 (Jvm.Cond.code (⟨"com/example/libstrand/libstrand/BordersLengthsOfPinLaw", "ch", "(IIII)C"⟩ : MethodName) method_3_code 4 (some .char) :: ws) (⟨0, 0, 0, 0⟩ : Room)) (fun a U => a = #[(.int z0), (.int z1), (.int z2), (.int z3)] ∧ Z.Warmed39 U.vm ∧ U.heap = h0) (fun _ _ _ _ _ => True) (fun _ U o U' => ∃ v L, o = .returned v ∧ QE n0 h0 v U'.heap L ∧ FrameEnd U o U' L 0 0) := by
  refine MetFree.of_bodySF (plainFor_of_name own_pn0) hisR ?_
  intro p e s m args below meth c s₁ Bd hml0 hP hK
  obtain ⟨rfl, hZ, hh⟩ := hP
  have hx := Bd.exec
  have hby := Bd.bytes
  have hml : c.maxLocals = 4 := hml0
  have hown : s.vm.findClass "com/example/libstrand/libstrand/BordersLengthsOfPinLaw" = some m.cls := findClass_of_methodNamed Bd.named
  have hnm := (name_of_methodNamed Bd.named Bd.method).1
  have hlk : meth.locks = false := Bd.notSynchronized
  have hret := Bd.returns
  have X0 : Stand p l e (⟨0, 0, 0, 0⟩ : Room) s m #[(.int z0), (.int z1), (.int z2), (.int z3)] below meth c s₁ [] 0 0 := Stand.of_body Bd
  have e0 : s₁.heap = h0 := by rw [← hh, Bd.state]; rfl
  have N0 := Fr.nil n0
  have GOAL : Gl p e below s (QE n0 h0) 0 0 (s₁.setTop (entryFrame m #[(.int z0), (.int z1), (.int z2), (.int z3)] 4)) := by
    refine Gl.cast (ef1 m z0 z1 z2 z3) ?_
    refine Gl.st (b := s₁.setTop (mkF m 1 #[.val (.int z0), .val (.int z1), .val (.int z2), .val (.int z3)] [(.int z0)])) (fun tq kq => XS.iloadN X0.here hx rfl (hb hby d1_0) rfl kq) ?_
    refine Gl.st (b := s₁.setTop (mkF m 2 #[.val (.int z0), .val (.int z1), .val (.int z2), .val (.int z3)] [(.int z1), (.int z0)])) (fun tq kq => XS.iloadN X0.here hx rfl (hb hby d1_1) rfl kq) ?_
    refine Gl.st (b := s₁.setTop (mkF m 3 #[.val (.int z0), .val (.int z1), .val (.int z2), .val (.int z3)] [(.int (2 : Int32)), (.int z1), (.int z0)])) (fun tq kq => XS.iconst X0.here hx rfl (hb hby d1_2) kq) ?_
    refine Gl.st (b := s₁.setTop (mkF m 4 #[.val (.int z0), .val (.int z1), .val (.int z2), .val (.int z3)] [(.int z3), (.int (2 : Int32)), (.int z1), (.int z0)])) (fun tq kq => XS.iloadN X0.here hx rfl (hb hby d1_3) rfl kq) ?_
    refine Gl.st (b := s₁.setTop (mkF m 5 #[.val (.int z0), .val (.int z1), .val (.int z2), .val (.int z3)] [(.int ((2 : Int32) * z3)), (.int z1), (.int z0)])) (fun tq kq => XS.imul X0.here hx rfl (hb hby d1_4) rfl kq) ?_
    refine Gl.st (b := s₁.setTop (mkF m 6 #[.val (.int z0), .val (.int z1), .val (.int z2), .val (.int z3)] [(.int ((z1.toUInt32 >>> (((2 : Int32) * z3) &&& 31).toUInt32).toInt32)), (.int z0)])) (fun tq kq => XS.iushr X0.here hx rfl (hb hby d1_5) rfl kq) ?_
    refine Gl.st (b := s₁.setTop (mkF m 7 #[.val (.int z0), .val (.int z1), .val (.int z2), .val (.int z3)] [(.int (3 : Int32)), (.int ((z1.toUInt32 >>> (((2 : Int32) * z3) &&& 31).toUInt32).toInt32)), (.int z0)])) (fun tq kq => XS.iconst X0.here hx rfl (hb hby d1_6) kq) ?_
    refine Gl.st (b := s₁.setTop (mkF m 8 #[.val (.int z0), .val (.int z1), .val (.int z2), .val (.int z3)] [(.int (((z1.toUInt32 >>> (((2 : Int32) * z3) &&& 31).toUInt32).toInt32) &&& (3 : Int32))), (.int z0)])) (fun tq kq => XS.iand X0.here hx rfl (hb hby d1_7) rfl kq) ?_
    refine Gl.st (b := s₁.setTop (mkF m 9 #[.val (.int z0), .val (.int z1), .val (.int z2), .val (.int z3)] [(.int z2), (.int (((z1.toUInt32 >>> (((2 : Int32) * z3) &&& 31).toUInt32).toInt32) &&& (3 : Int32))), (.int z0)])) (fun tq kq => XS.iloadN X0.here hx rfl (hb hby d1_8) rfl kq) ?_
    refine Gl.st (b := s₁.setTop (mkF m 10 #[.val (.int z0), .val (.int z1), .val (.int z2), .val (.int z3)] [(.int ((((z1.toUInt32 >>> (((2 : Int32) * z3) &&& 31).toUInt32).toInt32) &&& (3 : Int32)) * z2)), (.int z0)])) (fun tq kq => XS.imul X0.here hx rfl (hb hby d1_9) rfl kq) ?_
    refine Gl.st (b := s₁.setTop (mkF m 11 #[.val (.int z0), .val (.int z1), .val (.int z2), .val (.int z3)] [(.int (z0 + ((((z1.toUInt32 >>> (((2 : Int32) * z3) &&& 31).toUInt32).toInt32) &&& (3 : Int32)) * z2)))])) (fun tq kq => XS.iadd X0.here hx rfl (hb hby d1_10) rfl kq) ?_
    refine Gl.st (b := s₁.setTop (mkF m 12 #[.val (.int z0), .val (.int z1), .val (.int z2), .val (.int z3)] [(.int ((z0 + ((((z1.toUInt32 >>> (((2 : Int32) * z3) &&& 31).toUInt32).toInt32) &&& (3 : Int32)) * z2)).toUInt32.toUInt16.toUInt32.toInt32))])) (fun tq kq => XS.i2c X0.here hx rfl (hb hby d1_11) rfl kq) ?_
    exact Gl.retN X0 hx hret (by simp) (hb hby d1_12) hlk (by decide) (by decide) ⟨_, rfl, N0, e0⟩
  exact GOAL
theorem d2_0 : decode method_4_code 0 = .ok (.iload_n 2, 1) := by decide +kernel
theorem d2_1 : decode method_4_code 1 = .ok (.iconst 1, 1) := by decide +kernel
theorem d2_2 : decode method_4_code 2 = .ok (.if_icmp .lt 14, 3) := by decide +kernel
theorem d2_5 : decode method_4_code 5 = .ok (.aload_n 0, 1) := by decide +kernel
theorem d2_6 : decode method_4_code 6 = .ok (.iconst 0, 1) := by decide +kernel
theorem d2_7 : decode method_4_code 7 = .ok (.caload, 1) := by decide +kernel
theorem d2_8 : decode method_4_code 8 = .ok (.aload_n 0, 1) := by decide +kernel
theorem d2_9 : decode method_4_code 9 = .ok (.iload_n 1, 1) := by decide +kernel
theorem d2_10 : decode method_4_code 10 = .ok (.iload_n 2, 1) := by decide +kernel
theorem d2_11 : decode method_4_code 11 = .ok (.isub, 1) := by decide +kernel
theorem d2_12 : decode method_4_code 12 = .ok (.caload, 1) := by decide +kernel
theorem d2_13 : decode method_4_code 13 = .ok (.if_icmp .ne 79, 3) := by decide +kernel
theorem d2_16 : decode method_4_code 16 = .ok (.iload_n 2, 1) := by decide +kernel
theorem d2_17 : decode method_4_code 17 = .ok (.iconst 2, 1) := by decide +kernel
theorem d2_18 : decode method_4_code 18 = .ok (.if_icmp .lt 16, 3) := by decide +kernel
theorem d2_21 : decode method_4_code 21 = .ok (.aload_n 0, 1) := by decide +kernel
theorem d2_22 : decode method_4_code 22 = .ok (.iconst 1, 1) := by decide +kernel
theorem d2_23 : decode method_4_code 23 = .ok (.caload, 1) := by decide +kernel
theorem d2_24 : decode method_4_code 24 = .ok (.aload_n 0, 1) := by decide +kernel
theorem d2_25 : decode method_4_code 25 = .ok (.iload_n 1, 1) := by decide +kernel
theorem d2_26 : decode method_4_code 26 = .ok (.iload_n 2, 1) := by decide +kernel
theorem d2_27 : decode method_4_code 27 = .ok (.isub, 1) := by decide +kernel
theorem d2_28 : decode method_4_code 28 = .ok (.iconst 1, 1) := by decide +kernel
theorem d2_29 : decode method_4_code 29 = .ok (.iadd, 1) := by decide +kernel
theorem d2_30 : decode method_4_code 30 = .ok (.caload, 1) := by decide +kernel
theorem d2_31 : decode method_4_code 31 = .ok (.if_icmp .ne 61, 3) := by decide +kernel
theorem d2_34 : decode method_4_code 34 = .ok (.iload_n 2, 1) := by decide +kernel
theorem d2_35 : decode method_4_code 35 = .ok (.iconst 3, 1) := by decide +kernel
theorem d2_36 : decode method_4_code 36 = .ok (.if_icmp .lt 16, 3) := by decide +kernel
theorem d2_39 : decode method_4_code 39 = .ok (.aload_n 0, 1) := by decide +kernel
theorem d2_40 : decode method_4_code 40 = .ok (.iconst 2, 1) := by decide +kernel
theorem d2_41 : decode method_4_code 41 = .ok (.caload, 1) := by decide +kernel
theorem d2_42 : decode method_4_code 42 = .ok (.aload_n 0, 1) := by decide +kernel
theorem d2_43 : decode method_4_code 43 = .ok (.iload_n 1, 1) := by decide +kernel
theorem d2_44 : decode method_4_code 44 = .ok (.iload_n 2, 1) := by decide +kernel
theorem d2_45 : decode method_4_code 45 = .ok (.isub, 1) := by decide +kernel
theorem d2_46 : decode method_4_code 46 = .ok (.iconst 2, 1) := by decide +kernel
theorem d2_47 : decode method_4_code 47 = .ok (.iadd, 1) := by decide +kernel
theorem d2_48 : decode method_4_code 48 = .ok (.caload, 1) := by decide +kernel
theorem d2_49 : decode method_4_code 49 = .ok (.if_icmp .ne 43, 3) := by decide +kernel
theorem d2_52 : decode method_4_code 52 = .ok (.iload_n 2, 1) := by decide +kernel
theorem d2_53 : decode method_4_code 53 = .ok (.iconst 4, 1) := by decide +kernel
theorem d2_54 : decode method_4_code 54 = .ok (.if_icmp .lt 16, 3) := by decide +kernel
theorem d2_57 : decode method_4_code 57 = .ok (.aload_n 0, 1) := by decide +kernel
theorem d2_58 : decode method_4_code 58 = .ok (.iconst 3, 1) := by decide +kernel
theorem d2_59 : decode method_4_code 59 = .ok (.caload, 1) := by decide +kernel
theorem d2_60 : decode method_4_code 60 = .ok (.aload_n 0, 1) := by decide +kernel
theorem d2_61 : decode method_4_code 61 = .ok (.iload_n 1, 1) := by decide +kernel
theorem d2_62 : decode method_4_code 62 = .ok (.iload_n 2, 1) := by decide +kernel
theorem d2_63 : decode method_4_code 63 = .ok (.isub, 1) := by decide +kernel
theorem d2_64 : decode method_4_code 64 = .ok (.iconst 3, 1) := by decide +kernel
theorem d2_65 : decode method_4_code 65 = .ok (.iadd, 1) := by decide +kernel
theorem d2_66 : decode method_4_code 66 = .ok (.caload, 1) := by decide +kernel
theorem d2_67 : decode method_4_code 67 = .ok (.if_icmp .ne 25, 3) := by decide +kernel
theorem d2_70 : decode method_4_code 70 = .ok (.iload_n 2, 1) := by decide +kernel
theorem d2_71 : decode method_4_code 71 = .ok (.iconst 5, 1) := by decide +kernel
theorem d2_72 : decode method_4_code 72 = .ok (.if_icmp .lt 16, 3) := by decide +kernel
theorem d2_75 : decode method_4_code 75 = .ok (.aload_n 0, 1) := by decide +kernel
theorem d2_76 : decode method_4_code 76 = .ok (.iconst 4, 1) := by decide +kernel
theorem d2_77 : decode method_4_code 77 = .ok (.caload, 1) := by decide +kernel
theorem d2_78 : decode method_4_code 78 = .ok (.aload_n 0, 1) := by decide +kernel
theorem d2_79 : decode method_4_code 79 = .ok (.iload_n 1, 1) := by decide +kernel
theorem d2_80 : decode method_4_code 80 = .ok (.iload_n 2, 1) := by decide +kernel
theorem d2_81 : decode method_4_code 81 = .ok (.isub, 1) := by decide +kernel
theorem d2_82 : decode method_4_code 82 = .ok (.iconst 4, 1) := by decide +kernel
theorem d2_83 : decode method_4_code 83 = .ok (.iadd, 1) := by decide +kernel
theorem d2_84 : decode method_4_code 84 = .ok (.caload, 1) := by decide +kernel
theorem d2_85 : decode method_4_code 85 = .ok (.if_icmp .ne 7, 3) := by decide +kernel
theorem d2_88 : decode method_4_code 88 = .ok (.iconst 1, 1) := by decide +kernel
theorem d2_89 : decode method_4_code 89 = .ok (.goto 4, 3) := by decide +kernel
theorem d2_92 : decode method_4_code 92 = .ok (.iconst 0, 1) := by decide +kernel
theorem d2_93 : decode method_4_code 93 = .ok (.ireturn, 1) := by decide +kernel
theorem ef2 (m : MethodId) (a0_ : Addr) (z1 : Int32) (z2 : Int32) : entryFrame m #[(.ref a0_), (.int z1), (.int z2)] 3 = mkF m 0 #[.val (.ref a0_), .val (.int z1), .val (.int z2)] [] := by first | (simp [entryFrame, mkF, argsToLocals, Value.category]; done) | rfl
set_option maxRecDepth 65536 in
set_option maxHeartbeats 40000000 in
theorem rm2 (l : Launch) (Z : State) (a0 : Array Value) (hw : ∀ d ∈ tables_1, d.before a0 Z = true) (ws : List Jvm.Cond) (a0_ : Addr) (z1 : Int32) (z2 : Int32) (cs : List Int32) (h0 : Heap) (n0 : Nat) (Z0 : n0 ≤ h0.size) (A : Ar Z h0 a0_ .char (cs.map Value.int)) (hl : cs.length = 6) (hk1 : 1 ≤ z2.toInt) (hk2 : z2.toInt < z1.toInt) (hk3 : z1.toInt ≤ 6) :
    MetFree l (⟨"com/example/libstrand/libstrand/BordersLengthsOfPinLaw", "match", "([CII)Z"⟩ : MethodName) (head1 (Jvm.Cond.code (⟨"com/example/libstrand/libstrand/BordersLengthsOfPinLaw", "match", "([CII)Z"⟩ : MethodName) method_4_code 3 (some .boolean) :: ws) (⟨0, 0, 0, 0⟩ : Room)) (fun a U => a = #[(.ref a0_), (.int z1), (.int z2)] ∧ Z.Warmed39 U.vm ∧ U.heap = h0) (fun _ _ _ _ _ => True) (fun _ U o U' => ∃ v L, o = .returned v ∧ QP n0 h0 (.int (own_b (own_match cs z1 z2))) v U'.heap L ∧ FrameEnd U o U' L 0 0) := by
  refine MetFree.of_bodySF (plainFor_of_name own_pn0) hisR ?_
  intro p e s m args below meth c s₁ Bd hml0 hP hK
  obtain ⟨rfl, hZ, hh⟩ := hP
  have hx := Bd.exec
  have hby := Bd.bytes
  have hml : c.maxLocals = 3 := hml0
  have hown : s.vm.findClass "com/example/libstrand/libstrand/BordersLengthsOfPinLaw" = some m.cls := findClass_of_methodNamed Bd.named
  have hnm := (name_of_methodNamed Bd.named Bd.method).1
  have hlk : meth.locks = false := Bd.notSynchronized
  have hret := Bd.returns
  have X0 : Stand p l e (⟨0, 0, 0, 0⟩ : Room) s m #[(.ref a0_), (.int z1), (.int z2)] below meth c s₁ [] 0 0 := Stand.of_body Bd
  have e0 : s₁.heap = h0 := by rw [← hh, Bd.state]; rfl
  have N0 := Fr.nil n0
  have GOAL : Gl p e below s (QP n0 h0 (.int (own_b (own_match cs z1 z2)))) 0 0 (s₁.setTop (entryFrame m #[(.ref a0_), (.int z1), (.int z2)] 3)) := by
    refine Gl.cast (ef2 m a0_ z1 z2) ?_
    have k1 : (1 : Int32).toInt = 1 := by decide
    have k2 : (2 : Int32).toInt = 2 := by decide
    have k3 : (3 : Int32).toInt = 3 := by decide
    have k4 : (4 : Int32).toInt = 4 := by decide
    have k5 : (5 : Int32).toInt = 5 := by decide
    have us : (z1 - z2).toInt = z1.toInt - z2.toInt := by have a := c_isub z1 z2; have b := rng32 (z1 - z2); omega
    have us1 : ((z1 - z2) + (1 : Int32)).toInt = z1.toInt - z2.toInt + 1 := by have a := c_iadd (z1 - z2) (1 : Int32); have b := rng32 ((z1 - z2) + (1 : Int32)); omega
    have us2 : ((z1 - z2) + (2 : Int32)).toInt = z1.toInt - z2.toInt + 2 := by have a := c_iadd (z1 - z2) (2 : Int32); have b := rng32 ((z1 - z2) + (2 : Int32)); omega
    have us3 : ((z1 - z2) + (3 : Int32)).toInt = z1.toInt - z2.toInt + 3 := by have a := c_iadd (z1 - z2) (3 : Int32); have b := rng32 ((z1 - z2) + (3 : Int32)); omega
    have us4 : ((z1 - z2) + (4 : Int32)).toInt = z1.toInt - z2.toInt + 4 := by have a := c_iadd (z1 - z2) (4 : Int32); have b := rng32 ((z1 - z2) + (4 : Int32)); omega
    have j88 : (z2.toInt < 1 ∨ (cs.getD 0 0).toInt = (cs.getD (z1.toInt - z2.toInt + 0).toNat 0).toInt) → (z2.toInt < 2 ∨ (cs.getD 1 0).toInt = (cs.getD (z1.toInt - z2.toInt + 1).toNat 0).toInt) → (z2.toInt < 3 ∨ (cs.getD 2 0).toInt = (cs.getD (z1.toInt - z2.toInt + 2).toNat 0).toInt) → (z2.toInt < 4 ∨ (cs.getD 3 0).toInt = (cs.getD (z1.toInt - z2.toInt + 3).toNat 0).toInt) → (z2.toInt < 5 ∨ (cs.getD 4 0).toInt = (cs.getD (z1.toInt - z2.toInt + 4).toNat 0).toInt) → Gl p e below s (QP n0 h0 (.int (own_b (own_match cs z1 z2)))) 0 0 (s₁.setTop (mkF m 88 #[.val (.ref a0_), .val (.int z1), .val (.int z2)] [])) := by
      intro y0 y1 y2 y3 y4
      refine Gl.st (b := s₁.setTop (mkF m 89 #[.val (.ref a0_), .val (.int z1), .val (.int z2)] [(.int (1 : Int32))])) (fun tq kq => XS.iconst X0.here hx rfl (hb hby d2_88) kq) ?_
      refine Gl.st (b := s₁.setTop (mkF m 93 #[.val (.ref a0_), .val (.int z1), .val (.int z2)] [(.int (1 : Int32))])) (fun tq kq => XS.goto X0.here hx rfl (pc0 := 89) (pc' := 93) rfl (hb hby d2_89) (by decide) (by decide) kq) ?_
      exact Gl.retN X0 hx hret (by simp) (hb hby d2_93) hlk (by decide) (by decide) ⟨own_b1 (by unfold own_match own_c; apply decide_eq_true; omega), N0, e0⟩
    have j70 : (z2.toInt < 1 ∨ (cs.getD 0 0).toInt = (cs.getD (z1.toInt - z2.toInt + 0).toNat 0).toInt) → (z2.toInt < 2 ∨ (cs.getD 1 0).toInt = (cs.getD (z1.toInt - z2.toInt + 1).toNat 0).toInt) → (z2.toInt < 3 ∨ (cs.getD 2 0).toInt = (cs.getD (z1.toInt - z2.toInt + 2).toNat 0).toInt) → (z2.toInt < 4 ∨ (cs.getD 3 0).toInt = (cs.getD (z1.toInt - z2.toInt + 3).toNat 0).toInt) → Gl p e below s (QP n0 h0 (.int (own_b (own_match cs z1 z2)))) 0 0 (s₁.setTop (mkF m 70 #[.val (.ref a0_), .val (.int z1), .val (.int z2)] [])) := by
      intro y0 y1 y2 y3
      refine Gl.st (b := s₁.setTop (mkF m 71 #[.val (.ref a0_), .val (.int z1), .val (.int z2)] [(.int z2)])) (fun tq kq => XS.iloadN X0.here hx rfl (hb hby d2_70) rfl kq) ?_
      refine Gl.st (b := s₁.setTop (mkF m 72 #[.val (.ref a0_), .val (.int z1), .val (.int z2)] [(.int (5 : Int32)), (.int z2)])) (fun tq kq => XS.iconst X0.here hx rfl (hb hby d2_71) kq) ?_
      by_cases hc72 : z2.toInt < 5
      · -- hc72 True
        refine Gl.st (b := s₁.setTop (mkF m 88 #[.val (.ref a0_), .val (.int z1), .val (.int z2)] [])) (fun tq kq => XS.icmpYes X0.here hx rfl (pc0 := 72) (pc' := 88) rfl (hb hby d2_72) rfl (tlt (x := z2) (y := (5 : Int32)) (own_ltI.mpr hc72)).1 (by decide) (by decide) kq) ?_
        exact j88 y0 y1 y2 y3 (by omega)
      · -- hc72 False
        refine Gl.st (b := s₁.setTop (mkF m 75 #[.val (.ref a0_), .val (.int z1), .val (.int z2)] [])) (fun tq kq => XS.icmpNo X0.here hx rfl (hb hby d2_72) rfl (flt (x := z2) (y := (5 : Int32)) (fun q => hc72 (own_ltI.mp q))).1 kq) ?_
        refine Gl.st (b := s₁.setTop (mkF m 76 #[.val (.ref a0_), .val (.int z1), .val (.int z2)] [(.ref a0_)])) (fun tq kq => XS.aloadN X0.here hx rfl (hb hby d2_75) rfl rfl kq) ?_
        refine Gl.st (b := s₁.setTop (mkF m 77 #[.val (.ref a0_), .val (.int z1), .val (.int z2)] [(.int (4 : Int32)), (.ref a0_)])) (fun tq kq => XS.iconst X0.here hx rfl (hb hby d2_76) kq) ?_
        refine Gl.caload (k := 4) (v := (.int (cs.getD 4 0))) X0 hx hZ e0 A rfl (own_get (by omega)) (hb hby d2_77) ?_
        show Gl _ _ _ _ _ _ _ (s₁.setTop (mkF m 78 #[.val (.ref a0_), .val (.int z1), .val (.int z2)] [(.int (cs.getD 4 0))]))
        refine Gl.st (b := s₁.setTop (mkF m 79 #[.val (.ref a0_), .val (.int z1), .val (.int z2)] [(.ref a0_), (.int (cs.getD 4 0))])) (fun tq kq => XS.aloadN X0.here hx rfl (hb hby d2_78) rfl rfl kq) ?_
        refine Gl.st (b := s₁.setTop (mkF m 80 #[.val (.ref a0_), .val (.int z1), .val (.int z2)] [(.int z1), (.ref a0_), (.int (cs.getD 4 0))])) (fun tq kq => XS.iloadN X0.here hx rfl (hb hby d2_79) rfl kq) ?_
        refine Gl.st (b := s₁.setTop (mkF m 81 #[.val (.ref a0_), .val (.int z1), .val (.int z2)] [(.int z2), (.int z1), (.ref a0_), (.int (cs.getD 4 0))])) (fun tq kq => XS.iloadN X0.here hx rfl (hb hby d2_80) rfl kq) ?_
        refine Gl.st (b := s₁.setTop (mkF m 82 #[.val (.ref a0_), .val (.int z1), .val (.int z2)] [(.int (z1 - z2)), (.ref a0_), (.int (cs.getD 4 0))])) (fun tq kq => XS.isub X0.here hx rfl (hb hby d2_81) rfl kq) ?_
        refine Gl.st (b := s₁.setTop (mkF m 83 #[.val (.ref a0_), .val (.int z1), .val (.int z2)] [(.int (4 : Int32)), (.int (z1 - z2)), (.ref a0_), (.int (cs.getD 4 0))])) (fun tq kq => XS.iconst X0.here hx rfl (hb hby d2_82) kq) ?_
        refine Gl.st (b := s₁.setTop (mkF m 84 #[.val (.ref a0_), .val (.int z1), .val (.int z2)] [(.int ((z1 - z2) + (4 : Int32))), (.ref a0_), (.int (cs.getD 4 0))])) (fun tq kq => XS.iadd X0.here hx rfl (hb hby d2_83) rfl kq) ?_
        refine Gl.caload (k := (z1.toInt - z2.toInt + 4).toNat) (v := (.int (cs.getD (z1.toInt - z2.toInt + 4).toNat 0))) X0 hx hZ e0 A (by omega) (own_get (by omega)) (hb hby d2_84) ?_
        show Gl _ _ _ _ _ _ _ (s₁.setTop (mkF m 85 #[.val (.ref a0_), .val (.int z1), .val (.int z2)] [(.int (cs.getD (z1.toInt - z2.toInt + 4).toNat 0)), (.int (cs.getD 4 0))]))
        by_cases hc85 : (cs.getD 4 0).toInt = (cs.getD (z1.toInt - z2.toInt + 4).toNat 0).toInt
        · -- hc85 True
          refine Gl.st (b := s₁.setTop (mkF m 88 #[.val (.ref a0_), .val (.int z1), .val (.int z2)] [])) (fun tq kq => XS.icmpNo X0.here hx rfl (hb hby d2_85) rfl (teq (x := (cs.getD 4 0)) (y := (cs.getD (z1.toInt - z2.toInt + 4).toNat 0)) (own_eqI.mpr hc85)).2 kq) ?_
          exact j88 y0 y1 y2 y3 (by omega)
        · -- hc85 False
          refine Gl.st (b := s₁.setTop (mkF m 92 #[.val (.ref a0_), .val (.int z1), .val (.int z2)] [])) (fun tq kq => XS.icmpYes X0.here hx rfl (pc0 := 85) (pc' := 92) rfl (hb hby d2_85) rfl (feq (x := (cs.getD 4 0)) (y := (cs.getD (z1.toInt - z2.toInt + 4).toNat 0)) (fun q => hc85 (own_eqI.mp q))).2 (by decide) (by decide) kq) ?_
          refine Gl.st (b := s₁.setTop (mkF m 93 #[.val (.ref a0_), .val (.int z1), .val (.int z2)] [(.int (0 : Int32))])) (fun tq kq => XS.iconst X0.here hx rfl (hb hby d2_92) kq) ?_
          exact Gl.retN X0 hx hret (by simp) (hb hby d2_93) hlk (by decide) (by decide) ⟨own_b0 (by unfold own_match own_c; apply decide_eq_false; omega), N0, e0⟩
    have j52 : (z2.toInt < 1 ∨ (cs.getD 0 0).toInt = (cs.getD (z1.toInt - z2.toInt + 0).toNat 0).toInt) → (z2.toInt < 2 ∨ (cs.getD 1 0).toInt = (cs.getD (z1.toInt - z2.toInt + 1).toNat 0).toInt) → (z2.toInt < 3 ∨ (cs.getD 2 0).toInt = (cs.getD (z1.toInt - z2.toInt + 2).toNat 0).toInt) → Gl p e below s (QP n0 h0 (.int (own_b (own_match cs z1 z2)))) 0 0 (s₁.setTop (mkF m 52 #[.val (.ref a0_), .val (.int z1), .val (.int z2)] [])) := by
      intro y0 y1 y2
      refine Gl.st (b := s₁.setTop (mkF m 53 #[.val (.ref a0_), .val (.int z1), .val (.int z2)] [(.int z2)])) (fun tq kq => XS.iloadN X0.here hx rfl (hb hby d2_52) rfl kq) ?_
      refine Gl.st (b := s₁.setTop (mkF m 54 #[.val (.ref a0_), .val (.int z1), .val (.int z2)] [(.int (4 : Int32)), (.int z2)])) (fun tq kq => XS.iconst X0.here hx rfl (hb hby d2_53) kq) ?_
      by_cases hc54 : z2.toInt < 4
      · -- hc54 True
        refine Gl.st (b := s₁.setTop (mkF m 70 #[.val (.ref a0_), .val (.int z1), .val (.int z2)] [])) (fun tq kq => XS.icmpYes X0.here hx rfl (pc0 := 54) (pc' := 70) rfl (hb hby d2_54) rfl (tlt (x := z2) (y := (4 : Int32)) (own_ltI.mpr hc54)).1 (by decide) (by decide) kq) ?_
        exact j70 y0 y1 y2 (by omega)
      · -- hc54 False
        refine Gl.st (b := s₁.setTop (mkF m 57 #[.val (.ref a0_), .val (.int z1), .val (.int z2)] [])) (fun tq kq => XS.icmpNo X0.here hx rfl (hb hby d2_54) rfl (flt (x := z2) (y := (4 : Int32)) (fun q => hc54 (own_ltI.mp q))).1 kq) ?_
        refine Gl.st (b := s₁.setTop (mkF m 58 #[.val (.ref a0_), .val (.int z1), .val (.int z2)] [(.ref a0_)])) (fun tq kq => XS.aloadN X0.here hx rfl (hb hby d2_57) rfl rfl kq) ?_
        refine Gl.st (b := s₁.setTop (mkF m 59 #[.val (.ref a0_), .val (.int z1), .val (.int z2)] [(.int (3 : Int32)), (.ref a0_)])) (fun tq kq => XS.iconst X0.here hx rfl (hb hby d2_58) kq) ?_
        refine Gl.caload (k := 3) (v := (.int (cs.getD 3 0))) X0 hx hZ e0 A rfl (own_get (by omega)) (hb hby d2_59) ?_
        show Gl _ _ _ _ _ _ _ (s₁.setTop (mkF m 60 #[.val (.ref a0_), .val (.int z1), .val (.int z2)] [(.int (cs.getD 3 0))]))
        refine Gl.st (b := s₁.setTop (mkF m 61 #[.val (.ref a0_), .val (.int z1), .val (.int z2)] [(.ref a0_), (.int (cs.getD 3 0))])) (fun tq kq => XS.aloadN X0.here hx rfl (hb hby d2_60) rfl rfl kq) ?_
        refine Gl.st (b := s₁.setTop (mkF m 62 #[.val (.ref a0_), .val (.int z1), .val (.int z2)] [(.int z1), (.ref a0_), (.int (cs.getD 3 0))])) (fun tq kq => XS.iloadN X0.here hx rfl (hb hby d2_61) rfl kq) ?_
        refine Gl.st (b := s₁.setTop (mkF m 63 #[.val (.ref a0_), .val (.int z1), .val (.int z2)] [(.int z2), (.int z1), (.ref a0_), (.int (cs.getD 3 0))])) (fun tq kq => XS.iloadN X0.here hx rfl (hb hby d2_62) rfl kq) ?_
        refine Gl.st (b := s₁.setTop (mkF m 64 #[.val (.ref a0_), .val (.int z1), .val (.int z2)] [(.int (z1 - z2)), (.ref a0_), (.int (cs.getD 3 0))])) (fun tq kq => XS.isub X0.here hx rfl (hb hby d2_63) rfl kq) ?_
        refine Gl.st (b := s₁.setTop (mkF m 65 #[.val (.ref a0_), .val (.int z1), .val (.int z2)] [(.int (3 : Int32)), (.int (z1 - z2)), (.ref a0_), (.int (cs.getD 3 0))])) (fun tq kq => XS.iconst X0.here hx rfl (hb hby d2_64) kq) ?_
        refine Gl.st (b := s₁.setTop (mkF m 66 #[.val (.ref a0_), .val (.int z1), .val (.int z2)] [(.int ((z1 - z2) + (3 : Int32))), (.ref a0_), (.int (cs.getD 3 0))])) (fun tq kq => XS.iadd X0.here hx rfl (hb hby d2_65) rfl kq) ?_
        refine Gl.caload (k := (z1.toInt - z2.toInt + 3).toNat) (v := (.int (cs.getD (z1.toInt - z2.toInt + 3).toNat 0))) X0 hx hZ e0 A (by omega) (own_get (by omega)) (hb hby d2_66) ?_
        show Gl _ _ _ _ _ _ _ (s₁.setTop (mkF m 67 #[.val (.ref a0_), .val (.int z1), .val (.int z2)] [(.int (cs.getD (z1.toInt - z2.toInt + 3).toNat 0)), (.int (cs.getD 3 0))]))
        by_cases hc67 : (cs.getD 3 0).toInt = (cs.getD (z1.toInt - z2.toInt + 3).toNat 0).toInt
        · -- hc67 True
          refine Gl.st (b := s₁.setTop (mkF m 70 #[.val (.ref a0_), .val (.int z1), .val (.int z2)] [])) (fun tq kq => XS.icmpNo X0.here hx rfl (hb hby d2_67) rfl (teq (x := (cs.getD 3 0)) (y := (cs.getD (z1.toInt - z2.toInt + 3).toNat 0)) (own_eqI.mpr hc67)).2 kq) ?_
          exact j70 y0 y1 y2 (by omega)
        · -- hc67 False
          refine Gl.st (b := s₁.setTop (mkF m 92 #[.val (.ref a0_), .val (.int z1), .val (.int z2)] [])) (fun tq kq => XS.icmpYes X0.here hx rfl (pc0 := 67) (pc' := 92) rfl (hb hby d2_67) rfl (feq (x := (cs.getD 3 0)) (y := (cs.getD (z1.toInt - z2.toInt + 3).toNat 0)) (fun q => hc67 (own_eqI.mp q))).2 (by decide) (by decide) kq) ?_
          refine Gl.st (b := s₁.setTop (mkF m 93 #[.val (.ref a0_), .val (.int z1), .val (.int z2)] [(.int (0 : Int32))])) (fun tq kq => XS.iconst X0.here hx rfl (hb hby d2_92) kq) ?_
          exact Gl.retN X0 hx hret (by simp) (hb hby d2_93) hlk (by decide) (by decide) ⟨own_b0 (by unfold own_match own_c; apply decide_eq_false; omega), N0, e0⟩
    have j34 : (z2.toInt < 1 ∨ (cs.getD 0 0).toInt = (cs.getD (z1.toInt - z2.toInt + 0).toNat 0).toInt) → (z2.toInt < 2 ∨ (cs.getD 1 0).toInt = (cs.getD (z1.toInt - z2.toInt + 1).toNat 0).toInt) → Gl p e below s (QP n0 h0 (.int (own_b (own_match cs z1 z2)))) 0 0 (s₁.setTop (mkF m 34 #[.val (.ref a0_), .val (.int z1), .val (.int z2)] [])) := by
      intro y0 y1
      refine Gl.st (b := s₁.setTop (mkF m 35 #[.val (.ref a0_), .val (.int z1), .val (.int z2)] [(.int z2)])) (fun tq kq => XS.iloadN X0.here hx rfl (hb hby d2_34) rfl kq) ?_
      refine Gl.st (b := s₁.setTop (mkF m 36 #[.val (.ref a0_), .val (.int z1), .val (.int z2)] [(.int (3 : Int32)), (.int z2)])) (fun tq kq => XS.iconst X0.here hx rfl (hb hby d2_35) kq) ?_
      by_cases hc36 : z2.toInt < 3
      · -- hc36 True
        refine Gl.st (b := s₁.setTop (mkF m 52 #[.val (.ref a0_), .val (.int z1), .val (.int z2)] [])) (fun tq kq => XS.icmpYes X0.here hx rfl (pc0 := 36) (pc' := 52) rfl (hb hby d2_36) rfl (tlt (x := z2) (y := (3 : Int32)) (own_ltI.mpr hc36)).1 (by decide) (by decide) kq) ?_
        exact j52 y0 y1 (by omega)
      · -- hc36 False
        refine Gl.st (b := s₁.setTop (mkF m 39 #[.val (.ref a0_), .val (.int z1), .val (.int z2)] [])) (fun tq kq => XS.icmpNo X0.here hx rfl (hb hby d2_36) rfl (flt (x := z2) (y := (3 : Int32)) (fun q => hc36 (own_ltI.mp q))).1 kq) ?_
        refine Gl.st (b := s₁.setTop (mkF m 40 #[.val (.ref a0_), .val (.int z1), .val (.int z2)] [(.ref a0_)])) (fun tq kq => XS.aloadN X0.here hx rfl (hb hby d2_39) rfl rfl kq) ?_
        refine Gl.st (b := s₁.setTop (mkF m 41 #[.val (.ref a0_), .val (.int z1), .val (.int z2)] [(.int (2 : Int32)), (.ref a0_)])) (fun tq kq => XS.iconst X0.here hx rfl (hb hby d2_40) kq) ?_
        refine Gl.caload (k := 2) (v := (.int (cs.getD 2 0))) X0 hx hZ e0 A rfl (own_get (by omega)) (hb hby d2_41) ?_
        show Gl _ _ _ _ _ _ _ (s₁.setTop (mkF m 42 #[.val (.ref a0_), .val (.int z1), .val (.int z2)] [(.int (cs.getD 2 0))]))
        refine Gl.st (b := s₁.setTop (mkF m 43 #[.val (.ref a0_), .val (.int z1), .val (.int z2)] [(.ref a0_), (.int (cs.getD 2 0))])) (fun tq kq => XS.aloadN X0.here hx rfl (hb hby d2_42) rfl rfl kq) ?_
        refine Gl.st (b := s₁.setTop (mkF m 44 #[.val (.ref a0_), .val (.int z1), .val (.int z2)] [(.int z1), (.ref a0_), (.int (cs.getD 2 0))])) (fun tq kq => XS.iloadN X0.here hx rfl (hb hby d2_43) rfl kq) ?_
        refine Gl.st (b := s₁.setTop (mkF m 45 #[.val (.ref a0_), .val (.int z1), .val (.int z2)] [(.int z2), (.int z1), (.ref a0_), (.int (cs.getD 2 0))])) (fun tq kq => XS.iloadN X0.here hx rfl (hb hby d2_44) rfl kq) ?_
        refine Gl.st (b := s₁.setTop (mkF m 46 #[.val (.ref a0_), .val (.int z1), .val (.int z2)] [(.int (z1 - z2)), (.ref a0_), (.int (cs.getD 2 0))])) (fun tq kq => XS.isub X0.here hx rfl (hb hby d2_45) rfl kq) ?_
        refine Gl.st (b := s₁.setTop (mkF m 47 #[.val (.ref a0_), .val (.int z1), .val (.int z2)] [(.int (2 : Int32)), (.int (z1 - z2)), (.ref a0_), (.int (cs.getD 2 0))])) (fun tq kq => XS.iconst X0.here hx rfl (hb hby d2_46) kq) ?_
        refine Gl.st (b := s₁.setTop (mkF m 48 #[.val (.ref a0_), .val (.int z1), .val (.int z2)] [(.int ((z1 - z2) + (2 : Int32))), (.ref a0_), (.int (cs.getD 2 0))])) (fun tq kq => XS.iadd X0.here hx rfl (hb hby d2_47) rfl kq) ?_
        refine Gl.caload (k := (z1.toInt - z2.toInt + 2).toNat) (v := (.int (cs.getD (z1.toInt - z2.toInt + 2).toNat 0))) X0 hx hZ e0 A (by omega) (own_get (by omega)) (hb hby d2_48) ?_
        show Gl _ _ _ _ _ _ _ (s₁.setTop (mkF m 49 #[.val (.ref a0_), .val (.int z1), .val (.int z2)] [(.int (cs.getD (z1.toInt - z2.toInt + 2).toNat 0)), (.int (cs.getD 2 0))]))
        by_cases hc49 : (cs.getD 2 0).toInt = (cs.getD (z1.toInt - z2.toInt + 2).toNat 0).toInt
        · -- hc49 True
          refine Gl.st (b := s₁.setTop (mkF m 52 #[.val (.ref a0_), .val (.int z1), .val (.int z2)] [])) (fun tq kq => XS.icmpNo X0.here hx rfl (hb hby d2_49) rfl (teq (x := (cs.getD 2 0)) (y := (cs.getD (z1.toInt - z2.toInt + 2).toNat 0)) (own_eqI.mpr hc49)).2 kq) ?_
          exact j52 y0 y1 (by omega)
        · -- hc49 False
          refine Gl.st (b := s₁.setTop (mkF m 92 #[.val (.ref a0_), .val (.int z1), .val (.int z2)] [])) (fun tq kq => XS.icmpYes X0.here hx rfl (pc0 := 49) (pc' := 92) rfl (hb hby d2_49) rfl (feq (x := (cs.getD 2 0)) (y := (cs.getD (z1.toInt - z2.toInt + 2).toNat 0)) (fun q => hc49 (own_eqI.mp q))).2 (by decide) (by decide) kq) ?_
          refine Gl.st (b := s₁.setTop (mkF m 93 #[.val (.ref a0_), .val (.int z1), .val (.int z2)] [(.int (0 : Int32))])) (fun tq kq => XS.iconst X0.here hx rfl (hb hby d2_92) kq) ?_
          exact Gl.retN X0 hx hret (by simp) (hb hby d2_93) hlk (by decide) (by decide) ⟨own_b0 (by unfold own_match own_c; apply decide_eq_false; omega), N0, e0⟩
    have j16 : (z2.toInt < 1 ∨ (cs.getD 0 0).toInt = (cs.getD (z1.toInt - z2.toInt + 0).toNat 0).toInt) → Gl p e below s (QP n0 h0 (.int (own_b (own_match cs z1 z2)))) 0 0 (s₁.setTop (mkF m 16 #[.val (.ref a0_), .val (.int z1), .val (.int z2)] [])) := by
      intro y0
      refine Gl.st (b := s₁.setTop (mkF m 17 #[.val (.ref a0_), .val (.int z1), .val (.int z2)] [(.int z2)])) (fun tq kq => XS.iloadN X0.here hx rfl (hb hby d2_16) rfl kq) ?_
      refine Gl.st (b := s₁.setTop (mkF m 18 #[.val (.ref a0_), .val (.int z1), .val (.int z2)] [(.int (2 : Int32)), (.int z2)])) (fun tq kq => XS.iconst X0.here hx rfl (hb hby d2_17) kq) ?_
      by_cases hc18 : z2.toInt < 2
      · -- hc18 True
        refine Gl.st (b := s₁.setTop (mkF m 34 #[.val (.ref a0_), .val (.int z1), .val (.int z2)] [])) (fun tq kq => XS.icmpYes X0.here hx rfl (pc0 := 18) (pc' := 34) rfl (hb hby d2_18) rfl (tlt (x := z2) (y := (2 : Int32)) (own_ltI.mpr hc18)).1 (by decide) (by decide) kq) ?_
        exact j34 y0 (by omega)
      · -- hc18 False
        refine Gl.st (b := s₁.setTop (mkF m 21 #[.val (.ref a0_), .val (.int z1), .val (.int z2)] [])) (fun tq kq => XS.icmpNo X0.here hx rfl (hb hby d2_18) rfl (flt (x := z2) (y := (2 : Int32)) (fun q => hc18 (own_ltI.mp q))).1 kq) ?_
        refine Gl.st (b := s₁.setTop (mkF m 22 #[.val (.ref a0_), .val (.int z1), .val (.int z2)] [(.ref a0_)])) (fun tq kq => XS.aloadN X0.here hx rfl (hb hby d2_21) rfl rfl kq) ?_
        refine Gl.st (b := s₁.setTop (mkF m 23 #[.val (.ref a0_), .val (.int z1), .val (.int z2)] [(.int (1 : Int32)), (.ref a0_)])) (fun tq kq => XS.iconst X0.here hx rfl (hb hby d2_22) kq) ?_
        refine Gl.caload (k := 1) (v := (.int (cs.getD 1 0))) X0 hx hZ e0 A rfl (own_get (by omega)) (hb hby d2_23) ?_
        show Gl _ _ _ _ _ _ _ (s₁.setTop (mkF m 24 #[.val (.ref a0_), .val (.int z1), .val (.int z2)] [(.int (cs.getD 1 0))]))
        refine Gl.st (b := s₁.setTop (mkF m 25 #[.val (.ref a0_), .val (.int z1), .val (.int z2)] [(.ref a0_), (.int (cs.getD 1 0))])) (fun tq kq => XS.aloadN X0.here hx rfl (hb hby d2_24) rfl rfl kq) ?_
        refine Gl.st (b := s₁.setTop (mkF m 26 #[.val (.ref a0_), .val (.int z1), .val (.int z2)] [(.int z1), (.ref a0_), (.int (cs.getD 1 0))])) (fun tq kq => XS.iloadN X0.here hx rfl (hb hby d2_25) rfl kq) ?_
        refine Gl.st (b := s₁.setTop (mkF m 27 #[.val (.ref a0_), .val (.int z1), .val (.int z2)] [(.int z2), (.int z1), (.ref a0_), (.int (cs.getD 1 0))])) (fun tq kq => XS.iloadN X0.here hx rfl (hb hby d2_26) rfl kq) ?_
        refine Gl.st (b := s₁.setTop (mkF m 28 #[.val (.ref a0_), .val (.int z1), .val (.int z2)] [(.int (z1 - z2)), (.ref a0_), (.int (cs.getD 1 0))])) (fun tq kq => XS.isub X0.here hx rfl (hb hby d2_27) rfl kq) ?_
        refine Gl.st (b := s₁.setTop (mkF m 29 #[.val (.ref a0_), .val (.int z1), .val (.int z2)] [(.int (1 : Int32)), (.int (z1 - z2)), (.ref a0_), (.int (cs.getD 1 0))])) (fun tq kq => XS.iconst X0.here hx rfl (hb hby d2_28) kq) ?_
        refine Gl.st (b := s₁.setTop (mkF m 30 #[.val (.ref a0_), .val (.int z1), .val (.int z2)] [(.int ((z1 - z2) + (1 : Int32))), (.ref a0_), (.int (cs.getD 1 0))])) (fun tq kq => XS.iadd X0.here hx rfl (hb hby d2_29) rfl kq) ?_
        refine Gl.caload (k := (z1.toInt - z2.toInt + 1).toNat) (v := (.int (cs.getD (z1.toInt - z2.toInt + 1).toNat 0))) X0 hx hZ e0 A (by omega) (own_get (by omega)) (hb hby d2_30) ?_
        show Gl _ _ _ _ _ _ _ (s₁.setTop (mkF m 31 #[.val (.ref a0_), .val (.int z1), .val (.int z2)] [(.int (cs.getD (z1.toInt - z2.toInt + 1).toNat 0)), (.int (cs.getD 1 0))]))
        by_cases hc31 : (cs.getD 1 0).toInt = (cs.getD (z1.toInt - z2.toInt + 1).toNat 0).toInt
        · -- hc31 True
          refine Gl.st (b := s₁.setTop (mkF m 34 #[.val (.ref a0_), .val (.int z1), .val (.int z2)] [])) (fun tq kq => XS.icmpNo X0.here hx rfl (hb hby d2_31) rfl (teq (x := (cs.getD 1 0)) (y := (cs.getD (z1.toInt - z2.toInt + 1).toNat 0)) (own_eqI.mpr hc31)).2 kq) ?_
          exact j34 y0 (by omega)
        · -- hc31 False
          refine Gl.st (b := s₁.setTop (mkF m 92 #[.val (.ref a0_), .val (.int z1), .val (.int z2)] [])) (fun tq kq => XS.icmpYes X0.here hx rfl (pc0 := 31) (pc' := 92) rfl (hb hby d2_31) rfl (feq (x := (cs.getD 1 0)) (y := (cs.getD (z1.toInt - z2.toInt + 1).toNat 0)) (fun q => hc31 (own_eqI.mp q))).2 (by decide) (by decide) kq) ?_
          refine Gl.st (b := s₁.setTop (mkF m 93 #[.val (.ref a0_), .val (.int z1), .val (.int z2)] [(.int (0 : Int32))])) (fun tq kq => XS.iconst X0.here hx rfl (hb hby d2_92) kq) ?_
          exact Gl.retN X0 hx hret (by simp) (hb hby d2_93) hlk (by decide) (by decide) ⟨own_b0 (by unfold own_match own_c; apply decide_eq_false; omega), N0, e0⟩
    refine Gl.st (b := s₁.setTop (mkF m 1 #[.val (.ref a0_), .val (.int z1), .val (.int z2)] [(.int z2)])) (fun tq kq => XS.iloadN X0.here hx rfl (hb hby d2_0) rfl kq) ?_
    refine Gl.st (b := s₁.setTop (mkF m 2 #[.val (.ref a0_), .val (.int z1), .val (.int z2)] [(.int (1 : Int32)), (.int z2)])) (fun tq kq => XS.iconst X0.here hx rfl (hb hby d2_1) kq) ?_
    by_cases hc2 : z2.toInt < 1
    · -- hc2 True
      refine Gl.st (b := s₁.setTop (mkF m 16 #[.val (.ref a0_), .val (.int z1), .val (.int z2)] [])) (fun tq kq => XS.icmpYes X0.here hx rfl (pc0 := 2) (pc' := 16) rfl (hb hby d2_2) rfl (tlt (x := z2) (y := (1 : Int32)) (own_ltI.mpr hc2)).1 (by decide) (by decide) kq) ?_
      exact j16 (by omega)
    · -- hc2 False
      refine Gl.st (b := s₁.setTop (mkF m 5 #[.val (.ref a0_), .val (.int z1), .val (.int z2)] [])) (fun tq kq => XS.icmpNo X0.here hx rfl (hb hby d2_2) rfl (flt (x := z2) (y := (1 : Int32)) (fun q => hc2 (own_ltI.mp q))).1 kq) ?_
      refine Gl.st (b := s₁.setTop (mkF m 6 #[.val (.ref a0_), .val (.int z1), .val (.int z2)] [(.ref a0_)])) (fun tq kq => XS.aloadN X0.here hx rfl (hb hby d2_5) rfl rfl kq) ?_
      refine Gl.st (b := s₁.setTop (mkF m 7 #[.val (.ref a0_), .val (.int z1), .val (.int z2)] [(.int (0 : Int32)), (.ref a0_)])) (fun tq kq => XS.iconst X0.here hx rfl (hb hby d2_6) kq) ?_
      refine Gl.caload (k := 0) (v := (.int (cs.getD 0 0))) X0 hx hZ e0 A rfl (own_get (by omega)) (hb hby d2_7) ?_
      show Gl _ _ _ _ _ _ _ (s₁.setTop (mkF m 8 #[.val (.ref a0_), .val (.int z1), .val (.int z2)] [(.int (cs.getD 0 0))]))
      refine Gl.st (b := s₁.setTop (mkF m 9 #[.val (.ref a0_), .val (.int z1), .val (.int z2)] [(.ref a0_), (.int (cs.getD 0 0))])) (fun tq kq => XS.aloadN X0.here hx rfl (hb hby d2_8) rfl rfl kq) ?_
      refine Gl.st (b := s₁.setTop (mkF m 10 #[.val (.ref a0_), .val (.int z1), .val (.int z2)] [(.int z1), (.ref a0_), (.int (cs.getD 0 0))])) (fun tq kq => XS.iloadN X0.here hx rfl (hb hby d2_9) rfl kq) ?_
      refine Gl.st (b := s₁.setTop (mkF m 11 #[.val (.ref a0_), .val (.int z1), .val (.int z2)] [(.int z2), (.int z1), (.ref a0_), (.int (cs.getD 0 0))])) (fun tq kq => XS.iloadN X0.here hx rfl (hb hby d2_10) rfl kq) ?_
      refine Gl.st (b := s₁.setTop (mkF m 12 #[.val (.ref a0_), .val (.int z1), .val (.int z2)] [(.int (z1 - z2)), (.ref a0_), (.int (cs.getD 0 0))])) (fun tq kq => XS.isub X0.here hx rfl (hb hby d2_11) rfl kq) ?_
      refine Gl.caload (k := (z1.toInt - z2.toInt + 0).toNat) (v := (.int (cs.getD (z1.toInt - z2.toInt + 0).toNat 0))) X0 hx hZ e0 A (by omega) (own_get (by omega)) (hb hby d2_12) ?_
      show Gl _ _ _ _ _ _ _ (s₁.setTop (mkF m 13 #[.val (.ref a0_), .val (.int z1), .val (.int z2)] [(.int (cs.getD (z1.toInt - z2.toInt + 0).toNat 0)), (.int (cs.getD 0 0))]))
      by_cases hc13 : (cs.getD 0 0).toInt = (cs.getD (z1.toInt - z2.toInt + 0).toNat 0).toInt
      · -- hc13 True
        refine Gl.st (b := s₁.setTop (mkF m 16 #[.val (.ref a0_), .val (.int z1), .val (.int z2)] [])) (fun tq kq => XS.icmpNo X0.here hx rfl (hb hby d2_13) rfl (teq (x := (cs.getD 0 0)) (y := (cs.getD (z1.toInt - z2.toInt + 0).toNat 0)) (own_eqI.mpr hc13)).2 kq) ?_
        exact j16 (by omega)
      · -- hc13 False
        refine Gl.st (b := s₁.setTop (mkF m 92 #[.val (.ref a0_), .val (.int z1), .val (.int z2)] [])) (fun tq kq => XS.icmpYes X0.here hx rfl (pc0 := 13) (pc' := 92) rfl (hb hby d2_13) rfl (feq (x := (cs.getD 0 0)) (y := (cs.getD (z1.toInt - z2.toInt + 0).toNat 0)) (fun q => hc13 (own_eqI.mp q))).2 (by decide) (by decide) kq) ?_
        refine Gl.st (b := s₁.setTop (mkF m 93 #[.val (.ref a0_), .val (.int z1), .val (.int z2)] [(.int (0 : Int32))])) (fun tq kq => XS.iconst X0.here hx rfl (hb hby d2_92) kq) ?_
        exact Gl.retN X0 hx hret (by simp) (hb hby d2_93) hlk (by decide) (by decide) ⟨own_b0 (by unfold own_match own_c; apply decide_eq_false; omega), N0, e0⟩
  exact GOAL
theorem d3_0 : decode method_5_code 0 = .ok (.iconst 0, 1) := by decide +kernel
theorem d3_1 : decode method_5_code 1 = .ok (.istore_n 2, 1) := by decide +kernel
theorem d3_2 : decode method_5_code 2 = .ok (.iconst 1, 1) := by decide +kernel
theorem d3_3 : decode method_5_code 3 = .ok (.iload_n 1, 1) := by decide +kernel
theorem d3_4 : decode method_5_code 4 = .ok (.if_icmp .ge 14, 3) := by decide +kernel
theorem d3_7 : decode method_5_code 7 = .ok (.aload_n 0, 1) := by decide +kernel
theorem d3_8 : decode method_5_code 8 = .ok (.iload_n 1, 1) := by decide +kernel
theorem d3_9 : decode method_5_code 9 = .ok (.iconst 1, 1) := by decide +kernel
theorem d3_10 : decode method_5_code 10 = .ok (.invokestatic 23, 3) := by decide +kernel
theorem d3_13 : decode method_5_code 13 = .ok (.ifCond .eq 5, 3) := by decide +kernel
theorem d3_16 : decode method_5_code 16 = .ok (.iconst 1, 1) := by decide +kernel
theorem d3_17 : decode method_5_code 17 = .ok (.istore_n 2, 1) := by decide +kernel
theorem d3_18 : decode method_5_code 18 = .ok (.iconst 2, 1) := by decide +kernel
theorem d3_19 : decode method_5_code 19 = .ok (.iload_n 1, 1) := by decide +kernel
theorem d3_20 : decode method_5_code 20 = .ok (.if_icmp .ge 14, 3) := by decide +kernel
theorem d3_23 : decode method_5_code 23 = .ok (.aload_n 0, 1) := by decide +kernel
theorem d3_24 : decode method_5_code 24 = .ok (.iload_n 1, 1) := by decide +kernel
theorem d3_25 : decode method_5_code 25 = .ok (.iconst 2, 1) := by decide +kernel
theorem d3_26 : decode method_5_code 26 = .ok (.invokestatic 23, 3) := by decide +kernel
theorem d3_29 : decode method_5_code 29 = .ok (.ifCond .eq 5, 3) := by decide +kernel
theorem d3_32 : decode method_5_code 32 = .ok (.iconst 2, 1) := by decide +kernel
theorem d3_33 : decode method_5_code 33 = .ok (.istore_n 2, 1) := by decide +kernel
theorem d3_34 : decode method_5_code 34 = .ok (.iconst 3, 1) := by decide +kernel
theorem d3_35 : decode method_5_code 35 = .ok (.iload_n 1, 1) := by decide +kernel
theorem d3_36 : decode method_5_code 36 = .ok (.if_icmp .ge 14, 3) := by decide +kernel
theorem d3_39 : decode method_5_code 39 = .ok (.aload_n 0, 1) := by decide +kernel
theorem d3_40 : decode method_5_code 40 = .ok (.iload_n 1, 1) := by decide +kernel
theorem d3_41 : decode method_5_code 41 = .ok (.iconst 3, 1) := by decide +kernel
theorem d3_42 : decode method_5_code 42 = .ok (.invokestatic 23, 3) := by decide +kernel
theorem d3_45 : decode method_5_code 45 = .ok (.ifCond .eq 5, 3) := by decide +kernel
theorem d3_48 : decode method_5_code 48 = .ok (.iconst 3, 1) := by decide +kernel
theorem d3_49 : decode method_5_code 49 = .ok (.istore_n 2, 1) := by decide +kernel
theorem d3_50 : decode method_5_code 50 = .ok (.iconst 4, 1) := by decide +kernel
theorem d3_51 : decode method_5_code 51 = .ok (.iload_n 1, 1) := by decide +kernel
theorem d3_52 : decode method_5_code 52 = .ok (.if_icmp .ge 14, 3) := by decide +kernel
theorem d3_55 : decode method_5_code 55 = .ok (.aload_n 0, 1) := by decide +kernel
theorem d3_56 : decode method_5_code 56 = .ok (.iload_n 1, 1) := by decide +kernel
theorem d3_57 : decode method_5_code 57 = .ok (.iconst 4, 1) := by decide +kernel
theorem d3_58 : decode method_5_code 58 = .ok (.invokestatic 23, 3) := by decide +kernel
theorem d3_61 : decode method_5_code 61 = .ok (.ifCond .eq 5, 3) := by decide +kernel
theorem d3_64 : decode method_5_code 64 = .ok (.iconst 4, 1) := by decide +kernel
theorem d3_65 : decode method_5_code 65 = .ok (.istore_n 2, 1) := by decide +kernel
theorem d3_66 : decode method_5_code 66 = .ok (.iconst 5, 1) := by decide +kernel
theorem d3_67 : decode method_5_code 67 = .ok (.iload_n 1, 1) := by decide +kernel
theorem d3_68 : decode method_5_code 68 = .ok (.if_icmp .ge 14, 3) := by decide +kernel
theorem d3_71 : decode method_5_code 71 = .ok (.aload_n 0, 1) := by decide +kernel
theorem d3_72 : decode method_5_code 72 = .ok (.iload_n 1, 1) := by decide +kernel
theorem d3_73 : decode method_5_code 73 = .ok (.iconst 5, 1) := by decide +kernel
theorem d3_74 : decode method_5_code 74 = .ok (.invokestatic 23, 3) := by decide +kernel
theorem d3_77 : decode method_5_code 77 = .ok (.ifCond .eq 5, 3) := by decide +kernel
theorem d3_80 : decode method_5_code 80 = .ok (.iconst 5, 1) := by decide +kernel
theorem d3_81 : decode method_5_code 81 = .ok (.istore_n 2, 1) := by decide +kernel
theorem d3_82 : decode method_5_code 82 = .ok (.iload_n 2, 1) := by decide +kernel
theorem d3_83 : decode method_5_code 83 = .ok (.ireturn, 1) := by decide +kernel
theorem ef3 (m : MethodId) (a0_ : Addr) (z1 : Int32) : entryFrame m #[(.ref a0_), (.int z1)] 3 = mkF m 0 #[.val (.ref a0_), .val (.int z1), .unset] [] := by first | (simp [entryFrame, mkF, argsToLocals, Value.category]; done) | rfl
set_option maxRecDepth 65536 in
set_option maxHeartbeats 40000000 in
theorem rm3 (l : Launch) (Z : State) (a0 : Array Value) (hw : ∀ d ∈ tables_1, d.before a0 Z = true) (ws : List Jvm.Cond) (a0_ : Addr) (z1 : Int32) (cs : List Int32) (h0 : Heap) (n0 : Nat) (Z0 : n0 ≤ h0.size) (A : Ar Z h0 a0_ .char (cs.map Value.int)) (hl : cs.length = 6) (hk1 : 1 ≤ z1.toInt) (hk3 : z1.toInt ≤ 6) :
    MetFree l (⟨"com/example/libstrand/libstrand/BordersLengthsOfPinLaw", "border", "([CI)I"⟩ : MethodName) (head1 (Jvm.Cond.code (⟨"com/example/libstrand/libstrand/BordersLengthsOfPinLaw", "border", "([CI)I"⟩ : MethodName) method_5_code 3 (some .int) :: ws) (⟨1, 0, 0, 14⟩ : Room)) (fun a U => a = #[(.ref a0_), (.int z1)] ∧ Z.Warmed39 U.vm ∧ U.heap = h0) (fun _ _ _ _ _ => True) (fun _ U o U' => ∃ v L, o = .returned v ∧ QP n0 h0 (.int (own_bd5 cs z1)) v U'.heap L ∧ FrameEnd U o U' L 0 0) := by
  refine MetFree.of_bodySF (plainFor_of_name own_pn0) hisR ?_
  intro p e s m args below meth c s₁ Bd hml0 hP hK
  obtain ⟨rfl, hZ, hh⟩ := hP
  have hx := Bd.exec
  have hby := Bd.bytes
  have hml : c.maxLocals = 3 := hml0
  have hown : s.vm.findClass "com/example/libstrand/libstrand/BordersLengthsOfPinLaw" = some m.cls := findClass_of_methodNamed Bd.named
  have hnm := (name_of_methodNamed Bd.named Bd.method).1
  have hlk : meth.locks = false := Bd.notSynchronized
  have hret := Bd.returns
  have X0 : Stand p l e (⟨1, 0, 0, 14⟩ : Room) s m #[(.ref a0_), (.int z1)] below meth c s₁ [] 0 0 := Stand.of_body Bd
  have e0 : s₁.heap = h0 := by rw [← hh, Bd.state]; rfl
  have N0 := Fr.nil n0
  have GOAL : Gl p e below s (QP n0 h0 (.int (own_bd5 cs z1))) 0 0 (s₁.setTop (entryFrame m #[(.ref a0_), (.int z1)] 3)) := by
    refine Gl.cast (ef3 m a0_ z1) ?_
    have k1 : (1 : Int32).toInt = 1 := by decide
    have k2 : (2 : Int32).toInt = 2 := by decide
    have k3 : (3 : Int32).toInt = 3 := by decide
    have k4 : (4 : Int32).toInt = 4 := by decide
    have k5 : (5 : Int32).toInt = 5 := by decide
    have j82 : ∀ (T_j82 : State) (L_j82 : List Loc), Stand p l e (⟨1, 0, 0, 14⟩ : Room) s m #[(.ref a0_), (.int z1)] below meth c T_j82 L_j82 0 0 → T_j82.heap = h0 → Fr n0 L_j82 → ∀ r : Int32, r = own_bd5 cs z1 → Gl p e below s (QP n0 h0 (.int (own_bd5 cs z1))) 0 0 (T_j82.setTop (mkF m 82 #[.val (.ref a0_), .val (.int z1), .val (.int r)] [])) := by
      intro T_j82 L_j82 X_j82 E_j82 N_j82 r hr
      show Gl _ _ _ _ _ _ _ (T_j82.setTop (mkF m 82 #[.val (.ref a0_), .val (.int z1), .val (.int r)] []))
      refine Gl.st (b := T_j82.setTop (mkF m 83 #[.val (.ref a0_), .val (.int z1), .val (.int r)] [(.int r)])) (fun tq kq => XS.iloadN X_j82.here hx rfl (hb hby d3_82) rfl kq) ?_
      exact Gl.retI X_j82 hx hret (hb hby d3_83) hlk (by decide) (by decide) ⟨congrArg (fun q => some (Value.int q)) hr, N_j82, E_j82⟩
    have j66 : ∀ (T_j66 : State) (L_j66 : List Loc), Stand p l e (⟨1, 0, 0, 14⟩ : Room) s m #[(.ref a0_), (.int z1)] below meth c T_j66 L_j66 0 0 → T_j66.heap = h0 → Fr n0 L_j66 → ∀ r : Int32, r = own_bd4 cs z1 → Gl p e below s (QP n0 h0 (.int (own_bd5 cs z1))) 0 0 (T_j66.setTop (mkF m 66 #[.val (.ref a0_), .val (.int z1), .val (.int r)] [])) := by
      intro T_j66 L_j66 X_j66 E_j66 N_j66 r hr
      show Gl _ _ _ _ _ _ _ (T_j66.setTop (mkF m 66 #[.val (.ref a0_), .val (.int z1), .val (.int r)] []))
      refine Gl.st (b := T_j66.setTop (mkF m 67 #[.val (.ref a0_), .val (.int z1), .val (.int r)] [(.int (5 : Int32))])) (fun tq kq => XS.iconst X_j66.here hx rfl (hb hby d3_66) kq) ?_
      refine Gl.st (b := T_j66.setTop (mkF m 68 #[.val (.ref a0_), .val (.int z1), .val (.int r)] [(.int z1), (.int (5 : Int32))])) (fun tq kq => XS.iloadN X_j66.here hx rfl (hb hby d3_67) rfl kq) ?_
      by_cases hc68 : 5 < z1.toInt
      · -- hc68 True
        refine Gl.st (b := T_j66.setTop (mkF m 71 #[.val (.ref a0_), .val (.int z1), .val (.int r)] [])) (fun tq kq => XS.icmpNo X_j66.here hx rfl (hb hby d3_68) rfl (tlt (x := (5 : Int32)) (y := z1) (own_ltI.mpr hc68)).2.1 kq) ?_
        refine Gl.st (b := T_j66.setTop (mkF m 72 #[.val (.ref a0_), .val (.int z1), .val (.int r)] [(.ref a0_)])) (fun tq kq => XS.aloadN X_j66.here hx rfl (hb hby d3_71) rfl rfl kq) ?_
        refine Gl.st (b := T_j66.setTop (mkF m 73 #[.val (.ref a0_), .val (.int z1), .val (.int r)] [(.int z1), (.ref a0_)])) (fun tq kq => XS.iloadN X_j66.here hx rfl (hb hby d3_72) rfl kq) ?_
        refine Gl.st (b := T_j66.setTop (mkF m 74 #[.val (.ref a0_), .val (.int z1), .val (.int r)] [(.int (5 : Int32)), (.int z1), (.ref a0_)])) (fun tq kq => XS.iconst X_j66.here hx rfl (hb hby d3_73) kq) ?_
        refine Gl.callP (W := 0) (argsL := [(.ref a0_), (.int z1), (.int (5 : Int32))]) (rest := []) (w := (.int (own_b (own_match cs z1 (5 : Int32))))) X_j66 hx hZ hown (hw _ (List.mem_of_getElem? (i := 13) rfl)) (hw _ (List.mem_of_getElem? (i := 14) rfl)) (hw _ (List.mem_of_getElem? (i := 3) rfl)) (hw _ (List.mem_of_getElem? (i := 15) rfl)) (by decide) (rm2 l Z a0 hw [] a0_ z1 (5 : Int32) cs h0 n0 Z0 A hl (by omega) (by omega) hk3) (by decide) (by decide) E_j66 N_j66 (by decide) (by decide) (by rw [hml]; rfl) (lenOf own_pd0 rfl) rfl rfl (Nat.le_of_eq rfl) (hb hby d3_74) ?_
        intro T1 L1 X1 e1 N1
        show Gl _ _ _ _ _ _ _ (T1.setTop (mkF m 77 #[.val (.ref a0_), .val (.int z1), .val (.int r)] [(.int (own_b (own_match cs z1 (5 : Int32))))]))
        by_cases hb77_2 : (own_match cs z1 (5 : Int32)) = true
        ·
          refine Gl.st (b := T1.setTop (mkF m 80 #[.val (.ref a0_), .val (.int z1), .val (.int r)] [])) (fun tq kq => XS.ifNo X1.here hx rfl (hb hby d3_77) rfl ((if0 _ _).trans (feq (x := own_b (own_match cs z1 (5 : Int32))) (y := (0 : Int32)) (own_bt hb77_2)).1) kq) ?_
          refine Gl.st (b := T1.setTop (mkF m 81 #[.val (.ref a0_), .val (.int z1), .val (.int r)] [(.int (5 : Int32))])) (fun tq kq => XS.iconst X1.here hx rfl (hb hby d3_80) kq) ?_
          refine Gl.st (b := T1.setTop (mkF m 82 #[.val (.ref a0_), .val (.int z1), .val (.int (5 : Int32))] [])) (fun tq kq => XS.istoreN X1.here hx rfl (hb hby d3_81) rfl (l' := #[.val (.ref a0_), .val (.int z1), .val (.int (5 : Int32))]) rfl kq) ?_
          have hq : (5 : Int32) = own_bd5 cs z1 := by
            rw [own_bd5]
            rw [if_pos ⟨hc68, hb77_2⟩]
          exact j82 T1 _ X1 e1 N1 _ hq
        ·
          refine Gl.st (b := T1.setTop (mkF m 82 #[.val (.ref a0_), .val (.int z1), .val (.int r)] [])) (fun tq kq => XS.ifYes X1.here hx rfl (pc0 := 77) (pc' := 82) rfl (hb hby d3_77) rfl ((if0 _ _).trans (teq (x := own_b (own_match cs z1 (5 : Int32))) (y := (0 : Int32)) (own_bf hb77_2)).1) (by decide) (by decide) kq) ?_
          have hq : r = own_bd5 cs z1 := by
            rw [own_bd5]
            rw [if_neg (fun q => hb77_2 q.2)]; exact hr
          exact j82 T1 _ X1 e1 N1 _ hq
      · -- hc68 False
        refine Gl.st (b := T_j66.setTop (mkF m 82 #[.val (.ref a0_), .val (.int z1), .val (.int r)] [])) (fun tq kq => XS.icmpYes X_j66.here hx rfl (pc0 := 68) (pc' := 82) rfl (hb hby d3_68) rfl (flt (x := (5 : Int32)) (y := z1) (fun q => hc68 (own_ltI.mp q))).2.1 (by decide) (by decide) kq) ?_
        have hq : r = own_bd5 cs z1 := by
          rw [own_bd5]
          rw [if_neg (fun q => hc68 q.1)]; exact hr
        exact j82 T_j66 _ X_j66 E_j66 N_j66 _ hq
    have j50 : ∀ (T_j50 : State) (L_j50 : List Loc), Stand p l e (⟨1, 0, 0, 14⟩ : Room) s m #[(.ref a0_), (.int z1)] below meth c T_j50 L_j50 0 0 → T_j50.heap = h0 → Fr n0 L_j50 → ∀ r : Int32, r = own_bd3 cs z1 → Gl p e below s (QP n0 h0 (.int (own_bd5 cs z1))) 0 0 (T_j50.setTop (mkF m 50 #[.val (.ref a0_), .val (.int z1), .val (.int r)] [])) := by
      intro T_j50 L_j50 X_j50 E_j50 N_j50 r hr
      show Gl _ _ _ _ _ _ _ (T_j50.setTop (mkF m 50 #[.val (.ref a0_), .val (.int z1), .val (.int r)] []))
      refine Gl.st (b := T_j50.setTop (mkF m 51 #[.val (.ref a0_), .val (.int z1), .val (.int r)] [(.int (4 : Int32))])) (fun tq kq => XS.iconst X_j50.here hx rfl (hb hby d3_50) kq) ?_
      refine Gl.st (b := T_j50.setTop (mkF m 52 #[.val (.ref a0_), .val (.int z1), .val (.int r)] [(.int z1), (.int (4 : Int32))])) (fun tq kq => XS.iloadN X_j50.here hx rfl (hb hby d3_51) rfl kq) ?_
      by_cases hc52 : 4 < z1.toInt
      · -- hc52 True
        refine Gl.st (b := T_j50.setTop (mkF m 55 #[.val (.ref a0_), .val (.int z1), .val (.int r)] [])) (fun tq kq => XS.icmpNo X_j50.here hx rfl (hb hby d3_52) rfl (tlt (x := (4 : Int32)) (y := z1) (own_ltI.mpr hc52)).2.1 kq) ?_
        refine Gl.st (b := T_j50.setTop (mkF m 56 #[.val (.ref a0_), .val (.int z1), .val (.int r)] [(.ref a0_)])) (fun tq kq => XS.aloadN X_j50.here hx rfl (hb hby d3_55) rfl rfl kq) ?_
        refine Gl.st (b := T_j50.setTop (mkF m 57 #[.val (.ref a0_), .val (.int z1), .val (.int r)] [(.int z1), (.ref a0_)])) (fun tq kq => XS.iloadN X_j50.here hx rfl (hb hby d3_56) rfl kq) ?_
        refine Gl.st (b := T_j50.setTop (mkF m 58 #[.val (.ref a0_), .val (.int z1), .val (.int r)] [(.int (4 : Int32)), (.int z1), (.ref a0_)])) (fun tq kq => XS.iconst X_j50.here hx rfl (hb hby d3_57) kq) ?_
        refine Gl.callP (W := 0) (argsL := [(.ref a0_), (.int z1), (.int (4 : Int32))]) (rest := []) (w := (.int (own_b (own_match cs z1 (4 : Int32))))) X_j50 hx hZ hown (hw _ (List.mem_of_getElem? (i := 13) rfl)) (hw _ (List.mem_of_getElem? (i := 14) rfl)) (hw _ (List.mem_of_getElem? (i := 3) rfl)) (hw _ (List.mem_of_getElem? (i := 15) rfl)) (by decide) (rm2 l Z a0 hw [] a0_ z1 (4 : Int32) cs h0 n0 Z0 A hl (by omega) (by omega) hk3) (by decide) (by decide) E_j50 N_j50 (by decide) (by decide) (by rw [hml]; rfl) (lenOf own_pd0 rfl) rfl rfl (Nat.le_of_eq rfl) (hb hby d3_58) ?_
        intro T3 L3 X3 e3 N3
        show Gl _ _ _ _ _ _ _ (T3.setTop (mkF m 61 #[.val (.ref a0_), .val (.int z1), .val (.int r)] [(.int (own_b (own_match cs z1 (4 : Int32))))]))
        by_cases hb61_4 : (own_match cs z1 (4 : Int32)) = true
        ·
          refine Gl.st (b := T3.setTop (mkF m 64 #[.val (.ref a0_), .val (.int z1), .val (.int r)] [])) (fun tq kq => XS.ifNo X3.here hx rfl (hb hby d3_61) rfl ((if0 _ _).trans (feq (x := own_b (own_match cs z1 (4 : Int32))) (y := (0 : Int32)) (own_bt hb61_4)).1) kq) ?_
          refine Gl.st (b := T3.setTop (mkF m 65 #[.val (.ref a0_), .val (.int z1), .val (.int r)] [(.int (4 : Int32))])) (fun tq kq => XS.iconst X3.here hx rfl (hb hby d3_64) kq) ?_
          refine Gl.st (b := T3.setTop (mkF m 66 #[.val (.ref a0_), .val (.int z1), .val (.int (4 : Int32))] [])) (fun tq kq => XS.istoreN X3.here hx rfl (hb hby d3_65) rfl (l' := #[.val (.ref a0_), .val (.int z1), .val (.int (4 : Int32))]) rfl kq) ?_
          have hq : (4 : Int32) = own_bd4 cs z1 := by
            rw [own_bd4]
            rw [if_pos ⟨hc52, hb61_4⟩]
          exact j66 T3 _ X3 e3 N3 _ hq
        ·
          refine Gl.st (b := T3.setTop (mkF m 66 #[.val (.ref a0_), .val (.int z1), .val (.int r)] [])) (fun tq kq => XS.ifYes X3.here hx rfl (pc0 := 61) (pc' := 66) rfl (hb hby d3_61) rfl ((if0 _ _).trans (teq (x := own_b (own_match cs z1 (4 : Int32))) (y := (0 : Int32)) (own_bf hb61_4)).1) (by decide) (by decide) kq) ?_
          have hq : r = own_bd4 cs z1 := by
            rw [own_bd4]
            rw [if_neg (fun q => hb61_4 q.2)]; exact hr
          exact j66 T3 _ X3 e3 N3 _ hq
      · -- hc52 False
        refine Gl.st (b := T_j50.setTop (mkF m 66 #[.val (.ref a0_), .val (.int z1), .val (.int r)] [])) (fun tq kq => XS.icmpYes X_j50.here hx rfl (pc0 := 52) (pc' := 66) rfl (hb hby d3_52) rfl (flt (x := (4 : Int32)) (y := z1) (fun q => hc52 (own_ltI.mp q))).2.1 (by decide) (by decide) kq) ?_
        have hq : r = own_bd4 cs z1 := by
          rw [own_bd4]
          rw [if_neg (fun q => hc52 q.1)]; exact hr
        exact j66 T_j50 _ X_j50 E_j50 N_j50 _ hq
    have j34 : ∀ (T_j34 : State) (L_j34 : List Loc), Stand p l e (⟨1, 0, 0, 14⟩ : Room) s m #[(.ref a0_), (.int z1)] below meth c T_j34 L_j34 0 0 → T_j34.heap = h0 → Fr n0 L_j34 → ∀ r : Int32, r = own_bd2 cs z1 → Gl p e below s (QP n0 h0 (.int (own_bd5 cs z1))) 0 0 (T_j34.setTop (mkF m 34 #[.val (.ref a0_), .val (.int z1), .val (.int r)] [])) := by
      intro T_j34 L_j34 X_j34 E_j34 N_j34 r hr
      show Gl _ _ _ _ _ _ _ (T_j34.setTop (mkF m 34 #[.val (.ref a0_), .val (.int z1), .val (.int r)] []))
      refine Gl.st (b := T_j34.setTop (mkF m 35 #[.val (.ref a0_), .val (.int z1), .val (.int r)] [(.int (3 : Int32))])) (fun tq kq => XS.iconst X_j34.here hx rfl (hb hby d3_34) kq) ?_
      refine Gl.st (b := T_j34.setTop (mkF m 36 #[.val (.ref a0_), .val (.int z1), .val (.int r)] [(.int z1), (.int (3 : Int32))])) (fun tq kq => XS.iloadN X_j34.here hx rfl (hb hby d3_35) rfl kq) ?_
      by_cases hc36 : 3 < z1.toInt
      · -- hc36 True
        refine Gl.st (b := T_j34.setTop (mkF m 39 #[.val (.ref a0_), .val (.int z1), .val (.int r)] [])) (fun tq kq => XS.icmpNo X_j34.here hx rfl (hb hby d3_36) rfl (tlt (x := (3 : Int32)) (y := z1) (own_ltI.mpr hc36)).2.1 kq) ?_
        refine Gl.st (b := T_j34.setTop (mkF m 40 #[.val (.ref a0_), .val (.int z1), .val (.int r)] [(.ref a0_)])) (fun tq kq => XS.aloadN X_j34.here hx rfl (hb hby d3_39) rfl rfl kq) ?_
        refine Gl.st (b := T_j34.setTop (mkF m 41 #[.val (.ref a0_), .val (.int z1), .val (.int r)] [(.int z1), (.ref a0_)])) (fun tq kq => XS.iloadN X_j34.here hx rfl (hb hby d3_40) rfl kq) ?_
        refine Gl.st (b := T_j34.setTop (mkF m 42 #[.val (.ref a0_), .val (.int z1), .val (.int r)] [(.int (3 : Int32)), (.int z1), (.ref a0_)])) (fun tq kq => XS.iconst X_j34.here hx rfl (hb hby d3_41) kq) ?_
        refine Gl.callP (W := 0) (argsL := [(.ref a0_), (.int z1), (.int (3 : Int32))]) (rest := []) (w := (.int (own_b (own_match cs z1 (3 : Int32))))) X_j34 hx hZ hown (hw _ (List.mem_of_getElem? (i := 13) rfl)) (hw _ (List.mem_of_getElem? (i := 14) rfl)) (hw _ (List.mem_of_getElem? (i := 3) rfl)) (hw _ (List.mem_of_getElem? (i := 15) rfl)) (by decide) (rm2 l Z a0 hw [] a0_ z1 (3 : Int32) cs h0 n0 Z0 A hl (by omega) (by omega) hk3) (by decide) (by decide) E_j34 N_j34 (by decide) (by decide) (by rw [hml]; rfl) (lenOf own_pd0 rfl) rfl rfl (Nat.le_of_eq rfl) (hb hby d3_42) ?_
        intro T5 L5 X5 e5 N5
        show Gl _ _ _ _ _ _ _ (T5.setTop (mkF m 45 #[.val (.ref a0_), .val (.int z1), .val (.int r)] [(.int (own_b (own_match cs z1 (3 : Int32))))]))
        by_cases hb45_6 : (own_match cs z1 (3 : Int32)) = true
        ·
          refine Gl.st (b := T5.setTop (mkF m 48 #[.val (.ref a0_), .val (.int z1), .val (.int r)] [])) (fun tq kq => XS.ifNo X5.here hx rfl (hb hby d3_45) rfl ((if0 _ _).trans (feq (x := own_b (own_match cs z1 (3 : Int32))) (y := (0 : Int32)) (own_bt hb45_6)).1) kq) ?_
          refine Gl.st (b := T5.setTop (mkF m 49 #[.val (.ref a0_), .val (.int z1), .val (.int r)] [(.int (3 : Int32))])) (fun tq kq => XS.iconst X5.here hx rfl (hb hby d3_48) kq) ?_
          refine Gl.st (b := T5.setTop (mkF m 50 #[.val (.ref a0_), .val (.int z1), .val (.int (3 : Int32))] [])) (fun tq kq => XS.istoreN X5.here hx rfl (hb hby d3_49) rfl (l' := #[.val (.ref a0_), .val (.int z1), .val (.int (3 : Int32))]) rfl kq) ?_
          have hq : (3 : Int32) = own_bd3 cs z1 := by
            rw [own_bd3]
            rw [if_pos ⟨hc36, hb45_6⟩]
          exact j50 T5 _ X5 e5 N5 _ hq
        ·
          refine Gl.st (b := T5.setTop (mkF m 50 #[.val (.ref a0_), .val (.int z1), .val (.int r)] [])) (fun tq kq => XS.ifYes X5.here hx rfl (pc0 := 45) (pc' := 50) rfl (hb hby d3_45) rfl ((if0 _ _).trans (teq (x := own_b (own_match cs z1 (3 : Int32))) (y := (0 : Int32)) (own_bf hb45_6)).1) (by decide) (by decide) kq) ?_
          have hq : r = own_bd3 cs z1 := by
            rw [own_bd3]
            rw [if_neg (fun q => hb45_6 q.2)]; exact hr
          exact j50 T5 _ X5 e5 N5 _ hq
      · -- hc36 False
        refine Gl.st (b := T_j34.setTop (mkF m 50 #[.val (.ref a0_), .val (.int z1), .val (.int r)] [])) (fun tq kq => XS.icmpYes X_j34.here hx rfl (pc0 := 36) (pc' := 50) rfl (hb hby d3_36) rfl (flt (x := (3 : Int32)) (y := z1) (fun q => hc36 (own_ltI.mp q))).2.1 (by decide) (by decide) kq) ?_
        have hq : r = own_bd3 cs z1 := by
          rw [own_bd3]
          rw [if_neg (fun q => hc36 q.1)]; exact hr
        exact j50 T_j34 _ X_j34 E_j34 N_j34 _ hq
    have j18 : ∀ (T_j18 : State) (L_j18 : List Loc), Stand p l e (⟨1, 0, 0, 14⟩ : Room) s m #[(.ref a0_), (.int z1)] below meth c T_j18 L_j18 0 0 → T_j18.heap = h0 → Fr n0 L_j18 → ∀ r : Int32, r = own_bd1 cs z1 → Gl p e below s (QP n0 h0 (.int (own_bd5 cs z1))) 0 0 (T_j18.setTop (mkF m 18 #[.val (.ref a0_), .val (.int z1), .val (.int r)] [])) := by
      intro T_j18 L_j18 X_j18 E_j18 N_j18 r hr
      show Gl _ _ _ _ _ _ _ (T_j18.setTop (mkF m 18 #[.val (.ref a0_), .val (.int z1), .val (.int r)] []))
      refine Gl.st (b := T_j18.setTop (mkF m 19 #[.val (.ref a0_), .val (.int z1), .val (.int r)] [(.int (2 : Int32))])) (fun tq kq => XS.iconst X_j18.here hx rfl (hb hby d3_18) kq) ?_
      refine Gl.st (b := T_j18.setTop (mkF m 20 #[.val (.ref a0_), .val (.int z1), .val (.int r)] [(.int z1), (.int (2 : Int32))])) (fun tq kq => XS.iloadN X_j18.here hx rfl (hb hby d3_19) rfl kq) ?_
      by_cases hc20 : 2 < z1.toInt
      · -- hc20 True
        refine Gl.st (b := T_j18.setTop (mkF m 23 #[.val (.ref a0_), .val (.int z1), .val (.int r)] [])) (fun tq kq => XS.icmpNo X_j18.here hx rfl (hb hby d3_20) rfl (tlt (x := (2 : Int32)) (y := z1) (own_ltI.mpr hc20)).2.1 kq) ?_
        refine Gl.st (b := T_j18.setTop (mkF m 24 #[.val (.ref a0_), .val (.int z1), .val (.int r)] [(.ref a0_)])) (fun tq kq => XS.aloadN X_j18.here hx rfl (hb hby d3_23) rfl rfl kq) ?_
        refine Gl.st (b := T_j18.setTop (mkF m 25 #[.val (.ref a0_), .val (.int z1), .val (.int r)] [(.int z1), (.ref a0_)])) (fun tq kq => XS.iloadN X_j18.here hx rfl (hb hby d3_24) rfl kq) ?_
        refine Gl.st (b := T_j18.setTop (mkF m 26 #[.val (.ref a0_), .val (.int z1), .val (.int r)] [(.int (2 : Int32)), (.int z1), (.ref a0_)])) (fun tq kq => XS.iconst X_j18.here hx rfl (hb hby d3_25) kq) ?_
        refine Gl.callP (W := 0) (argsL := [(.ref a0_), (.int z1), (.int (2 : Int32))]) (rest := []) (w := (.int (own_b (own_match cs z1 (2 : Int32))))) X_j18 hx hZ hown (hw _ (List.mem_of_getElem? (i := 13) rfl)) (hw _ (List.mem_of_getElem? (i := 14) rfl)) (hw _ (List.mem_of_getElem? (i := 3) rfl)) (hw _ (List.mem_of_getElem? (i := 15) rfl)) (by decide) (rm2 l Z a0 hw [] a0_ z1 (2 : Int32) cs h0 n0 Z0 A hl (by omega) (by omega) hk3) (by decide) (by decide) E_j18 N_j18 (by decide) (by decide) (by rw [hml]; rfl) (lenOf own_pd0 rfl) rfl rfl (Nat.le_of_eq rfl) (hb hby d3_26) ?_
        intro T7 L7 X7 e7 N7
        show Gl _ _ _ _ _ _ _ (T7.setTop (mkF m 29 #[.val (.ref a0_), .val (.int z1), .val (.int r)] [(.int (own_b (own_match cs z1 (2 : Int32))))]))
        by_cases hb29_8 : (own_match cs z1 (2 : Int32)) = true
        ·
          refine Gl.st (b := T7.setTop (mkF m 32 #[.val (.ref a0_), .val (.int z1), .val (.int r)] [])) (fun tq kq => XS.ifNo X7.here hx rfl (hb hby d3_29) rfl ((if0 _ _).trans (feq (x := own_b (own_match cs z1 (2 : Int32))) (y := (0 : Int32)) (own_bt hb29_8)).1) kq) ?_
          refine Gl.st (b := T7.setTop (mkF m 33 #[.val (.ref a0_), .val (.int z1), .val (.int r)] [(.int (2 : Int32))])) (fun tq kq => XS.iconst X7.here hx rfl (hb hby d3_32) kq) ?_
          refine Gl.st (b := T7.setTop (mkF m 34 #[.val (.ref a0_), .val (.int z1), .val (.int (2 : Int32))] [])) (fun tq kq => XS.istoreN X7.here hx rfl (hb hby d3_33) rfl (l' := #[.val (.ref a0_), .val (.int z1), .val (.int (2 : Int32))]) rfl kq) ?_
          have hq : (2 : Int32) = own_bd2 cs z1 := by
            rw [own_bd2]
            rw [if_pos ⟨hc20, hb29_8⟩]
          exact j34 T7 _ X7 e7 N7 _ hq
        ·
          refine Gl.st (b := T7.setTop (mkF m 34 #[.val (.ref a0_), .val (.int z1), .val (.int r)] [])) (fun tq kq => XS.ifYes X7.here hx rfl (pc0 := 29) (pc' := 34) rfl (hb hby d3_29) rfl ((if0 _ _).trans (teq (x := own_b (own_match cs z1 (2 : Int32))) (y := (0 : Int32)) (own_bf hb29_8)).1) (by decide) (by decide) kq) ?_
          have hq : r = own_bd2 cs z1 := by
            rw [own_bd2]
            rw [if_neg (fun q => hb29_8 q.2)]; exact hr
          exact j34 T7 _ X7 e7 N7 _ hq
      · -- hc20 False
        refine Gl.st (b := T_j18.setTop (mkF m 34 #[.val (.ref a0_), .val (.int z1), .val (.int r)] [])) (fun tq kq => XS.icmpYes X_j18.here hx rfl (pc0 := 20) (pc' := 34) rfl (hb hby d3_20) rfl (flt (x := (2 : Int32)) (y := z1) (fun q => hc20 (own_ltI.mp q))).2.1 (by decide) (by decide) kq) ?_
        have hq : r = own_bd2 cs z1 := by
          rw [own_bd2]
          rw [if_neg (fun q => hc20 q.1)]; exact hr
        exact j34 T_j18 _ X_j18 E_j18 N_j18 _ hq
    refine Gl.st (b := s₁.setTop (mkF m 1 #[.val (.ref a0_), .val (.int z1), .unset] [(.int (0 : Int32))])) (fun tq kq => XS.iconst X0.here hx rfl (hb hby d3_0) kq) ?_
    refine Gl.st (b := s₁.setTop (mkF m 2 #[.val (.ref a0_), .val (.int z1), .val (.int (0 : Int32))] [])) (fun tq kq => XS.istoreN X0.here hx rfl (hb hby d3_1) rfl (l' := #[.val (.ref a0_), .val (.int z1), .val (.int (0 : Int32))]) rfl kq) ?_
    refine Gl.st (b := s₁.setTop (mkF m 3 #[.val (.ref a0_), .val (.int z1), .val (.int (0 : Int32))] [(.int (1 : Int32))])) (fun tq kq => XS.iconst X0.here hx rfl (hb hby d3_2) kq) ?_
    refine Gl.st (b := s₁.setTop (mkF m 4 #[.val (.ref a0_), .val (.int z1), .val (.int (0 : Int32))] [(.int z1), (.int (1 : Int32))])) (fun tq kq => XS.iloadN X0.here hx rfl (hb hby d3_3) rfl kq) ?_
    by_cases hc4 : 1 < z1.toInt
    · -- hc4 True
      refine Gl.st (b := s₁.setTop (mkF m 7 #[.val (.ref a0_), .val (.int z1), .val (.int (0 : Int32))] [])) (fun tq kq => XS.icmpNo X0.here hx rfl (hb hby d3_4) rfl (tlt (x := (1 : Int32)) (y := z1) (own_ltI.mpr hc4)).2.1 kq) ?_
      refine Gl.st (b := s₁.setTop (mkF m 8 #[.val (.ref a0_), .val (.int z1), .val (.int (0 : Int32))] [(.ref a0_)])) (fun tq kq => XS.aloadN X0.here hx rfl (hb hby d3_7) rfl rfl kq) ?_
      refine Gl.st (b := s₁.setTop (mkF m 9 #[.val (.ref a0_), .val (.int z1), .val (.int (0 : Int32))] [(.int z1), (.ref a0_)])) (fun tq kq => XS.iloadN X0.here hx rfl (hb hby d3_8) rfl kq) ?_
      refine Gl.st (b := s₁.setTop (mkF m 10 #[.val (.ref a0_), .val (.int z1), .val (.int (0 : Int32))] [(.int (1 : Int32)), (.int z1), (.ref a0_)])) (fun tq kq => XS.iconst X0.here hx rfl (hb hby d3_9) kq) ?_
      refine Gl.callP (W := 0) (argsL := [(.ref a0_), (.int z1), (.int (1 : Int32))]) (rest := []) (w := (.int (own_b (own_match cs z1 (1 : Int32))))) X0 hx hZ hown (hw _ (List.mem_of_getElem? (i := 13) rfl)) (hw _ (List.mem_of_getElem? (i := 14) rfl)) (hw _ (List.mem_of_getElem? (i := 3) rfl)) (hw _ (List.mem_of_getElem? (i := 15) rfl)) (by decide) (rm2 l Z a0 hw [] a0_ z1 (1 : Int32) cs h0 n0 Z0 A hl (by omega) (by omega) hk3) (by decide) (by decide) e0 N0 (by decide) (by decide) (by rw [hml]; rfl) (lenOf own_pd0 rfl) rfl rfl (Nat.le_of_eq rfl) (hb hby d3_10) ?_
      intro T9 L9 X9 e9 N9
      show Gl _ _ _ _ _ _ _ (T9.setTop (mkF m 13 #[.val (.ref a0_), .val (.int z1), .val (.int (0 : Int32))] [(.int (own_b (own_match cs z1 (1 : Int32))))]))
      by_cases hb13_10 : (own_match cs z1 (1 : Int32)) = true
      ·
        refine Gl.st (b := T9.setTop (mkF m 16 #[.val (.ref a0_), .val (.int z1), .val (.int (0 : Int32))] [])) (fun tq kq => XS.ifNo X9.here hx rfl (hb hby d3_13) rfl ((if0 _ _).trans (feq (x := own_b (own_match cs z1 (1 : Int32))) (y := (0 : Int32)) (own_bt hb13_10)).1) kq) ?_
        refine Gl.st (b := T9.setTop (mkF m 17 #[.val (.ref a0_), .val (.int z1), .val (.int (0 : Int32))] [(.int (1 : Int32))])) (fun tq kq => XS.iconst X9.here hx rfl (hb hby d3_16) kq) ?_
        refine Gl.st (b := T9.setTop (mkF m 18 #[.val (.ref a0_), .val (.int z1), .val (.int (1 : Int32))] [])) (fun tq kq => XS.istoreN X9.here hx rfl (hb hby d3_17) rfl (l' := #[.val (.ref a0_), .val (.int z1), .val (.int (1 : Int32))]) rfl kq) ?_
        have hq : (1 : Int32) = own_bd1 cs z1 := by
          rw [own_bd1]
          rw [if_pos ⟨hc4, hb13_10⟩]
        exact j18 T9 _ X9 e9 N9 _ hq
      ·
        refine Gl.st (b := T9.setTop (mkF m 18 #[.val (.ref a0_), .val (.int z1), .val (.int (0 : Int32))] [])) (fun tq kq => XS.ifYes X9.here hx rfl (pc0 := 13) (pc' := 18) rfl (hb hby d3_13) rfl ((if0 _ _).trans (teq (x := own_b (own_match cs z1 (1 : Int32))) (y := (0 : Int32)) (own_bf hb13_10)).1) (by decide) (by decide) kq) ?_
        have hq : (0 : Int32) = own_bd1 cs z1 := by
          rw [own_bd1]
          rw [if_neg (fun q => hb13_10 q.2)]; rfl
        exact j18 T9 _ X9 e9 N9 _ hq
    · -- hc4 False
      refine Gl.st (b := s₁.setTop (mkF m 18 #[.val (.ref a0_), .val (.int z1), .val (.int (0 : Int32))] [])) (fun tq kq => XS.icmpYes X0.here hx rfl (pc0 := 4) (pc' := 18) rfl (hb hby d3_4) rfl (flt (x := (1 : Int32)) (y := z1) (fun q => hc4 (own_ltI.mp q))).2.1 (by decide) (by decide) kq) ?_
      have hq : (0 : Int32) = own_bd1 cs z1 := by
        rw [own_bd1]
        rw [if_neg (fun q => hc4 q.1)]; rfl
      exact j18 s₁ _ X0 e0 N0 _ hq
  exact GOAL
theorem d4_0 : decode prog_4_method_5_code 0 = .ok (.aload_n 0, 1) := by decide +kernel
theorem d4_1 : decode prog_4_method_5_code 1 = .ok (.arraylength, 1) := by decide +kernel
theorem d4_2 : decode prog_4_method_5_code 2 = .ok (.newarray .int, 2) := by decide +kernel
theorem d4_4 : decode prog_4_method_5_code 4 = .ok (.astore_n 1, 1) := by decide +kernel
theorem d4_5 : decode prog_4_method_5_code 5 = .ok (.iconst 1, 1) := by decide +kernel
theorem d4_6 : decode prog_4_method_5_code 6 = .ok (.istore_n 2, 1) := by decide +kernel
theorem d4_7 : decode prog_4_method_5_code 7 = .ok (.iload_n 2, 1) := by decide +kernel
theorem d4_8 : decode prog_4_method_5_code 8 = .ok (.aload_n 0, 1) := by decide +kernel
theorem d4_9 : decode prog_4_method_5_code 9 = .ok (.arraylength, 1) := by decide +kernel
theorem d4_10 : decode prog_4_method_5_code 10 = .ok (.if_icmp .ge 60, 3) := by decide +kernel
theorem d4_13 : decode prog_4_method_5_code 13 = .ok (.aload_n 0, 1) := by decide +kernel
theorem d4_14 : decode prog_4_method_5_code 14 = .ok (.iload_n 2, 1) := by decide +kernel
theorem d4_15 : decode prog_4_method_5_code 15 = .ok (.caload, 1) := by decide +kernel
theorem d4_16 : decode prog_4_method_5_code 16 = .ok (.istore_n 3, 1) := by decide +kernel
theorem d4_17 : decode prog_4_method_5_code 17 = .ok (.aload_n 1, 1) := by decide +kernel
theorem d4_18 : decode prog_4_method_5_code 18 = .ok (.iload_n 2, 1) := by decide +kernel
theorem d4_19 : decode prog_4_method_5_code 19 = .ok (.iconst 1, 1) := by decide +kernel
theorem d4_20 : decode prog_4_method_5_code 20 = .ok (.isub, 1) := by decide +kernel
theorem d4_21 : decode prog_4_method_5_code 21 = .ok (.iaload, 1) := by decide +kernel
theorem d4_22 : decode prog_4_method_5_code 22 = .ok (.istore 4, 2) := by decide +kernel
theorem d4_24 : decode prog_4_method_5_code 24 = .ok (.iload 4, 2) := by decide +kernel
theorem d4_26 : decode prog_4_method_5_code 26 = .ok (.ifCond .le 22, 3) := by decide +kernel
theorem d4_29 : decode prog_4_method_5_code 29 = .ok (.aload_n 0, 1) := by decide +kernel
theorem d4_30 : decode prog_4_method_5_code 30 = .ok (.iload 4, 2) := by decide +kernel
theorem d4_32 : decode prog_4_method_5_code 32 = .ok (.caload, 1) := by decide +kernel
theorem d4_33 : decode prog_4_method_5_code 33 = .ok (.iload_n 3, 1) := by decide +kernel
theorem d4_34 : decode prog_4_method_5_code 34 = .ok (.if_icmp .eq 14, 3) := by decide +kernel
theorem d4_37 : decode prog_4_method_5_code 37 = .ok (.aload_n 1, 1) := by decide +kernel
theorem d4_38 : decode prog_4_method_5_code 38 = .ok (.iload 4, 2) := by decide +kernel
theorem d4_40 : decode prog_4_method_5_code 40 = .ok (.iconst 1, 1) := by decide +kernel
theorem d4_41 : decode prog_4_method_5_code 41 = .ok (.isub, 1) := by decide +kernel
theorem d4_42 : decode prog_4_method_5_code 42 = .ok (.iaload, 1) := by decide +kernel
theorem d4_43 : decode prog_4_method_5_code 43 = .ok (.istore 4, 2) := by decide +kernel
theorem d4_45 : decode prog_4_method_5_code 45 = .ok (.goto (-21), 3) := by decide +kernel
theorem d4_48 : decode prog_4_method_5_code 48 = .ok (.aload_n 0, 1) := by decide +kernel
theorem d4_49 : decode prog_4_method_5_code 49 = .ok (.iload 4, 2) := by decide +kernel
theorem d4_51 : decode prog_4_method_5_code 51 = .ok (.caload, 1) := by decide +kernel
theorem d4_52 : decode prog_4_method_5_code 52 = .ok (.iload_n 3, 1) := by decide +kernel
theorem d4_53 : decode prog_4_method_5_code 53 = .ok (.if_icmp .ne 6, 3) := by decide +kernel
theorem d4_56 : decode prog_4_method_5_code 56 = .ok (.iinc 4 1, 3) := by decide +kernel
theorem d4_59 : decode prog_4_method_5_code 59 = .ok (.aload_n 1, 1) := by decide +kernel
theorem d4_60 : decode prog_4_method_5_code 60 = .ok (.iload_n 2, 1) := by decide +kernel
theorem d4_61 : decode prog_4_method_5_code 61 = .ok (.iload 4, 2) := by decide +kernel
theorem d4_63 : decode prog_4_method_5_code 63 = .ok (.iastore, 1) := by decide +kernel
theorem d4_64 : decode prog_4_method_5_code 64 = .ok (.iinc 2 1, 3) := by decide +kernel
theorem d4_67 : decode prog_4_method_5_code 67 = .ok (.goto (-60), 3) := by decide +kernel
theorem d4_70 : decode prog_4_method_5_code 70 = .ok (.aload_n 1, 1) := by decide +kernel
theorem d4_71 : decode prog_4_method_5_code 71 = .ok (.areturn, 1) := by decide +kernel
theorem ef4 (m : MethodId) (a0_ : Addr) : entryFrame m #[(.ref a0_)] 5 = mkF m 0 #[.val (.ref a0_), .unset, .unset, .unset, .unset] [] := by first | (simp [entryFrame, mkF, argsToLocals, Value.category]; done) | rfl
set_option maxRecDepth 65536 in
set_option maxHeartbeats 40000000 in
theorem rm4 (l : Launch) (Z : State) (a0 : Array Value) (hw : ∀ d ∈ tables_1, d.before a0 Z = true) (ws : List Jvm.Cond) (a0_ : Addr) (cs : List Int32) (h0 : Heap) (n0 : Nat) (Z0 : n0 ≤ h0.size) (A : Ar Z h0 a0_ .char (cs.map Value.int)) (hl : cs.length = 6) :
    MetFree l (⟨"com/example/libstrand/libstrand/Borders", "lengthsOf", "([C)[I"⟩ : MethodName) (head1 (Jvm.Cond.code (⟨"com/example/libstrand/libstrand/Borders", "lengthsOf", "([C)[I"⟩ : MethodName) prog_4_method_5_code 5 (some (.array .int)) :: ws) (⟨0, 1, 6, 0⟩ : Room)) (fun a U => a = #[(.ref a0_)] ∧ Z.Warmed39 U.vm ∧ U.heap = h0) (fun _ _ _ _ _ => True) (fun _ U o U' => ∃ v L, o = .returned v ∧ QB Z a0_ cs n0 h0 v U'.heap L ∧ FrameEnd U o U' L 1 6) := by
  refine MetFree.of_bodySF (plainFor_of_name own_pn1) hisR ?_
  intro p e s m args below meth c s₁ Bd hml0 hP hK
  obtain ⟨rfl, hZ, hh⟩ := hP
  have hx := Bd.exec
  have hby := Bd.bytes
  have hml : c.maxLocals = 5 := hml0
  have hown : s.vm.findClass "com/example/libstrand/libstrand/Borders" = some m.cls := findClass_of_methodNamed Bd.named
  have hnm := (name_of_methodNamed Bd.named Bd.method).1
  have hlk : meth.locks = false := Bd.notSynchronized
  have hret := Bd.returns
  have X0 : Stand p l e (⟨0, 1, 6, 0⟩ : Room) s m #[(.ref a0_)] below meth c s₁ [] 0 0 := Stand.of_body Bd
  have e0 : s₁.heap = h0 := by rw [← hh, Bd.state]; rfl
  have N0 := Fr.nil n0
  have GOAL : Gl p e below s (QB Z a0_ cs n0 h0) 1 6 (s₁.setTop (entryFrame m #[(.ref a0_)] 5)) := by
    refine Gl.cast (ef4 m a0_) ?_
    have k1 : (1 : Int32).toInt = 1 := by decide
    refine Gl.st (b := s₁.setTop (mkF m 1 #[.val (.ref a0_), .unset, .unset, .unset, .unset] [(.ref a0_)])) (fun tq kq => XS.aloadN X0.here hx rfl (hb hby d4_0) rfl rfl kq) ?_
    refine Gl.alen (z := (6 : Int32)) X0 hx hZ e0 A (by rw [List.length_map, hl]; rfl) (hb hby d4_1) ?_
    show Gl _ _ _ _ _ _ _ (s₁.setTop (mkF m 2 #[.val (.ref a0_), .unset, .unset, .unset, .unset] [(.int (6 : Int32))]))
    refine Gl.newA (k := 6) (cap := 6) X0 hx hZ (hw _ (List.mem_of_getElem? (i := 9) rfl)) e0 rfl (by decide) (by decide) (by decide) (by decide) (hb hby d4_2) ?_
    intro T1 h1 b1 g1 X1 e1 E1 A1
    have AA1 : Ar Z h1 b1 .int [(.int (0 : Int32)), (.int (0 : Int32)), (.int (0 : Int32)), (.int (0 : Int32)), (.int (0 : Int32)), (.int (0 : Int32))] := A1
    have ne_a0__b1 : a0_ ≠ b1 := Nat.ne_of_lt (Nat.lt_of_lt_of_le A.lt (Nat.le_of_eq g1.symm))
    have G_b1 : n0 ≤ b1 := Nat.le_trans Z0 (Nat.le_of_eq g1.symm)
    have Z_1 : n0 ≤ h1.size := Nat.le_trans Z0 E1.1
    have A_a0__1 := A.ext E1
    show Gl _ _ _ _ _ _ _ (T1.setTop (mkF m 4 #[.val (.ref a0_), .unset, .unset, .unset, .unset] [(.ref b1)]))
    refine Gl.st (b := T1.setTop (mkF m 5 #[.val (.ref a0_), .val (.ref b1), .unset, .unset, .unset] [])) (fun tq kq => XS.astoreN X1.here hx rfl (hb hby d4_4) rfl rfl (l' := #[.val (.ref a0_), .val (.ref b1), .unset, .unset, .unset]) rfl kq) ?_
    refine Gl.st (b := T1.setTop (mkF m 6 #[.val (.ref a0_), .val (.ref b1), .unset, .unset, .unset] [(.int (1 : Int32))])) (fun tq kq => XS.iconst X1.here hx rfl (hb hby d4_5) kq) ?_
    refine Gl.st (b := T1.setTop (mkF m 7 #[.val (.ref a0_), .val (.ref b1), .val (.int (1 : Int32)), .unset, .unset] [])) (fun tq kq => XS.istoreN X1.here hx rfl (hb hby d4_6) rfl (l' := #[.val (.ref a0_), .val (.ref b1), .val (.int (1 : Int32)), .unset, .unset]) rfl kq) ?_
    have AR : Ar Z h1 b1 .int (((List.replicate 6 0).map Int32.ofNat).map Value.int) := AA1
    have S_b1 : h0.size ≤ b1 := Nat.le_of_eq g1.symm
    have loop : ∀ (n : Nat) (i : Nat) (rs : List Nat) (sl3 sl4 : Slot) (T_loop : State) (L_loop : List Loc) (H_loop : Heap), Stand p l e (⟨0, 1, 6, 0⟩ : Room) s m #[(.ref a0_)] below meth c T_loop L_loop 1 6 → T_loop.heap = H_loop → Fr n0 L_loop → Ar Z H_loop a0_ .char (cs.map Value.int) → Ar Z H_loop b1 .int ((rs.map Int32.ofNat).map Value.int) → Keep h0 H_loop [] → 6 - i ≤ n → 1 ≤ i → i ≤ 6 → rs.length = 6 → (∀ j : Nat, j < i → rs.getD j 0 ≤ j) → own_outer (own_e cs) (6 - i) i rs = own_kmp (own_e cs) → One sl3 → One sl4 → Gl p e below s (QB Z a0_ cs n0 h0) 1 6 (T_loop.setTop (mkF m 7 #[.val (.ref a0_), .val (.ref b1), .val (.int (Int32.ofNat i)), sl3, sl4] [])) := by
      intro n
      induction n with
      | zero =>
        intro i rs sl3 sl4 T_loop L_loop H_loop X_loop E_loop N_loop q0_loop q1_loop q2_loop h1 h2 h3 hrl hbd hfin hs3 hs4
        show Gl _ _ _ _ _ _ _ (T_loop.setTop (mkF m 7 #[.val (.ref a0_), .val (.ref b1), .val (.int (Int32.ofNat i)), sl3, sl4] []))
        have ui : (Int32.ofNat i).toInt = i := own_nat (by omega)
        have um : (Int32.ofNat i - (1 : Int32)).toInt = ((i - 1 : Nat) : Int) := by have a := c_isub (Int32.ofNat i) (1 : Int32); have b := rng32 (Int32.ofNat i - (1 : Int32)); omega
        refine Gl.st (b := T_loop.setTop (mkF m 8 #[.val (.ref a0_), .val (.ref b1), .val (.int (Int32.ofNat i)), sl3, sl4] [(.int (Int32.ofNat i))])) (fun tq kq => XS.iloadN X_loop.here hx rfl (hb hby d4_7) rfl kq) ?_
        refine Gl.st (b := T_loop.setTop (mkF m 9 #[.val (.ref a0_), .val (.ref b1), .val (.int (Int32.ofNat i)), sl3, sl4] [(.ref a0_), (.int (Int32.ofNat i))])) (fun tq kq => XS.aloadN X_loop.here hx rfl (hb hby d4_8) rfl rfl kq) ?_
        refine Gl.alen (z := (6 : Int32)) X_loop hx hZ E_loop q0_loop (by rw [List.length_map, hl]; rfl) (hb hby d4_9) ?_
        show Gl _ _ _ _ _ _ _ (T_loop.setTop (mkF m 10 #[.val (.ref a0_), .val (.ref b1), .val (.int (Int32.ofNat i)), sl3, sl4] [(.int (6 : Int32)), (.int (Int32.ofNat i))]))
        by_cases hc10 : (Int32.ofNat i).toInt < 6
        · -- hc10 True
          refine Gl.st (b := T_loop.setTop (mkF m 13 #[.val (.ref a0_), .val (.ref b1), .val (.int (Int32.ofNat i)), sl3, sl4] [])) (fun tq kq => XS.icmpNo X_loop.here hx rfl (hb hby d4_10) rfl (tlt (x := (Int32.ofNat i)) (y := (6 : Int32)) (own_ltI.mpr hc10)).2.1 kq) ?_
          refine Gl.st (b := T_loop.setTop (mkF m 14 #[.val (.ref a0_), .val (.ref b1), .val (.int (Int32.ofNat i)), sl3, sl4] [(.ref a0_)])) (fun tq kq => XS.aloadN X_loop.here hx rfl (hb hby d4_13) rfl rfl kq) ?_
          refine Gl.st (b := T_loop.setTop (mkF m 15 #[.val (.ref a0_), .val (.ref b1), .val (.int (Int32.ofNat i)), sl3, sl4] [(.int (Int32.ofNat i)), (.ref a0_)])) (fun tq kq => XS.iloadN X_loop.here hx rfl (hb hby d4_14) rfl kq) ?_
          refine Gl.caload (k := i) (v := (.int (cs.getD i 0))) X_loop hx hZ E_loop q0_loop (own_nat (by omega)) (own_get (by omega)) (hb hby d4_15) ?_
          show Gl _ _ _ _ _ _ _ (T_loop.setTop (mkF m 16 #[.val (.ref a0_), .val (.ref b1), .val (.int (Int32.ofNat i)), sl3, sl4] [(.int (cs.getD i 0))]))
          refine Gl.st (b := T_loop.setTop (mkF m 17 #[.val (.ref a0_), .val (.ref b1), .val (.int (Int32.ofNat i)), .val (.int (cs.getD i 0)), sl4] [])) (fun tq kq => XS.istoreNS X_loop.here hx rfl (hb hby d4_16) rfl rfl hs3 kq) ?_
          refine Gl.st (b := T_loop.setTop (mkF m 18 #[.val (.ref a0_), .val (.ref b1), .val (.int (Int32.ofNat i)), .val (.int (cs.getD i 0)), sl4] [(.ref b1)])) (fun tq kq => XS.aloadN X_loop.here hx rfl (hb hby d4_17) rfl rfl kq) ?_
          refine Gl.st (b := T_loop.setTop (mkF m 19 #[.val (.ref a0_), .val (.ref b1), .val (.int (Int32.ofNat i)), .val (.int (cs.getD i 0)), sl4] [(.int (Int32.ofNat i)), (.ref b1)])) (fun tq kq => XS.iloadN X_loop.here hx rfl (hb hby d4_18) rfl kq) ?_
          refine Gl.st (b := T_loop.setTop (mkF m 20 #[.val (.ref a0_), .val (.ref b1), .val (.int (Int32.ofNat i)), .val (.int (cs.getD i 0)), sl4] [(.int (1 : Int32)), (.int (Int32.ofNat i)), (.ref b1)])) (fun tq kq => XS.iconst X_loop.here hx rfl (hb hby d4_19) kq) ?_
          refine Gl.st (b := T_loop.setTop (mkF m 21 #[.val (.ref a0_), .val (.ref b1), .val (.int (Int32.ofNat i)), .val (.int (cs.getD i 0)), sl4] [(.int ((Int32.ofNat i) - (1 : Int32))), (.ref b1)])) (fun tq kq => XS.isub X_loop.here hx rfl (hb hby d4_20) rfl kq) ?_
          refine Gl.iaload (k := (i - 1)) (v := (.int (Int32.ofNat (rs.getD (i - 1) 0)))) X_loop hx hZ E_loop q1_loop um (own_getR (by omega)) (hb hby d4_21) ?_
          show Gl _ _ _ _ _ _ _ (T_loop.setTop (mkF m 22 #[.val (.ref a0_), .val (.ref b1), .val (.int (Int32.ofNat i)), .val (.int (cs.getD i 0)), sl4] [(.int (Int32.ofNat (rs.getD (i - 1) 0)))]))
          refine Gl.st (b := T_loop.setTop (mkF m 24 #[.val (.ref a0_), .val (.ref b1), .val (.int (Int32.ofNat i)), .val (.int (cs.getD i 0)), .val (.int (Int32.ofNat (rs.getD (i - 1) 0)))] [])) (fun tq kq => XS.istoreS X_loop.here hx rfl (hb hby d4_22) rfl rfl hs4 kq) ?_
          obtain ⟨KF, hKF⟩ : ∃ q, q = own_inner (own_e cs) rs i i (rs.getD (i - 1) 0) := ⟨_, rfl⟩
          have j48 : ∀ k : Nat, k < i → k = KF → Gl p e below s (QB Z a0_ cs n0 h0) 1 6 (T_loop.setTop (mkF m 48 #[.val (.ref a0_), .val (.ref b1), .val (.int (Int32.ofNat i)), .val (.int (cs.getD i 0)), .val (.int (Int32.ofNat k))] [])) := by
            intro k hk hkf
            have uk : (Int32.ofNat k).toInt = k := own_nat (by omega)
            show Gl _ _ _ _ _ _ _ (T_loop.setTop (mkF m 48 #[.val (.ref a0_), .val (.ref b1), .val (.int (Int32.ofNat i)), .val (.int (cs.getD i 0)), .val (.int (Int32.ofNat k))] []))
            refine Gl.st (b := T_loop.setTop (mkF m 49 #[.val (.ref a0_), .val (.ref b1), .val (.int (Int32.ofNat i)), .val (.int (cs.getD i 0)), .val (.int (Int32.ofNat k))] [(.ref a0_)])) (fun tq kq => XS.aloadN X_loop.here hx rfl (hb hby d4_48) rfl rfl kq) ?_
            refine Gl.st (b := T_loop.setTop (mkF m 51 #[.val (.ref a0_), .val (.ref b1), .val (.int (Int32.ofNat i)), .val (.int (cs.getD i 0)), .val (.int (Int32.ofNat k))] [(.int (Int32.ofNat k)), (.ref a0_)])) (fun tq kq => XS.iload X_loop.here hx rfl (hb hby d4_49) rfl kq) ?_
            refine Gl.caload (k := k) (v := (.int (cs.getD k 0))) X_loop hx hZ E_loop q0_loop (own_nat (by omega)) (own_get (by omega)) (hb hby d4_51) ?_
            show Gl _ _ _ _ _ _ _ (T_loop.setTop (mkF m 52 #[.val (.ref a0_), .val (.ref b1), .val (.int (Int32.ofNat i)), .val (.int (cs.getD i 0)), .val (.int (Int32.ofNat k))] [(.int (cs.getD k 0))]))
            refine Gl.st (b := T_loop.setTop (mkF m 53 #[.val (.ref a0_), .val (.ref b1), .val (.int (Int32.ofNat i)), .val (.int (cs.getD i 0)), .val (.int (Int32.ofNat k))] [(.int (cs.getD i 0)), (.int (cs.getD k 0))])) (fun tq kq => XS.iloadN X_loop.here hx rfl (hb hby d4_52) rfl kq) ?_
            by_cases hc53 : (cs.getD k 0).toInt = (cs.getD i 0).toInt
            · -- hc53 True
              refine Gl.st (b := T_loop.setTop (mkF m 56 #[.val (.ref a0_), .val (.ref b1), .val (.int (Int32.ofNat i)), .val (.int (cs.getD i 0)), .val (.int (Int32.ofNat k))] [])) (fun tq kq => XS.icmpNo X_loop.here hx rfl (hb hby d4_53) rfl (teq (x := (cs.getD k 0)) (y := (cs.getD i 0)) (own_eqI.mpr hc53)).2 kq) ?_
              refine Gl.st (b := T_loop.setTop (mkF m 59 #[.val (.ref a0_), .val (.ref b1), .val (.int (Int32.ofNat i)), .val (.int (cs.getD i 0)), .val (.int ((Int32.ofNat k) + (1 : Int32)))] [])) (fun tq kq => XS.iinc X_loop.here hx rfl (hb hby d4_56) rfl (l' := #[.val (.ref a0_), .val (.ref b1), .val (.int (Int32.ofNat i)), .val (.int (cs.getD i 0)), .val (.int ((Int32.ofNat k) + (1 : Int32)))]) rfl kq) ?_
              have uk1 : Int32.ofNat k + (1 : Int32) = Int32.ofNat (k + 1) := own_ofs (by omega)
              rw [uk1]
              show Gl _ _ _ _ _ _ _ (T_loop.setTop (mkF m 59 #[.val (.ref a0_), .val (.ref b1), .val (.int (Int32.ofNat i)), .val (.int (cs.getD i 0)), .val (.int (Int32.ofNat (k + 1)))] []))
              refine Gl.st (b := T_loop.setTop (mkF m 60 #[.val (.ref a0_), .val (.ref b1), .val (.int (Int32.ofNat i)), .val (.int (cs.getD i 0)), .val (.int (Int32.ofNat (k + 1)))] [(.ref b1)])) (fun tq kq => XS.aloadN X_loop.here hx rfl (hb hby d4_59) rfl rfl kq) ?_
              refine Gl.st (b := T_loop.setTop (mkF m 61 #[.val (.ref a0_), .val (.ref b1), .val (.int (Int32.ofNat i)), .val (.int (cs.getD i 0)), .val (.int (Int32.ofNat (k + 1)))] [(.int (Int32.ofNat i)), (.ref b1)])) (fun tq kq => XS.iloadN X_loop.here hx rfl (hb hby d4_60) rfl kq) ?_
              refine Gl.st (b := T_loop.setTop (mkF m 63 #[.val (.ref a0_), .val (.ref b1), .val (.int (Int32.ofNat i)), .val (.int (cs.getD i 0)), .val (.int (Int32.ofNat (k + 1)))] [(.int (Int32.ofNat (k + 1))), (.int (Int32.ofNat i)), (.ref b1)])) (fun tq kq => XS.iload X_loop.here hx rfl (hb hby d4_61) rfl kq) ?_
              refine Gl.iastore (k := i) X_loop hx hZ E_loop q1_loop N_loop G_b1 ui (by rw [List.length_map, List.length_map, hrl]; omega) (hb hby d4_63) ?_
              intro T2 h2 L2 X2 e2 N2 W2 A2
              have AA2 := A2
              have A_a0__2 := q0_loop.other W2 ne_a0__b1
              have KK_2 := q2_loop.wr W2 (Or.inr S_b1)
              show Gl _ _ _ _ _ _ _ (T2.setTop (mkF m 64 #[.val (.ref a0_), .val (.ref b1), .val (.int (Int32.ofNat i)), .val (.int (cs.getD i 0)), .val (.int (Int32.ofNat (k + 1)))] []))
              refine Gl.st (b := T2.setTop (mkF m 67 #[.val (.ref a0_), .val (.ref b1), .val (.int ((Int32.ofNat i) + (1 : Int32))), .val (.int (cs.getD i 0)), .val (.int (Int32.ofNat (k + 1)))] [])) (fun tq kq => XS.iinc X2.here hx rfl (hb hby d4_64) rfl (l' := #[.val (.ref a0_), .val (.ref b1), .val (.int ((Int32.ofNat i) + (1 : Int32))), .val (.int (cs.getD i 0)), .val (.int (Int32.ofNat (k + 1)))]) rfl kq) ?_
              refine Gl.st (b := T2.setTop (mkF m 7 #[.val (.ref a0_), .val (.ref b1), .val (.int ((Int32.ofNat i) + (1 : Int32))), .val (.int (cs.getD i 0)), .val (.int (Int32.ofNat (k + 1)))] [])) (fun tq kq => XS.goto X2.here hx rfl (pc0 := 67) (pc' := 7) rfl (hb hby d4_67) (by decide) (by decide) kq) ?_
              exact absurd hc10 (by omega)
            · -- hc53 False
              refine Gl.st (b := T_loop.setTop (mkF m 59 #[.val (.ref a0_), .val (.ref b1), .val (.int (Int32.ofNat i)), .val (.int (cs.getD i 0)), .val (.int (Int32.ofNat k))] [])) (fun tq kq => XS.icmpYes X_loop.here hx rfl (pc0 := 53) (pc' := 59) rfl (hb hby d4_53) rfl (feq (x := (cs.getD k 0)) (y := (cs.getD i 0)) (fun q => hc53 (own_eqI.mp q))).2 (by decide) (by decide) kq) ?_
              refine Gl.st (b := T_loop.setTop (mkF m 60 #[.val (.ref a0_), .val (.ref b1), .val (.int (Int32.ofNat i)), .val (.int (cs.getD i 0)), .val (.int (Int32.ofNat k))] [(.ref b1)])) (fun tq kq => XS.aloadN X_loop.here hx rfl (hb hby d4_59) rfl rfl kq) ?_
              refine Gl.st (b := T_loop.setTop (mkF m 61 #[.val (.ref a0_), .val (.ref b1), .val (.int (Int32.ofNat i)), .val (.int (cs.getD i 0)), .val (.int (Int32.ofNat k))] [(.int (Int32.ofNat i)), (.ref b1)])) (fun tq kq => XS.iloadN X_loop.here hx rfl (hb hby d4_60) rfl kq) ?_
              refine Gl.st (b := T_loop.setTop (mkF m 63 #[.val (.ref a0_), .val (.ref b1), .val (.int (Int32.ofNat i)), .val (.int (cs.getD i 0)), .val (.int (Int32.ofNat k))] [(.int (Int32.ofNat k)), (.int (Int32.ofNat i)), (.ref b1)])) (fun tq kq => XS.iload X_loop.here hx rfl (hb hby d4_61) rfl kq) ?_
              refine Gl.iastore (k := i) X_loop hx hZ E_loop q1_loop N_loop G_b1 ui (by rw [List.length_map, List.length_map, hrl]; omega) (hb hby d4_63) ?_
              intro T3 h3 L3 X3 e3 N3 W3 A3
              have AA3 := A3
              have A_a0__3 := q0_loop.other W3 ne_a0__b1
              have KK_3 := q2_loop.wr W3 (Or.inr S_b1)
              show Gl _ _ _ _ _ _ _ (T3.setTop (mkF m 64 #[.val (.ref a0_), .val (.ref b1), .val (.int (Int32.ofNat i)), .val (.int (cs.getD i 0)), .val (.int (Int32.ofNat k))] []))
              refine Gl.st (b := T3.setTop (mkF m 67 #[.val (.ref a0_), .val (.ref b1), .val (.int ((Int32.ofNat i) + (1 : Int32))), .val (.int (cs.getD i 0)), .val (.int (Int32.ofNat k))] [])) (fun tq kq => XS.iinc X3.here hx rfl (hb hby d4_64) rfl (l' := #[.val (.ref a0_), .val (.ref b1), .val (.int ((Int32.ofNat i) + (1 : Int32))), .val (.int (cs.getD i 0)), .val (.int (Int32.ofNat k))]) rfl kq) ?_
              refine Gl.st (b := T3.setTop (mkF m 7 #[.val (.ref a0_), .val (.ref b1), .val (.int ((Int32.ofNat i) + (1 : Int32))), .val (.int (cs.getD i 0)), .val (.int (Int32.ofNat k))] [])) (fun tq kq => XS.goto X3.here hx rfl (pc0 := 67) (pc' := 7) rfl (hb hby d4_67) (by decide) (by decide) kq) ?_
              exact absurd hc10 (by omega)
          have inner : ∀ (f k : Nat), k ≤ f → k < i → own_inner (own_e cs) rs i f k = KF → Gl p e below s (QB Z a0_ cs n0 h0) 1 6 (T_loop.setTop (mkF m 24 #[.val (.ref a0_), .val (.ref b1), .val (.int (Int32.ofNat i)), .val (.int (cs.getD i 0)), .val (.int (Int32.ofNat k))] [])) := by
            intro f
            induction f with
            | zero =>
              intro k hkf hk hin
              have uk : (Int32.ofNat k).toInt = k := own_nat (by omega)
              have ukm : 0 < k → (Int32.ofNat k - (1 : Int32)).toInt = ((k - 1 : Nat) : Int) := by intro q; have a := c_isub (Int32.ofNat k) (1 : Int32); have b := rng32 (Int32.ofNat k - (1 : Int32)); omega
              show Gl _ _ _ _ _ _ _ (T_loop.setTop (mkF m 24 #[.val (.ref a0_), .val (.ref b1), .val (.int (Int32.ofNat i)), .val (.int (cs.getD i 0)), .val (.int (Int32.ofNat k))] []))
              refine Gl.st (b := T_loop.setTop (mkF m 26 #[.val (.ref a0_), .val (.ref b1), .val (.int (Int32.ofNat i)), .val (.int (cs.getD i 0)), .val (.int (Int32.ofNat k))] [(.int (Int32.ofNat k))])) (fun tq kq => XS.iload X_loop.here hx rfl (hb hby d4_24) rfl kq) ?_
              by_cases hc26 : 0 < (Int32.ofNat k).toInt
              · -- hc26 True
                refine Gl.st (b := T_loop.setTop (mkF m 29 #[.val (.ref a0_), .val (.ref b1), .val (.int (Int32.ofNat i)), .val (.int (cs.getD i 0)), .val (.int (Int32.ofNat k))] [])) (fun tq kq => XS.ifNo X_loop.here hx rfl (hb hby d4_26) rfl ((if0 _ _).trans (tlt (x := (0 : Int32)) (y := (Int32.ofNat k)) (own_ltI.mpr hc26)).2.2.2) kq) ?_
                refine Gl.st (b := T_loop.setTop (mkF m 30 #[.val (.ref a0_), .val (.ref b1), .val (.int (Int32.ofNat i)), .val (.int (cs.getD i 0)), .val (.int (Int32.ofNat k))] [(.ref a0_)])) (fun tq kq => XS.aloadN X_loop.here hx rfl (hb hby d4_29) rfl rfl kq) ?_
                refine Gl.st (b := T_loop.setTop (mkF m 32 #[.val (.ref a0_), .val (.ref b1), .val (.int (Int32.ofNat i)), .val (.int (cs.getD i 0)), .val (.int (Int32.ofNat k))] [(.int (Int32.ofNat k)), (.ref a0_)])) (fun tq kq => XS.iload X_loop.here hx rfl (hb hby d4_30) rfl kq) ?_
                refine Gl.caload (k := k) (v := (.int (cs.getD k 0))) X_loop hx hZ E_loop q0_loop (own_nat (by omega)) (own_get (by omega)) (hb hby d4_32) ?_
                show Gl _ _ _ _ _ _ _ (T_loop.setTop (mkF m 33 #[.val (.ref a0_), .val (.ref b1), .val (.int (Int32.ofNat i)), .val (.int (cs.getD i 0)), .val (.int (Int32.ofNat k))] [(.int (cs.getD k 0))]))
                refine Gl.st (b := T_loop.setTop (mkF m 34 #[.val (.ref a0_), .val (.ref b1), .val (.int (Int32.ofNat i)), .val (.int (cs.getD i 0)), .val (.int (Int32.ofNat k))] [(.int (cs.getD i 0)), (.int (cs.getD k 0))])) (fun tq kq => XS.iloadN X_loop.here hx rfl (hb hby d4_33) rfl kq) ?_
                by_cases hc34 : (cs.getD k 0).toInt = (cs.getD i 0).toInt
                · -- hc34 True
                  refine Gl.st (b := T_loop.setTop (mkF m 48 #[.val (.ref a0_), .val (.ref b1), .val (.int (Int32.ofNat i)), .val (.int (cs.getD i 0)), .val (.int (Int32.ofNat k))] [])) (fun tq kq => XS.icmpYes X_loop.here hx rfl (pc0 := 34) (pc' := 48) rfl (hb hby d4_34) rfl (teq (x := (cs.getD k 0)) (y := (cs.getD i 0)) (own_eqI.mpr hc34)).1 (by decide) (by decide) kq) ?_
                  exact j48 k hk (by rw [← hin]; rfl)
                · -- hc34 False
                  refine Gl.st (b := T_loop.setTop (mkF m 37 #[.val (.ref a0_), .val (.ref b1), .val (.int (Int32.ofNat i)), .val (.int (cs.getD i 0)), .val (.int (Int32.ofNat k))] [])) (fun tq kq => XS.icmpNo X_loop.here hx rfl (hb hby d4_34) rfl (feq (x := (cs.getD k 0)) (y := (cs.getD i 0)) (fun q => hc34 (own_eqI.mp q))).1 kq) ?_
                  refine Gl.st (b := T_loop.setTop (mkF m 38 #[.val (.ref a0_), .val (.ref b1), .val (.int (Int32.ofNat i)), .val (.int (cs.getD i 0)), .val (.int (Int32.ofNat k))] [(.ref b1)])) (fun tq kq => XS.aloadN X_loop.here hx rfl (hb hby d4_37) rfl rfl kq) ?_
                  refine Gl.st (b := T_loop.setTop (mkF m 40 #[.val (.ref a0_), .val (.ref b1), .val (.int (Int32.ofNat i)), .val (.int (cs.getD i 0)), .val (.int (Int32.ofNat k))] [(.int (Int32.ofNat k)), (.ref b1)])) (fun tq kq => XS.iload X_loop.here hx rfl (hb hby d4_38) rfl kq) ?_
                  refine Gl.st (b := T_loop.setTop (mkF m 41 #[.val (.ref a0_), .val (.ref b1), .val (.int (Int32.ofNat i)), .val (.int (cs.getD i 0)), .val (.int (Int32.ofNat k))] [(.int (1 : Int32)), (.int (Int32.ofNat k)), (.ref b1)])) (fun tq kq => XS.iconst X_loop.here hx rfl (hb hby d4_40) kq) ?_
                  refine Gl.st (b := T_loop.setTop (mkF m 42 #[.val (.ref a0_), .val (.ref b1), .val (.int (Int32.ofNat i)), .val (.int (cs.getD i 0)), .val (.int (Int32.ofNat k))] [(.int ((Int32.ofNat k) - (1 : Int32))), (.ref b1)])) (fun tq kq => XS.isub X_loop.here hx rfl (hb hby d4_41) rfl kq) ?_
                  refine Gl.iaload (k := (k - 1)) (v := (.int (Int32.ofNat (rs.getD (k - 1) 0)))) X_loop hx hZ E_loop q1_loop (ukm (by omega)) (own_getR (by omega)) (hb hby d4_42) ?_
                  show Gl _ _ _ _ _ _ _ (T_loop.setTop (mkF m 43 #[.val (.ref a0_), .val (.ref b1), .val (.int (Int32.ofNat i)), .val (.int (cs.getD i 0)), .val (.int (Int32.ofNat k))] [(.int (Int32.ofNat (rs.getD (k - 1) 0)))]))
                  refine Gl.st (b := T_loop.setTop (mkF m 45 #[.val (.ref a0_), .val (.ref b1), .val (.int (Int32.ofNat i)), .val (.int (cs.getD i 0)), .val (.int (Int32.ofNat (rs.getD (k - 1) 0)))] [])) (fun tq kq => XS.istore X_loop.here hx rfl (hb hby d4_43) rfl (l' := #[.val (.ref a0_), .val (.ref b1), .val (.int (Int32.ofNat i)), .val (.int (cs.getD i 0)), .val (.int (Int32.ofNat (rs.getD (k - 1) 0)))]) rfl kq) ?_
                  refine Gl.st (b := T_loop.setTop (mkF m 24 #[.val (.ref a0_), .val (.ref b1), .val (.int (Int32.ofNat i)), .val (.int (cs.getD i 0)), .val (.int (Int32.ofNat (rs.getD (k - 1) 0)))] [])) (fun tq kq => XS.goto X_loop.here hx rfl (pc0 := 45) (pc' := 24) rfl (hb hby d4_45) (by decide) (by decide) kq) ?_
                  exact absurd hc26 (by omega)
              · -- hc26 False
                refine Gl.st (b := T_loop.setTop (mkF m 48 #[.val (.ref a0_), .val (.ref b1), .val (.int (Int32.ofNat i)), .val (.int (cs.getD i 0)), .val (.int (Int32.ofNat k))] [])) (fun tq kq => XS.ifYes X_loop.here hx rfl (pc0 := 26) (pc' := 48) rfl (hb hby d4_26) rfl ((if0 _ _).trans (flt (x := (0 : Int32)) (y := (Int32.ofNat k)) (fun q => hc26 (own_ltI.mp q))).2.2.2) (by decide) (by decide) kq) ?_
                exact j48 k hk (by rw [← hin]; rfl)
            | succ f ihf =>
              intro k hkf hk hin
              have uk : (Int32.ofNat k).toInt = k := own_nat (by omega)
              have ukm : 0 < k → (Int32.ofNat k - (1 : Int32)).toInt = ((k - 1 : Nat) : Int) := by intro q; have a := c_isub (Int32.ofNat k) (1 : Int32); have b := rng32 (Int32.ofNat k - (1 : Int32)); omega
              show Gl _ _ _ _ _ _ _ (T_loop.setTop (mkF m 24 #[.val (.ref a0_), .val (.ref b1), .val (.int (Int32.ofNat i)), .val (.int (cs.getD i 0)), .val (.int (Int32.ofNat k))] []))
              refine Gl.st (b := T_loop.setTop (mkF m 26 #[.val (.ref a0_), .val (.ref b1), .val (.int (Int32.ofNat i)), .val (.int (cs.getD i 0)), .val (.int (Int32.ofNat k))] [(.int (Int32.ofNat k))])) (fun tq kq => XS.iload X_loop.here hx rfl (hb hby d4_24) rfl kq) ?_
              by_cases hc26 : 0 < (Int32.ofNat k).toInt
              · -- hc26 True
                refine Gl.st (b := T_loop.setTop (mkF m 29 #[.val (.ref a0_), .val (.ref b1), .val (.int (Int32.ofNat i)), .val (.int (cs.getD i 0)), .val (.int (Int32.ofNat k))] [])) (fun tq kq => XS.ifNo X_loop.here hx rfl (hb hby d4_26) rfl ((if0 _ _).trans (tlt (x := (0 : Int32)) (y := (Int32.ofNat k)) (own_ltI.mpr hc26)).2.2.2) kq) ?_
                refine Gl.st (b := T_loop.setTop (mkF m 30 #[.val (.ref a0_), .val (.ref b1), .val (.int (Int32.ofNat i)), .val (.int (cs.getD i 0)), .val (.int (Int32.ofNat k))] [(.ref a0_)])) (fun tq kq => XS.aloadN X_loop.here hx rfl (hb hby d4_29) rfl rfl kq) ?_
                refine Gl.st (b := T_loop.setTop (mkF m 32 #[.val (.ref a0_), .val (.ref b1), .val (.int (Int32.ofNat i)), .val (.int (cs.getD i 0)), .val (.int (Int32.ofNat k))] [(.int (Int32.ofNat k)), (.ref a0_)])) (fun tq kq => XS.iload X_loop.here hx rfl (hb hby d4_30) rfl kq) ?_
                refine Gl.caload (k := k) (v := (.int (cs.getD k 0))) X_loop hx hZ E_loop q0_loop (own_nat (by omega)) (own_get (by omega)) (hb hby d4_32) ?_
                show Gl _ _ _ _ _ _ _ (T_loop.setTop (mkF m 33 #[.val (.ref a0_), .val (.ref b1), .val (.int (Int32.ofNat i)), .val (.int (cs.getD i 0)), .val (.int (Int32.ofNat k))] [(.int (cs.getD k 0))]))
                refine Gl.st (b := T_loop.setTop (mkF m 34 #[.val (.ref a0_), .val (.ref b1), .val (.int (Int32.ofNat i)), .val (.int (cs.getD i 0)), .val (.int (Int32.ofNat k))] [(.int (cs.getD i 0)), (.int (cs.getD k 0))])) (fun tq kq => XS.iloadN X_loop.here hx rfl (hb hby d4_33) rfl kq) ?_
                by_cases hc34 : (cs.getD k 0).toInt = (cs.getD i 0).toInt
                · -- hc34 True
                  refine Gl.st (b := T_loop.setTop (mkF m 48 #[.val (.ref a0_), .val (.ref b1), .val (.int (Int32.ofNat i)), .val (.int (cs.getD i 0)), .val (.int (Int32.ofNat k))] [])) (fun tq kq => XS.icmpYes X_loop.here hx rfl (pc0 := 34) (pc' := 48) rfl (hb hby d4_34) rfl (teq (x := (cs.getD k 0)) (y := (cs.getD i 0)) (own_eqI.mpr hc34)).1 (by decide) (by decide) kq) ?_
                  exact j48 k hk (by rw [← hin, own_inner, if_neg (fun q => own_ef' (by omega) (by omega) hc34 q.2)])
                · -- hc34 False
                  refine Gl.st (b := T_loop.setTop (mkF m 37 #[.val (.ref a0_), .val (.ref b1), .val (.int (Int32.ofNat i)), .val (.int (cs.getD i 0)), .val (.int (Int32.ofNat k))] [])) (fun tq kq => XS.icmpNo X_loop.here hx rfl (hb hby d4_34) rfl (feq (x := (cs.getD k 0)) (y := (cs.getD i 0)) (fun q => hc34 (own_eqI.mp q))).1 kq) ?_
                  refine Gl.st (b := T_loop.setTop (mkF m 38 #[.val (.ref a0_), .val (.ref b1), .val (.int (Int32.ofNat i)), .val (.int (cs.getD i 0)), .val (.int (Int32.ofNat k))] [(.ref b1)])) (fun tq kq => XS.aloadN X_loop.here hx rfl (hb hby d4_37) rfl rfl kq) ?_
                  refine Gl.st (b := T_loop.setTop (mkF m 40 #[.val (.ref a0_), .val (.ref b1), .val (.int (Int32.ofNat i)), .val (.int (cs.getD i 0)), .val (.int (Int32.ofNat k))] [(.int (Int32.ofNat k)), (.ref b1)])) (fun tq kq => XS.iload X_loop.here hx rfl (hb hby d4_38) rfl kq) ?_
                  refine Gl.st (b := T_loop.setTop (mkF m 41 #[.val (.ref a0_), .val (.ref b1), .val (.int (Int32.ofNat i)), .val (.int (cs.getD i 0)), .val (.int (Int32.ofNat k))] [(.int (1 : Int32)), (.int (Int32.ofNat k)), (.ref b1)])) (fun tq kq => XS.iconst X_loop.here hx rfl (hb hby d4_40) kq) ?_
                  refine Gl.st (b := T_loop.setTop (mkF m 42 #[.val (.ref a0_), .val (.ref b1), .val (.int (Int32.ofNat i)), .val (.int (cs.getD i 0)), .val (.int (Int32.ofNat k))] [(.int ((Int32.ofNat k) - (1 : Int32))), (.ref b1)])) (fun tq kq => XS.isub X_loop.here hx rfl (hb hby d4_41) rfl kq) ?_
                  refine Gl.iaload (k := (k - 1)) (v := (.int (Int32.ofNat (rs.getD (k - 1) 0)))) X_loop hx hZ E_loop q1_loop (ukm (by omega)) (own_getR (by omega)) (hb hby d4_42) ?_
                  show Gl _ _ _ _ _ _ _ (T_loop.setTop (mkF m 43 #[.val (.ref a0_), .val (.ref b1), .val (.int (Int32.ofNat i)), .val (.int (cs.getD i 0)), .val (.int (Int32.ofNat k))] [(.int (Int32.ofNat (rs.getD (k - 1) 0)))]))
                  refine Gl.st (b := T_loop.setTop (mkF m 45 #[.val (.ref a0_), .val (.ref b1), .val (.int (Int32.ofNat i)), .val (.int (cs.getD i 0)), .val (.int (Int32.ofNat (rs.getD (k - 1) 0)))] [])) (fun tq kq => XS.istore X_loop.here hx rfl (hb hby d4_43) rfl (l' := #[.val (.ref a0_), .val (.ref b1), .val (.int (Int32.ofNat i)), .val (.int (cs.getD i 0)), .val (.int (Int32.ofNat (rs.getD (k - 1) 0)))]) rfl kq) ?_
                  refine Gl.st (b := T_loop.setTop (mkF m 24 #[.val (.ref a0_), .val (.ref b1), .val (.int (Int32.ofNat i)), .val (.int (cs.getD i 0)), .val (.int (Int32.ofNat (rs.getD (k - 1) 0)))] [])) (fun tq kq => XS.goto X_loop.here hx rfl (pc0 := 45) (pc' := 24) rfl (hb hby d4_45) (by decide) (by decide) kq) ?_
                  have hr1 := hbd (k - 1) (by omega)
                  rw [own_inner, if_pos ⟨by omega, own_ef'' hc34⟩] at hin
                  exact ihf (rs.getD (k - 1) 0) (by omega) (by omega) hin
              · -- hc26 False
                refine Gl.st (b := T_loop.setTop (mkF m 48 #[.val (.ref a0_), .val (.ref b1), .val (.int (Int32.ofNat i)), .val (.int (cs.getD i 0)), .val (.int (Int32.ofNat k))] [])) (fun tq kq => XS.ifYes X_loop.here hx rfl (pc0 := 26) (pc' := 48) rfl (hb hby d4_26) rfl ((if0 _ _).trans (flt (x := (0 : Int32)) (y := (Int32.ofNat k)) (fun q => hc26 (own_ltI.mp q))).2.2.2) (by decide) (by decide) kq) ?_
                exact j48 k hk (by rw [← hin, own_inner, if_neg (by omega)])
          have hr0 := hbd (i - 1) (by omega)
          exact inner i (rs.getD (i - 1) 0) (by omega) (by omega) hKF.symm
        · -- hc10 False
          refine Gl.st (b := T_loop.setTop (mkF m 70 #[.val (.ref a0_), .val (.ref b1), .val (.int (Int32.ofNat i)), sl3, sl4] [])) (fun tq kq => XS.icmpYes X_loop.here hx rfl (pc0 := 10) (pc' := 70) rfl (hb hby d4_10) rfl (flt (x := (Int32.ofNat i)) (y := (6 : Int32)) (fun q => hc10 (own_ltI.mp q))).2.1 (by decide) (by decide) kq) ?_
          refine Gl.st (b := T_loop.setTop (mkF m 71 #[.val (.ref a0_), .val (.ref b1), .val (.int (Int32.ofNat i)), sl3, sl4] [(.ref b1)])) (fun tq kq => XS.aloadN X_loop.here hx rfl (hb hby d4_70) rfl rfl kq) ?_
          exact Gl.retA X_loop hx hret (hb hby d4_71) hlk (by decide) (by decide) (by rw [E_loop]; exact ⟨_, rfl, N_loop, q2_loop, S_b1, q0_loop, by have : i = 6 := (by omega); subst this; rw [← hfin]; exact q1_loop⟩)
      | succ n ih =>
        intro i rs sl3 sl4 T_loop L_loop H_loop X_loop E_loop N_loop q0_loop q1_loop q2_loop h1 h2 h3 hrl hbd hfin hs3 hs4
        show Gl _ _ _ _ _ _ _ (T_loop.setTop (mkF m 7 #[.val (.ref a0_), .val (.ref b1), .val (.int (Int32.ofNat i)), sl3, sl4] []))
        have ui : (Int32.ofNat i).toInt = i := own_nat (by omega)
        have um : (Int32.ofNat i - (1 : Int32)).toInt = ((i - 1 : Nat) : Int) := by have a := c_isub (Int32.ofNat i) (1 : Int32); have b := rng32 (Int32.ofNat i - (1 : Int32)); omega
        refine Gl.st (b := T_loop.setTop (mkF m 8 #[.val (.ref a0_), .val (.ref b1), .val (.int (Int32.ofNat i)), sl3, sl4] [(.int (Int32.ofNat i))])) (fun tq kq => XS.iloadN X_loop.here hx rfl (hb hby d4_7) rfl kq) ?_
        refine Gl.st (b := T_loop.setTop (mkF m 9 #[.val (.ref a0_), .val (.ref b1), .val (.int (Int32.ofNat i)), sl3, sl4] [(.ref a0_), (.int (Int32.ofNat i))])) (fun tq kq => XS.aloadN X_loop.here hx rfl (hb hby d4_8) rfl rfl kq) ?_
        refine Gl.alen (z := (6 : Int32)) X_loop hx hZ E_loop q0_loop (by rw [List.length_map, hl]; rfl) (hb hby d4_9) ?_
        show Gl _ _ _ _ _ _ _ (T_loop.setTop (mkF m 10 #[.val (.ref a0_), .val (.ref b1), .val (.int (Int32.ofNat i)), sl3, sl4] [(.int (6 : Int32)), (.int (Int32.ofNat i))]))
        by_cases hc10 : (Int32.ofNat i).toInt < 6
        · -- hc10 True
          refine Gl.st (b := T_loop.setTop (mkF m 13 #[.val (.ref a0_), .val (.ref b1), .val (.int (Int32.ofNat i)), sl3, sl4] [])) (fun tq kq => XS.icmpNo X_loop.here hx rfl (hb hby d4_10) rfl (tlt (x := (Int32.ofNat i)) (y := (6 : Int32)) (own_ltI.mpr hc10)).2.1 kq) ?_
          refine Gl.st (b := T_loop.setTop (mkF m 14 #[.val (.ref a0_), .val (.ref b1), .val (.int (Int32.ofNat i)), sl3, sl4] [(.ref a0_)])) (fun tq kq => XS.aloadN X_loop.here hx rfl (hb hby d4_13) rfl rfl kq) ?_
          refine Gl.st (b := T_loop.setTop (mkF m 15 #[.val (.ref a0_), .val (.ref b1), .val (.int (Int32.ofNat i)), sl3, sl4] [(.int (Int32.ofNat i)), (.ref a0_)])) (fun tq kq => XS.iloadN X_loop.here hx rfl (hb hby d4_14) rfl kq) ?_
          refine Gl.caload (k := i) (v := (.int (cs.getD i 0))) X_loop hx hZ E_loop q0_loop (own_nat (by omega)) (own_get (by omega)) (hb hby d4_15) ?_
          show Gl _ _ _ _ _ _ _ (T_loop.setTop (mkF m 16 #[.val (.ref a0_), .val (.ref b1), .val (.int (Int32.ofNat i)), sl3, sl4] [(.int (cs.getD i 0))]))
          refine Gl.st (b := T_loop.setTop (mkF m 17 #[.val (.ref a0_), .val (.ref b1), .val (.int (Int32.ofNat i)), .val (.int (cs.getD i 0)), sl4] [])) (fun tq kq => XS.istoreNS X_loop.here hx rfl (hb hby d4_16) rfl rfl hs3 kq) ?_
          refine Gl.st (b := T_loop.setTop (mkF m 18 #[.val (.ref a0_), .val (.ref b1), .val (.int (Int32.ofNat i)), .val (.int (cs.getD i 0)), sl4] [(.ref b1)])) (fun tq kq => XS.aloadN X_loop.here hx rfl (hb hby d4_17) rfl rfl kq) ?_
          refine Gl.st (b := T_loop.setTop (mkF m 19 #[.val (.ref a0_), .val (.ref b1), .val (.int (Int32.ofNat i)), .val (.int (cs.getD i 0)), sl4] [(.int (Int32.ofNat i)), (.ref b1)])) (fun tq kq => XS.iloadN X_loop.here hx rfl (hb hby d4_18) rfl kq) ?_
          refine Gl.st (b := T_loop.setTop (mkF m 20 #[.val (.ref a0_), .val (.ref b1), .val (.int (Int32.ofNat i)), .val (.int (cs.getD i 0)), sl4] [(.int (1 : Int32)), (.int (Int32.ofNat i)), (.ref b1)])) (fun tq kq => XS.iconst X_loop.here hx rfl (hb hby d4_19) kq) ?_
          refine Gl.st (b := T_loop.setTop (mkF m 21 #[.val (.ref a0_), .val (.ref b1), .val (.int (Int32.ofNat i)), .val (.int (cs.getD i 0)), sl4] [(.int ((Int32.ofNat i) - (1 : Int32))), (.ref b1)])) (fun tq kq => XS.isub X_loop.here hx rfl (hb hby d4_20) rfl kq) ?_
          refine Gl.iaload (k := (i - 1)) (v := (.int (Int32.ofNat (rs.getD (i - 1) 0)))) X_loop hx hZ E_loop q1_loop um (own_getR (by omega)) (hb hby d4_21) ?_
          show Gl _ _ _ _ _ _ _ (T_loop.setTop (mkF m 22 #[.val (.ref a0_), .val (.ref b1), .val (.int (Int32.ofNat i)), .val (.int (cs.getD i 0)), sl4] [(.int (Int32.ofNat (rs.getD (i - 1) 0)))]))
          refine Gl.st (b := T_loop.setTop (mkF m 24 #[.val (.ref a0_), .val (.ref b1), .val (.int (Int32.ofNat i)), .val (.int (cs.getD i 0)), .val (.int (Int32.ofNat (rs.getD (i - 1) 0)))] [])) (fun tq kq => XS.istoreS X_loop.here hx rfl (hb hby d4_22) rfl rfl hs4 kq) ?_
          obtain ⟨KF, hKF⟩ : ∃ q, q = own_inner (own_e cs) rs i i (rs.getD (i - 1) 0) := ⟨_, rfl⟩
          have j48 : ∀ k : Nat, k < i → k = KF → Gl p e below s (QB Z a0_ cs n0 h0) 1 6 (T_loop.setTop (mkF m 48 #[.val (.ref a0_), .val (.ref b1), .val (.int (Int32.ofNat i)), .val (.int (cs.getD i 0)), .val (.int (Int32.ofNat k))] [])) := by
            intro k hk hkf
            have uk : (Int32.ofNat k).toInt = k := own_nat (by omega)
            show Gl _ _ _ _ _ _ _ (T_loop.setTop (mkF m 48 #[.val (.ref a0_), .val (.ref b1), .val (.int (Int32.ofNat i)), .val (.int (cs.getD i 0)), .val (.int (Int32.ofNat k))] []))
            refine Gl.st (b := T_loop.setTop (mkF m 49 #[.val (.ref a0_), .val (.ref b1), .val (.int (Int32.ofNat i)), .val (.int (cs.getD i 0)), .val (.int (Int32.ofNat k))] [(.ref a0_)])) (fun tq kq => XS.aloadN X_loop.here hx rfl (hb hby d4_48) rfl rfl kq) ?_
            refine Gl.st (b := T_loop.setTop (mkF m 51 #[.val (.ref a0_), .val (.ref b1), .val (.int (Int32.ofNat i)), .val (.int (cs.getD i 0)), .val (.int (Int32.ofNat k))] [(.int (Int32.ofNat k)), (.ref a0_)])) (fun tq kq => XS.iload X_loop.here hx rfl (hb hby d4_49) rfl kq) ?_
            refine Gl.caload (k := k) (v := (.int (cs.getD k 0))) X_loop hx hZ E_loop q0_loop (own_nat (by omega)) (own_get (by omega)) (hb hby d4_51) ?_
            show Gl _ _ _ _ _ _ _ (T_loop.setTop (mkF m 52 #[.val (.ref a0_), .val (.ref b1), .val (.int (Int32.ofNat i)), .val (.int (cs.getD i 0)), .val (.int (Int32.ofNat k))] [(.int (cs.getD k 0))]))
            refine Gl.st (b := T_loop.setTop (mkF m 53 #[.val (.ref a0_), .val (.ref b1), .val (.int (Int32.ofNat i)), .val (.int (cs.getD i 0)), .val (.int (Int32.ofNat k))] [(.int (cs.getD i 0)), (.int (cs.getD k 0))])) (fun tq kq => XS.iloadN X_loop.here hx rfl (hb hby d4_52) rfl kq) ?_
            by_cases hc53 : (cs.getD k 0).toInt = (cs.getD i 0).toInt
            · -- hc53 True
              refine Gl.st (b := T_loop.setTop (mkF m 56 #[.val (.ref a0_), .val (.ref b1), .val (.int (Int32.ofNat i)), .val (.int (cs.getD i 0)), .val (.int (Int32.ofNat k))] [])) (fun tq kq => XS.icmpNo X_loop.here hx rfl (hb hby d4_53) rfl (teq (x := (cs.getD k 0)) (y := (cs.getD i 0)) (own_eqI.mpr hc53)).2 kq) ?_
              refine Gl.st (b := T_loop.setTop (mkF m 59 #[.val (.ref a0_), .val (.ref b1), .val (.int (Int32.ofNat i)), .val (.int (cs.getD i 0)), .val (.int ((Int32.ofNat k) + (1 : Int32)))] [])) (fun tq kq => XS.iinc X_loop.here hx rfl (hb hby d4_56) rfl (l' := #[.val (.ref a0_), .val (.ref b1), .val (.int (Int32.ofNat i)), .val (.int (cs.getD i 0)), .val (.int ((Int32.ofNat k) + (1 : Int32)))]) rfl kq) ?_
              have uk1 : Int32.ofNat k + (1 : Int32) = Int32.ofNat (k + 1) := own_ofs (by omega)
              rw [uk1]
              show Gl _ _ _ _ _ _ _ (T_loop.setTop (mkF m 59 #[.val (.ref a0_), .val (.ref b1), .val (.int (Int32.ofNat i)), .val (.int (cs.getD i 0)), .val (.int (Int32.ofNat (k + 1)))] []))
              refine Gl.st (b := T_loop.setTop (mkF m 60 #[.val (.ref a0_), .val (.ref b1), .val (.int (Int32.ofNat i)), .val (.int (cs.getD i 0)), .val (.int (Int32.ofNat (k + 1)))] [(.ref b1)])) (fun tq kq => XS.aloadN X_loop.here hx rfl (hb hby d4_59) rfl rfl kq) ?_
              refine Gl.st (b := T_loop.setTop (mkF m 61 #[.val (.ref a0_), .val (.ref b1), .val (.int (Int32.ofNat i)), .val (.int (cs.getD i 0)), .val (.int (Int32.ofNat (k + 1)))] [(.int (Int32.ofNat i)), (.ref b1)])) (fun tq kq => XS.iloadN X_loop.here hx rfl (hb hby d4_60) rfl kq) ?_
              refine Gl.st (b := T_loop.setTop (mkF m 63 #[.val (.ref a0_), .val (.ref b1), .val (.int (Int32.ofNat i)), .val (.int (cs.getD i 0)), .val (.int (Int32.ofNat (k + 1)))] [(.int (Int32.ofNat (k + 1))), (.int (Int32.ofNat i)), (.ref b1)])) (fun tq kq => XS.iload X_loop.here hx rfl (hb hby d4_61) rfl kq) ?_
              refine Gl.iastore (k := i) X_loop hx hZ E_loop q1_loop N_loop G_b1 ui (by rw [List.length_map, List.length_map, hrl]; omega) (hb hby d4_63) ?_
              intro T4 h4 L4 X4 e4 N4 W4 A4
              have AA4 := A4
              have A_a0__4 := q0_loop.other W4 ne_a0__b1
              have KK_4 := q2_loop.wr W4 (Or.inr S_b1)
              show Gl _ _ _ _ _ _ _ (T4.setTop (mkF m 64 #[.val (.ref a0_), .val (.ref b1), .val (.int (Int32.ofNat i)), .val (.int (cs.getD i 0)), .val (.int (Int32.ofNat (k + 1)))] []))
              refine Gl.st (b := T4.setTop (mkF m 67 #[.val (.ref a0_), .val (.ref b1), .val (.int ((Int32.ofNat i) + (1 : Int32))), .val (.int (cs.getD i 0)), .val (.int (Int32.ofNat (k + 1)))] [])) (fun tq kq => XS.iinc X4.here hx rfl (hb hby d4_64) rfl (l' := #[.val (.ref a0_), .val (.ref b1), .val (.int ((Int32.ofNat i) + (1 : Int32))), .val (.int (cs.getD i 0)), .val (.int (Int32.ofNat (k + 1)))]) rfl kq) ?_
              refine Gl.st (b := T4.setTop (mkF m 7 #[.val (.ref a0_), .val (.ref b1), .val (.int ((Int32.ofNat i) + (1 : Int32))), .val (.int (cs.getD i 0)), .val (.int (Int32.ofNat (k + 1)))] [])) (fun tq kq => XS.goto X4.here hx rfl (pc0 := 67) (pc' := 7) rfl (hb hby d4_67) (by decide) (by decide) kq) ?_
              have ui1 : Int32.ofNat i + (1 : Int32) = Int32.ofNat (i + 1) := own_ofs (by omega)
              rw [ui1]
              show Gl _ _ _ _ _ _ _ (T4.setTop (mkF m 7 #[.val (.ref a0_), .val (.ref b1), .val (.int (Int32.ofNat (i + 1))), .val (.int (cs.getD i 0)), .val (.int (Int32.ofNat (k + 1)))] []))
              have AS : Ar Z h4 b1 .int (((rs.set i (k + 1)).map Int32.ofNat).map Value.int) := by rw [List.map_set, List.map_set]; exact AA4
              have hst : own_step (own_e cs) rs i = rs.set i (k + 1) := by
                unfold own_step; rw [← hKF, ← hkf, if_pos (own_et (by omega) (by omega) hc53)]
              have hb' := own_hb hrl (show (k + 1) ≤ i by omega) hbd
              exact ih (i + 1) (rs.set i (k + 1)) _ _ T4 _ h4 X4 e4 N4 A_a0__4 AS KK_4 (by omega) (by omega) (by omega) (by rw [List.length_set]; exact hrl) hb' (by rw [← hfin, ← hst]; exact own_outs (by omega)) (One.val rfl) (One.val rfl)
            · -- hc53 False
              refine Gl.st (b := T_loop.setTop (mkF m 59 #[.val (.ref a0_), .val (.ref b1), .val (.int (Int32.ofNat i)), .val (.int (cs.getD i 0)), .val (.int (Int32.ofNat k))] [])) (fun tq kq => XS.icmpYes X_loop.here hx rfl (pc0 := 53) (pc' := 59) rfl (hb hby d4_53) rfl (feq (x := (cs.getD k 0)) (y := (cs.getD i 0)) (fun q => hc53 (own_eqI.mp q))).2 (by decide) (by decide) kq) ?_
              refine Gl.st (b := T_loop.setTop (mkF m 60 #[.val (.ref a0_), .val (.ref b1), .val (.int (Int32.ofNat i)), .val (.int (cs.getD i 0)), .val (.int (Int32.ofNat k))] [(.ref b1)])) (fun tq kq => XS.aloadN X_loop.here hx rfl (hb hby d4_59) rfl rfl kq) ?_
              refine Gl.st (b := T_loop.setTop (mkF m 61 #[.val (.ref a0_), .val (.ref b1), .val (.int (Int32.ofNat i)), .val (.int (cs.getD i 0)), .val (.int (Int32.ofNat k))] [(.int (Int32.ofNat i)), (.ref b1)])) (fun tq kq => XS.iloadN X_loop.here hx rfl (hb hby d4_60) rfl kq) ?_
              refine Gl.st (b := T_loop.setTop (mkF m 63 #[.val (.ref a0_), .val (.ref b1), .val (.int (Int32.ofNat i)), .val (.int (cs.getD i 0)), .val (.int (Int32.ofNat k))] [(.int (Int32.ofNat k)), (.int (Int32.ofNat i)), (.ref b1)])) (fun tq kq => XS.iload X_loop.here hx rfl (hb hby d4_61) rfl kq) ?_
              refine Gl.iastore (k := i) X_loop hx hZ E_loop q1_loop N_loop G_b1 ui (by rw [List.length_map, List.length_map, hrl]; omega) (hb hby d4_63) ?_
              intro T5 h5 L5 X5 e5 N5 W5 A5
              have AA5 := A5
              have A_a0__5 := q0_loop.other W5 ne_a0__b1
              have KK_5 := q2_loop.wr W5 (Or.inr S_b1)
              show Gl _ _ _ _ _ _ _ (T5.setTop (mkF m 64 #[.val (.ref a0_), .val (.ref b1), .val (.int (Int32.ofNat i)), .val (.int (cs.getD i 0)), .val (.int (Int32.ofNat k))] []))
              refine Gl.st (b := T5.setTop (mkF m 67 #[.val (.ref a0_), .val (.ref b1), .val (.int ((Int32.ofNat i) + (1 : Int32))), .val (.int (cs.getD i 0)), .val (.int (Int32.ofNat k))] [])) (fun tq kq => XS.iinc X5.here hx rfl (hb hby d4_64) rfl (l' := #[.val (.ref a0_), .val (.ref b1), .val (.int ((Int32.ofNat i) + (1 : Int32))), .val (.int (cs.getD i 0)), .val (.int (Int32.ofNat k))]) rfl kq) ?_
              refine Gl.st (b := T5.setTop (mkF m 7 #[.val (.ref a0_), .val (.ref b1), .val (.int ((Int32.ofNat i) + (1 : Int32))), .val (.int (cs.getD i 0)), .val (.int (Int32.ofNat k))] [])) (fun tq kq => XS.goto X5.here hx rfl (pc0 := 67) (pc' := 7) rfl (hb hby d4_67) (by decide) (by decide) kq) ?_
              have ui1 : Int32.ofNat i + (1 : Int32) = Int32.ofNat (i + 1) := own_ofs (by omega)
              rw [ui1]
              show Gl _ _ _ _ _ _ _ (T5.setTop (mkF m 7 #[.val (.ref a0_), .val (.ref b1), .val (.int (Int32.ofNat (i + 1))), .val (.int (cs.getD i 0)), .val (.int (Int32.ofNat k))] []))
              have AS : Ar Z h5 b1 .int (((rs.set i k).map Int32.ofNat).map Value.int) := by rw [List.map_set, List.map_set]; exact AA5
              have hst : own_step (own_e cs) rs i = rs.set i k := by
                unfold own_step; rw [← hKF, ← hkf, if_neg (own_ef hc53)]
              have hb' := own_hb hrl (show k ≤ i by omega) hbd
              exact ih (i + 1) (rs.set i k) _ _ T5 _ h5 X5 e5 N5 A_a0__5 AS KK_5 (by omega) (by omega) (by omega) (by rw [List.length_set]; exact hrl) hb' (by rw [← hfin, ← hst]; exact own_outs (by omega)) (One.val rfl) (One.val rfl)
          have inner : ∀ (f k : Nat), k ≤ f → k < i → own_inner (own_e cs) rs i f k = KF → Gl p e below s (QB Z a0_ cs n0 h0) 1 6 (T_loop.setTop (mkF m 24 #[.val (.ref a0_), .val (.ref b1), .val (.int (Int32.ofNat i)), .val (.int (cs.getD i 0)), .val (.int (Int32.ofNat k))] [])) := by
            intro f
            induction f with
            | zero =>
              intro k hkf hk hin
              have uk : (Int32.ofNat k).toInt = k := own_nat (by omega)
              have ukm : 0 < k → (Int32.ofNat k - (1 : Int32)).toInt = ((k - 1 : Nat) : Int) := by intro q; have a := c_isub (Int32.ofNat k) (1 : Int32); have b := rng32 (Int32.ofNat k - (1 : Int32)); omega
              show Gl _ _ _ _ _ _ _ (T_loop.setTop (mkF m 24 #[.val (.ref a0_), .val (.ref b1), .val (.int (Int32.ofNat i)), .val (.int (cs.getD i 0)), .val (.int (Int32.ofNat k))] []))
              refine Gl.st (b := T_loop.setTop (mkF m 26 #[.val (.ref a0_), .val (.ref b1), .val (.int (Int32.ofNat i)), .val (.int (cs.getD i 0)), .val (.int (Int32.ofNat k))] [(.int (Int32.ofNat k))])) (fun tq kq => XS.iload X_loop.here hx rfl (hb hby d4_24) rfl kq) ?_
              by_cases hc26 : 0 < (Int32.ofNat k).toInt
              · -- hc26 True
                refine Gl.st (b := T_loop.setTop (mkF m 29 #[.val (.ref a0_), .val (.ref b1), .val (.int (Int32.ofNat i)), .val (.int (cs.getD i 0)), .val (.int (Int32.ofNat k))] [])) (fun tq kq => XS.ifNo X_loop.here hx rfl (hb hby d4_26) rfl ((if0 _ _).trans (tlt (x := (0 : Int32)) (y := (Int32.ofNat k)) (own_ltI.mpr hc26)).2.2.2) kq) ?_
                refine Gl.st (b := T_loop.setTop (mkF m 30 #[.val (.ref a0_), .val (.ref b1), .val (.int (Int32.ofNat i)), .val (.int (cs.getD i 0)), .val (.int (Int32.ofNat k))] [(.ref a0_)])) (fun tq kq => XS.aloadN X_loop.here hx rfl (hb hby d4_29) rfl rfl kq) ?_
                refine Gl.st (b := T_loop.setTop (mkF m 32 #[.val (.ref a0_), .val (.ref b1), .val (.int (Int32.ofNat i)), .val (.int (cs.getD i 0)), .val (.int (Int32.ofNat k))] [(.int (Int32.ofNat k)), (.ref a0_)])) (fun tq kq => XS.iload X_loop.here hx rfl (hb hby d4_30) rfl kq) ?_
                refine Gl.caload (k := k) (v := (.int (cs.getD k 0))) X_loop hx hZ E_loop q0_loop (own_nat (by omega)) (own_get (by omega)) (hb hby d4_32) ?_
                show Gl _ _ _ _ _ _ _ (T_loop.setTop (mkF m 33 #[.val (.ref a0_), .val (.ref b1), .val (.int (Int32.ofNat i)), .val (.int (cs.getD i 0)), .val (.int (Int32.ofNat k))] [(.int (cs.getD k 0))]))
                refine Gl.st (b := T_loop.setTop (mkF m 34 #[.val (.ref a0_), .val (.ref b1), .val (.int (Int32.ofNat i)), .val (.int (cs.getD i 0)), .val (.int (Int32.ofNat k))] [(.int (cs.getD i 0)), (.int (cs.getD k 0))])) (fun tq kq => XS.iloadN X_loop.here hx rfl (hb hby d4_33) rfl kq) ?_
                by_cases hc34 : (cs.getD k 0).toInt = (cs.getD i 0).toInt
                · -- hc34 True
                  refine Gl.st (b := T_loop.setTop (mkF m 48 #[.val (.ref a0_), .val (.ref b1), .val (.int (Int32.ofNat i)), .val (.int (cs.getD i 0)), .val (.int (Int32.ofNat k))] [])) (fun tq kq => XS.icmpYes X_loop.here hx rfl (pc0 := 34) (pc' := 48) rfl (hb hby d4_34) rfl (teq (x := (cs.getD k 0)) (y := (cs.getD i 0)) (own_eqI.mpr hc34)).1 (by decide) (by decide) kq) ?_
                  exact j48 k hk (by rw [← hin]; rfl)
                · -- hc34 False
                  refine Gl.st (b := T_loop.setTop (mkF m 37 #[.val (.ref a0_), .val (.ref b1), .val (.int (Int32.ofNat i)), .val (.int (cs.getD i 0)), .val (.int (Int32.ofNat k))] [])) (fun tq kq => XS.icmpNo X_loop.here hx rfl (hb hby d4_34) rfl (feq (x := (cs.getD k 0)) (y := (cs.getD i 0)) (fun q => hc34 (own_eqI.mp q))).1 kq) ?_
                  refine Gl.st (b := T_loop.setTop (mkF m 38 #[.val (.ref a0_), .val (.ref b1), .val (.int (Int32.ofNat i)), .val (.int (cs.getD i 0)), .val (.int (Int32.ofNat k))] [(.ref b1)])) (fun tq kq => XS.aloadN X_loop.here hx rfl (hb hby d4_37) rfl rfl kq) ?_
                  refine Gl.st (b := T_loop.setTop (mkF m 40 #[.val (.ref a0_), .val (.ref b1), .val (.int (Int32.ofNat i)), .val (.int (cs.getD i 0)), .val (.int (Int32.ofNat k))] [(.int (Int32.ofNat k)), (.ref b1)])) (fun tq kq => XS.iload X_loop.here hx rfl (hb hby d4_38) rfl kq) ?_
                  refine Gl.st (b := T_loop.setTop (mkF m 41 #[.val (.ref a0_), .val (.ref b1), .val (.int (Int32.ofNat i)), .val (.int (cs.getD i 0)), .val (.int (Int32.ofNat k))] [(.int (1 : Int32)), (.int (Int32.ofNat k)), (.ref b1)])) (fun tq kq => XS.iconst X_loop.here hx rfl (hb hby d4_40) kq) ?_
                  refine Gl.st (b := T_loop.setTop (mkF m 42 #[.val (.ref a0_), .val (.ref b1), .val (.int (Int32.ofNat i)), .val (.int (cs.getD i 0)), .val (.int (Int32.ofNat k))] [(.int ((Int32.ofNat k) - (1 : Int32))), (.ref b1)])) (fun tq kq => XS.isub X_loop.here hx rfl (hb hby d4_41) rfl kq) ?_
                  refine Gl.iaload (k := (k - 1)) (v := (.int (Int32.ofNat (rs.getD (k - 1) 0)))) X_loop hx hZ E_loop q1_loop (ukm (by omega)) (own_getR (by omega)) (hb hby d4_42) ?_
                  show Gl _ _ _ _ _ _ _ (T_loop.setTop (mkF m 43 #[.val (.ref a0_), .val (.ref b1), .val (.int (Int32.ofNat i)), .val (.int (cs.getD i 0)), .val (.int (Int32.ofNat k))] [(.int (Int32.ofNat (rs.getD (k - 1) 0)))]))
                  refine Gl.st (b := T_loop.setTop (mkF m 45 #[.val (.ref a0_), .val (.ref b1), .val (.int (Int32.ofNat i)), .val (.int (cs.getD i 0)), .val (.int (Int32.ofNat (rs.getD (k - 1) 0)))] [])) (fun tq kq => XS.istore X_loop.here hx rfl (hb hby d4_43) rfl (l' := #[.val (.ref a0_), .val (.ref b1), .val (.int (Int32.ofNat i)), .val (.int (cs.getD i 0)), .val (.int (Int32.ofNat (rs.getD (k - 1) 0)))]) rfl kq) ?_
                  refine Gl.st (b := T_loop.setTop (mkF m 24 #[.val (.ref a0_), .val (.ref b1), .val (.int (Int32.ofNat i)), .val (.int (cs.getD i 0)), .val (.int (Int32.ofNat (rs.getD (k - 1) 0)))] [])) (fun tq kq => XS.goto X_loop.here hx rfl (pc0 := 45) (pc' := 24) rfl (hb hby d4_45) (by decide) (by decide) kq) ?_
                  exact absurd hc26 (by omega)
              · -- hc26 False
                refine Gl.st (b := T_loop.setTop (mkF m 48 #[.val (.ref a0_), .val (.ref b1), .val (.int (Int32.ofNat i)), .val (.int (cs.getD i 0)), .val (.int (Int32.ofNat k))] [])) (fun tq kq => XS.ifYes X_loop.here hx rfl (pc0 := 26) (pc' := 48) rfl (hb hby d4_26) rfl ((if0 _ _).trans (flt (x := (0 : Int32)) (y := (Int32.ofNat k)) (fun q => hc26 (own_ltI.mp q))).2.2.2) (by decide) (by decide) kq) ?_
                exact j48 k hk (by rw [← hin]; rfl)
            | succ f ihf =>
              intro k hkf hk hin
              have uk : (Int32.ofNat k).toInt = k := own_nat (by omega)
              have ukm : 0 < k → (Int32.ofNat k - (1 : Int32)).toInt = ((k - 1 : Nat) : Int) := by intro q; have a := c_isub (Int32.ofNat k) (1 : Int32); have b := rng32 (Int32.ofNat k - (1 : Int32)); omega
              show Gl _ _ _ _ _ _ _ (T_loop.setTop (mkF m 24 #[.val (.ref a0_), .val (.ref b1), .val (.int (Int32.ofNat i)), .val (.int (cs.getD i 0)), .val (.int (Int32.ofNat k))] []))
              refine Gl.st (b := T_loop.setTop (mkF m 26 #[.val (.ref a0_), .val (.ref b1), .val (.int (Int32.ofNat i)), .val (.int (cs.getD i 0)), .val (.int (Int32.ofNat k))] [(.int (Int32.ofNat k))])) (fun tq kq => XS.iload X_loop.here hx rfl (hb hby d4_24) rfl kq) ?_
              by_cases hc26 : 0 < (Int32.ofNat k).toInt
              · -- hc26 True
                refine Gl.st (b := T_loop.setTop (mkF m 29 #[.val (.ref a0_), .val (.ref b1), .val (.int (Int32.ofNat i)), .val (.int (cs.getD i 0)), .val (.int (Int32.ofNat k))] [])) (fun tq kq => XS.ifNo X_loop.here hx rfl (hb hby d4_26) rfl ((if0 _ _).trans (tlt (x := (0 : Int32)) (y := (Int32.ofNat k)) (own_ltI.mpr hc26)).2.2.2) kq) ?_
                refine Gl.st (b := T_loop.setTop (mkF m 30 #[.val (.ref a0_), .val (.ref b1), .val (.int (Int32.ofNat i)), .val (.int (cs.getD i 0)), .val (.int (Int32.ofNat k))] [(.ref a0_)])) (fun tq kq => XS.aloadN X_loop.here hx rfl (hb hby d4_29) rfl rfl kq) ?_
                refine Gl.st (b := T_loop.setTop (mkF m 32 #[.val (.ref a0_), .val (.ref b1), .val (.int (Int32.ofNat i)), .val (.int (cs.getD i 0)), .val (.int (Int32.ofNat k))] [(.int (Int32.ofNat k)), (.ref a0_)])) (fun tq kq => XS.iload X_loop.here hx rfl (hb hby d4_30) rfl kq) ?_
                refine Gl.caload (k := k) (v := (.int (cs.getD k 0))) X_loop hx hZ E_loop q0_loop (own_nat (by omega)) (own_get (by omega)) (hb hby d4_32) ?_
                show Gl _ _ _ _ _ _ _ (T_loop.setTop (mkF m 33 #[.val (.ref a0_), .val (.ref b1), .val (.int (Int32.ofNat i)), .val (.int (cs.getD i 0)), .val (.int (Int32.ofNat k))] [(.int (cs.getD k 0))]))
                refine Gl.st (b := T_loop.setTop (mkF m 34 #[.val (.ref a0_), .val (.ref b1), .val (.int (Int32.ofNat i)), .val (.int (cs.getD i 0)), .val (.int (Int32.ofNat k))] [(.int (cs.getD i 0)), (.int (cs.getD k 0))])) (fun tq kq => XS.iloadN X_loop.here hx rfl (hb hby d4_33) rfl kq) ?_
                by_cases hc34 : (cs.getD k 0).toInt = (cs.getD i 0).toInt
                · -- hc34 True
                  refine Gl.st (b := T_loop.setTop (mkF m 48 #[.val (.ref a0_), .val (.ref b1), .val (.int (Int32.ofNat i)), .val (.int (cs.getD i 0)), .val (.int (Int32.ofNat k))] [])) (fun tq kq => XS.icmpYes X_loop.here hx rfl (pc0 := 34) (pc' := 48) rfl (hb hby d4_34) rfl (teq (x := (cs.getD k 0)) (y := (cs.getD i 0)) (own_eqI.mpr hc34)).1 (by decide) (by decide) kq) ?_
                  exact j48 k hk (by rw [← hin, own_inner, if_neg (fun q => own_ef' (by omega) (by omega) hc34 q.2)])
                · -- hc34 False
                  refine Gl.st (b := T_loop.setTop (mkF m 37 #[.val (.ref a0_), .val (.ref b1), .val (.int (Int32.ofNat i)), .val (.int (cs.getD i 0)), .val (.int (Int32.ofNat k))] [])) (fun tq kq => XS.icmpNo X_loop.here hx rfl (hb hby d4_34) rfl (feq (x := (cs.getD k 0)) (y := (cs.getD i 0)) (fun q => hc34 (own_eqI.mp q))).1 kq) ?_
                  refine Gl.st (b := T_loop.setTop (mkF m 38 #[.val (.ref a0_), .val (.ref b1), .val (.int (Int32.ofNat i)), .val (.int (cs.getD i 0)), .val (.int (Int32.ofNat k))] [(.ref b1)])) (fun tq kq => XS.aloadN X_loop.here hx rfl (hb hby d4_37) rfl rfl kq) ?_
                  refine Gl.st (b := T_loop.setTop (mkF m 40 #[.val (.ref a0_), .val (.ref b1), .val (.int (Int32.ofNat i)), .val (.int (cs.getD i 0)), .val (.int (Int32.ofNat k))] [(.int (Int32.ofNat k)), (.ref b1)])) (fun tq kq => XS.iload X_loop.here hx rfl (hb hby d4_38) rfl kq) ?_
                  refine Gl.st (b := T_loop.setTop (mkF m 41 #[.val (.ref a0_), .val (.ref b1), .val (.int (Int32.ofNat i)), .val (.int (cs.getD i 0)), .val (.int (Int32.ofNat k))] [(.int (1 : Int32)), (.int (Int32.ofNat k)), (.ref b1)])) (fun tq kq => XS.iconst X_loop.here hx rfl (hb hby d4_40) kq) ?_
                  refine Gl.st (b := T_loop.setTop (mkF m 42 #[.val (.ref a0_), .val (.ref b1), .val (.int (Int32.ofNat i)), .val (.int (cs.getD i 0)), .val (.int (Int32.ofNat k))] [(.int ((Int32.ofNat k) - (1 : Int32))), (.ref b1)])) (fun tq kq => XS.isub X_loop.here hx rfl (hb hby d4_41) rfl kq) ?_
                  refine Gl.iaload (k := (k - 1)) (v := (.int (Int32.ofNat (rs.getD (k - 1) 0)))) X_loop hx hZ E_loop q1_loop (ukm (by omega)) (own_getR (by omega)) (hb hby d4_42) ?_
                  show Gl _ _ _ _ _ _ _ (T_loop.setTop (mkF m 43 #[.val (.ref a0_), .val (.ref b1), .val (.int (Int32.ofNat i)), .val (.int (cs.getD i 0)), .val (.int (Int32.ofNat k))] [(.int (Int32.ofNat (rs.getD (k - 1) 0)))]))
                  refine Gl.st (b := T_loop.setTop (mkF m 45 #[.val (.ref a0_), .val (.ref b1), .val (.int (Int32.ofNat i)), .val (.int (cs.getD i 0)), .val (.int (Int32.ofNat (rs.getD (k - 1) 0)))] [])) (fun tq kq => XS.istore X_loop.here hx rfl (hb hby d4_43) rfl (l' := #[.val (.ref a0_), .val (.ref b1), .val (.int (Int32.ofNat i)), .val (.int (cs.getD i 0)), .val (.int (Int32.ofNat (rs.getD (k - 1) 0)))]) rfl kq) ?_
                  refine Gl.st (b := T_loop.setTop (mkF m 24 #[.val (.ref a0_), .val (.ref b1), .val (.int (Int32.ofNat i)), .val (.int (cs.getD i 0)), .val (.int (Int32.ofNat (rs.getD (k - 1) 0)))] [])) (fun tq kq => XS.goto X_loop.here hx rfl (pc0 := 45) (pc' := 24) rfl (hb hby d4_45) (by decide) (by decide) kq) ?_
                  have hr1 := hbd (k - 1) (by omega)
                  rw [own_inner, if_pos ⟨by omega, own_ef'' hc34⟩] at hin
                  exact ihf (rs.getD (k - 1) 0) (by omega) (by omega) hin
              · -- hc26 False
                refine Gl.st (b := T_loop.setTop (mkF m 48 #[.val (.ref a0_), .val (.ref b1), .val (.int (Int32.ofNat i)), .val (.int (cs.getD i 0)), .val (.int (Int32.ofNat k))] [])) (fun tq kq => XS.ifYes X_loop.here hx rfl (pc0 := 26) (pc' := 48) rfl (hb hby d4_26) rfl ((if0 _ _).trans (flt (x := (0 : Int32)) (y := (Int32.ofNat k)) (fun q => hc26 (own_ltI.mp q))).2.2.2) (by decide) (by decide) kq) ?_
                exact j48 k hk (by rw [← hin, own_inner, if_neg (by omega)])
          have hr0 := hbd (i - 1) (by omega)
          exact inner i (rs.getD (i - 1) 0) (by omega) (by omega) hKF.symm
        · -- hc10 False
          refine Gl.st (b := T_loop.setTop (mkF m 70 #[.val (.ref a0_), .val (.ref b1), .val (.int (Int32.ofNat i)), sl3, sl4] [])) (fun tq kq => XS.icmpYes X_loop.here hx rfl (pc0 := 10) (pc' := 70) rfl (hb hby d4_10) rfl (flt (x := (Int32.ofNat i)) (y := (6 : Int32)) (fun q => hc10 (own_ltI.mp q))).2.1 (by decide) (by decide) kq) ?_
          refine Gl.st (b := T_loop.setTop (mkF m 71 #[.val (.ref a0_), .val (.ref b1), .val (.int (Int32.ofNat i)), sl3, sl4] [(.ref b1)])) (fun tq kq => XS.aloadN X_loop.here hx rfl (hb hby d4_70) rfl rfl kq) ?_
          exact Gl.retA X_loop hx hret (hb hby d4_71) hlk (by decide) (by decide) (by rw [E_loop]; exact ⟨_, rfl, N_loop, q2_loop, S_b1, q0_loop, by have : i = 6 := (by omega); subst this; rw [← hfin]; exact q1_loop⟩)
    exact loop 5 1 (List.replicate 6 0) .unset .unset T1 _ h1 X1 e1 N0 A_a0__1 AR ((Keep.refl h0 []).ext E1) (by decide) (by decide) (by decide) rfl (by intro j hj; have : j = 0 := (by omega); subst this; decide) rfl One.u One.u
  exact GOAL
theorem ef0 (m : MethodId) (z0 : Int32) (z1 : Int32) (z2 : Int32) : entryFrame m #[(.int z0), (.int z1), (.int z2)] maxLocals = mkF m 0 #[.val (.int z0), .val (.int z1), .val (.int z2), .unset, .unset] [] := by first | (simp [entryFrame, mkF, argsToLocals, Value.category, maxLocals]; done) | rfl
set_option maxRecDepth 65536 in
set_option maxHeartbeats 40000000 in
theorem rm0 (l : Launch) (Z : State) (a0 : Array Value) (hw : ∀ d ∈ tables_1, d.before a0 Z = true) (ws : List Jvm.Cond) (z0 : Int32) (z1 : Int32) (z2 : Int32)  (h0 : Heap) (n0 : Nat) (Z0 : n0 ≤ h0.size)  :
    MetFree l x (head1 (Jvm.Cond.code x code maxLocals ret :: ws) room_1) (fun a U => a = #[(.int z0), (.int z1), (.int z2)] ∧ Z.Warmed39 U.vm ∧ U.heap = h0) (fun _ _ _ _ _ => True) (fun _ U o U' => ∃ v L, o = .returned v ∧ QL n0 v U'.heap L ∧ FrameEnd U o U' L 2 12) := by
  refine MetFree.of_bodySF (plainFor_of_name own_pn0) hisR ?_
  intro p e s m args below meth c s₁ Bd hml0 hP hK
  obtain ⟨rfl, hZ, hh⟩ := hP
  have hx := Bd.exec
  have hby := Bd.bytes
  have hml : c.maxLocals = 5 := hml0
  have hown : s.vm.findClass "com/example/libstrand/libstrand/BordersLengthsOfPinLaw" = some m.cls := findClass_of_methodNamed Bd.named
  have hnm := (name_of_methodNamed Bd.named Bd.method).1
  have hlk : meth.locks = false := Bd.notSynchronized
  have hret := Bd.returns
  have X0 : Stand p l e room_1 s m #[(.int z0), (.int z1), (.int z2)] below meth c s₁ [] 0 0 := Stand.of_body Bd
  have e0 : s₁.heap = h0 := by rw [← hh, Bd.state]; rfl
  have N0 := Fr.nil n0
  have GOAL : Gl p e below s (QL n0) 2 12 (s₁.setTop (entryFrame m #[(.int z0), (.int z1), (.int z2)] maxLocals)) := by
    refine Gl.cast (ef0 m z0 z1 z2) ?_
    refine Gl.st (b := s₁.setTop (mkF m 2 #[.val (.int z0), .val (.int z1), .val (.int z2), .unset, .unset] [(.int (6 : Int32))])) (fun tq kq => XS.bipush X0.here hx rfl (hb hby at_0) kq) ?_
    refine Gl.newA (k := 6) (cap := 6) X0 hx hZ (hw _ (List.mem_of_getElem? (i := 0) rfl)) e0 rfl (by decide) (by decide) (by decide) (by decide) (hb hby at_2) ?_
    intro T1 h1 b1 g1 X1 e1 E1 A1
    have AA1 : Ar Z h1 b1 .char [(.int (0 : Int32)), (.int (0 : Int32)), (.int (0 : Int32)), (.int (0 : Int32)), (.int (0 : Int32)), (.int (0 : Int32))] := A1
    have G_b1 : n0 ≤ b1 := Nat.le_trans Z0 (Nat.le_of_eq g1.symm)
    have Z_1 : n0 ≤ h1.size := Nat.le_trans Z0 E1.1
    show Gl _ _ _ _ _ _ _ (T1.setTop (mkF m 4 #[.val (.int z0), .val (.int z1), .val (.int z2), .unset, .unset] [(.ref b1)]))
    refine Gl.st (b := T1.setTop (mkF m 5 #[.val (.int z0), .val (.int z1), .val (.int z2), .val (.ref b1), .unset] [])) (fun tq kq => XS.astoreN X1.here hx rfl (hb hby at_4) rfl rfl (l' := #[.val (.int z0), .val (.int z1), .val (.int z2), .val (.ref b1), .unset]) rfl kq) ?_
    refine Gl.st (b := T1.setTop (mkF m 6 #[.val (.int z0), .val (.int z1), .val (.int z2), .val (.ref b1), .unset] [(.ref b1)])) (fun tq kq => XS.aloadN X1.here hx rfl (hb hby at_5) rfl rfl kq) ?_
    refine Gl.st (b := T1.setTop (mkF m 7 #[.val (.int z0), .val (.int z1), .val (.int z2), .val (.ref b1), .unset] [(.int (0 : Int32)), (.ref b1)])) (fun tq kq => XS.iconst X1.here hx rfl (hb hby at_6) kq) ?_
    refine Gl.st (b := T1.setTop (mkF m 8 #[.val (.int z0), .val (.int z1), .val (.int z2), .val (.ref b1), .unset] [(.int z0), (.int (0 : Int32)), (.ref b1)])) (fun tq kq => XS.iloadN X1.here hx rfl (hb hby at_7) rfl kq) ?_
    refine Gl.st (b := T1.setTop (mkF m 9 #[.val (.int z0), .val (.int z1), .val (.int z2), .val (.ref b1), .unset] [(.int z1), (.int z0), (.int (0 : Int32)), (.ref b1)])) (fun tq kq => XS.iloadN X1.here hx rfl (hb hby at_8) rfl kq) ?_
    refine Gl.st (b := T1.setTop (mkF m 10 #[.val (.int z0), .val (.int z1), .val (.int z2), .val (.ref b1), .unset] [(.int z2), (.int z1), (.int z0), (.int (0 : Int32)), (.ref b1)])) (fun tq kq => XS.iloadN X1.here hx rfl (hb hby at_9) rfl kq) ?_
    refine Gl.st (b := T1.setTop (mkF m 11 #[.val (.int z0), .val (.int z1), .val (.int z2), .val (.ref b1), .unset] [(.int (0 : Int32)), (.int z2), (.int z1), (.int z0), (.int (0 : Int32)), (.ref b1)])) (fun tq kq => XS.iconst X1.here hx rfl (hb hby at_10) kq) ?_
    refine Gl.callS (W := 2) (argsL := [(.int z0), (.int z1), (.int z2), (.int (0 : Int32))]) (rest := [(.int (0 : Int32)), (.ref b1)]) X1 hx hZ hown (hw _ (List.mem_of_getElem? (i := 1) rfl)) (hw _ (List.mem_of_getElem? (i := 2) rfl)) (hw _ (List.mem_of_getElem? (i := 3) rfl)) (hw _ (List.mem_of_getElem? (i := 4) rfl)) (by decide) (rm1 l Z a0 hw [] z0 z1 z2 (0 : Int32) h1 n0 Z_1) (by decide) (by decide) e1 (by decide) (by decide) (by rw [hml]; rfl) (lenOf own_pd1 rfl) rfl rfl (Nat.le_of_eq rfl) (hb hby at_11) ?_
    intro T2 v2 L2 X2 hQ2
    obtain ⟨r2, rfl, N2q, e2q⟩ := hQ2
    have N2 := N0.app N2q
    show Gl _ _ _ _ _ _ _ (T2.setTop (mkF m 14 #[.val (.int z0), .val (.int z1), .val (.int z2), .val (.ref b1), .unset] [(.int r2), (.int (0 : Int32)), (.ref b1)]))
    refine Gl.castore (k := 0) X2 hx hZ e2q AA1 N2 G_b1 rfl (Nat.le_of_ble_eq_true rfl) (hb hby at_14) ?_
    intro T3 h3 L3 X3 e3 N3 W3 A3
    have AA3 : Ar Z h3 b1 .char [(.int (nar .char r2)), (.int (0 : Int32)), (.int (0 : Int32)), (.int (0 : Int32)), (.int (0 : Int32)), (.int (0 : Int32))] := A3
    have Z_3 : n0 ≤ h3.size := Nat.le_trans Z_1 (Nat.le_of_eq W3.size.symm)
    show Gl _ _ _ _ _ _ _ (T3.setTop (mkF m 15 #[.val (.int z0), .val (.int z1), .val (.int z2), .val (.ref b1), .unset] []))
    obtain ⟨c0, hcc0⟩ : ∃ q, q = (nar .char r2) := ⟨_, rfl⟩
    rw [← hcc0] at AA3
    refine Gl.st (b := T3.setTop (mkF m 16 #[.val (.int z0), .val (.int z1), .val (.int z2), .val (.ref b1), .unset] [(.ref b1)])) (fun tq kq => XS.aloadN X3.here hx rfl (hb hby at_15) rfl rfl kq) ?_
    refine Gl.st (b := T3.setTop (mkF m 17 #[.val (.int z0), .val (.int z1), .val (.int z2), .val (.ref b1), .unset] [(.int (1 : Int32)), (.ref b1)])) (fun tq kq => XS.iconst X3.here hx rfl (hb hby at_16) kq) ?_
    refine Gl.st (b := T3.setTop (mkF m 18 #[.val (.int z0), .val (.int z1), .val (.int z2), .val (.ref b1), .unset] [(.int z0), (.int (1 : Int32)), (.ref b1)])) (fun tq kq => XS.iloadN X3.here hx rfl (hb hby at_17) rfl kq) ?_
    refine Gl.st (b := T3.setTop (mkF m 19 #[.val (.int z0), .val (.int z1), .val (.int z2), .val (.ref b1), .unset] [(.int z1), (.int z0), (.int (1 : Int32)), (.ref b1)])) (fun tq kq => XS.iloadN X3.here hx rfl (hb hby at_18) rfl kq) ?_
    refine Gl.st (b := T3.setTop (mkF m 20 #[.val (.int z0), .val (.int z1), .val (.int z2), .val (.ref b1), .unset] [(.int z2), (.int z1), (.int z0), (.int (1 : Int32)), (.ref b1)])) (fun tq kq => XS.iloadN X3.here hx rfl (hb hby at_19) rfl kq) ?_
    refine Gl.st (b := T3.setTop (mkF m 21 #[.val (.int z0), .val (.int z1), .val (.int z2), .val (.ref b1), .unset] [(.int (1 : Int32)), (.int z2), (.int z1), (.int z0), (.int (1 : Int32)), (.ref b1)])) (fun tq kq => XS.iconst X3.here hx rfl (hb hby at_20) kq) ?_
    refine Gl.callS (W := 2) (argsL := [(.int z0), (.int z1), (.int z2), (.int (1 : Int32))]) (rest := [(.int (1 : Int32)), (.ref b1)]) X3 hx hZ hown (hw _ (List.mem_of_getElem? (i := 1) rfl)) (hw _ (List.mem_of_getElem? (i := 2) rfl)) (hw _ (List.mem_of_getElem? (i := 3) rfl)) (hw _ (List.mem_of_getElem? (i := 4) rfl)) (by decide) (rm1 l Z a0 hw [] z0 z1 z2 (1 : Int32) h3 n0 Z_3) (by decide) (by decide) e3 (by decide) (by decide) (by rw [hml]; rfl) (lenOf own_pd1 rfl) rfl rfl (Nat.le_of_eq rfl) (hb hby at_21) ?_
    intro T4 v4 L4 X4 hQ4
    obtain ⟨r4, rfl, N4q, e4q⟩ := hQ4
    have N4 := N3.app N4q
    show Gl _ _ _ _ _ _ _ (T4.setTop (mkF m 24 #[.val (.int z0), .val (.int z1), .val (.int z2), .val (.ref b1), .unset] [(.int r4), (.int (1 : Int32)), (.ref b1)]))
    refine Gl.castore (k := 1) X4 hx hZ e4q AA3 N4 G_b1 rfl (Nat.le_of_ble_eq_true rfl) (hb hby at_24) ?_
    intro T5 h5 L5 X5 e5 N5 W5 A5
    have AA5 : Ar Z h5 b1 .char [(.int c0), (.int (nar .char r4)), (.int (0 : Int32)), (.int (0 : Int32)), (.int (0 : Int32)), (.int (0 : Int32))] := A5
    have Z_5 : n0 ≤ h5.size := Nat.le_trans Z_3 (Nat.le_of_eq W5.size.symm)
    show Gl _ _ _ _ _ _ _ (T5.setTop (mkF m 25 #[.val (.int z0), .val (.int z1), .val (.int z2), .val (.ref b1), .unset] []))
    obtain ⟨c1, hcc1⟩ : ∃ q, q = (nar .char r4) := ⟨_, rfl⟩
    rw [← hcc1] at AA5
    refine Gl.st (b := T5.setTop (mkF m 26 #[.val (.int z0), .val (.int z1), .val (.int z2), .val (.ref b1), .unset] [(.ref b1)])) (fun tq kq => XS.aloadN X5.here hx rfl (hb hby at_25) rfl rfl kq) ?_
    refine Gl.st (b := T5.setTop (mkF m 27 #[.val (.int z0), .val (.int z1), .val (.int z2), .val (.ref b1), .unset] [(.int (2 : Int32)), (.ref b1)])) (fun tq kq => XS.iconst X5.here hx rfl (hb hby at_26) kq) ?_
    refine Gl.st (b := T5.setTop (mkF m 28 #[.val (.int z0), .val (.int z1), .val (.int z2), .val (.ref b1), .unset] [(.int z0), (.int (2 : Int32)), (.ref b1)])) (fun tq kq => XS.iloadN X5.here hx rfl (hb hby at_27) rfl kq) ?_
    refine Gl.st (b := T5.setTop (mkF m 29 #[.val (.int z0), .val (.int z1), .val (.int z2), .val (.ref b1), .unset] [(.int z1), (.int z0), (.int (2 : Int32)), (.ref b1)])) (fun tq kq => XS.iloadN X5.here hx rfl (hb hby at_28) rfl kq) ?_
    refine Gl.st (b := T5.setTop (mkF m 30 #[.val (.int z0), .val (.int z1), .val (.int z2), .val (.ref b1), .unset] [(.int z2), (.int z1), (.int z0), (.int (2 : Int32)), (.ref b1)])) (fun tq kq => XS.iloadN X5.here hx rfl (hb hby at_29) rfl kq) ?_
    refine Gl.st (b := T5.setTop (mkF m 31 #[.val (.int z0), .val (.int z1), .val (.int z2), .val (.ref b1), .unset] [(.int (2 : Int32)), (.int z2), (.int z1), (.int z0), (.int (2 : Int32)), (.ref b1)])) (fun tq kq => XS.iconst X5.here hx rfl (hb hby at_30) kq) ?_
    refine Gl.callS (W := 2) (argsL := [(.int z0), (.int z1), (.int z2), (.int (2 : Int32))]) (rest := [(.int (2 : Int32)), (.ref b1)]) X5 hx hZ hown (hw _ (List.mem_of_getElem? (i := 1) rfl)) (hw _ (List.mem_of_getElem? (i := 2) rfl)) (hw _ (List.mem_of_getElem? (i := 3) rfl)) (hw _ (List.mem_of_getElem? (i := 4) rfl)) (by decide) (rm1 l Z a0 hw [] z0 z1 z2 (2 : Int32) h5 n0 Z_5) (by decide) (by decide) e5 (by decide) (by decide) (by rw [hml]; rfl) (lenOf own_pd1 rfl) rfl rfl (Nat.le_of_eq rfl) (hb hby at_31) ?_
    intro T6 v6 L6 X6 hQ6
    obtain ⟨r6, rfl, N6q, e6q⟩ := hQ6
    have N6 := N5.app N6q
    show Gl _ _ _ _ _ _ _ (T6.setTop (mkF m 34 #[.val (.int z0), .val (.int z1), .val (.int z2), .val (.ref b1), .unset] [(.int r6), (.int (2 : Int32)), (.ref b1)]))
    refine Gl.castore (k := 2) X6 hx hZ e6q AA5 N6 G_b1 rfl (Nat.le_of_ble_eq_true rfl) (hb hby at_34) ?_
    intro T7 h7 L7 X7 e7 N7 W7 A7
    have AA7 : Ar Z h7 b1 .char [(.int c0), (.int c1), (.int (nar .char r6)), (.int (0 : Int32)), (.int (0 : Int32)), (.int (0 : Int32))] := A7
    have Z_7 : n0 ≤ h7.size := Nat.le_trans Z_5 (Nat.le_of_eq W7.size.symm)
    show Gl _ _ _ _ _ _ _ (T7.setTop (mkF m 35 #[.val (.int z0), .val (.int z1), .val (.int z2), .val (.ref b1), .unset] []))
    obtain ⟨c2, hcc2⟩ : ∃ q, q = (nar .char r6) := ⟨_, rfl⟩
    rw [← hcc2] at AA7
    refine Gl.st (b := T7.setTop (mkF m 36 #[.val (.int z0), .val (.int z1), .val (.int z2), .val (.ref b1), .unset] [(.ref b1)])) (fun tq kq => XS.aloadN X7.here hx rfl (hb hby at_35) rfl rfl kq) ?_
    refine Gl.st (b := T7.setTop (mkF m 37 #[.val (.int z0), .val (.int z1), .val (.int z2), .val (.ref b1), .unset] [(.int (3 : Int32)), (.ref b1)])) (fun tq kq => XS.iconst X7.here hx rfl (hb hby at_36) kq) ?_
    refine Gl.st (b := T7.setTop (mkF m 38 #[.val (.int z0), .val (.int z1), .val (.int z2), .val (.ref b1), .unset] [(.int z0), (.int (3 : Int32)), (.ref b1)])) (fun tq kq => XS.iloadN X7.here hx rfl (hb hby at_37) rfl kq) ?_
    refine Gl.st (b := T7.setTop (mkF m 39 #[.val (.int z0), .val (.int z1), .val (.int z2), .val (.ref b1), .unset] [(.int z1), (.int z0), (.int (3 : Int32)), (.ref b1)])) (fun tq kq => XS.iloadN X7.here hx rfl (hb hby at_38) rfl kq) ?_
    refine Gl.st (b := T7.setTop (mkF m 40 #[.val (.int z0), .val (.int z1), .val (.int z2), .val (.ref b1), .unset] [(.int z2), (.int z1), (.int z0), (.int (3 : Int32)), (.ref b1)])) (fun tq kq => XS.iloadN X7.here hx rfl (hb hby at_39) rfl kq) ?_
    refine Gl.st (b := T7.setTop (mkF m 41 #[.val (.int z0), .val (.int z1), .val (.int z2), .val (.ref b1), .unset] [(.int (3 : Int32)), (.int z2), (.int z1), (.int z0), (.int (3 : Int32)), (.ref b1)])) (fun tq kq => XS.iconst X7.here hx rfl (hb hby at_40) kq) ?_
    refine Gl.callS (W := 2) (argsL := [(.int z0), (.int z1), (.int z2), (.int (3 : Int32))]) (rest := [(.int (3 : Int32)), (.ref b1)]) X7 hx hZ hown (hw _ (List.mem_of_getElem? (i := 1) rfl)) (hw _ (List.mem_of_getElem? (i := 2) rfl)) (hw _ (List.mem_of_getElem? (i := 3) rfl)) (hw _ (List.mem_of_getElem? (i := 4) rfl)) (by decide) (rm1 l Z a0 hw [] z0 z1 z2 (3 : Int32) h7 n0 Z_7) (by decide) (by decide) e7 (by decide) (by decide) (by rw [hml]; rfl) (lenOf own_pd1 rfl) rfl rfl (Nat.le_of_eq rfl) (hb hby at_41) ?_
    intro T8 v8 L8 X8 hQ8
    obtain ⟨r8, rfl, N8q, e8q⟩ := hQ8
    have N8 := N7.app N8q
    show Gl _ _ _ _ _ _ _ (T8.setTop (mkF m 44 #[.val (.int z0), .val (.int z1), .val (.int z2), .val (.ref b1), .unset] [(.int r8), (.int (3 : Int32)), (.ref b1)]))
    refine Gl.castore (k := 3) X8 hx hZ e8q AA7 N8 G_b1 rfl (Nat.le_of_ble_eq_true rfl) (hb hby at_44) ?_
    intro T9 h9 L9 X9 e9 N9 W9 A9
    have AA9 : Ar Z h9 b1 .char [(.int c0), (.int c1), (.int c2), (.int (nar .char r8)), (.int (0 : Int32)), (.int (0 : Int32))] := A9
    have Z_9 : n0 ≤ h9.size := Nat.le_trans Z_7 (Nat.le_of_eq W9.size.symm)
    show Gl _ _ _ _ _ _ _ (T9.setTop (mkF m 45 #[.val (.int z0), .val (.int z1), .val (.int z2), .val (.ref b1), .unset] []))
    obtain ⟨c3, hcc3⟩ : ∃ q, q = (nar .char r8) := ⟨_, rfl⟩
    rw [← hcc3] at AA9
    refine Gl.st (b := T9.setTop (mkF m 46 #[.val (.int z0), .val (.int z1), .val (.int z2), .val (.ref b1), .unset] [(.ref b1)])) (fun tq kq => XS.aloadN X9.here hx rfl (hb hby at_45) rfl rfl kq) ?_
    refine Gl.st (b := T9.setTop (mkF m 47 #[.val (.int z0), .val (.int z1), .val (.int z2), .val (.ref b1), .unset] [(.int (4 : Int32)), (.ref b1)])) (fun tq kq => XS.iconst X9.here hx rfl (hb hby at_46) kq) ?_
    refine Gl.st (b := T9.setTop (mkF m 48 #[.val (.int z0), .val (.int z1), .val (.int z2), .val (.ref b1), .unset] [(.int z0), (.int (4 : Int32)), (.ref b1)])) (fun tq kq => XS.iloadN X9.here hx rfl (hb hby at_47) rfl kq) ?_
    refine Gl.st (b := T9.setTop (mkF m 49 #[.val (.int z0), .val (.int z1), .val (.int z2), .val (.ref b1), .unset] [(.int z1), (.int z0), (.int (4 : Int32)), (.ref b1)])) (fun tq kq => XS.iloadN X9.here hx rfl (hb hby at_48) rfl kq) ?_
    refine Gl.st (b := T9.setTop (mkF m 50 #[.val (.int z0), .val (.int z1), .val (.int z2), .val (.ref b1), .unset] [(.int z2), (.int z1), (.int z0), (.int (4 : Int32)), (.ref b1)])) (fun tq kq => XS.iloadN X9.here hx rfl (hb hby at_49) rfl kq) ?_
    refine Gl.st (b := T9.setTop (mkF m 51 #[.val (.int z0), .val (.int z1), .val (.int z2), .val (.ref b1), .unset] [(.int (4 : Int32)), (.int z2), (.int z1), (.int z0), (.int (4 : Int32)), (.ref b1)])) (fun tq kq => XS.iconst X9.here hx rfl (hb hby at_50) kq) ?_
    refine Gl.callS (W := 2) (argsL := [(.int z0), (.int z1), (.int z2), (.int (4 : Int32))]) (rest := [(.int (4 : Int32)), (.ref b1)]) X9 hx hZ hown (hw _ (List.mem_of_getElem? (i := 1) rfl)) (hw _ (List.mem_of_getElem? (i := 2) rfl)) (hw _ (List.mem_of_getElem? (i := 3) rfl)) (hw _ (List.mem_of_getElem? (i := 4) rfl)) (by decide) (rm1 l Z a0 hw [] z0 z1 z2 (4 : Int32) h9 n0 Z_9) (by decide) (by decide) e9 (by decide) (by decide) (by rw [hml]; rfl) (lenOf own_pd1 rfl) rfl rfl (Nat.le_of_eq rfl) (hb hby at_51) ?_
    intro T10 v10 L10 X10 hQ10
    obtain ⟨r10, rfl, N10q, e10q⟩ := hQ10
    have N10 := N9.app N10q
    show Gl _ _ _ _ _ _ _ (T10.setTop (mkF m 54 #[.val (.int z0), .val (.int z1), .val (.int z2), .val (.ref b1), .unset] [(.int r10), (.int (4 : Int32)), (.ref b1)]))
    refine Gl.castore (k := 4) X10 hx hZ e10q AA9 N10 G_b1 rfl (Nat.le_of_ble_eq_true rfl) (hb hby at_54) ?_
    intro T11 h11 L11 X11 e11 N11 W11 A11
    have AA11 : Ar Z h11 b1 .char [(.int c0), (.int c1), (.int c2), (.int c3), (.int (nar .char r10)), (.int (0 : Int32))] := A11
    have Z_11 : n0 ≤ h11.size := Nat.le_trans Z_9 (Nat.le_of_eq W11.size.symm)
    show Gl _ _ _ _ _ _ _ (T11.setTop (mkF m 55 #[.val (.int z0), .val (.int z1), .val (.int z2), .val (.ref b1), .unset] []))
    obtain ⟨c4, hcc4⟩ : ∃ q, q = (nar .char r10) := ⟨_, rfl⟩
    rw [← hcc4] at AA11
    refine Gl.st (b := T11.setTop (mkF m 56 #[.val (.int z0), .val (.int z1), .val (.int z2), .val (.ref b1), .unset] [(.ref b1)])) (fun tq kq => XS.aloadN X11.here hx rfl (hb hby at_55) rfl rfl kq) ?_
    refine Gl.st (b := T11.setTop (mkF m 57 #[.val (.int z0), .val (.int z1), .val (.int z2), .val (.ref b1), .unset] [(.int (5 : Int32)), (.ref b1)])) (fun tq kq => XS.iconst X11.here hx rfl (hb hby at_56) kq) ?_
    refine Gl.st (b := T11.setTop (mkF m 58 #[.val (.int z0), .val (.int z1), .val (.int z2), .val (.ref b1), .unset] [(.int z0), (.int (5 : Int32)), (.ref b1)])) (fun tq kq => XS.iloadN X11.here hx rfl (hb hby at_57) rfl kq) ?_
    refine Gl.st (b := T11.setTop (mkF m 59 #[.val (.int z0), .val (.int z1), .val (.int z2), .val (.ref b1), .unset] [(.int z1), (.int z0), (.int (5 : Int32)), (.ref b1)])) (fun tq kq => XS.iloadN X11.here hx rfl (hb hby at_58) rfl kq) ?_
    refine Gl.st (b := T11.setTop (mkF m 60 #[.val (.int z0), .val (.int z1), .val (.int z2), .val (.ref b1), .unset] [(.int z2), (.int z1), (.int z0), (.int (5 : Int32)), (.ref b1)])) (fun tq kq => XS.iloadN X11.here hx rfl (hb hby at_59) rfl kq) ?_
    refine Gl.st (b := T11.setTop (mkF m 61 #[.val (.int z0), .val (.int z1), .val (.int z2), .val (.ref b1), .unset] [(.int (5 : Int32)), (.int z2), (.int z1), (.int z0), (.int (5 : Int32)), (.ref b1)])) (fun tq kq => XS.iconst X11.here hx rfl (hb hby at_60) kq) ?_
    refine Gl.callS (W := 2) (argsL := [(.int z0), (.int z1), (.int z2), (.int (5 : Int32))]) (rest := [(.int (5 : Int32)), (.ref b1)]) X11 hx hZ hown (hw _ (List.mem_of_getElem? (i := 1) rfl)) (hw _ (List.mem_of_getElem? (i := 2) rfl)) (hw _ (List.mem_of_getElem? (i := 3) rfl)) (hw _ (List.mem_of_getElem? (i := 4) rfl)) (by decide) (rm1 l Z a0 hw [] z0 z1 z2 (5 : Int32) h11 n0 Z_11) (by decide) (by decide) e11 (by decide) (by decide) (by rw [hml]; rfl) (lenOf own_pd1 rfl) rfl rfl (Nat.le_of_eq rfl) (hb hby at_61) ?_
    intro T12 v12 L12 X12 hQ12
    obtain ⟨r12, rfl, N12q, e12q⟩ := hQ12
    have N12 := N11.app N12q
    show Gl _ _ _ _ _ _ _ (T12.setTop (mkF m 64 #[.val (.int z0), .val (.int z1), .val (.int z2), .val (.ref b1), .unset] [(.int r12), (.int (5 : Int32)), (.ref b1)]))
    refine Gl.castore (k := 5) X12 hx hZ e12q AA11 N12 G_b1 rfl (Nat.le_of_ble_eq_true rfl) (hb hby at_64) ?_
    intro T13 h13 L13 X13 e13 N13 W13 A13
    have AA13 : Ar Z h13 b1 .char [(.int c0), (.int c1), (.int c2), (.int c3), (.int c4), (.int (nar .char r12))] := A13
    have Z_13 : n0 ≤ h13.size := Nat.le_trans Z_11 (Nat.le_of_eq W13.size.symm)
    show Gl _ _ _ _ _ _ _ (T13.setTop (mkF m 65 #[.val (.int z0), .val (.int z1), .val (.int z2), .val (.ref b1), .unset] []))
    obtain ⟨c5, hcc5⟩ : ∃ q, q = (nar .char r12) := ⟨_, rfl⟩
    rw [← hcc5] at AA13
    have AC : Ar Z h13 b1 .char (([c0, c1, c2, c3, c4, c5] : List Int32).map Value.int) := AA13
    obtain ⟨cs, hcs⟩ : ∃ q : List Int32, q = ([c0, c1, c2, c3, c4, c5] : List Int32) := ⟨_, rfl⟩
    have hl : cs.length = 6 := by rw [hcs]; rfl
    rw [← hcs] at AC
    refine Gl.st (b := T13.setTop (mkF m 66 #[.val (.int z0), .val (.int z1), .val (.int z2), .val (.ref b1), .unset] [(.ref b1)])) (fun tq kq => XS.aloadN X13.here hx rfl (hb hby at_65) rfl rfl kq) ?_
    refine Gl.callS (W := 0) (argsL := [(.ref b1)]) (rest := []) X13 hx hZ hown (hw _ (List.mem_of_getElem? (i := 5) rfl)) (hw _ (List.mem_of_getElem? (i := 6) rfl)) (hw _ (List.mem_of_getElem? (i := 7) rfl)) (hw _ (List.mem_of_getElem? (i := 8) rfl)) (by decide) (rm4 l Z a0 hw [] b1 cs h13 n0 Z_13 AC hl) (by decide) (by decide) e13 (by decide) (by decide) (by rw [hml]; rfl) (lenOf own_pd2 rfl) rfl rfl (Nat.le_of_eq rfl) (hb hby at_66) ?_
    intro T14 v14 L14 X14 hQ14
    obtain ⟨rb, rfl, N14q, K14, hrb, AC2, AR⟩ := hQ14
    have N14 := N13.app N14q
    have hZ2 : n0 ≤ T14.heap.size := Nat.le_trans Z_13 K14.1
    rw [own_kmpE] at AR
    show Gl _ _ _ _ _ _ _ (T14.setTop (mkF m 69 #[.val (.int z0), .val (.int z1), .val (.int z2), .val (.ref b1), .unset] [(.ref rb)]))
    refine Gl.st (b := T14.setTop (mkF m 71 #[.val (.int z0), .val (.int z1), .val (.int z2), .val (.ref b1), .val (.ref rb)] [])) (fun tq kq => XS.astore X14.here hx rfl (hb hby at_69) rfl rfl (l' := #[.val (.int z0), .val (.int z1), .val (.int z2), .val (.ref b1), .val (.ref rb)]) rfl kq) ?_
    refine Gl.st (b := T14.setTop (mkF m 73 #[.val (.int z0), .val (.int z1), .val (.int z2), .val (.ref b1), .val (.ref rb)] [(.ref rb)])) (fun tq kq => XS.aload X14.here hx rfl (hb hby at_71) rfl rfl kq) ?_
    refine Gl.alen (z := (6 : Int32)) X14 hx hZ rfl AR rfl (hb hby at_73) ?_
    show Gl _ _ _ _ _ _ _ (T14.setTop (mkF m 74 #[.val (.int z0), .val (.int z1), .val (.int z2), .val (.ref b1), .val (.ref rb)] [(.int (6 : Int32))]))
    refine Gl.st (b := T14.setTop (mkF m 76 #[.val (.int z0), .val (.int z1), .val (.int z2), .val (.ref b1), .val (.ref rb)] [(.int (6 : Int32)), (.int (6 : Int32))])) (fun tq kq => XS.bipush X14.here hx rfl (hb hby at_74) kq) ?_
    refine Gl.st (b := T14.setTop (mkF m 81 #[.val (.int z0), .val (.int z1), .val (.int z2), .val (.ref b1), .val (.ref rb)] [])) (fun tq kq => XS.icmpYes X14.here hx rfl (pc0 := 76) (pc' := 81) rfl (hb hby at_76) rfl (teq (x := (6 : Int32)) (y := (6 : Int32)) (by decide)).1 (by decide) (by decide) kq) ?_
    refine Gl.st (b := T14.setTop (mkF m 83 #[.val (.int z0), .val (.int z1), .val (.int z2), .val (.ref b1), .val (.ref rb)] [(.ref rb)])) (fun tq kq => XS.aload X14.here hx rfl (hb hby at_81) rfl rfl kq) ?_
    refine Gl.st (b := T14.setTop (mkF m 84 #[.val (.int z0), .val (.int z1), .val (.int z2), .val (.ref b1), .val (.ref rb)] [(.int (0 : Int32)), (.ref rb)])) (fun tq kq => XS.iconst X14.here hx rfl (hb hby at_83) kq) ?_
    refine Gl.iaload (k := 0) (v := (.int (own_bd5 cs (1 : Int32)))) X14 hx hZ rfl AR rfl rfl (hb hby at_84) ?_
    show Gl _ _ _ _ _ _ _ (T14.setTop (mkF m 85 #[.val (.int z0), .val (.int z1), .val (.int z2), .val (.ref b1), .val (.ref rb)] [(.int (own_bd5 cs (1 : Int32)))]))
    refine Gl.st (b := T14.setTop (mkF m 86 #[.val (.int z0), .val (.int z1), .val (.int z2), .val (.ref b1), .val (.ref rb)] [(.ref b1), (.int (own_bd5 cs (1 : Int32)))])) (fun tq kq => XS.aloadN X14.here hx rfl (hb hby at_85) rfl rfl kq) ?_
    refine Gl.st (b := T14.setTop (mkF m 87 #[.val (.int z0), .val (.int z1), .val (.int z2), .val (.ref b1), .val (.ref rb)] [(.int (1 : Int32)), (.ref b1), (.int (own_bd5 cs (1 : Int32)))])) (fun tq kq => XS.iconst X14.here hx rfl (hb hby at_86) kq) ?_
    refine Gl.callP (W := 1) (argsL := [(.ref b1), (.int (1 : Int32))]) (rest := [(.int (own_bd5 cs (1 : Int32)))]) (w := (.int (own_bd5 cs (1 : Int32)))) X14 hx hZ hown (hw _ (List.mem_of_getElem? (i := 10) rfl)) (hw _ (List.mem_of_getElem? (i := 11) rfl)) (hw _ (List.mem_of_getElem? (i := 3) rfl)) (hw _ (List.mem_of_getElem? (i := 12) rfl)) (by decide) (rm3 l Z a0 hw [] b1 (1 : Int32) cs T14.heap n0 hZ2 AC2 hl (by decide) (by decide)) (by decide) (by decide) rfl N14 (by decide) (by decide) (by rw [hml]; rfl) (lenOf own_pd3 rfl) rfl rfl (Nat.le_of_eq rfl) (hb hby at_87) ?_
    intro T15 L15 X15 e15 N15
    show Gl _ _ _ _ _ _ _ (T15.setTop (mkF m 90 #[.val (.int z0), .val (.int z1), .val (.int z2), .val (.ref b1), .val (.ref rb)] [(.int (own_bd5 cs (1 : Int32))), (.int (own_bd5 cs (1 : Int32)))]))
    refine Gl.st (b := T15.setTop (mkF m 93 #[.val (.int z0), .val (.int z1), .val (.int z2), .val (.ref b1), .val (.ref rb)] [])) (fun tq kq => XS.icmpNo X15.here hx rfl (hb hby at_90) rfl (teq rfl).2 kq) ?_
    refine Gl.st (b := T15.setTop (mkF m 95 #[.val (.int z0), .val (.int z1), .val (.int z2), .val (.ref b1), .val (.ref rb)] [(.ref rb)])) (fun tq kq => XS.aload X15.here hx rfl (hb hby at_93) rfl rfl kq) ?_
    refine Gl.st (b := T15.setTop (mkF m 96 #[.val (.int z0), .val (.int z1), .val (.int z2), .val (.ref b1), .val (.ref rb)] [(.int (1 : Int32)), (.ref rb)])) (fun tq kq => XS.iconst X15.here hx rfl (hb hby at_95) kq) ?_
    refine Gl.iaload (k := 1) (v := (.int (own_bd5 cs (2 : Int32)))) X15 hx hZ e15 AR rfl rfl (hb hby at_96) ?_
    show Gl _ _ _ _ _ _ _ (T15.setTop (mkF m 97 #[.val (.int z0), .val (.int z1), .val (.int z2), .val (.ref b1), .val (.ref rb)] [(.int (own_bd5 cs (2 : Int32)))]))
    refine Gl.st (b := T15.setTop (mkF m 98 #[.val (.int z0), .val (.int z1), .val (.int z2), .val (.ref b1), .val (.ref rb)] [(.ref b1), (.int (own_bd5 cs (2 : Int32)))])) (fun tq kq => XS.aloadN X15.here hx rfl (hb hby at_97) rfl rfl kq) ?_
    refine Gl.st (b := T15.setTop (mkF m 99 #[.val (.int z0), .val (.int z1), .val (.int z2), .val (.ref b1), .val (.ref rb)] [(.int (2 : Int32)), (.ref b1), (.int (own_bd5 cs (2 : Int32)))])) (fun tq kq => XS.iconst X15.here hx rfl (hb hby at_98) kq) ?_
    refine Gl.callP (W := 1) (argsL := [(.ref b1), (.int (2 : Int32))]) (rest := [(.int (own_bd5 cs (2 : Int32)))]) (w := (.int (own_bd5 cs (2 : Int32)))) X15 hx hZ hown (hw _ (List.mem_of_getElem? (i := 10) rfl)) (hw _ (List.mem_of_getElem? (i := 11) rfl)) (hw _ (List.mem_of_getElem? (i := 3) rfl)) (hw _ (List.mem_of_getElem? (i := 12) rfl)) (by decide) (rm3 l Z a0 hw [] b1 (2 : Int32) cs T14.heap n0 hZ2 AC2 hl (by decide) (by decide)) (by decide) (by decide) e15 N15 (by decide) (by decide) (by rw [hml]; rfl) (lenOf own_pd3 rfl) rfl rfl (Nat.le_of_eq rfl) (hb hby at_99) ?_
    intro T16 L16 X16 e16 N16
    show Gl _ _ _ _ _ _ _ (T16.setTop (mkF m 102 #[.val (.int z0), .val (.int z1), .val (.int z2), .val (.ref b1), .val (.ref rb)] [(.int (own_bd5 cs (2 : Int32))), (.int (own_bd5 cs (2 : Int32)))]))
    refine Gl.st (b := T16.setTop (mkF m 105 #[.val (.int z0), .val (.int z1), .val (.int z2), .val (.ref b1), .val (.ref rb)] [])) (fun tq kq => XS.icmpNo X16.here hx rfl (hb hby at_102) rfl (teq rfl).2 kq) ?_
    refine Gl.st (b := T16.setTop (mkF m 107 #[.val (.int z0), .val (.int z1), .val (.int z2), .val (.ref b1), .val (.ref rb)] [(.ref rb)])) (fun tq kq => XS.aload X16.here hx rfl (hb hby at_105) rfl rfl kq) ?_
    refine Gl.st (b := T16.setTop (mkF m 108 #[.val (.int z0), .val (.int z1), .val (.int z2), .val (.ref b1), .val (.ref rb)] [(.int (2 : Int32)), (.ref rb)])) (fun tq kq => XS.iconst X16.here hx rfl (hb hby at_107) kq) ?_
    refine Gl.iaload (k := 2) (v := (.int (own_bd5 cs (3 : Int32)))) X16 hx hZ e16 AR rfl rfl (hb hby at_108) ?_
    show Gl _ _ _ _ _ _ _ (T16.setTop (mkF m 109 #[.val (.int z0), .val (.int z1), .val (.int z2), .val (.ref b1), .val (.ref rb)] [(.int (own_bd5 cs (3 : Int32)))]))
    refine Gl.st (b := T16.setTop (mkF m 110 #[.val (.int z0), .val (.int z1), .val (.int z2), .val (.ref b1), .val (.ref rb)] [(.ref b1), (.int (own_bd5 cs (3 : Int32)))])) (fun tq kq => XS.aloadN X16.here hx rfl (hb hby at_109) rfl rfl kq) ?_
    refine Gl.st (b := T16.setTop (mkF m 111 #[.val (.int z0), .val (.int z1), .val (.int z2), .val (.ref b1), .val (.ref rb)] [(.int (3 : Int32)), (.ref b1), (.int (own_bd5 cs (3 : Int32)))])) (fun tq kq => XS.iconst X16.here hx rfl (hb hby at_110) kq) ?_
    refine Gl.callP (W := 1) (argsL := [(.ref b1), (.int (3 : Int32))]) (rest := [(.int (own_bd5 cs (3 : Int32)))]) (w := (.int (own_bd5 cs (3 : Int32)))) X16 hx hZ hown (hw _ (List.mem_of_getElem? (i := 10) rfl)) (hw _ (List.mem_of_getElem? (i := 11) rfl)) (hw _ (List.mem_of_getElem? (i := 3) rfl)) (hw _ (List.mem_of_getElem? (i := 12) rfl)) (by decide) (rm3 l Z a0 hw [] b1 (3 : Int32) cs T14.heap n0 hZ2 AC2 hl (by decide) (by decide)) (by decide) (by decide) e16 N16 (by decide) (by decide) (by rw [hml]; rfl) (lenOf own_pd3 rfl) rfl rfl (Nat.le_of_eq rfl) (hb hby at_111) ?_
    intro T17 L17 X17 e17 N17
    show Gl _ _ _ _ _ _ _ (T17.setTop (mkF m 114 #[.val (.int z0), .val (.int z1), .val (.int z2), .val (.ref b1), .val (.ref rb)] [(.int (own_bd5 cs (3 : Int32))), (.int (own_bd5 cs (3 : Int32)))]))
    refine Gl.st (b := T17.setTop (mkF m 117 #[.val (.int z0), .val (.int z1), .val (.int z2), .val (.ref b1), .val (.ref rb)] [])) (fun tq kq => XS.icmpNo X17.here hx rfl (hb hby at_114) rfl (teq rfl).2 kq) ?_
    refine Gl.st (b := T17.setTop (mkF m 119 #[.val (.int z0), .val (.int z1), .val (.int z2), .val (.ref b1), .val (.ref rb)] [(.ref rb)])) (fun tq kq => XS.aload X17.here hx rfl (hb hby at_117) rfl rfl kq) ?_
    refine Gl.st (b := T17.setTop (mkF m 120 #[.val (.int z0), .val (.int z1), .val (.int z2), .val (.ref b1), .val (.ref rb)] [(.int (3 : Int32)), (.ref rb)])) (fun tq kq => XS.iconst X17.here hx rfl (hb hby at_119) kq) ?_
    refine Gl.iaload (k := 3) (v := (.int (own_bd5 cs (4 : Int32)))) X17 hx hZ e17 AR rfl rfl (hb hby at_120) ?_
    show Gl _ _ _ _ _ _ _ (T17.setTop (mkF m 121 #[.val (.int z0), .val (.int z1), .val (.int z2), .val (.ref b1), .val (.ref rb)] [(.int (own_bd5 cs (4 : Int32)))]))
    refine Gl.st (b := T17.setTop (mkF m 122 #[.val (.int z0), .val (.int z1), .val (.int z2), .val (.ref b1), .val (.ref rb)] [(.ref b1), (.int (own_bd5 cs (4 : Int32)))])) (fun tq kq => XS.aloadN X17.here hx rfl (hb hby at_121) rfl rfl kq) ?_
    refine Gl.st (b := T17.setTop (mkF m 123 #[.val (.int z0), .val (.int z1), .val (.int z2), .val (.ref b1), .val (.ref rb)] [(.int (4 : Int32)), (.ref b1), (.int (own_bd5 cs (4 : Int32)))])) (fun tq kq => XS.iconst X17.here hx rfl (hb hby at_122) kq) ?_
    refine Gl.callP (W := 1) (argsL := [(.ref b1), (.int (4 : Int32))]) (rest := [(.int (own_bd5 cs (4 : Int32)))]) (w := (.int (own_bd5 cs (4 : Int32)))) X17 hx hZ hown (hw _ (List.mem_of_getElem? (i := 10) rfl)) (hw _ (List.mem_of_getElem? (i := 11) rfl)) (hw _ (List.mem_of_getElem? (i := 3) rfl)) (hw _ (List.mem_of_getElem? (i := 12) rfl)) (by decide) (rm3 l Z a0 hw [] b1 (4 : Int32) cs T14.heap n0 hZ2 AC2 hl (by decide) (by decide)) (by decide) (by decide) e17 N17 (by decide) (by decide) (by rw [hml]; rfl) (lenOf own_pd3 rfl) rfl rfl (Nat.le_of_eq rfl) (hb hby at_123) ?_
    intro T18 L18 X18 e18 N18
    show Gl _ _ _ _ _ _ _ (T18.setTop (mkF m 126 #[.val (.int z0), .val (.int z1), .val (.int z2), .val (.ref b1), .val (.ref rb)] [(.int (own_bd5 cs (4 : Int32))), (.int (own_bd5 cs (4 : Int32)))]))
    refine Gl.st (b := T18.setTop (mkF m 129 #[.val (.int z0), .val (.int z1), .val (.int z2), .val (.ref b1), .val (.ref rb)] [])) (fun tq kq => XS.icmpNo X18.here hx rfl (hb hby at_126) rfl (teq rfl).2 kq) ?_
    refine Gl.st (b := T18.setTop (mkF m 131 #[.val (.int z0), .val (.int z1), .val (.int z2), .val (.ref b1), .val (.ref rb)] [(.ref rb)])) (fun tq kq => XS.aload X18.here hx rfl (hb hby at_129) rfl rfl kq) ?_
    refine Gl.st (b := T18.setTop (mkF m 132 #[.val (.int z0), .val (.int z1), .val (.int z2), .val (.ref b1), .val (.ref rb)] [(.int (4 : Int32)), (.ref rb)])) (fun tq kq => XS.iconst X18.here hx rfl (hb hby at_131) kq) ?_
    refine Gl.iaload (k := 4) (v := (.int (own_bd5 cs (5 : Int32)))) X18 hx hZ e18 AR rfl rfl (hb hby at_132) ?_
    show Gl _ _ _ _ _ _ _ (T18.setTop (mkF m 133 #[.val (.int z0), .val (.int z1), .val (.int z2), .val (.ref b1), .val (.ref rb)] [(.int (own_bd5 cs (5 : Int32)))]))
    refine Gl.st (b := T18.setTop (mkF m 134 #[.val (.int z0), .val (.int z1), .val (.int z2), .val (.ref b1), .val (.ref rb)] [(.ref b1), (.int (own_bd5 cs (5 : Int32)))])) (fun tq kq => XS.aloadN X18.here hx rfl (hb hby at_133) rfl rfl kq) ?_
    refine Gl.st (b := T18.setTop (mkF m 135 #[.val (.int z0), .val (.int z1), .val (.int z2), .val (.ref b1), .val (.ref rb)] [(.int (5 : Int32)), (.ref b1), (.int (own_bd5 cs (5 : Int32)))])) (fun tq kq => XS.iconst X18.here hx rfl (hb hby at_134) kq) ?_
    refine Gl.callP (W := 1) (argsL := [(.ref b1), (.int (5 : Int32))]) (rest := [(.int (own_bd5 cs (5 : Int32)))]) (w := (.int (own_bd5 cs (5 : Int32)))) X18 hx hZ hown (hw _ (List.mem_of_getElem? (i := 10) rfl)) (hw _ (List.mem_of_getElem? (i := 11) rfl)) (hw _ (List.mem_of_getElem? (i := 3) rfl)) (hw _ (List.mem_of_getElem? (i := 12) rfl)) (by decide) (rm3 l Z a0 hw [] b1 (5 : Int32) cs T14.heap n0 hZ2 AC2 hl (by decide) (by decide)) (by decide) (by decide) e18 N18 (by decide) (by decide) (by rw [hml]; rfl) (lenOf own_pd3 rfl) rfl rfl (Nat.le_of_eq rfl) (hb hby at_135) ?_
    intro T19 L19 X19 e19 N19
    show Gl _ _ _ _ _ _ _ (T19.setTop (mkF m 138 #[.val (.int z0), .val (.int z1), .val (.int z2), .val (.ref b1), .val (.ref rb)] [(.int (own_bd5 cs (5 : Int32))), (.int (own_bd5 cs (5 : Int32)))]))
    refine Gl.st (b := T19.setTop (mkF m 141 #[.val (.int z0), .val (.int z1), .val (.int z2), .val (.ref b1), .val (.ref rb)] [])) (fun tq kq => XS.icmpNo X19.here hx rfl (hb hby at_138) rfl (teq rfl).2 kq) ?_
    refine Gl.st (b := T19.setTop (mkF m 143 #[.val (.int z0), .val (.int z1), .val (.int z2), .val (.ref b1), .val (.ref rb)] [(.ref rb)])) (fun tq kq => XS.aload X19.here hx rfl (hb hby at_141) rfl rfl kq) ?_
    refine Gl.st (b := T19.setTop (mkF m 144 #[.val (.int z0), .val (.int z1), .val (.int z2), .val (.ref b1), .val (.ref rb)] [(.int (5 : Int32)), (.ref rb)])) (fun tq kq => XS.iconst X19.here hx rfl (hb hby at_143) kq) ?_
    refine Gl.iaload (k := 5) (v := (.int (own_bd5 cs (6 : Int32)))) X19 hx hZ e19 AR rfl rfl (hb hby at_144) ?_
    show Gl _ _ _ _ _ _ _ (T19.setTop (mkF m 145 #[.val (.int z0), .val (.int z1), .val (.int z2), .val (.ref b1), .val (.ref rb)] [(.int (own_bd5 cs (6 : Int32)))]))
    refine Gl.st (b := T19.setTop (mkF m 146 #[.val (.int z0), .val (.int z1), .val (.int z2), .val (.ref b1), .val (.ref rb)] [(.ref b1), (.int (own_bd5 cs (6 : Int32)))])) (fun tq kq => XS.aloadN X19.here hx rfl (hb hby at_145) rfl rfl kq) ?_
    refine Gl.st (b := T19.setTop (mkF m 148 #[.val (.int z0), .val (.int z1), .val (.int z2), .val (.ref b1), .val (.ref rb)] [(.int (6 : Int32)), (.ref b1), (.int (own_bd5 cs (6 : Int32)))])) (fun tq kq => XS.bipush X19.here hx rfl (hb hby at_146) kq) ?_
    refine Gl.callP (W := 1) (argsL := [(.ref b1), (.int (6 : Int32))]) (rest := [(.int (own_bd5 cs (6 : Int32)))]) (w := (.int (own_bd5 cs (6 : Int32)))) X19 hx hZ hown (hw _ (List.mem_of_getElem? (i := 10) rfl)) (hw _ (List.mem_of_getElem? (i := 11) rfl)) (hw _ (List.mem_of_getElem? (i := 3) rfl)) (hw _ (List.mem_of_getElem? (i := 12) rfl)) (by decide) (rm3 l Z a0 hw [] b1 (6 : Int32) cs T14.heap n0 hZ2 AC2 hl (by decide) (by decide)) (by decide) (by decide) e19 N19 (by decide) (by decide) (by rw [hml]; rfl) (lenOf own_pd3 rfl) rfl rfl (Nat.le_of_eq rfl) (hb hby at_148) ?_
    intro T20 L20 X20 e20 N20
    show Gl _ _ _ _ _ _ _ (T20.setTop (mkF m 151 #[.val (.int z0), .val (.int z1), .val (.int z2), .val (.ref b1), .val (.ref rb)] [(.int (own_bd5 cs (6 : Int32))), (.int (own_bd5 cs (6 : Int32)))]))
    refine Gl.st (b := T20.setTop (mkF m 154 #[.val (.int z0), .val (.int z1), .val (.int z2), .val (.ref b1), .val (.ref rb)] [])) (fun tq kq => XS.icmpNo X20.here hx rfl (hb hby at_151) rfl (teq rfl).2 kq) ?_
    refine Gl.st (b := T20.setTop (mkF m 155 #[.val (.int z0), .val (.int z1), .val (.int z2), .val (.ref b1), .val (.ref rb)] [(.int (1 : Int32))])) (fun tq kq => XS.iconst X20.here hx rfl (hb hby at_154) kq) ?_
    refine Gl.st (b := T20.setTop (mkF m 159 #[.val (.int z0), .val (.int z1), .val (.int z2), .val (.ref b1), .val (.ref rb)] [(.int (1 : Int32))])) (fun tq kq => XS.goto X20.here hx rfl (pc0 := 155) (pc' := 159) rfl (hb hby at_155) (by decide) (by decide) kq) ?_
    exact Gl.retN X20 hx hret (by simp) (hb hby at_159) hlk (by decide) (by decide) ⟨rfl, N20⟩
  exact GOAL
set_option maxRecDepth 65536 in
set_option maxHeartbeats 40000000 in
theorem comes_1 {Post : Tables → Env → Array Value → State → Outcome → State → Prop} (hpost : ∀ tb e args s v u, (limb_1_1.after args s (.returned v) u = true ∧ limb_1_2.after args s (.returned v) u = true ∧ True) → FrameEnd s (.returned v) u (Jvm.fieldLocs frame_1_writes args s ++ Jvm.arrayLocs frame_1_arrays args s ++ Jvm.staticLocs frame_1_statics s) 16 128 → Post tb e args s (.returned v) u) :
    ArmFor flags0 classFile x code maxLocals ret World_1 tables_1 room_1 Calls_1 rest_1 Pre_1 Post := by
  intro l hfl _ _ p e ha hc hk s m args below hf hA hF happ hP
  obtain ⟨hcalls, hrest, hpre⟩ := hP
  obtain ⟨-, -, -, hnamed, -, -, -, hat⟩ := (Spec.applies_iff hf).mp happ
  obtain ⟨hg, hn⟩ := and_e (Cond.before_iff.mp (show (Jvm.Cond.and given_1 narrow_1).before args s = true from hpre))
  obtain ⟨g1, k1⟩ := and_e hg
  obtain ⟨g2, k2⟩ := and_e k1
  obtain ⟨g3, k3⟩ := and_e k2
  obtain ⟨w0, w1, w2, rfl⟩ : ∃ w0 w1 w2 : Value, args = #[w0, w1, w2] := by
    have hs : args.size = 3 := by simpa [Cond.value, given_1] using g1
    obtain ⟨L⟩ := args
    match L, hs with
    | [w0, w1, w2], _ => exact ⟨w0, w1, w2, rfl⟩
  have hw := fun d (hd : d ∈ tables_1) => atoms_spec (ws := Jvm.Cond.code x code maxLocals ret :: tables_1) hat d (List.mem_cons_of_mem _ hd)
  obtain ⟨i0, ei0⟩ := is_v g2
  obtain rfl : w0 = (.int i0) := Option.some.inj ei0
  obtain ⟨i1, ei1⟩ := is_v g3
  obtain rfl : w1 = (.int i1) := Option.some.inj ei1
  obtain ⟨i2, ei2⟩ := is_v k3
  obtain rfl : w2 = (.int i2) := Option.some.inj ei2
  obtain ⟨n, o, h1, h2, h3, _, L, rfl, ⟨rfl, N⟩, hq⟩ := rm0 l s _ hw tables_1 i0 i1 i2 s.heap s.heap.size (Nat.le_refl _)  p e ha hc hk s m _ below hf ((Spec.applies_iff_loose hf).mp happ).1 ⟨rfl, State.Warmed39.refl s, rfl⟩ trivial
  refine ⟨n, _, h1, h2, h3, hpost _ _ _ _ _ _ ⟨Cond.after_iff.mpr rfl, Cond.after_iff.mpr (eq_i res_at (Term.int_eval (1)) rfl), trivial⟩ ⟨hq.1, hq.2.1, (hq.2.2.sift fun y hy => Or.inr (N y hy)).mono (by decide) (by decide)⟩⟩
theorem main_1_1 : Claimed_1_1 := comes_1 fun _ _ _ _ _ _ h hF => ⟨h.1, hF⟩
theorem main_1_2 : Claimed_1_2 := comes_1 fun _ _ _ _ _ _ h hF => ⟨h.2.1, hF⟩

end Jvm.Pilot.@@N@@
namespace Jvm.Pilot.@@N@@
open Jvm Jvm.ClassFile Sem Op Lib Jvm.Free Jvm.Stand Jvm.Pilot.@@N@@.Jvm.D
/-! MADE BY PROGRAM (witnessworld.py) out of the Statement's table words and the real class files: 11 classes; the members and pool entries that the words name. The judged class is class 1, her method 1. -/
namespace start1
open Jvm.ClassFile
def u (s : String) : CpInfo := .utf8 (stringToUtf16 s)
/-- a pool by its gaps: so many unusable entries, then the entry; so many at the end -/
def gap : Nat → List CpInfo → List CpInfo
  | 0, r => r
  | n + 1, r => .unusable :: gap n r
def poolList (es : List (Nat × CpInfo)) (last : Nat) : List CpInfo := es.foldr (fun e r => gap e.1 (e.2 :: r)) (gap last [])
def pool (es : List (Nat × CpInfo)) (last : Nat) : Array CpInfo := ⟨poolList es last⟩
def fileOf (pool : Array CpInfo) (this : Nat) (attrs : Array Attribute := #[]) (ms : Array MethodInfo := #[]) (fl : Nat := 33) (sup : Nat := 0) (ifs : Array Nat := #[]) (fds : Array FieldInfo := #[]) : ClassFile where
  minorVersion := 0
  majorVersion := 65
  constantPool := pool
  accessFlags := fl
  thisClass := this
  superClass := sup
  interfaces := ifs
  fields := fds
  methods := ms
  attributes := attrs
def plain (name : String) (sup : Option ClassId) : Class where
  name := name
  kind := .ordinary
  loader := none
  accessFlags := 33
  super := sup
  interfaces := #[]
  cf := none
  fields := #[]
  methods := #[]
  instanceTypes := #[]
  staticTypes := #[]
  resolved := #[]
  callSites := []
  init := .initialized
  statics := none
  mirror := none

def pool0 : Array CpInfo := pool [(5, u "<init>"), (0, u "()V"), (1, .class_ 10), (1, u "java/lang/Object")] 113

def k0m0 : Method := { name := "<init>", desc := "()V", sig := { parameters := [], returnType := none }, accessFlags := 1, code := none }
/-- java/lang/Object -/
def k0 : Class := { plain "java/lang/Object" none with
  accessFlags := 33
  interfaces := #[]
  cf := some (fileOf pool0 8 #[] #[{ accessFlags := 1, nameIndex := 5, descriptorIndex := 6, attributes := #[] }] 33 0 #[] #[])
  fields := #[]
  methods := #[k0m0]
  instanceTypes := #[]
  staticTypes := #[]
  resolved := Array.replicate 124 none
  statics := none }

def pool1 : Array CpInfo := pool [(2, .class_ 4), (1, u "java/lang/Object"), (0, u "<init>"), (0, u "()V"), (0, .methodref 8 9), (0, .class_ 10), (0, .nameAndType 11 12), (0, u "com/example/libstrand/libstrand/BordersLengthsOfPinLaw"), (0, u "ch"), (0, u "(IIII)C"), (0, .methodref 14 15), (0, .class_ 16), (0, .nameAndType 17 18), (0, u "com/example/libstrand/libstrand/Borders"), (0, u "lengthsOf"), (0, u "([C)[I"), (0, .methodref 8 20), (0, .nameAndType 21 22), (0, u "border"), (0, u "([CI)I"), (0, .methodref 8 24), (0, .nameAndType 25 26), (0, u "match"), (0, u "([CII)Z"), (2, u "law"), (0, u "(III)Z")] 7

def k1m0 : Method := { name := "<init>", desc := "()V", sig := { parameters := [], returnType := none }, accessFlags := 1, code := none }
def k1c1 : Code := { maxStack := 6, maxLocals := 5, code := code, exceptionTable := #[], attributes := #[] }
def k1m1 : Method := { name := "law", desc := "(III)Z", sig := { parameters := [.int, .int, .int], returnType := some .boolean }, accessFlags := 9, code := some k1c1 }
def k1c2 : Code := { maxStack := 4, maxLocals := 4, code := method_3_code, exceptionTable := #[], attributes := #[] }
def k1m2 : Method := { name := "ch", desc := "(IIII)C", sig := { parameters := [.int, .int, .int, .int], returnType := some .char }, accessFlags := 10, code := some k1c2 }
def k1c3 : Code := { maxStack := 4, maxLocals := 3, code := method_4_code, exceptionTable := #[], attributes := #[] }
def k1m3 : Method := { name := "match", desc := "([CII)Z", sig := { parameters := [(.array .char), .int, .int], returnType := some .boolean }, accessFlags := 10, code := some k1c3 }
def k1c4 : Code := { maxStack := 3, maxLocals := 3, code := method_5_code, exceptionTable := #[], attributes := #[] }
def k1m4 : Method := { name := "border", desc := "([CI)I", sig := { parameters := [(.array .char), .int], returnType := some .int }, accessFlags := 10, code := some k1c4 }
/-- com/example/libstrand/libstrand/BordersLengthsOfPinLaw -/
def k1 : Class := { plain "com/example/libstrand/libstrand/BordersLengthsOfPinLaw" (some 0) with
  accessFlags := 49
  interfaces := #[]
  cf := some (fileOf pool1 8 #[] #[{ accessFlags := 1, nameIndex := 5, descriptorIndex := 6, attributes := #[] }, { accessFlags := 9, nameIndex := 29, descriptorIndex := 30, attributes := #[] }, { accessFlags := 10, nameIndex := 11, descriptorIndex := 12, attributes := #[] }, { accessFlags := 10, nameIndex := 25, descriptorIndex := 26, attributes := #[] }, { accessFlags := 10, nameIndex := 21, descriptorIndex := 22, attributes := #[] }] 49 2 #[] #[])
  fields := #[]
  methods := #[k1m0, k1m1, k1m2, k1m3, k1m4]
  instanceTypes := #[]
  staticTypes := #[]
  resolved := Array.replicate 38 none
  statics := none }

def pool2 : Array CpInfo := pool [(2, .class_ 4), (1, u "java/lang/Object"), (0, u "<init>"), (0, u "()V"), (1, .class_ 10), (1, u "com/example/libstrand/libstrand/Borders"), (4, u "lengthsOf"), (0, u "([C)[I")] 83

def k2m0 : Method := { name := "<init>", desc := "()V", sig := { parameters := [], returnType := none }, accessFlags := 2, code := none }
def k2c1 : Code := { maxStack := 3, maxLocals := 5, code := prog_4_method_5_code, exceptionTable := #[], attributes := #[] }
def k2m1 : Method := { name := "lengthsOf", desc := "([C)[I", sig := { parameters := [(.array .char)], returnType := some (.array .int) }, accessFlags := 8, code := some k2c1 }
/-- com/example/libstrand/libstrand/Borders -/
def k2 : Class := { plain "com/example/libstrand/libstrand/Borders" (some 0) with
  accessFlags := 33
  interfaces := #[]
  cf := some (fileOf pool2 8 #[] #[{ accessFlags := 2, nameIndex := 5, descriptorIndex := 6, attributes := #[] }, { accessFlags := 8, nameIndex := 15, descriptorIndex := 16, attributes := #[] }] 33 2 #[] #[])
  fields := #[]
  methods := #[k2m0, k2m1]
  instanceTypes := #[]
  staticTypes := #[]
  resolved := Array.replicate 100 none
  statics := none }

def pool3 : Array CpInfo := pool [(1, u "java/lang/Cloneable"), (0, .class_ 1), (0, u "java/lang/Object"), (0, .class_ 3)] 3

/-- java/lang/Cloneable -/
def k3 : Class := { plain "java/lang/Cloneable" (some 0) with
  accessFlags := 1537
  interfaces := #[]
  cf := some (fileOf pool3 2 #[] #[] 1537 4 #[] #[])
  fields := #[]
  methods := #[]
  instanceTypes := #[]
  staticTypes := #[]
  resolved := Array.replicate 8 none
  statics := none }

def pool4 : Array CpInfo := pool [(1, u "java/io/Serializable"), (0, .class_ 1), (0, u "java/lang/Object"), (0, .class_ 3)] 3

/-- java/io/Serializable -/
def k4 : Class := { plain "java/io/Serializable" (some 0) with
  accessFlags := 1537
  interfaces := #[]
  cf := some (fileOf pool4 2 #[] #[] 1537 4 #[] #[])
  fields := #[]
  methods := #[]
  instanceTypes := #[]
  staticTypes := #[]
  resolved := Array.replicate 8 none
  statics := none }

/-- the primitive byte -/
def k5 : Class := { plain "byte" none with kind := .primitive 'B', accessFlags := 0x411 }
/-- [B -/
def k6 : Class := { plain "[B" (some 0) with kind := .array 5 .byte, interfaces := #[3, 4], accessFlags := 1041 }

/-- the primitive char -/
def k7 : Class := { plain "char" none with kind := .primitive 'C', accessFlags := 0x411 }
/-- [C -/
def k8 : Class := { plain "[C" (some 0) with kind := .array 7 .char, interfaces := #[3, 4], accessFlags := 1041 }

/-- the primitive int -/
def k9 : Class := { plain "int" none with kind := .primitive 'I', accessFlags := 0x411 }
/-- [I -/
def k10 : Class := { plain "[I" (some 0) with kind := .array 9 .int, interfaces := #[3, 4], accessFlags := 1041 }

def heap : Heap := #[]
def classes : Array Class := #[k0, k1, k2, k3, k4, k5, k6, k7, k8, k9, k10]
def interned : List (Array UInt16 × Addr) := []
def slotsUsed : Nat := 0
def theMethod : MethodId := ⟨1, 1⟩
def args0 : Array Value := #[.int 5, .int 5, .int 5]
def aboutOver (below : List Frame) : State where
  vm := { classes := classes, interned := interned.toArray }
  heap := heap
  slotsUsed := slotsUsed
  threads := #[{ frames := .invoking theMethod args0 :: below }]
def below0 : List Frame := [.native { method := ⟨0, 0⟩, args := #[] }]
def about1 : State := aboutOver below0
def p0 : Program := .bare "" "" ""
def e0 : Env := launch0.env 0 0 0
theorem w_frames : about1.frames = Frame.invoking theMethod args0 :: below0 := rfl
set_option maxRecDepth 65536 in
theorem w_args : argsFit about1.vm theMethod args0 = true := by decide +kernel
set_option maxRecDepth 65536 in
theorem w_heap : heapFits about1 = true := by decide +kernel
set_option maxRecDepth 65536 in
theorem w_runnable : about1.curStatus? = some .runnable := by decide +kernel
set_option maxRecDepth 65536 in
theorem w_alone : about1.alone = true := by decide +kernel
set_option maxRecDepth 65536 in
theorem w_named : about1.methodNamed? x = some theMethod := by decide +kernel
set_option maxRecDepth 65536 in
theorem w_hears : about1.hears theMethod below0 = true := by decide +kernel
set_option maxRecDepth 65536 in
theorem w_ripe : about1.ripe theMethod args0 below0 = true := by decide +kernel
theorem w_running : about1.status = .running := rfl
set_option maxRecDepth 65536 in
theorem w_room : about1.hasRoom e0.platform room_1 = true :=
  launch0.hasRoom_least _ room_1 (by decide +kernel) (by decide +kernel) (by decide +kernel) (by decide +kernel) (by decide +kernel) (by decide +kernel)
theorem allAtoms_all (ts : List Jvm.Cond) (a : Array Jvm.Value) (st : Jvm.State) : (allAtoms ts).before a st = ts.all (fun c => c.before a st) := by
  induction ts with
  | nil => rfl
  | cons c t ih =>
    show (Jvm.Cond.and c (allAtoms t)).before a st = _
    rw [Jvm.Cond.before_and, ih, List.all_cons]
def words1 : List Jvm.Cond := Jvm.Cond.code x code maxLocals ret :: tables_1
/-- a 'code' word, met by the world's own term for the bytes: nothing is compared byte by byte -/
theorem code_word {y : MethodName} {bytes : ByteArray} {mx : Nat} {rt : Option FieldType} {a : Array Value} {s : State} {m : MethodId} {meth : Method} {c : Code} (h1 : s.methodNamed? y = some m) (h2 : s.vm.method? m = some meth) (h3 : meth.code = some c) (h4 : c.code = bytes)
    (h5 : (c.maxLocals == mx && c.exceptionTable.isEmpty && decide (c.maxStack ≤ mostOperands) && decide (meth.sig.returnType = rt) && !meth.locks && decide (parseMethodDescriptor y.desc = some meth.sig)) = true) : (Jvm.Cond.code y bytes mx rt).before a s = true := by
  simp only [Bool.and_eq_true, beq_iff_eq, Bool.not_eq_true', decide_eq_true_eq] at h5
  obtain ⟨⟨⟨⟨⟨g1, g2⟩, g3⟩, g4⟩, g5⟩, g6⟩ := h5
  simp [Cond.before, Cond.holds, Cond.value, h1, h2, h3, h4, g1, g2, g3, g4, g5, g6]
def isCode : Jvm.Cond → Bool
  | .code _ _ _ _ => true
  | _ => false
theorem all_split {L : List Jvm.Cond} {P : Jvm.Cond → Bool} (h1 : L.all (fun c => isCode c || P c) = true) (h2 : ∀ c ∈ L.filter isCode, P c = true) : L.all P = true := by
  refine List.all_eq_true.mpr fun c hc => ?_
  have h := List.all_eq_true.mp h1 c hc
  rcases Bool.eq_false_or_eq_true (isCode c) with hi | hi
  · exact h2 c (List.mem_filter.mpr ⟨hc, hi⟩)
  · simpa [hi] using h
set_option maxRecDepth 65536 in
theorem w_c0 : (Jvm.Cond.code x code maxLocals ret).before args0 about1 = true := code_word (m := ⟨1, 1⟩) (meth := k1m1) (c := k1c1) (by decide +kernel) rfl rfl rfl (by decide +kernel)
set_option maxRecDepth 65536 in
theorem w_c1 : (Jvm.Cond.code ({ cls := "com/example/libstrand/libstrand/BordersLengthsOfPinLaw", name := "ch", desc := "(IIII)C" } : Jvm.MethodName) method_3_code (4 : Nat) (Option.some Jvm.ClassFile.FieldType.char)).before args0 about1 = true := code_word (m := ⟨1, 2⟩) (meth := k1m2) (c := k1c2) (by decide +kernel) rfl rfl rfl (by decide +kernel)
set_option maxRecDepth 65536 in
theorem w_c2 : (Jvm.Cond.code ({ cls := "com/example/libstrand/libstrand/Borders", name := "lengthsOf", desc := "([C)[I" } : Jvm.MethodName) prog_4_method_5_code (5 : Nat) (Option.some (Jvm.ClassFile.FieldType.array Jvm.ClassFile.FieldType.int))).before args0 about1 = true := code_word (m := ⟨2, 1⟩) (meth := k2m1) (c := k2c1) (by decide +kernel) rfl rfl rfl (by decide +kernel)
set_option maxRecDepth 65536 in
theorem w_c3 : (Jvm.Cond.code ({ cls := "com/example/libstrand/libstrand/BordersLengthsOfPinLaw", name := "border", desc := "([CI)I" } : Jvm.MethodName) method_5_code (3 : Nat) (Option.some Jvm.ClassFile.FieldType.int)).before args0 about1 = true := code_word (m := ⟨1, 4⟩) (meth := k1m4) (c := k1c4) (by decide +kernel) rfl rfl rfl (by decide +kernel)
set_option maxRecDepth 65536 in
theorem w_c4 : (Jvm.Cond.code ({ cls := "com/example/libstrand/libstrand/BordersLengthsOfPinLaw", name := "match", desc := "([CII)Z" } : Jvm.MethodName) method_4_code (3 : Nat) (Option.some Jvm.ClassFile.FieldType.boolean)).before args0 about1 = true := code_word (m := ⟨1, 3⟩) (meth := k1m3) (c := k1c3) (by decide +kernel) rfl rfl rfl (by decide +kernel)
def codes1 : List Jvm.Cond := [Jvm.Cond.code x code maxLocals ret, Jvm.Cond.code ({ cls := "com/example/libstrand/libstrand/BordersLengthsOfPinLaw", name := "ch", desc := "(IIII)C" } : Jvm.MethodName) method_3_code (4 : Nat) (Option.some Jvm.ClassFile.FieldType.char), Jvm.Cond.code ({ cls := "com/example/libstrand/libstrand/Borders", name := "lengthsOf", desc := "([C)[I" } : Jvm.MethodName) prog_4_method_5_code (5 : Nat) (Option.some (Jvm.ClassFile.FieldType.array Jvm.ClassFile.FieldType.int)), Jvm.Cond.code ({ cls := "com/example/libstrand/libstrand/BordersLengthsOfPinLaw", name := "border", desc := "([CI)I" } : Jvm.MethodName) method_5_code (3 : Nat) (Option.some Jvm.ClassFile.FieldType.int), Jvm.Cond.code ({ cls := "com/example/libstrand/libstrand/BordersLengthsOfPinLaw", name := "match", desc := "([CII)Z" } : Jvm.MethodName) method_4_code (3 : Nat) (Option.some Jvm.ClassFile.FieldType.boolean)]
set_option maxRecDepth 65536 in
theorem codes_eq : words1.filter isCode = codes1 := rfl
theorem w_codes : ∀ c ∈ words1.filter isCode, c.before args0 about1 = true := by
  rw [codes_eq]
  intro c hc
  simp only [codes1, List.mem_cons, List.not_mem_nil, or_false] at hc
  rcases hc with rfl | rfl | rfl | rfl | rfl
  · exact w_c0
  · exact w_c1
  · exact w_c2
  · exact w_c3
  · exact w_c4
set_option maxRecDepth 65536 in
theorem w_t1 : words1.all (fun c => isCode c || c.before args0 about1) = true := by decide +kernel
theorem w_tables : (allAtoms (Jvm.Cond.code x code maxLocals ret :: tables_1)).before args0 about1 = true := by
  rw [allAtoms_all]
  show words1.all (fun c => c.before args0 about1) = true
  refine all_split ?_ w_codes
  rw [w_t1]
set_option maxRecDepth 65536 in
theorem w_case : (Jvm.Cond.and given_1 narrow_1).before args0 about1 = true := by decide +kernel
theorem w_applies : (headSpec (Jvm.Cond.code x code maxLocals ret :: tables_1) room_1).applies x e0.platform about1 = true :=
  (Spec.applies_iff w_frames).mpr ⟨w_running, w_runnable, w_alone, w_named, w_hears, w_ripe, w_room, w_tables⟩
theorem atStart : AtStart classFile x code maxLocals ret World_1 tables_1 room_1 Calls_1 rest_1 Pre_1 launch0 p0 e0 about1 theMethod args0 below0 :=
  ⟨lists_1, trivial, launch0.admits_env _ _ _, launch0.least_env, fairChoices_fair.cas, fairChoices_fair.clock, w_frames, w_args, w_heap, w_applies, trivial, trivial, w_case⟩
end start1
theorem witness_1 : WitnessClaimed_1 := ⟨start1.p0, start1.e0, start1.about1, start1.theMethod, start1.args0, start1.below0, start1.atStart⟩
end Jvm.Pilot.@@N@@
