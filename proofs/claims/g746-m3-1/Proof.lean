import JvmDerived
import JvmDerived.Pilot.@@N@@Statement
import JvmDerived.Pilot.@@N@@Code
set_option linter.unusedVariables false
set_option linter.unusedSimpArgs false
namespace Jvm.Pilot.@@N@@
open Jvm Jvm.ClassFile Sem Op Lib Jvm.Free Jvm.Stand Jvm.LawKit Jvm.RoadKit Bundle Jvm.Pilot.@@N@@.Jvm.D
section Own
variable {p : Program} {l : Launch} {e : Env} {R : Room} {s : State} {m : MethodId} {args : Array Value} {below : List Frame} {meth : Method} {c : Code} {T : State} {locs : List Loc} {cells slots : Nat} {Z : State} {a0 : Array Value} {h h' : Heap} {Q : Option Value → Heap → List Loc → Prop} {kc ks n0 : Nat}
/-- from the state st the invocation ends as the contract asks -/
def Gl (p : Program) (e : Env) (below : List Frame) (s : State) (Q : Option Value → Heap → List Loc → Prop) (kc ks : Nat) (st : State) : Prop :=
  ∃ s₂ o, Steps p.tables e below st s₂ ∧ s₂.status = .running ∧ Ended s₂ below o ∧ ∃ v L, o = .returned v ∧ Q v s₂.heap L ∧ FrameEnd s o s₂ L kc ks
theorem Gl.st {a b : State} (h : ∀ t, Steps p.tables e below b t → Steps p.tables e below a t) (H : Gl p e below s Q kc ks b) : Gl p e below s Q kc ks a := by
  obtain ⟨s₂, o, h1, r⟩ := H
  exact ⟨s₂, o, h _ h1, r⟩
theorem Gl.cast {g g' : JFrame} (q : g = g') (H : Gl p e below s Q kc ks (T.setTop g')) : Gl p e below s Q kc ks (T.setTop g) := q ▸ H
theorem Gl.ret (X : Stand p l e R s m args below meth c T locs cells slots) {v : Option Value} (hv : meth.sig.returnType = none → v = none) (hlk : meth.locks = false) {g : State}
    (hst : ∀ fs, (∀ (f : JFrame) (acts : List Action), f.method = m → f.locked = none → f.entered = [] → (doReturn e (T.setTop f) acts v).1 = T.setFrames fs) → Steps p.tables e below g (T.setFrames fs))
    (hQ : Q v T.heap locs) (h1 : cells ≤ kc) (h2 : slots ≤ ks) : Gl p e below s Q kc ks g := by
  obtain ⟨fs, hr, hrun, hended, hW, hsame⟩ := X.leave (v := v) hv hlk
  exact ⟨_, _, hst fs hr, hrun, hended, _, _, rfl, hQ, ⟨_, rfl⟩, hW, hsame.mono h1 h2⟩
theorem Gl.retN (X : Stand p l e R s m args below meth c T locs cells slots) (hx : p.tables.exec = Jvm.exec) {pc : Nat} {Ls : Array Slot} {z : Int32} {t : FieldType} {rest : List Value} (hret : meth.sig.returnType = some t) (ht : t = .boolean ∨ t = .byte ∨ t = .char ∨ t = .short)
    (hd : decode c.code pc = .ok (.ireturn, 1)) (hlk : meth.locks = false) (h1 : cells ≤ kc) (h2 : slots ≤ ks) (hQ : Q (some (.int (nar t z))) T.heap locs) : Gl p e below s Q kc ks (T.setTop (mkF m pc Ls (.int z :: rest))) :=
  Gl.ret X (fun q => by rw [hret] at q; cases q) hlk (fun _ hr => Jvm.RoadKit.retN X hx hret ht hd hr) hQ h1 h2
theorem Gl.retI (X : Stand p l e R s m args below meth c T locs cells slots) (hx : p.tables.exec = Jvm.exec) {pc : Nat} {Ls : Array Slot} {z : Int32} {rest : List Value} (hret : meth.sig.returnType = some .int)
    (hd : decode c.code pc = .ok (.ireturn, 1)) (hlk : meth.locks = false) (h1 : cells ≤ kc) (h2 : slots ≤ ks) (hQ : Q (some (.int z)) T.heap locs) : Gl p e below s Q kc ks (T.setTop (mkF m pc Ls (.int z :: rest))) :=
  Gl.ret X (fun q => by rw [hret] at q; cases q) hlk (fun _ hr => retOut X hx hret rfl (Or.inl ⟨rfl, Or.inl rfl, _, rfl⟩) hd hr) hQ h1 h2
theorem Gl.retJ (X : Stand p l e R s m args below meth c T locs cells slots) (hx : p.tables.exec = Jvm.exec) {pc : Nat} {Ls : Array Slot} {z : Int64} {rest : List Value} (hret : meth.sig.returnType = some .long)
    (hd : decode c.code pc = .ok (.lreturn, 1)) (hlk : meth.locks = false) (h1 : cells ≤ kc) (h2 : slots ≤ ks) (hQ : Q (some (.long z)) T.heap locs) : Gl p e below s Q kc ks (T.setTop (mkF m pc Ls (.long z :: rest))) :=
  Gl.ret X (fun q => by rw [hret] at q; cases q) hlk (fun _ hr => retOut X hx hret rfl (Or.inr (Or.inl ⟨rfl, rfl, _, rfl⟩)) hd hr) hQ h1 h2
theorem Gl.retA (X : Stand p l e R s m args below meth c T locs cells slots) (hx : p.tables.exec = Jvm.exec) {pc : Nat} {Ls : Array Slot} {z : Addr} {t : FieldType} {rest : List Value} (hret : meth.sig.returnType = some (.array t))
    (hd : decode c.code pc = .ok (.areturn, 1)) (hlk : meth.locks = false) (h1 : cells ≤ kc) (h2 : slots ≤ ks) (hQ : Q (some (.ref z)) T.heap locs) : Gl p e below s Q kc ks (T.setTop (mkF m pc Ls (.ref z :: rest))) :=
  Gl.ret X (fun q => by rw [hret] at q; cases q) hlk (fun _ hr => retOut X hx hret rfl (Or.inr (Or.inr (Or.inr (Or.inr ⟨rfl, rfl, rfl⟩)))) hd hr) hQ h1 h2
theorem Gl.retV (X : Stand p l e R s m args below meth c T locs cells slots) (hx : p.tables.exec = Jvm.exec) {pc : Nat} {Ls : Array Slot} (hret : meth.sig.returnType = none)
    (hd : decode c.code pc = .ok (.return_, 1)) (hlk : meth.locks = false) (h1 : cells ≤ kc) (h2 : slots ≤ ks) (hQ : Q none T.heap locs) : Gl p e below s Q kc ks (T.setTop (mkF m pc Ls [])) :=
  Gl.ret X (fun _ => rfl) hlk (fun _ hr => X.returnOut hx hret hd hr) hQ h1 h2
/-- what a body that changes nothing leaves: the value w, the heap as it was -/
def QP (n0 : Nat) (h0 : Heap) (w : Value) (v : Option Value) (h : Heap) (L : List Loc) : Prop := v = some w ∧ Fr n0 L ∧ h = h0
/-- a static call by its contract -/
theorem Gl.callS (X : Stand p l e R s m args below meth c T locs cells slots) (hx : p.tables.exec = Jvm.exec) (hZ : Z.Warmed39 s.vm) {own : String} {index : Nat} {y : MethodName} {bytes : ByteArray} {maxL : Nat} {ret : Option FieldType} {rm : Room} {W : Nat} {as' : Array Value} {Qc : Option Value → Heap → List Loc → Prop}
    (hown : s.vm.findClass own = some m.cls) (w1 : (Cond.methodLink own index y).before a0 Z = true) (w2 : (Cond.static y).before a0 Z = true) (w3 : (Cond.initialized y.cls).before a0 Z = true) (w4 : (Cond.code y bytes maxL ret).before a0 Z = true)
    (hy : y.cls ≠ "java/lang/invoke/MethodHandle" ∧ y.cls ≠ "java/lang/invoke/VarHandle")
    (hM : MetFree l y (head1 [Cond.code y bytes maxL ret] rm) (fun a U => a = as' ∧ Z.Warmed39 U.vm ∧ U.heap = h) (fun _ _ _ _ _ => True) (fun _ U o U' => ∃ v L, o = .returned v ∧ Qc v U'.heap L ∧ FrameEnd U o U' L rm.cells rm.slots))
    (hf : rm.frames + 1 ≤ R.frames) (hl : W + (maxL + 11) + rm.locals ≤ R.locals) (eT : T.heap = h) (hc1 : cells + rm.cells ≤ R.cells) (hs1 : slots + rm.slots ≤ R.slots)
    {pc : Nat} {Ls : Array Slot} {stk argsL rest : List Value} (hsz : Ls.size = c.maxLocals) (hlen : ∀ sig, parseMethodDescriptor y.desc = some sig → argsL.length = sig.parameters.length) (hstk : stk = argsL.reverse ++ rest) (has : argsL.toArray = as')
    (hW : (rest.map fun v => v.category).sum ≤ W) (hd : decode c.code pc = .ok (.invokestatic index, 3))
    (K : ∀ (T' : State) (v : Option Value) (L : List Loc), Stand p l e R s m args below meth c T' (locs ++ L) (cells + rm.cells) (slots + rm.slots) → Qc v T'.heap L → Gl p e below s Q kc ks (T'.setTop (mkF m (pc + 3) Ls (v.toList ++ rest)))) :
    Gl p e below s Q kc ks (T.setTop (mkF m pc Ls stk)) := by
  obtain ⟨v, _, ⟨T', L', k', n'⟩, -, X', ⟨Lc, hQ, l1, y1, z1⟩, st⟩ := Jvm.LawKit.callS X hx (y := y) hown (mvT hZ w1) (mvT hZ w2) (mvT hZ w3) (mvT hZ w4) hy (backOf (W := W) hM hZ w4 w3 hf hl) (g := mkF m pc Ls stk) rfl hsz (argsL := argsL) (rest := rest) hlen hstk
    (by show 2 * 0 + _ ≤ _; rw [Nat.mul_zero, Nat.zero_add]; exact hW) hd (fun _ _ => ⟨has, eT, hc1, hs1⟩)
  dsimp only [Pt.U, Pt.locs, Pt.cells, Pt.slots] at X' l1 y1 z1 st hQ
  subst l1 y1 z1
  exact Gl.st (fun t k => st t k) (K T' v Lc X' hQ)
/-- a static call of a body that changes nothing -/
theorem Gl.callP (X : Stand p l e R s m args below meth c T locs cells slots) (hx : p.tables.exec = Jvm.exec) (hZ : Z.Warmed39 s.vm) {own : String} {index : Nat} {y : MethodName} {bytes : ByteArray} {maxL : Nat} {ret : Option FieldType} {fr lo W : Nat} {as' : Array Value} {w : Value}
    (hown : s.vm.findClass own = some m.cls) (w1 : (Cond.methodLink own index y).before a0 Z = true) (w2 : (Cond.static y).before a0 Z = true) (w3 : (Cond.initialized y.cls).before a0 Z = true) (w4 : (Cond.code y bytes maxL ret).before a0 Z = true)
    (hy : y.cls ≠ "java/lang/invoke/MethodHandle" ∧ y.cls ≠ "java/lang/invoke/VarHandle")
    (hM : MetFree l y (head1 [Cond.code y bytes maxL ret] ⟨fr, 0, 0, lo⟩) (fun a U => a = as' ∧ Z.Warmed39 U.vm ∧ U.heap = h) (fun _ _ _ _ _ => True) (fun _ U o U' => ∃ v L, o = .returned v ∧ QP n0 h w v U'.heap L ∧ FrameEnd U o U' L 0 0))
    (hf : fr + 1 ≤ R.frames) (hl : W + (maxL + 11) + lo ≤ R.locals) (eT : T.heap = h) (N : Fr n0 locs) (hc1 : cells ≤ R.cells) (hs1 : slots ≤ R.slots)
    {pc : Nat} {Ls : Array Slot} {stk argsL rest : List Value} (hsz : Ls.size = c.maxLocals) (hlen : ∀ sig, parseMethodDescriptor y.desc = some sig → argsL.length = sig.parameters.length) (hstk : stk = argsL.reverse ++ rest) (has : argsL.toArray = as')
    (hW : (rest.map fun v => v.category).sum ≤ W) (hd : decode c.code pc = .ok (.invokestatic index, 3))
    (K : ∀ (T' : State) (L : List Loc), Stand p l e R s m args below meth c T' L cells slots → T'.heap = h → Fr n0 L → Gl p e below s Q kc ks (T'.setTop (mkF m (pc + 3) Ls (w :: rest)))) :
    Gl p e below s Q kc ks (T.setTop (mkF m pc Ls stk)) :=
  Gl.callS (rm := ⟨fr, 0, 0, lo⟩) X hx hZ hown w1 w2 w3 w4 hy hM hf hl eT hc1 hs1 hsz hlen hstk has hW hd fun T' v L X' hq => by
    obtain ⟨rfl, N', e'⟩ := hq
    exact K T' _ X' e' (N.app N')
end Own
theorem own_ltI {x y : Int32} : x < y ↔ x.toInt < y.toInt := Int32.lt_iff_toInt_lt
theorem own_eqI {x y : Int32} : x = y ↔ x.toInt = y.toInt := ⟨fun h => h ▸ rfl, fun h => Int32.toInt_inj.mp h⟩
theorem own_ltJ {x y : Int64} : x < y ↔ x.toInt < y.toInt := Int64.lt_iff_toInt_lt
theorem own_eqJ {x y : Int64} : x = y ↔ x.toInt = y.toInt := ⟨fun h => h ▸ rfl, fun h => Int64.toInt_inj.mp h⟩
/-- a truth as the int that a boolean method returns -/
def own_b (b : Bool) : Int32 := if b then 1 else 0
theorem own_b1 {b : Bool} (h : b = true) : some (Value.int (nar .boolean 1)) = some (Value.int (own_b b)) := by subst h; rfl
theorem own_b0 {b : Bool} (h : b = false) : some (Value.int (nar .boolean 0)) = some (Value.int (own_b b)) := by subst h; rfl
theorem own_bn (b : Bool) : nar .boolean (own_b b) = own_b b := by cases b <;> rfl
theorem own_bt {b : Bool} (h : b = true) : ¬ own_b b = 0 := by subst h; decide
theorem own_bf {b : Bool} (h : ¬ b = true) : own_b b = 0 := by cases b with | true => exact absurd rfl h | false => rfl
def QL (n0 : Nat) (v : Option Value) (h : Heap) (L : List Loc) : Prop := v = some (.int 1) ∧ Fr n0 L
theorem own_pn0 : plainName "java/lang/Record" = true := by first | (simp [plainName, overriddenIn]; done) | decide +kernel
theorem own_pd0 : parseMethodDescriptor "()V" = some ⟨[], none⟩ := by decide +kernel
theorem own_pn1 : plainName "com/example/leafrank/leafrank/core/IndexSize" = true := by first | (simp [plainName, overriddenIn]; done) | decide +kernel
theorem own_pd1 : parseMethodDescriptor "(JJJJJJJ)V" = some ⟨[.long, .long, .long, .long, .long, .long, .long], none⟩ := by decide +kernel
theorem own_pd2 : parseMethodDescriptor "()J" = some ⟨[], some .long⟩ := by decide +kernel
theorem own_pn2 : plainName "com/example/leafrank/leafrank/core/IndexSizeReadBytesPinLaw" = true := by first | (simp [plainName, overriddenIn]; done) | decide +kernel
section OwnA
variable {p : Program} {l : Launch} {e : Env} {R : Room} {s : State} {m : MethodId} {args : Array Value} {below : List Frame} {meth : Method} {c : Code} {T : State} {locs : List Loc} {cells slots : Nat} {Z : State} {a0 : Array Value} {h h' : Heap} {Q : Option Value → Heap → List Loc → Prop} {kc ks n0 : Nat} {a b : Addr} {ty : FieldType} {vs : List Value}
/-- the array at a is of the kind ty and holds just vs -/
def Ar (Z : State) (h : Heap) (a : Addr) (ty : FieldType) (vs : List Value) : Prop := ∃ c : Cell, Arr Z h a c ty ∧ c.slots.toList = vs
theorem Ar.lt (F : Ar Z h a ty vs) : a < h.size := by obtain ⟨c, A, -⟩ := F; exact A.lt
theorem Ar.ext (F : Ar Z h a ty vs) (E : Ext h h') : Ar Z h' a ty vs := by obtain ⟨c, A, r⟩ := F; exact ⟨c, A.ext E, r⟩
theorem Ar.other {sl : Nat} {v : Value} (F : Ar Z h b ty vs) (W : Wr h h' a sl v) (q : b ≠ a) : Ar Z h' b ty vs := by obtain ⟨c, A, r⟩ := F; exact ⟨c, A.other W q, r⟩
theorem Ar.keep {ws : List Addr} (F : Ar Z h a ty vs) (K : Keep h h' ws) (q : a ∉ ws) : Ar Z h' a ty vs := by obtain ⟨c, A, r⟩ := F; exact ⟨c, ⟨K.2.1 a c A.1 q, A.2⟩, r⟩
theorem Ar.same {k : Nat} {v : Value} (F : Ar Z h a ty vs) (W : Wr h h' a k v) : Ar Z h' a ty (vs.set k v) := by
  obtain ⟨c, A, r⟩ := F
  exact ⟨c.setSlot k v, A.same W, by subst r; simp [Cell.setSlot]⟩
theorem own_clamp {j : Int32} {k : Nat} (hj : j.toInt = k) : j.toNatClampNeg = k ∧ ¬ j < 0 := by
  refine ⟨?_, fun q => ?_⟩
  · have : j.toNatClampNeg = j.toInt.toNat := rfl
    rw [this, hj]; rfl
  · have := own_ltI.mp q
    have h0 : (0 : Int32).toInt = 0 := by decide
    omega
theorem own_in {cl : Cell} {j : Int32} {k : Nat} (hj : j.toInt = k) (e : cl.slots.toList = vs) (hk : k < vs.length) : ¬ (j < 0 ∨ cl.slots.size ≤ j.toNatClampNeg) := by
  obtain ⟨h1, h2⟩ := own_clamp hj
  have : cl.slots.size = vs.length := by rw [← e]; simp
  rw [h1, this]
  exact fun q => q.elim h2 fun q => absurd q (by omega)
theorem own_at {cl : Cell} {j : Int32} {k : Nat} {v : Value} (hj : j.toInt = k) (e : cl.slots.toList = vs) (hv : vs[k]? = some v) : cl.slots[j.toNatClampNeg]? = some v := by
  rw [(own_clamp hj).1, ← Array.getElem?_toList, e]; exact hv
theorem own_len {k : Nat} {v : Value} (hv : vs[k]? = some v) : k < vs.length := (List.getElem?_eq_some_iff.mp hv).1
theorem Gl.caload (X : Stand p l e R s m args below meth c T locs cells slots) (hx : p.tables.exec = Jvm.exec) (hZ : Z.Warmed39 s.vm) (eT : T.heap = h) (A : Ar Z h a .char vs) {j : Int32} {k : Nat} {v : Value} (hj : j.toInt = k) (hv : vs[k]? = some v)
    {pc : Nat} {Ls : Array Slot} {rest : List Value} (hd : decode c.code pc = .ok (.caload, 1)) (K : Gl p e below s Q kc ks (T.setTop (mkF m (pc + 1) Ls (v :: rest)))) : Gl p e below s Q kc ks (T.setTop (mkF m pc Ls (.int j :: .ref a :: rest))) := by
  obtain ⟨cl, A, q⟩ := A
  exact Gl.st (fun t k => X.caload hx (by rw [eT]; exact A.1) (State.isArrayOf_alike hZ.alike A.2.1) A.2.2 (own_in hj q (own_len hv)) (own_at hj q hv) (g := mkF m pc Ls (.int j :: .ref a :: rest)) rfl rfl hd t k) K
theorem Gl.baload (X : Stand p l e R s m args below meth c T locs cells slots) (hx : p.tables.exec = Jvm.exec) (hZ : Z.Warmed39 s.vm) (eT : T.heap = h) (A : Ar Z h a .byte vs) {j : Int32} {k : Nat} {v : Value} (hj : j.toInt = k) (hv : vs[k]? = some v)
    {pc : Nat} {Ls : Array Slot} {rest : List Value} (hd : decode c.code pc = .ok (.baload, 1)) (K : Gl p e below s Q kc ks (T.setTop (mkF m (pc + 1) Ls (v :: rest)))) : Gl p e below s Q kc ks (T.setTop (mkF m pc Ls (.int j :: .ref a :: rest))) := by
  obtain ⟨cl, A, q⟩ := A
  exact Gl.st (fun t k => X.baloadBytes hx (by rw [eT]; exact A.1) (State.isArrayOf_alike hZ.alike A.2.1) A.2.2 (own_in hj q (own_len hv)) (own_at hj q hv) (g := mkF m pc Ls (.int j :: .ref a :: rest)) rfl rfl hd t k) K
theorem Gl.iaload (X : Stand p l e R s m args below meth c T locs cells slots) (hx : p.tables.exec = Jvm.exec) (hZ : Z.Warmed39 s.vm) (eT : T.heap = h) (A : Ar Z h a .int vs) {j : Int32} {k : Nat} {v : Value} (hj : j.toInt = k) (hv : vs[k]? = some v)
    {pc : Nat} {Ls : Array Slot} {rest : List Value} (hd : decode c.code pc = .ok (.iaload, 1)) (K : Gl p e below s Q kc ks (T.setTop (mkF m (pc + 1) Ls (v :: rest)))) : Gl p e below s Q kc ks (T.setTop (mkF m pc Ls (.int j :: .ref a :: rest))) := by
  obtain ⟨cl, A, q⟩ := A
  exact Gl.st (fun t k => X.iaload hx (by rw [eT]; exact A.1) (State.isArrayOf_alike hZ.alike A.2.1) A.2.2 (own_in hj q (own_len hv)) (own_at hj q hv) (g := mkF m pc Ls (.int j :: .ref a :: rest)) rfl rfl hd t k) K
theorem Gl.laload (X : Stand p l e R s m args below meth c T locs cells slots) (hx : p.tables.exec = Jvm.exec) (hZ : Z.Warmed39 s.vm) (eT : T.heap = h) (A : Ar Z h a .long vs) {j : Int32} {k : Nat} {v : Value} (hj : j.toInt = k) (hv : vs[k]? = some v)
    {pc : Nat} {Ls : Array Slot} {rest : List Value} (hd : decode c.code pc = .ok (.laload, 1)) (K : Gl p e below s Q kc ks (T.setTop (mkF m (pc + 1) Ls (v :: rest)))) : Gl p e below s Q kc ks (T.setTop (mkF m pc Ls (.int j :: .ref a :: rest))) := by
  obtain ⟨cl, A, q⟩ := A
  exact Gl.st (fun t k => X.laload hx (by rw [eT]; exact A.1) (State.isArrayOf_alike hZ.alike A.2.1) A.2.2 (own_in hj q (own_len hv)) (own_at hj q hv) (g := mkF m pc Ls (.int j :: .ref a :: rest)) rfl rfl hd t k) K
theorem Gl.alen (X : Stand p l e R s m args below meth c T locs cells slots) (hx : p.tables.exec = Jvm.exec) (hZ : Z.Warmed39 s.vm) (eT : T.heap = h) (A : Ar Z h a ty vs) {z : Int32} (hz : vs.length.toInt32 = z)
    {pc : Nat} {Ls : Array Slot} {rest : List Value} (hd : decode c.code pc = .ok (.arraylength, 1)) (K : Gl p e below s Q kc ks (T.setTop (mkF m (pc + 1) Ls (.int z :: rest)))) : Gl p e below s Q kc ks (T.setTop (mkF m pc Ls (.ref a :: rest))) := by
  obtain ⟨cl, A, q⟩ := A
  have e1 : cl.slots.size.toInt32 = z := by rw [← hz, ← q]; simp
  exact Gl.st (fun t k => X.arraylength hx (by rw [eT]; exact A.1) (State.isArrayOf_alike hZ.alike A.2.1) (g := mkF m pc Ls (.ref a :: rest)) rfl rfl hd t k) (by rw [e1]; exact K)
theorem Gl.castore (X : Stand p l e R s m args below meth c T locs cells slots) (hx : p.tables.exec = Jvm.exec) (hZ : Z.Warmed39 s.vm) (eT : T.heap = h) (A : Ar Z h a .char vs) (N : Fr n0 locs) (ga : n0 ≤ a) {j x : Int32} {k : Nat} (hj : j.toInt = k) (hk : k < vs.length)
    {pc : Nat} {Ls : Array Slot} {rest : List Value} (hd : decode c.code pc = .ok (.castore, 1))
    (K : ∀ (T' : State) (h' : Heap) (L : List Loc), Stand p l e R s m args below meth c T' L cells slots → T'.heap = h' → Fr n0 L → Wr h h' a k (.int (nar .char x)) → Ar Z h' a .char (vs.set k (.int (nar .char x))) → Gl p e below s Q kc ks (T'.setTop (mkF m (pc + 1) Ls rest))) :
    Gl p e below s Q kc ks (T.setTop (mkF m pc Ls (.int x :: .int j :: .ref a :: rest))) := by
  obtain ⟨cl, B, q⟩ := A
  obtain ⟨T', h', X', e', W', st⟩ := stC X hx hZ eT B (j := j) (x := x) (own_in hj q hk) (g := mkF m pc Ls (.int x :: .int j :: .ref a :: rest)) rfl rfl hd
  have N' := Fr.snoc X' N ga
  rw [(own_clamp hj).1] at W'
  exact Gl.st st (K T' h' _ X' e' N' W' (Ar.same ⟨cl, B, q⟩ W'))
theorem Gl.bastore (X : Stand p l e R s m args below meth c T locs cells slots) (hx : p.tables.exec = Jvm.exec) (hZ : Z.Warmed39 s.vm) (eT : T.heap = h) (A : Ar Z h a .byte vs) (N : Fr n0 locs) (ga : n0 ≤ a) {j x : Int32} {k : Nat} (hj : j.toInt = k) (hk : k < vs.length)
    {pc : Nat} {Ls : Array Slot} {rest : List Value} (hd : decode c.code pc = .ok (.bastore, 1))
    (K : ∀ (T' : State) (h' : Heap) (L : List Loc), Stand p l e R s m args below meth c T' L cells slots → T'.heap = h' → Fr n0 L → Wr h h' a k (.int (nar .byte x)) → Ar Z h' a .byte (vs.set k (.int (nar .byte x))) → Gl p e below s Q kc ks (T'.setTop (mkF m (pc + 1) Ls rest))) :
    Gl p e below s Q kc ks (T.setTop (mkF m pc Ls (.int x :: .int j :: .ref a :: rest))) := by
  obtain ⟨cl, B, q⟩ := A
  obtain ⟨T', h', X', e', W', st⟩ := stB X hx hZ eT B (j := j) (x := x) (own_in hj q hk) (g := mkF m pc Ls (.int x :: .int j :: .ref a :: rest)) rfl rfl hd
  have N' := Fr.snoc X' N ga
  rw [(own_clamp hj).1] at W'
  exact Gl.st st (K T' h' _ X' e' N' W' (Ar.same ⟨cl, B, q⟩ W'))
theorem Gl.iastore (X : Stand p l e R s m args below meth c T locs cells slots) (hx : p.tables.exec = Jvm.exec) (hZ : Z.Warmed39 s.vm) (eT : T.heap = h) (A : Ar Z h a .int vs) (N : Fr n0 locs) (ga : n0 ≤ a) {j x : Int32} {k : Nat} (hj : j.toInt = k) (hk : k < vs.length)
    {pc : Nat} {Ls : Array Slot} {rest : List Value} (hd : decode c.code pc = .ok (.iastore, 1))
    (K : ∀ (T' : State) (h' : Heap) (L : List Loc), Stand p l e R s m args below meth c T' L cells slots → T'.heap = h' → Fr n0 L → Wr h h' a k (.int x) → Ar Z h' a .int (vs.set k (.int x)) → Gl p e below s Q kc ks (T'.setTop (mkF m (pc + 1) Ls rest))) :
    Gl p e below s Q kc ks (T.setTop (mkF m pc Ls (.int x :: .int j :: .ref a :: rest))) := by
  obtain ⟨cl, B, q⟩ := A
  obtain ⟨T', h', X', e', W', st⟩ := stI X hx hZ eT B (j := j) (x := x) (own_in hj q hk) (g := mkF m pc Ls (.int x :: .int j :: .ref a :: rest)) rfl rfl hd
  have N' := Fr.snoc X' N ga
  rw [(own_clamp hj).1] at W'
  exact Gl.st st (K T' h' _ X' e' N' W' (Ar.same ⟨cl, B, q⟩ W'))
theorem Gl.lastore (X : Stand p l e R s m args below meth c T locs cells slots) (hx : p.tables.exec = Jvm.exec) (hZ : Z.Warmed39 s.vm) (eT : T.heap = h) (A : Ar Z h a .long vs) (N : Fr n0 locs) (ga : n0 ≤ a) {j : Int32} {x : Int64} {k : Nat} (hj : j.toInt = k) (hk : k < vs.length)
    {pc : Nat} {Ls : Array Slot} {rest : List Value} (hd : decode c.code pc = .ok (.lastore, 1))
    (K : ∀ (T' : State) (h' : Heap) (L : List Loc), Stand p l e R s m args below meth c T' L cells slots → T'.heap = h' → Fr n0 L → Wr h h' a k (.long x) → Ar Z h' a .long (vs.set k (.long x)) → Gl p e below s Q kc ks (T'.setTop (mkF m (pc + 1) Ls rest))) :
    Gl p e below s Q kc ks (T.setTop (mkF m pc Ls (.long x :: .int j :: .ref a :: rest))) := by
  obtain ⟨cl, B, q⟩ := A
  obtain ⟨T', h', X', e', W', st⟩ := stJ X hx hZ eT B (j := j) (x := x) (own_in hj q hk) (g := mkF m pc Ls (.long x :: .int j :: .ref a :: rest)) rfl rfl hd
  have N' := Fr.snoc X' N ga
  rw [(own_clamp hj).1] at W'
  exact Gl.st st (K T' h' _ X' e' N' W' (Ar.same ⟨cl, B, q⟩ W'))
theorem Gl.newA (X : Stand p l e R s m args below meth c T locs cells slots) (hx : p.tables.exec = Jvm.exec) (hZ : Z.Warmed39 s.vm) {aty : ArrayType} (w : (Cond.arrayClass (newarray.typeOf aty)).before a0 Z = true) (eT : T.heap = h) {n : Int32} {k cap : Nat} (hn : n.toInt = k) (hcap : k ≤ cap) (hb : cap * 8 ≤ 536870912) (hc : cells + 1 ≤ R.cells) (hl : slots + cap ≤ R.slots)
    {pc : Nat} {Ls : Array Slot} {rest : List Value} (hd : decode c.code pc = .ok (.newarray aty, 2))
    (K : ∀ (T' : State) (h' : Heap) (b : Addr), b = h.size → Stand p l e R s m args below meth c T' locs (cells + 1) (slots + cap) → T'.heap = h' → Ext h h' → Ar Z h' b (newarray.typeOf aty) (List.replicate k (defaultValue (newarray.typeOf aty))) → Gl p e below s Q kc ks (T'.setTop (mkF m (pc + 2) Ls (.ref b :: rest)))) :
    Gl p e below s Q kc ks (T.setTop (mkF m pc Ls (.int n :: rest))) := by
  obtain ⟨h1, h2⟩ := own_clamp hn
  obtain ⟨T', h', cA, X', e', E', A', st⟩ := newP X hx hZ w eT (g := mkF m pc Ls (.int n :: rest)) rfl hd rfl h2 (cap := cap) (by rw [h1]; exact hcap) hb hc hl
  exact Gl.st st (K T' h' _ rfl X' e' E' ⟨_, A', by simp [Jvm.RoadKit.newA, h1]⟩)
theorem Gl.getF (X : Stand p l e R s m args below meth c T locs cells slots) (hx : p.tables.exec = Jvm.exec) (hZ : Z.Warmed39 s.vm) {own O n d : String} {index : Nat} (hown : s.vm.findClass own = some m.cls) (w : (Cond.fieldLink own index O n d).before a0 Z = true) (eT : T.heap = h) {v : Value} (F : Fld Z h a O n d v)
    {pc : Nat} {Ls : Array Slot} {rest : List Value} (hd : decode c.code pc = .ok (.getfield index, 3))
    (K : ∀ (T' : State), Stand p l e R s m args below meth c T' locs cells slots → T'.heap = h → Gl p e below s Q kc ks (T'.setTop (mkF m (pc + 3) Ls (v :: rest)))) :
    Gl p e below s Q kc ks (T.setTop (mkF m pc Ls (.ref a :: rest))) := by
  obtain ⟨T', X', e', st⟩ := Jvm.RoadKit.getF X hx hZ hown (host := "") (Or.inl w) Via.refl eT F (g := mkF m pc Ls (.ref a :: rest)) rfl rfl hd
  exact Gl.st st (K T' X' e')
theorem Gl.putF (X : Stand p l e R s m args below meth c T locs cells slots) (hx : p.tables.exec = Jvm.exec) (hZ : Z.Warmed39 s.vm) {own O n d C : String} {index kk : Nat} {ty : FieldType} (hown : s.vm.findClass own = some m.cls) (w : (Cond.fieldLink own index O n d).before a0 Z = true) (eT : T.heap = h) {v old : Value} (F : Fld Z h a O n d old)
    (E : Exa Z h a C) (L : (Cond.lays C O n d).before a0 Z = true ∨ ((Cond.laysFinal C O n d).before a0 Z = true ∧ own = O ∧ meth.name = "<init>")) (wi : (Cond.instantiable C kk).before a0 Z = true) (hty : parseFieldDescriptor d = some ty) (hn : narrow ty v = v) (hf : fits ty v = true) (N : Fr n0 locs) (ga : n0 ≤ a)
    {pc : Nat} {Ls : Array Slot} {rest : List Value} (hd : decode c.code pc = .ok (.putfield index, 3))
    (K : ∀ (T' : State) (h' : Heap) (L : List Loc), Stand p l e R s m args below meth c T' L cells slots → T'.heap = h' → Fr n0 L → Wr h h' a (Jvm.RoadKit.slotOf Z O n d) v → Gl p e below s Q kc ks (T'.setTop (mkF m (pc + 3) Ls rest))) :
    Gl p e below s Q kc ks (T.setTop (mkF m pc Ls (v :: .ref a :: rest))) := by
  obtain ⟨T', h', X', e', W', st⟩ := Jvm.RoadKit.putF X hx hZ hown (host := "") (Or.inl w) Via.refl eT F E L wi hty hn hf (g := mkF m pc Ls (v :: .ref a :: rest)) rfl rfl hd
  exact Gl.st st (K T' h' _ X' e' (Fr.snoc X' N ga) W')
theorem Gl.newO (X : Stand p l e R s m args below meth c T locs cells slots) (hx : p.tables.exec = Jvm.exec) (hZ : Z.Warmed39 s.vm) {own C : String} {index n : Nat} (hown : s.vm.findClass own = some m.cls) (w : (Cond.classLink own index C).before a0 Z = true) (wi : (Cond.instantiable C n).before a0 Z = true) (wz : (Cond.initialized C).before a0 Z = true) (eT : T.heap = h) (hc : cells + 1 ≤ R.cells) (hl : slots + n ≤ R.slots)
    {pc : Nat} {Ls : Array Slot} {rest : List Value} (hd : decode c.code pc = .ok (.new index, 3))
    (K : ∀ (T' : State) (h' : Heap) (b : Addr), b = h.size → Stand p l e R s m args below meth c T' locs (cells + 1) (slots + n) → T'.heap = h' → Ext h h' → Exa Z h' b C → (∀ {O nm d : String} {ty : FieldType}, Laid Z a0 C O nm d → parseFieldDescriptor d = some ty → Fld Z h' b O nm d (defaultValue ty)) → Gl p e below s Q kc ks (T'.setTop (mkF m (pc + 3) Ls (.ref b :: rest)))) :
    Gl p e below s Q kc ks (T.setTop (mkF m pc Ls rest)) := by
  obtain ⟨T', h', X', e', E', A', D', -, st⟩ := Jvm.RoadKit.newO X hx hZ hown w wi wz eT (g := mkF m pc Ls rest) rfl hd hc hl
  exact Gl.st st (K T' h' _ rfl X' e' E' A' D')
/-- a step that a law of the library hands out as 'there is a state' with the heap as it was -/
theorem Gl.ex {g g0 : JFrame} (H : ∃ T', Stand p l e R s m args below meth c T' locs cells slots ∧ T'.heap = h ∧ ∀ target, Steps p.tables e below (T'.setTop g) target → Steps p.tables e below (T.setTop g0) target)
    (K : ∀ (T' : State), Stand p l e R s m args below meth c T' locs cells slots → T'.heap = h → Gl p e below s Q kc ks (T'.setTop g)) : Gl p e below s Q kc ks (T.setTop g0) := by
  obtain ⟨T', X', e', st⟩ := H
  exact Gl.st st (K T' X' e')
/-- a constructor by its contract -/
theorem Gl.callI (X : Stand p l e R s m args below meth c T locs cells slots) (hx : p.tables.exec = Jvm.exec) (hZ : Z.Warmed39 s.vm) {own : String} {index : Nat} {y : MethodName} {bytes : ByteArray} {maxL : Nat} {rm : Room} {W : Nat} {as' : Array Value} {Qc : Option Value → Heap → List Loc → Prop}
    (hy1 : y.name = "<init>") (hown : s.vm.findClass own = some m.cls) (w1 : (Cond.methodLink own index y).before a0 Z = true) (w2 : (Cond.instanceMethod y).before a0 Z = true) (w3 : (Cond.initialized y.cls).before a0 Z = true) (w4 : (Cond.code y bytes maxL none).before a0 Z = true)
    (hy : y.cls ≠ "java/lang/invoke/MethodHandle" ∧ y.cls ≠ "java/lang/invoke/VarHandle")
    (hM : MetFree l y (head1 [Cond.code y bytes maxL none] rm) (fun a U => a = as' ∧ Z.Warmed39 U.vm ∧ U.heap = h) (fun _ _ _ _ _ => True) (fun _ U o U' => ∃ v L, o = .returned v ∧ Qc v U'.heap L ∧ FrameEnd U o U' L rm.cells rm.slots))
    (hf : rm.frames + 1 ≤ R.frames) (hl : W + (maxL + 11) + rm.locals ≤ R.locals) (eT : T.heap = h) (hc1 : cells + rm.cells ≤ R.cells) (hs1 : slots + rm.slots ≤ R.slots)
    {pc : Nat} {Ls : Array Slot} {stk argsL rest : List Value} (hsz : Ls.size = c.maxLocals) (hlen : ∀ sig, parseMethodDescriptor y.desc = some sig → argsL.length = sig.parameters.length) (hstk : stk = argsL.reverse ++ .ref a :: rest) (has : (.ref a :: argsL).toArray = as')
    (hW : (rest.map fun v => v.category).sum ≤ W) (hd : decode c.code pc = .ok (.invokespecial index, 3))
    (K : ∀ (T' : State) (v : Option Value) (L : List Loc), Stand p l e R s m args below meth c T' (locs ++ L) (cells + rm.cells) (slots + rm.slots) → Qc v T'.heap L → Gl p e below s Q kc ks (T'.setTop (mkF m (pc + 3) Ls (v.toList ++ rest)))) :
    Gl p e below s Q kc ks (T.setTop (mkF m pc Ls stk)) := by
  obtain ⟨v, _, ⟨T', L', k', n'⟩, -, X', ⟨Lc, hQ, l1, y1, z1⟩, st⟩ := X.specialBack hx (y := y) hy1 hown (mvT hZ w1) (mvT hZ w2) (mvT hZ w4) hy (backOf (W := W) hM hZ w4 w3 hf hl) (g := mkF m pc Ls stk) rfl hsz (Steps.refl _) (a := a) (argsL := argsL) (rest := rest) hlen hstk
    (by show 2 * 0 + _ ≤ _; rw [Nat.mul_zero, Nat.zero_add]; exact hW) hd (fun _ _ => ⟨has, eT, hc1, hs1⟩)
  dsimp only [Pt.U, Pt.locs, Pt.cells, Pt.slots] at X' l1 y1 z1 st hQ
  subst l1 y1 z1
  exact Gl.st (fun t k => st.trans k) (K T' v Lc X' hQ)
/-- an instance method of the receiver's own class by its contract -/
theorem Gl.callV (X : Stand p l e R s m args below meth c T locs cells slots) (hx : p.tables.exec = Jvm.exec) (hZ : Z.Warmed39 s.vm) {own : String} {index : Nat} {y : MethodName} {bytes : ByteArray} {maxL : Nat} {ret : Option FieldType} {rm : Room} {W : Nat} {as' : Array Value} {Qc : Option Value → Heap → List Loc → Prop}
    (hown : s.vm.findClass own = some m.cls) (w1 : (Cond.methodLink own index y).before a0 Z = true) (w2 : (Cond.declares y).before a0 Z = true) (w5 : (Cond.selects y.cls y y).before a0 Z = true) (w6 : (Cond.instanceMethod y).before a0 Z = true) (w3 : (Cond.initialized y.cls).before a0 Z = true) (w4 : (Cond.code y bytes maxL ret).before a0 Z = true)
    (hy : y.cls ≠ "java/lang/invoke/MethodHandle" ∧ y.cls ≠ "java/lang/invoke/VarHandle")
    (hM : MetFree l y (head1 [Cond.code y bytes maxL ret] rm) (fun a U => a = as' ∧ Z.Warmed39 U.vm ∧ U.heap = h) (fun _ _ _ _ _ => True) (fun _ U o U' => ∃ v L, o = .returned v ∧ Qc v U'.heap L ∧ FrameEnd U o U' L rm.cells rm.slots))
    (hf : rm.frames + 1 ≤ R.frames) (hl : W + (maxL + 11) + rm.locals ≤ R.locals) (eT : T.heap = h) (E : Exa Z h a y.cls) (hc1 : cells + rm.cells ≤ R.cells) (hs1 : slots + rm.slots ≤ R.slots)
    {pc : Nat} {Ls : Array Slot} {stk argsL rest : List Value} (hsz : Ls.size = c.maxLocals) (hlen : ∀ sig, parseMethodDescriptor y.desc = some sig → argsL.length = sig.parameters.length) (hstk : stk = argsL.reverse ++ .ref a :: rest) (has : (.ref a :: argsL).toArray = as')
    (hW : (rest.map fun v => v.category).sum ≤ W) (hd : decode c.code pc = .ok (.invokevirtual index, 3))
    (K : ∀ (T' : State) (v : Option Value) (L : List Loc), Stand p l e R s m args below meth c T' (locs ++ L) (cells + rm.cells) (slots + rm.slots) → Qc v T'.heap L → Gl p e below s Q kc ks (T'.setTop (mkF m (pc + 3) Ls (v.toList ++ rest)))) :
    Gl p e below s Q kc ks (T.setTop (mkF m pc Ls stk)) := by
  obtain ⟨cq, kq, q1, q2, q3⟩ := isOf hZ eT E
  obtain ⟨v, _, ⟨T', L', k', n'⟩, -, X', ⟨Lc, hQ, l1, y1, z1⟩, st⟩ := X.virtualBack hx (y := y) (z := y) hown (mvT hZ w1) (mvT hZ w2) (notFace_of_selects (args := #[]) (mvT hZ w5)) (mvT hZ w5) (mvT hZ w6) hy (backOf (W := W) hM hZ w4 w3 hf hl) q1 q3 (g := mkF m pc Ls stk) rfl hsz (Steps.refl _) (argsL := argsL) (rest := rest) hlen hstk
    (by show 2 * 0 + _ ≤ _; rw [Nat.mul_zero, Nat.zero_add]; exact hW) hd (fun _ _ => ⟨has, eT, hc1, hs1⟩)
  dsimp only [Pt.U, Pt.locs, Pt.cells, Pt.slots] at X' l1 y1 z1 st hQ
  subst l1 y1 z1
  exact Gl.st (fun t k => st.trans k) (K T' v Lc X' hQ)
end OwnA

def QV (n0 : Nat) (h0 : Heap) (v : Option Value) (h : Heap) (L : List Loc) : Prop := v = none ∧ Fr n0 L ∧ h = h0
def own_rb (c d t : Int64) : Int64 := ((c * (56 : Int64)) + (d * (64 : Int64))) + (t * (2 : Int64))
def QI (Z : State) (a : Addr) (d c t : Int64) (n0 : Nat) (h0 : Heap) (v : Option Value) (h : Heap) (L : List Loc) : Prop := v = none ∧ Fr n0 L ∧ Keep h0 h [a] ∧ Exa Z h a "com/example/leafrank/leafrank/core/IndexSize" ∧ Fld Z h a "com/example/leafrank/leafrank/core/IndexSize" "documents" "J" (.long d) ∧ Fld Z h a "com/example/leafrank/leafrank/core/IndexSize" "classes" "J" (.long c) ∧ Fld Z h a "com/example/leafrank/leafrank/core/IndexSize" "textBytes" "J" (.long t)
theorem own_key (d c t : Int64) : own_rb c d t = ((d * own_rb 0 1 0) + (c * own_rb 1 0 0)) + (t * own_rb 0 0 1) := by
  have e1 : own_rb 0 1 0 = 64 := by decide
  have e2 : own_rb 1 0 0 = 56 := by decide
  have e3 : own_rb 0 0 1 = 2 := by decide
  rw [e1, e2, e3, own_rb, Int64.add_comm (c * 56) (d * 64)]

theorem d1_0 : decode jdk_30_method_1_code 0 = .ok (.aload_n 0, 1) := by decide +kernel
theorem d1_1 : decode jdk_30_method_1_code 1 = .ok (.invokespecial 1, 3) := by decide +kernel
theorem d1_4 : decode jdk_30_method_1_code 4 = .ok (.return_, 1) := by decide +kernel
theorem ef1 (m : MethodId) (a0_ : Addr) : entryFrame m #[(.ref a0_)] 1 = mkF m 0 #[.val (.ref a0_)] [] := by first | (simp [entryFrame, mkF, argsToLocals, Value.category]; done) | rfl
set_option maxRecDepth 65536 in
set_option maxHeartbeats 40000000 in
theorem rm1 (l : Launch) (Z : State) (a0 : Array Value) (hw : ∀ d ∈ tables_1, d.before a0 Z = true) (ws : List Jvm.Cond) (a0_ : Addr)  (h0 : Heap) (n0 : Nat) (Z0 : n0 ≤ h0.size)  :
    MetFree l (⟨"java/lang/Record", "<init>", "()V"⟩ : MethodName) (head1 (Jvm.Cond.code (⟨"java/lang/Record", "<init>", "()V"⟩ : MethodName) jdk_30_method_1_code 1 none :: ws) (⟨1, 0, 0, 12⟩ : Room)) (fun a U => a = #[(.ref a0_)] ∧ Z.Warmed39 U.vm ∧ U.heap = h0) (fun _ _ _ _ _ => True) (fun _ U o U' => ∃ v L, o = .returned v ∧ QV n0 h0 v U'.heap L ∧ FrameEnd U o U' L 0 0) := by
  refine MetFree.of_bodySF (plainFor_of_name own_pn0) hisR ?_
  intro p e s m args below meth c s₁ Bd hml0 hP hK
  obtain ⟨rfl, hZ, hh⟩ := hP
  have hx := Bd.exec
  have hby := Bd.bytes
  have hml : c.maxLocals = 1 := hml0
  have hown : s.vm.findClass "java/lang/Record" = some m.cls := findClass_of_methodNamed Bd.named
  have hnm := (name_of_methodNamed Bd.named Bd.method).1
  have hlk : meth.locks = false := Bd.notSynchronized
  have hret := Bd.returns
  have X0 : Stand p l e (⟨1, 0, 0, 12⟩ : Room) s m #[(.ref a0_)] below meth c s₁ [] 0 0 := Stand.of_body Bd
  have e0 : s₁.heap = h0 := by rw [← hh, Bd.state]; rfl
  have N0 := Fr.nil n0
  have GOAL : Gl p e below s (QV n0 h0) 0 0 (s₁.setTop (entryFrame m #[(.ref a0_)] 1)) := by
    refine Gl.cast (ef1 m a0_) ?_
    refine Gl.st (b := s₁.setTop (mkF m 1 #[.val (.ref a0_)] [(.ref a0_)])) (fun tq kq => XS.aloadN X0.here hx rfl (hb hby d1_0) rfl rfl kq) ?_
    refine Gl.ex (Jvm.RoadKit.initO X0 hx hZ hown (hw _ (List.mem_of_getElem? (i := 11) rfl)) (hw _ (List.mem_of_getElem? (i := 12) rfl)) (hw _ (List.mem_of_getElem? (i := 13) rfl)) e0 (g := (mkF m 1 #[.val (.ref a0_)] [(.ref a0_)])) rfl (by rw [hml]; rfl) rfl (hb hby d1_1) (by decide) (W := 0) (by show 2 * 0 + _ ≤ _; exact Nat.le_of_eq rfl) (by decide)) ?_
    intro T1 X1 e1
    show Gl _ _ _ _ _ _ _ (T1.setTop (mkF m 4 #[.val (.ref a0_)] []))
    exact Gl.retV X1 hx hret (hb hby d1_4) hlk (by decide) (by decide) ⟨rfl, N0, e1⟩
  exact GOAL
theorem d2_0 : decode prog_120_method_1_code 0 = .ok (.aload_n 0, 1) := by decide +kernel
theorem d2_1 : decode prog_120_method_1_code 1 = .ok (.invokespecial 1, 3) := by decide +kernel
theorem d2_4 : decode prog_120_method_1_code 4 = .ok (.aload_n 0, 1) := by decide +kernel
theorem d2_5 : decode prog_120_method_1_code 5 = .ok (.lload_n 1, 1) := by decide +kernel
theorem d2_6 : decode prog_120_method_1_code 6 = .ok (.putfield 7, 3) := by decide +kernel
theorem d2_9 : decode prog_120_method_1_code 9 = .ok (.aload_n 0, 1) := by decide +kernel
theorem d2_10 : decode prog_120_method_1_code 10 = .ok (.lload_n 3, 1) := by decide +kernel
theorem d2_11 : decode prog_120_method_1_code 11 = .ok (.putfield 13, 3) := by decide +kernel
theorem d2_14 : decode prog_120_method_1_code 14 = .ok (.aload_n 0, 1) := by decide +kernel
theorem d2_15 : decode prog_120_method_1_code 15 = .ok (.lload 5, 2) := by decide +kernel
theorem d2_17 : decode prog_120_method_1_code 17 = .ok (.putfield 16, 3) := by decide +kernel
theorem d2_20 : decode prog_120_method_1_code 20 = .ok (.aload_n 0, 1) := by decide +kernel
theorem d2_21 : decode prog_120_method_1_code 21 = .ok (.lload 7, 2) := by decide +kernel
theorem d2_23 : decode prog_120_method_1_code 23 = .ok (.putfield 19, 3) := by decide +kernel
theorem d2_26 : decode prog_120_method_1_code 26 = .ok (.aload_n 0, 1) := by decide +kernel
theorem d2_27 : decode prog_120_method_1_code 27 = .ok (.lload 9, 2) := by decide +kernel
theorem d2_29 : decode prog_120_method_1_code 29 = .ok (.putfield 22, 3) := by decide +kernel
theorem d2_32 : decode prog_120_method_1_code 32 = .ok (.aload_n 0, 1) := by decide +kernel
theorem d2_33 : decode prog_120_method_1_code 33 = .ok (.lload 11, 2) := by decide +kernel
theorem d2_35 : decode prog_120_method_1_code 35 = .ok (.putfield 25, 3) := by decide +kernel
theorem d2_38 : decode prog_120_method_1_code 38 = .ok (.aload_n 0, 1) := by decide +kernel
theorem d2_39 : decode prog_120_method_1_code 39 = .ok (.lload 13, 2) := by decide +kernel
theorem d2_41 : decode prog_120_method_1_code 41 = .ok (.putfield 28, 3) := by decide +kernel
theorem d2_44 : decode prog_120_method_1_code 44 = .ok (.return_, 1) := by decide +kernel
theorem ef2 (m : MethodId) (a0_ : Addr) (z1 : Int64) (z2 : Int64) (z3 : Int64) (z4 : Int64) (z5 : Int64) (z6 : Int64) (z7 : Int64) : entryFrame m #[(.ref a0_), (.long z1), (.long z2), (.long z3), (.long z4), (.long z5), (.long z6), (.long z7)] 15 = mkF m 0 #[.val (.ref a0_), .val (.long z1), .second, .val (.long z2), .second, .val (.long z3), .second, .val (.long z4), .second, .val (.long z5), .second, .val (.long z6), .second, .val (.long z7), .second] [] := by first | (simp [entryFrame, mkF, argsToLocals, Value.category]; done) | rfl
set_option maxRecDepth 65536 in
set_option maxHeartbeats 40000000 in
theorem rm2 (l : Launch) (Z : State) (a0 : Array Value) (hw : ∀ d ∈ tables_1, d.before a0 Z = true) (ws : List Jvm.Cond) (a0_ : Addr) (z1 : Int64) (z2 : Int64) (z3 : Int64) (z4 : Int64) (z5 : Int64) (z6 : Int64) (z7 : Int64)  (h0 : Heap) (n0 : Nat) (Z0 : n0 ≤ h0.size) (EX : Exa Z h0 a0_ "com/example/leafrank/leafrank/core/IndexSize") (F_documents : Fld Z h0 a0_ "com/example/leafrank/leafrank/core/IndexSize" "documents" "J" (.long (0 : Int64))) (F_elements : Fld Z h0 a0_ "com/example/leafrank/leafrank/core/IndexSize" "elements" "J" (.long (0 : Int64))) (F_classes : Fld Z h0 a0_ "com/example/leafrank/leafrank/core/IndexSize" "classes" "J" (.long (0 : Int64))) (F_terms : Fld Z h0 a0_ "com/example/leafrank/leafrank/core/IndexSize" "terms" "J" (.long (0 : Int64))) (F_groups : Fld Z h0 a0_ "com/example/leafrank/leafrank/core/IndexSize" "groups" "J" (.long (0 : Int64))) (F_postings : Fld Z h0 a0_ "com/example/leafrank/leafrank/core/IndexSize" "postings" "J" (.long (0 : Int64))) (F_textBytes : Fld Z h0 a0_ "com/example/leafrank/leafrank/core/IndexSize" "textBytes" "J" (.long (0 : Int64))) (ga : n0 ≤ a0_) :
    MetFree l (⟨"com/example/leafrank/leafrank/core/IndexSize", "<init>", "(JJJJJJJ)V"⟩ : MethodName) (head1 (Jvm.Cond.code (⟨"com/example/leafrank/leafrank/core/IndexSize", "<init>", "(JJJJJJJ)V"⟩ : MethodName) prog_120_method_1_code 15 none :: ws) (⟨2, 0, 0, 24⟩ : Room)) (fun a U => a = #[(.ref a0_), (.long z1), (.long z2), (.long z3), (.long z4), (.long z5), (.long z6), (.long z7)] ∧ Z.Warmed39 U.vm ∧ U.heap = h0) (fun _ _ _ _ _ => True) (fun _ U o U' => ∃ v L, o = .returned v ∧ QI Z a0_ z1 z3 z7 n0 h0 v U'.heap L ∧ FrameEnd U o U' L 0 0) := by
  refine MetFree.of_bodySF (plainFor_of_name own_pn1) hisR ?_
  intro p e s m args below meth c s₁ Bd hml0 hP hK
  obtain ⟨rfl, hZ, hh⟩ := hP
  have hx := Bd.exec
  have hby := Bd.bytes
  have hml : c.maxLocals = 15 := hml0
  have hown : s.vm.findClass "com/example/leafrank/leafrank/core/IndexSize" = some m.cls := findClass_of_methodNamed Bd.named
  have hnm := (name_of_methodNamed Bd.named Bd.method).1
  have hlk : meth.locks = false := Bd.notSynchronized
  have hret := Bd.returns
  have X0 : Stand p l e (⟨2, 0, 0, 24⟩ : Room) s m #[(.ref a0_), (.long z1), (.long z2), (.long z3), (.long z4), (.long z5), (.long z6), (.long z7)] below meth c s₁ [] 0 0 := Stand.of_body Bd
  have e0 : s₁.heap = h0 := by rw [← hh, Bd.state]; rfl
  have N0 := Fr.nil n0
  have GOAL : Gl p e below s (QI Z a0_ z1 z3 z7 n0 h0) 0 0 (s₁.setTop (entryFrame m #[(.ref a0_), (.long z1), (.long z2), (.long z3), (.long z4), (.long z5), (.long z6), (.long z7)] 15)) := by
    refine Gl.cast (ef2 m a0_ z1 z2 z3 z4 z5 z6 z7) ?_
    have KK_0 : Keep h0 h0 [a0_] := Keep.refl _ _
    refine Gl.st (b := s₁.setTop (mkF m 1 #[.val (.ref a0_), .val (.long z1), .second, .val (.long z2), .second, .val (.long z3), .second, .val (.long z4), .second, .val (.long z5), .second, .val (.long z6), .second, .val (.long z7), .second] [(.ref a0_)])) (fun tq kq => XS.aloadN X0.here hx rfl (hb hby d2_0) rfl rfl kq) ?_
    refine Gl.callI (W := 0) (argsL := []) (rest := []) (a := a0_) X0 hx hZ rfl hown (hw _ (List.mem_of_getElem? (i := 6) rfl)) (hw _ (List.mem_of_getElem? (i := 7) rfl)) (hw _ (List.mem_of_getElem? (i := 9) rfl)) (hw _ (List.mem_of_getElem? (i := 10) rfl)) (by decide) (rm1 l Z a0 hw [] a0_ h0 n0 Z0) (by decide) (by decide) e0 (by decide) (by decide) (by rw [hml]; rfl) (lenOf own_pd0 rfl) rfl rfl (Nat.le_of_eq rfl) (hb hby d2_1) ?_
    intro T1 v1 L1 X1 hQ1
    obtain ⟨rfl, N1q, e1q⟩ := hQ1
    have N1 := N0.app N1q
    show Gl _ _ _ _ _ _ _ (T1.setTop (mkF m 4 #[.val (.ref a0_), .val (.long z1), .second, .val (.long z2), .second, .val (.long z3), .second, .val (.long z4), .second, .val (.long z5), .second, .val (.long z6), .second, .val (.long z7), .second] []))
    refine Gl.st (b := T1.setTop (mkF m 5 #[.val (.ref a0_), .val (.long z1), .second, .val (.long z2), .second, .val (.long z3), .second, .val (.long z4), .second, .val (.long z5), .second, .val (.long z6), .second, .val (.long z7), .second] [(.ref a0_)])) (fun tq kq => XS.aloadN X1.here hx rfl (hb hby d2_4) rfl rfl kq) ?_
    refine Gl.st (b := T1.setTop (mkF m 6 #[.val (.ref a0_), .val (.long z1), .second, .val (.long z2), .second, .val (.long z3), .second, .val (.long z4), .second, .val (.long z5), .second, .val (.long z6), .second, .val (.long z7), .second] [(.long z1), (.ref a0_)])) (fun tq kq => XS.lloadN X1.here hx rfl (hb hby d2_5) rfl kq) ?_
    refine Gl.putF X1 hx hZ hown (hw _ (List.mem_of_getElem? (i := 14) rfl)) e1q F_documents EX (Or.inr ⟨(hw _ (List.mem_of_getElem? (i := 15) rfl)), rfl, hnm⟩) (hw _ (List.mem_of_getElem? (i := 1) rfl)) (ty := .long) (by decide) rfl rfl N1 ga (hb hby d2_6) ?_
    intro T2 h2 L2 X2 e2 N2 W2
    have FF2 := F_documents.same W2
    have Z_2 : n0 ≤ h2.size := Nat.le_trans Z0 (Nat.le_of_eq W2.size.symm)
    have E_a0__2 := EX.wr W2
    have KK_2 := KK_0.wr W2 (Or.inl (List.mem_of_getElem? (i := 0) rfl))
    have F_a0__elements_2 := F_elements.other W2 (Or.inr (slot_ne (Or.inr (hw _ (List.mem_of_getElem? (i := 17) rfl))) (Or.inr (hw _ (List.mem_of_getElem? (i := 15) rfl))) (by decide) (t := .long) (t' := .long) (by decide) (by decide)))
    have F_a0__classes_2 := F_classes.other W2 (Or.inr (slot_ne (Or.inr (hw _ (List.mem_of_getElem? (i := 19) rfl))) (Or.inr (hw _ (List.mem_of_getElem? (i := 15) rfl))) (by decide) (t := .long) (t' := .long) (by decide) (by decide)))
    have F_a0__terms_2 := F_terms.other W2 (Or.inr (slot_ne (Or.inr (hw _ (List.mem_of_getElem? (i := 21) rfl))) (Or.inr (hw _ (List.mem_of_getElem? (i := 15) rfl))) (by decide) (t := .long) (t' := .long) (by decide) (by decide)))
    have F_a0__groups_2 := F_groups.other W2 (Or.inr (slot_ne (Or.inr (hw _ (List.mem_of_getElem? (i := 23) rfl))) (Or.inr (hw _ (List.mem_of_getElem? (i := 15) rfl))) (by decide) (t := .long) (t' := .long) (by decide) (by decide)))
    have F_a0__postings_2 := F_postings.other W2 (Or.inr (slot_ne (Or.inr (hw _ (List.mem_of_getElem? (i := 25) rfl))) (Or.inr (hw _ (List.mem_of_getElem? (i := 15) rfl))) (by decide) (t := .long) (t' := .long) (by decide) (by decide)))
    have F_a0__textBytes_2 := F_textBytes.other W2 (Or.inr (slot_ne (Or.inr (hw _ (List.mem_of_getElem? (i := 27) rfl))) (Or.inr (hw _ (List.mem_of_getElem? (i := 15) rfl))) (by decide) (t := .long) (t' := .long) (by decide) (by decide)))
    show Gl _ _ _ _ _ _ _ (T2.setTop (mkF m 9 #[.val (.ref a0_), .val (.long z1), .second, .val (.long z2), .second, .val (.long z3), .second, .val (.long z4), .second, .val (.long z5), .second, .val (.long z6), .second, .val (.long z7), .second] []))
    refine Gl.st (b := T2.setTop (mkF m 10 #[.val (.ref a0_), .val (.long z1), .second, .val (.long z2), .second, .val (.long z3), .second, .val (.long z4), .second, .val (.long z5), .second, .val (.long z6), .second, .val (.long z7), .second] [(.ref a0_)])) (fun tq kq => XS.aloadN X2.here hx rfl (hb hby d2_9) rfl rfl kq) ?_
    refine Gl.st (b := T2.setTop (mkF m 11 #[.val (.ref a0_), .val (.long z1), .second, .val (.long z2), .second, .val (.long z3), .second, .val (.long z4), .second, .val (.long z5), .second, .val (.long z6), .second, .val (.long z7), .second] [(.long z2), (.ref a0_)])) (fun tq kq => XS.lloadN X2.here hx rfl (hb hby d2_10) rfl kq) ?_
    refine Gl.putF X2 hx hZ hown (hw _ (List.mem_of_getElem? (i := 16) rfl)) e2 F_a0__elements_2 E_a0__2 (Or.inr ⟨(hw _ (List.mem_of_getElem? (i := 17) rfl)), rfl, hnm⟩) (hw _ (List.mem_of_getElem? (i := 1) rfl)) (ty := .long) (by decide) rfl rfl N2 ga (hb hby d2_11) ?_
    intro T3 h3 L3 X3 e3 N3 W3
    have FF3 := F_a0__elements_2.same W3
    have Z_3 : n0 ≤ h3.size := Nat.le_trans Z_2 (Nat.le_of_eq W3.size.symm)
    have E_a0__3 := E_a0__2.wr W3
    have KK_3 := KK_2.wr W3 (Or.inl (List.mem_of_getElem? (i := 0) rfl))
    have F_a0__documents_3 := FF2.other W3 (Or.inr (slot_ne (Or.inr (hw _ (List.mem_of_getElem? (i := 15) rfl))) (Or.inr (hw _ (List.mem_of_getElem? (i := 17) rfl))) (by decide) (t := .long) (t' := .long) (by decide) (by decide)))
    have F_a0__classes_3 := F_a0__classes_2.other W3 (Or.inr (slot_ne (Or.inr (hw _ (List.mem_of_getElem? (i := 19) rfl))) (Or.inr (hw _ (List.mem_of_getElem? (i := 17) rfl))) (by decide) (t := .long) (t' := .long) (by decide) (by decide)))
    have F_a0__terms_3 := F_a0__terms_2.other W3 (Or.inr (slot_ne (Or.inr (hw _ (List.mem_of_getElem? (i := 21) rfl))) (Or.inr (hw _ (List.mem_of_getElem? (i := 17) rfl))) (by decide) (t := .long) (t' := .long) (by decide) (by decide)))
    have F_a0__groups_3 := F_a0__groups_2.other W3 (Or.inr (slot_ne (Or.inr (hw _ (List.mem_of_getElem? (i := 23) rfl))) (Or.inr (hw _ (List.mem_of_getElem? (i := 17) rfl))) (by decide) (t := .long) (t' := .long) (by decide) (by decide)))
    have F_a0__postings_3 := F_a0__postings_2.other W3 (Or.inr (slot_ne (Or.inr (hw _ (List.mem_of_getElem? (i := 25) rfl))) (Or.inr (hw _ (List.mem_of_getElem? (i := 17) rfl))) (by decide) (t := .long) (t' := .long) (by decide) (by decide)))
    have F_a0__textBytes_3 := F_a0__textBytes_2.other W3 (Or.inr (slot_ne (Or.inr (hw _ (List.mem_of_getElem? (i := 27) rfl))) (Or.inr (hw _ (List.mem_of_getElem? (i := 17) rfl))) (by decide) (t := .long) (t' := .long) (by decide) (by decide)))
    show Gl _ _ _ _ _ _ _ (T3.setTop (mkF m 14 #[.val (.ref a0_), .val (.long z1), .second, .val (.long z2), .second, .val (.long z3), .second, .val (.long z4), .second, .val (.long z5), .second, .val (.long z6), .second, .val (.long z7), .second] []))
    refine Gl.st (b := T3.setTop (mkF m 15 #[.val (.ref a0_), .val (.long z1), .second, .val (.long z2), .second, .val (.long z3), .second, .val (.long z4), .second, .val (.long z5), .second, .val (.long z6), .second, .val (.long z7), .second] [(.ref a0_)])) (fun tq kq => XS.aloadN X3.here hx rfl (hb hby d2_14) rfl rfl kq) ?_
    refine Gl.st (b := T3.setTop (mkF m 17 #[.val (.ref a0_), .val (.long z1), .second, .val (.long z2), .second, .val (.long z3), .second, .val (.long z4), .second, .val (.long z5), .second, .val (.long z6), .second, .val (.long z7), .second] [(.long z3), (.ref a0_)])) (fun tq kq => XS.lload X3.here hx rfl (hb hby d2_15) rfl kq) ?_
    refine Gl.putF X3 hx hZ hown (hw _ (List.mem_of_getElem? (i := 18) rfl)) e3 F_a0__classes_3 E_a0__3 (Or.inr ⟨(hw _ (List.mem_of_getElem? (i := 19) rfl)), rfl, hnm⟩) (hw _ (List.mem_of_getElem? (i := 1) rfl)) (ty := .long) (by decide) rfl rfl N3 ga (hb hby d2_17) ?_
    intro T4 h4 L4 X4 e4 N4 W4
    have FF4 := F_a0__classes_3.same W4
    have Z_4 : n0 ≤ h4.size := Nat.le_trans Z_3 (Nat.le_of_eq W4.size.symm)
    have E_a0__4 := E_a0__3.wr W4
    have KK_4 := KK_3.wr W4 (Or.inl (List.mem_of_getElem? (i := 0) rfl))
    have F_a0__documents_4 := F_a0__documents_3.other W4 (Or.inr (slot_ne (Or.inr (hw _ (List.mem_of_getElem? (i := 15) rfl))) (Or.inr (hw _ (List.mem_of_getElem? (i := 19) rfl))) (by decide) (t := .long) (t' := .long) (by decide) (by decide)))
    have F_a0__elements_4 := FF3.other W4 (Or.inr (slot_ne (Or.inr (hw _ (List.mem_of_getElem? (i := 17) rfl))) (Or.inr (hw _ (List.mem_of_getElem? (i := 19) rfl))) (by decide) (t := .long) (t' := .long) (by decide) (by decide)))
    have F_a0__terms_4 := F_a0__terms_3.other W4 (Or.inr (slot_ne (Or.inr (hw _ (List.mem_of_getElem? (i := 21) rfl))) (Or.inr (hw _ (List.mem_of_getElem? (i := 19) rfl))) (by decide) (t := .long) (t' := .long) (by decide) (by decide)))
    have F_a0__groups_4 := F_a0__groups_3.other W4 (Or.inr (slot_ne (Or.inr (hw _ (List.mem_of_getElem? (i := 23) rfl))) (Or.inr (hw _ (List.mem_of_getElem? (i := 19) rfl))) (by decide) (t := .long) (t' := .long) (by decide) (by decide)))
    have F_a0__postings_4 := F_a0__postings_3.other W4 (Or.inr (slot_ne (Or.inr (hw _ (List.mem_of_getElem? (i := 25) rfl))) (Or.inr (hw _ (List.mem_of_getElem? (i := 19) rfl))) (by decide) (t := .long) (t' := .long) (by decide) (by decide)))
    have F_a0__textBytes_4 := F_a0__textBytes_3.other W4 (Or.inr (slot_ne (Or.inr (hw _ (List.mem_of_getElem? (i := 27) rfl))) (Or.inr (hw _ (List.mem_of_getElem? (i := 19) rfl))) (by decide) (t := .long) (t' := .long) (by decide) (by decide)))
    show Gl _ _ _ _ _ _ _ (T4.setTop (mkF m 20 #[.val (.ref a0_), .val (.long z1), .second, .val (.long z2), .second, .val (.long z3), .second, .val (.long z4), .second, .val (.long z5), .second, .val (.long z6), .second, .val (.long z7), .second] []))
    refine Gl.st (b := T4.setTop (mkF m 21 #[.val (.ref a0_), .val (.long z1), .second, .val (.long z2), .second, .val (.long z3), .second, .val (.long z4), .second, .val (.long z5), .second, .val (.long z6), .second, .val (.long z7), .second] [(.ref a0_)])) (fun tq kq => XS.aloadN X4.here hx rfl (hb hby d2_20) rfl rfl kq) ?_
    refine Gl.st (b := T4.setTop (mkF m 23 #[.val (.ref a0_), .val (.long z1), .second, .val (.long z2), .second, .val (.long z3), .second, .val (.long z4), .second, .val (.long z5), .second, .val (.long z6), .second, .val (.long z7), .second] [(.long z4), (.ref a0_)])) (fun tq kq => XS.lload X4.here hx rfl (hb hby d2_21) rfl kq) ?_
    refine Gl.putF X4 hx hZ hown (hw _ (List.mem_of_getElem? (i := 20) rfl)) e4 F_a0__terms_4 E_a0__4 (Or.inr ⟨(hw _ (List.mem_of_getElem? (i := 21) rfl)), rfl, hnm⟩) (hw _ (List.mem_of_getElem? (i := 1) rfl)) (ty := .long) (by decide) rfl rfl N4 ga (hb hby d2_23) ?_
    intro T5 h5 L5 X5 e5 N5 W5
    have FF5 := F_a0__terms_4.same W5
    have Z_5 : n0 ≤ h5.size := Nat.le_trans Z_4 (Nat.le_of_eq W5.size.symm)
    have E_a0__5 := E_a0__4.wr W5
    have KK_5 := KK_4.wr W5 (Or.inl (List.mem_of_getElem? (i := 0) rfl))
    have F_a0__documents_5 := F_a0__documents_4.other W5 (Or.inr (slot_ne (Or.inr (hw _ (List.mem_of_getElem? (i := 15) rfl))) (Or.inr (hw _ (List.mem_of_getElem? (i := 21) rfl))) (by decide) (t := .long) (t' := .long) (by decide) (by decide)))
    have F_a0__elements_5 := F_a0__elements_4.other W5 (Or.inr (slot_ne (Or.inr (hw _ (List.mem_of_getElem? (i := 17) rfl))) (Or.inr (hw _ (List.mem_of_getElem? (i := 21) rfl))) (by decide) (t := .long) (t' := .long) (by decide) (by decide)))
    have F_a0__classes_5 := FF4.other W5 (Or.inr (slot_ne (Or.inr (hw _ (List.mem_of_getElem? (i := 19) rfl))) (Or.inr (hw _ (List.mem_of_getElem? (i := 21) rfl))) (by decide) (t := .long) (t' := .long) (by decide) (by decide)))
    have F_a0__groups_5 := F_a0__groups_4.other W5 (Or.inr (slot_ne (Or.inr (hw _ (List.mem_of_getElem? (i := 23) rfl))) (Or.inr (hw _ (List.mem_of_getElem? (i := 21) rfl))) (by decide) (t := .long) (t' := .long) (by decide) (by decide)))
    have F_a0__postings_5 := F_a0__postings_4.other W5 (Or.inr (slot_ne (Or.inr (hw _ (List.mem_of_getElem? (i := 25) rfl))) (Or.inr (hw _ (List.mem_of_getElem? (i := 21) rfl))) (by decide) (t := .long) (t' := .long) (by decide) (by decide)))
    have F_a0__textBytes_5 := F_a0__textBytes_4.other W5 (Or.inr (slot_ne (Or.inr (hw _ (List.mem_of_getElem? (i := 27) rfl))) (Or.inr (hw _ (List.mem_of_getElem? (i := 21) rfl))) (by decide) (t := .long) (t' := .long) (by decide) (by decide)))
    show Gl _ _ _ _ _ _ _ (T5.setTop (mkF m 26 #[.val (.ref a0_), .val (.long z1), .second, .val (.long z2), .second, .val (.long z3), .second, .val (.long z4), .second, .val (.long z5), .second, .val (.long z6), .second, .val (.long z7), .second] []))
    refine Gl.st (b := T5.setTop (mkF m 27 #[.val (.ref a0_), .val (.long z1), .second, .val (.long z2), .second, .val (.long z3), .second, .val (.long z4), .second, .val (.long z5), .second, .val (.long z6), .second, .val (.long z7), .second] [(.ref a0_)])) (fun tq kq => XS.aloadN X5.here hx rfl (hb hby d2_26) rfl rfl kq) ?_
    refine Gl.st (b := T5.setTop (mkF m 29 #[.val (.ref a0_), .val (.long z1), .second, .val (.long z2), .second, .val (.long z3), .second, .val (.long z4), .second, .val (.long z5), .second, .val (.long z6), .second, .val (.long z7), .second] [(.long z5), (.ref a0_)])) (fun tq kq => XS.lload X5.here hx rfl (hb hby d2_27) rfl kq) ?_
    refine Gl.putF X5 hx hZ hown (hw _ (List.mem_of_getElem? (i := 22) rfl)) e5 F_a0__groups_5 E_a0__5 (Or.inr ⟨(hw _ (List.mem_of_getElem? (i := 23) rfl)), rfl, hnm⟩) (hw _ (List.mem_of_getElem? (i := 1) rfl)) (ty := .long) (by decide) rfl rfl N5 ga (hb hby d2_29) ?_
    intro T6 h6 L6 X6 e6 N6 W6
    have FF6 := F_a0__groups_5.same W6
    have Z_6 : n0 ≤ h6.size := Nat.le_trans Z_5 (Nat.le_of_eq W6.size.symm)
    have E_a0__6 := E_a0__5.wr W6
    have KK_6 := KK_5.wr W6 (Or.inl (List.mem_of_getElem? (i := 0) rfl))
    have F_a0__documents_6 := F_a0__documents_5.other W6 (Or.inr (slot_ne (Or.inr (hw _ (List.mem_of_getElem? (i := 15) rfl))) (Or.inr (hw _ (List.mem_of_getElem? (i := 23) rfl))) (by decide) (t := .long) (t' := .long) (by decide) (by decide)))
    have F_a0__elements_6 := F_a0__elements_5.other W6 (Or.inr (slot_ne (Or.inr (hw _ (List.mem_of_getElem? (i := 17) rfl))) (Or.inr (hw _ (List.mem_of_getElem? (i := 23) rfl))) (by decide) (t := .long) (t' := .long) (by decide) (by decide)))
    have F_a0__classes_6 := F_a0__classes_5.other W6 (Or.inr (slot_ne (Or.inr (hw _ (List.mem_of_getElem? (i := 19) rfl))) (Or.inr (hw _ (List.mem_of_getElem? (i := 23) rfl))) (by decide) (t := .long) (t' := .long) (by decide) (by decide)))
    have F_a0__terms_6 := FF5.other W6 (Or.inr (slot_ne (Or.inr (hw _ (List.mem_of_getElem? (i := 21) rfl))) (Or.inr (hw _ (List.mem_of_getElem? (i := 23) rfl))) (by decide) (t := .long) (t' := .long) (by decide) (by decide)))
    have F_a0__postings_6 := F_a0__postings_5.other W6 (Or.inr (slot_ne (Or.inr (hw _ (List.mem_of_getElem? (i := 25) rfl))) (Or.inr (hw _ (List.mem_of_getElem? (i := 23) rfl))) (by decide) (t := .long) (t' := .long) (by decide) (by decide)))
    have F_a0__textBytes_6 := F_a0__textBytes_5.other W6 (Or.inr (slot_ne (Or.inr (hw _ (List.mem_of_getElem? (i := 27) rfl))) (Or.inr (hw _ (List.mem_of_getElem? (i := 23) rfl))) (by decide) (t := .long) (t' := .long) (by decide) (by decide)))
    show Gl _ _ _ _ _ _ _ (T6.setTop (mkF m 32 #[.val (.ref a0_), .val (.long z1), .second, .val (.long z2), .second, .val (.long z3), .second, .val (.long z4), .second, .val (.long z5), .second, .val (.long z6), .second, .val (.long z7), .second] []))
    refine Gl.st (b := T6.setTop (mkF m 33 #[.val (.ref a0_), .val (.long z1), .second, .val (.long z2), .second, .val (.long z3), .second, .val (.long z4), .second, .val (.long z5), .second, .val (.long z6), .second, .val (.long z7), .second] [(.ref a0_)])) (fun tq kq => XS.aloadN X6.here hx rfl (hb hby d2_32) rfl rfl kq) ?_
    refine Gl.st (b := T6.setTop (mkF m 35 #[.val (.ref a0_), .val (.long z1), .second, .val (.long z2), .second, .val (.long z3), .second, .val (.long z4), .second, .val (.long z5), .second, .val (.long z6), .second, .val (.long z7), .second] [(.long z6), (.ref a0_)])) (fun tq kq => XS.lload X6.here hx rfl (hb hby d2_33) rfl kq) ?_
    refine Gl.putF X6 hx hZ hown (hw _ (List.mem_of_getElem? (i := 24) rfl)) e6 F_a0__postings_6 E_a0__6 (Or.inr ⟨(hw _ (List.mem_of_getElem? (i := 25) rfl)), rfl, hnm⟩) (hw _ (List.mem_of_getElem? (i := 1) rfl)) (ty := .long) (by decide) rfl rfl N6 ga (hb hby d2_35) ?_
    intro T7 h7 L7 X7 e7 N7 W7
    have FF7 := F_a0__postings_6.same W7
    have Z_7 : n0 ≤ h7.size := Nat.le_trans Z_6 (Nat.le_of_eq W7.size.symm)
    have E_a0__7 := E_a0__6.wr W7
    have KK_7 := KK_6.wr W7 (Or.inl (List.mem_of_getElem? (i := 0) rfl))
    have F_a0__documents_7 := F_a0__documents_6.other W7 (Or.inr (slot_ne (Or.inr (hw _ (List.mem_of_getElem? (i := 15) rfl))) (Or.inr (hw _ (List.mem_of_getElem? (i := 25) rfl))) (by decide) (t := .long) (t' := .long) (by decide) (by decide)))
    have F_a0__elements_7 := F_a0__elements_6.other W7 (Or.inr (slot_ne (Or.inr (hw _ (List.mem_of_getElem? (i := 17) rfl))) (Or.inr (hw _ (List.mem_of_getElem? (i := 25) rfl))) (by decide) (t := .long) (t' := .long) (by decide) (by decide)))
    have F_a0__classes_7 := F_a0__classes_6.other W7 (Or.inr (slot_ne (Or.inr (hw _ (List.mem_of_getElem? (i := 19) rfl))) (Or.inr (hw _ (List.mem_of_getElem? (i := 25) rfl))) (by decide) (t := .long) (t' := .long) (by decide) (by decide)))
    have F_a0__terms_7 := F_a0__terms_6.other W7 (Or.inr (slot_ne (Or.inr (hw _ (List.mem_of_getElem? (i := 21) rfl))) (Or.inr (hw _ (List.mem_of_getElem? (i := 25) rfl))) (by decide) (t := .long) (t' := .long) (by decide) (by decide)))
    have F_a0__groups_7 := FF6.other W7 (Or.inr (slot_ne (Or.inr (hw _ (List.mem_of_getElem? (i := 23) rfl))) (Or.inr (hw _ (List.mem_of_getElem? (i := 25) rfl))) (by decide) (t := .long) (t' := .long) (by decide) (by decide)))
    have F_a0__textBytes_7 := F_a0__textBytes_6.other W7 (Or.inr (slot_ne (Or.inr (hw _ (List.mem_of_getElem? (i := 27) rfl))) (Or.inr (hw _ (List.mem_of_getElem? (i := 25) rfl))) (by decide) (t := .long) (t' := .long) (by decide) (by decide)))
    show Gl _ _ _ _ _ _ _ (T7.setTop (mkF m 38 #[.val (.ref a0_), .val (.long z1), .second, .val (.long z2), .second, .val (.long z3), .second, .val (.long z4), .second, .val (.long z5), .second, .val (.long z6), .second, .val (.long z7), .second] []))
    refine Gl.st (b := T7.setTop (mkF m 39 #[.val (.ref a0_), .val (.long z1), .second, .val (.long z2), .second, .val (.long z3), .second, .val (.long z4), .second, .val (.long z5), .second, .val (.long z6), .second, .val (.long z7), .second] [(.ref a0_)])) (fun tq kq => XS.aloadN X7.here hx rfl (hb hby d2_38) rfl rfl kq) ?_
    refine Gl.st (b := T7.setTop (mkF m 41 #[.val (.ref a0_), .val (.long z1), .second, .val (.long z2), .second, .val (.long z3), .second, .val (.long z4), .second, .val (.long z5), .second, .val (.long z6), .second, .val (.long z7), .second] [(.long z7), (.ref a0_)])) (fun tq kq => XS.lload X7.here hx rfl (hb hby d2_39) rfl kq) ?_
    refine Gl.putF X7 hx hZ hown (hw _ (List.mem_of_getElem? (i := 26) rfl)) e7 F_a0__textBytes_7 E_a0__7 (Or.inr ⟨(hw _ (List.mem_of_getElem? (i := 27) rfl)), rfl, hnm⟩) (hw _ (List.mem_of_getElem? (i := 1) rfl)) (ty := .long) (by decide) rfl rfl N7 ga (hb hby d2_41) ?_
    intro T8 h8 L8 X8 e8 N8 W8
    have FF8 := F_a0__textBytes_7.same W8
    have Z_8 : n0 ≤ h8.size := Nat.le_trans Z_7 (Nat.le_of_eq W8.size.symm)
    have E_a0__8 := E_a0__7.wr W8
    have KK_8 := KK_7.wr W8 (Or.inl (List.mem_of_getElem? (i := 0) rfl))
    have F_a0__documents_8 := F_a0__documents_7.other W8 (Or.inr (slot_ne (Or.inr (hw _ (List.mem_of_getElem? (i := 15) rfl))) (Or.inr (hw _ (List.mem_of_getElem? (i := 27) rfl))) (by decide) (t := .long) (t' := .long) (by decide) (by decide)))
    have F_a0__elements_8 := F_a0__elements_7.other W8 (Or.inr (slot_ne (Or.inr (hw _ (List.mem_of_getElem? (i := 17) rfl))) (Or.inr (hw _ (List.mem_of_getElem? (i := 27) rfl))) (by decide) (t := .long) (t' := .long) (by decide) (by decide)))
    have F_a0__classes_8 := F_a0__classes_7.other W8 (Or.inr (slot_ne (Or.inr (hw _ (List.mem_of_getElem? (i := 19) rfl))) (Or.inr (hw _ (List.mem_of_getElem? (i := 27) rfl))) (by decide) (t := .long) (t' := .long) (by decide) (by decide)))
    have F_a0__terms_8 := F_a0__terms_7.other W8 (Or.inr (slot_ne (Or.inr (hw _ (List.mem_of_getElem? (i := 21) rfl))) (Or.inr (hw _ (List.mem_of_getElem? (i := 27) rfl))) (by decide) (t := .long) (t' := .long) (by decide) (by decide)))
    have F_a0__groups_8 := F_a0__groups_7.other W8 (Or.inr (slot_ne (Or.inr (hw _ (List.mem_of_getElem? (i := 23) rfl))) (Or.inr (hw _ (List.mem_of_getElem? (i := 27) rfl))) (by decide) (t := .long) (t' := .long) (by decide) (by decide)))
    have F_a0__postings_8 := FF7.other W8 (Or.inr (slot_ne (Or.inr (hw _ (List.mem_of_getElem? (i := 25) rfl))) (Or.inr (hw _ (List.mem_of_getElem? (i := 27) rfl))) (by decide) (t := .long) (t' := .long) (by decide) (by decide)))
    show Gl _ _ _ _ _ _ _ (T8.setTop (mkF m 44 #[.val (.ref a0_), .val (.long z1), .second, .val (.long z2), .second, .val (.long z3), .second, .val (.long z4), .second, .val (.long z5), .second, .val (.long z6), .second, .val (.long z7), .second] []))
    exact Gl.retV X8 hx hret (hb hby d2_44) hlk (by decide) (by decide) (by rw [e8]; exact ⟨rfl, N8, KK_8, E_a0__8, F_a0__documents_8, F_a0__classes_8, FF8⟩)
  exact GOAL
theorem d3_0 : decode prog_120_method_5_code 0 = .ok (.aload_n 0, 1) := by decide +kernel
theorem d3_1 : decode prog_120_method_5_code 1 = .ok (.getfield 16, 3) := by decide +kernel
theorem d3_4 : decode prog_120_method_5_code 4 = .ok (.ldc2_w 96, 3) := by decide +kernel
theorem d3_7 : decode prog_120_method_5_code 7 = .ok (.lmul, 1) := by decide +kernel
theorem d3_8 : decode prog_120_method_5_code 8 = .ok (.aload_n 0, 1) := by decide +kernel
theorem d3_9 : decode prog_120_method_5_code 9 = .ok (.getfield 7, 3) := by decide +kernel
theorem d3_12 : decode prog_120_method_5_code 12 = .ok (.ldc2_w 98, 3) := by decide +kernel
theorem d3_15 : decode prog_120_method_5_code 15 = .ok (.lmul, 1) := by decide +kernel
theorem d3_16 : decode prog_120_method_5_code 16 = .ok (.ladd, 1) := by decide +kernel
theorem d3_17 : decode prog_120_method_5_code 17 = .ok (.aload_n 0, 1) := by decide +kernel
theorem d3_18 : decode prog_120_method_5_code 18 = .ok (.getfield 28, 3) := by decide +kernel
theorem d3_21 : decode prog_120_method_5_code 21 = .ok (.ldc2_w 100, 3) := by decide +kernel
theorem d3_24 : decode prog_120_method_5_code 24 = .ok (.lmul, 1) := by decide +kernel
theorem d3_25 : decode prog_120_method_5_code 25 = .ok (.ladd, 1) := by decide +kernel
theorem d3_26 : decode prog_120_method_5_code 26 = .ok (.lreturn, 1) := by decide +kernel
theorem ef3 (m : MethodId) (a0_ : Addr) : entryFrame m #[(.ref a0_)] 1 = mkF m 0 #[.val (.ref a0_)] [] := by first | (simp [entryFrame, mkF, argsToLocals, Value.category]; done) | rfl
set_option maxRecDepth 65536 in
set_option maxHeartbeats 40000000 in
theorem rm3 (l : Launch) (Z : State) (a0 : Array Value) (hw : ∀ d ∈ tables_1, d.before a0 Z = true) (ws : List Jvm.Cond) (a0_ : Addr) (d cc tt : Int64) (h0 : Heap) (n0 : Nat) (Z0 : n0 ≤ h0.size) (F_documents : Fld Z h0 a0_ "com/example/leafrank/leafrank/core/IndexSize" "documents" "J" (.long d)) (F_classes : Fld Z h0 a0_ "com/example/leafrank/leafrank/core/IndexSize" "classes" "J" (.long cc)) (F_textBytes : Fld Z h0 a0_ "com/example/leafrank/leafrank/core/IndexSize" "textBytes" "J" (.long tt)) :
    MetFree l (⟨"com/example/leafrank/leafrank/core/IndexSize", "readBytes", "()J"⟩ : MethodName) (head1 (Jvm.Cond.code (⟨"com/example/leafrank/leafrank/core/IndexSize", "readBytes", "()J"⟩ : MethodName) prog_120_method_5_code 1 (some .long) :: ws) (⟨0, 0, 0, 0⟩ : Room)) (fun a U => a = #[(.ref a0_)] ∧ Z.Warmed39 U.vm ∧ U.heap = h0) (fun _ _ _ _ _ => True) (fun _ U o U' => ∃ v L, o = .returned v ∧ QP n0 h0 (.long (own_rb cc d tt)) v U'.heap L ∧ FrameEnd U o U' L 0 0) := by
  refine MetFree.of_bodySF (plainFor_of_name own_pn1) hisR ?_
  intro p e s m args below meth c s₁ Bd hml0 hP hK
  obtain ⟨rfl, hZ, hh⟩ := hP
  have hx := Bd.exec
  have hby := Bd.bytes
  have hml : c.maxLocals = 1 := hml0
  have hown : s.vm.findClass "com/example/leafrank/leafrank/core/IndexSize" = some m.cls := findClass_of_methodNamed Bd.named
  have hnm := (name_of_methodNamed Bd.named Bd.method).1
  have hlk : meth.locks = false := Bd.notSynchronized
  have hret := Bd.returns
  have X0 : Stand p l e (⟨0, 0, 0, 0⟩ : Room) s m #[(.ref a0_)] below meth c s₁ [] 0 0 := Stand.of_body Bd
  have e0 : s₁.heap = h0 := by rw [← hh, Bd.state]; rfl
  have N0 := Fr.nil n0
  have GOAL : Gl p e below s (QP n0 h0 (.long (own_rb cc d tt))) 0 0 (s₁.setTop (entryFrame m #[(.ref a0_)] 1)) := by
    refine Gl.cast (ef3 m a0_) ?_
    refine Gl.st (b := s₁.setTop (mkF m 1 #[.val (.ref a0_)] [(.ref a0_)])) (fun tq kq => XS.aloadN X0.here hx rfl (hb hby d3_0) rfl rfl kq) ?_
    refine Gl.getF X0 hx hZ hown (hw _ (List.mem_of_getElem? (i := 18) rfl)) e0 F_classes (hb hby d3_1) ?_
    intro T1 X1 e1
    show Gl _ _ _ _ _ _ _ (T1.setTop (mkF m 4 #[.val (.ref a0_)] [(.long cc)]))
    refine Gl.st (b := T1.setTop (mkF m 7 #[.val (.ref a0_)] [(.long (56 : Int64)), (.long cc)])) (fun tq kq => X1.ldc2Long hx hown (mvT hZ (hw _ (List.mem_of_getElem? (i := 33) rfl))) (g := (mkF m 4 #[.val (.ref a0_)] [(.long cc)])) rfl (hb hby d3_4) tq kq) ?_
    refine Gl.st (b := T1.setTop (mkF m 8 #[.val (.ref a0_)] [(.long (cc * (56 : Int64)))])) (fun tq kq => XS.lmul X1.here hx rfl (hb hby d3_7) rfl kq) ?_
    refine Gl.st (b := T1.setTop (mkF m 9 #[.val (.ref a0_)] [(.ref a0_), (.long (cc * (56 : Int64)))])) (fun tq kq => XS.aloadN X1.here hx rfl (hb hby d3_8) rfl rfl kq) ?_
    refine Gl.getF X1 hx hZ hown (hw _ (List.mem_of_getElem? (i := 14) rfl)) e1 F_documents (hb hby d3_9) ?_
    intro T2 X2 e2
    show Gl _ _ _ _ _ _ _ (T2.setTop (mkF m 12 #[.val (.ref a0_)] [(.long d), (.long (cc * (56 : Int64)))]))
    refine Gl.st (b := T2.setTop (mkF m 15 #[.val (.ref a0_)] [(.long (64 : Int64)), (.long d), (.long (cc * (56 : Int64)))])) (fun tq kq => X2.ldc2Long hx hown (mvT hZ (hw _ (List.mem_of_getElem? (i := 34) rfl))) (g := (mkF m 12 #[.val (.ref a0_)] [(.long d), (.long (cc * (56 : Int64)))])) rfl (hb hby d3_12) tq kq) ?_
    refine Gl.st (b := T2.setTop (mkF m 16 #[.val (.ref a0_)] [(.long (d * (64 : Int64))), (.long (cc * (56 : Int64)))])) (fun tq kq => XS.lmul X2.here hx rfl (hb hby d3_15) rfl kq) ?_
    refine Gl.st (b := T2.setTop (mkF m 17 #[.val (.ref a0_)] [(.long ((cc * (56 : Int64)) + (d * (64 : Int64))))])) (fun tq kq => XS.ladd X2.here hx rfl (hb hby d3_16) rfl kq) ?_
    refine Gl.st (b := T2.setTop (mkF m 18 #[.val (.ref a0_)] [(.ref a0_), (.long ((cc * (56 : Int64)) + (d * (64 : Int64))))])) (fun tq kq => XS.aloadN X2.here hx rfl (hb hby d3_17) rfl rfl kq) ?_
    refine Gl.getF X2 hx hZ hown (hw _ (List.mem_of_getElem? (i := 26) rfl)) e2 F_textBytes (hb hby d3_18) ?_
    intro T3 X3 e3
    show Gl _ _ _ _ _ _ _ (T3.setTop (mkF m 21 #[.val (.ref a0_)] [(.long tt), (.long ((cc * (56 : Int64)) + (d * (64 : Int64))))]))
    refine Gl.st (b := T3.setTop (mkF m 24 #[.val (.ref a0_)] [(.long (2 : Int64)), (.long tt), (.long ((cc * (56 : Int64)) + (d * (64 : Int64))))])) (fun tq kq => X3.ldc2Long hx hown (mvT hZ (hw _ (List.mem_of_getElem? (i := 35) rfl))) (g := (mkF m 21 #[.val (.ref a0_)] [(.long tt), (.long ((cc * (56 : Int64)) + (d * (64 : Int64))))])) rfl (hb hby d3_21) tq kq) ?_
    refine Gl.st (b := T3.setTop (mkF m 25 #[.val (.ref a0_)] [(.long (tt * (2 : Int64))), (.long ((cc * (56 : Int64)) + (d * (64 : Int64))))])) (fun tq kq => XS.lmul X3.here hx rfl (hb hby d3_24) rfl kq) ?_
    refine Gl.st (b := T3.setTop (mkF m 26 #[.val (.ref a0_)] [(.long (((cc * (56 : Int64)) + (d * (64 : Int64))) + (tt * (2 : Int64))))])) (fun tq kq => XS.ladd X3.here hx rfl (hb hby d3_25) rfl kq) ?_
    exact Gl.retJ X3 hx hret (hb hby d3_26) hlk (by decide) (by decide) ⟨rfl, N0, e3⟩
  exact GOAL
theorem ef0 (m : MethodId) (z0 : Int64) (z1 : Int64) (z2 : Int64) (z3 : Int64) (z4 : Int64) (z5 : Int32) : entryFrame m #[(.long z0), (.long z1), (.long z2), (.long z3), (.long z4), (.int z5)] maxLocals = mkF m 0 #[.val (.long z0), .second, .val (.long z1), .second, .val (.long z2), .second, .val (.long z3), .second, .val (.long z4), .second, .val (.int z5), .unset, .unset, .unset, .unset, .unset, .unset, .unset, .unset, .unset, .unset, .unset, .unset, .unset, .unset, .unset] [] := by first | (simp [entryFrame, mkF, argsToLocals, Value.category, maxLocals]; done) | rfl
set_option maxRecDepth 65536 in
set_option maxHeartbeats 40000000 in
theorem rm0 (l : Launch) (Z : State) (a0 : Array Value) (hw : ∀ d ∈ tables_1, d.before a0 Z = true) (ws : List Jvm.Cond) (z0 : Int64) (z1 : Int64) (z2 : Int64) (z3 : Int64) (z4 : Int64) (z5 : Int32)  (h0 : Heap) (n0 : Nat) (Z0 : n0 ≤ h0.size)  :
    MetFree l x (head1 (Jvm.Cond.code x code maxLocals ret :: ws) room_1) (fun a U => a = #[(.long z0), (.long z1), (.long z2), (.long z3), (.long z4), (.int z5)] ∧ Z.Warmed39 U.vm ∧ U.heap = h0) (fun _ _ _ _ _ => True) (fun _ U o U' => ∃ v L, o = .returned v ∧ QL n0 v U'.heap L ∧ FrameEnd U o U' L 5 35) := by
  refine MetFree.of_bodySF (plainFor_of_name own_pn2) hisR ?_
  intro p e s m args below meth c s₁ Bd hml0 hP hK
  obtain ⟨rfl, hZ, hh⟩ := hP
  have hx := Bd.exec
  have hby := Bd.bytes
  have hml : c.maxLocals = 26 := hml0
  have hown : s.vm.findClass "com/example/leafrank/leafrank/core/IndexSizeReadBytesPinLaw" = some m.cls := findClass_of_methodNamed Bd.named
  have hnm := (name_of_methodNamed Bd.named Bd.method).1
  have hlk : meth.locks = false := Bd.notSynchronized
  have hret := Bd.returns
  have X0 : Stand p l e room_1 s m #[(.long z0), (.long z1), (.long z2), (.long z3), (.long z4), (.int z5)] below meth c s₁ [] 0 0 := Stand.of_body Bd
  have e0 : s₁.heap = h0 := by rw [← hh, Bd.state]; rfl
  have N0 := Fr.nil n0
  have GOAL : Gl p e below s (QL n0) 5 35 (s₁.setTop (entryFrame m #[(.long z0), (.long z1), (.long z2), (.long z3), (.long z4), (.int z5)] maxLocals)) := by
    refine Gl.cast (ef0 m z0 z1 z2 z3 z4 z5) ?_
    refine Gl.newO X0 hx hZ hown (hw _ (List.mem_of_getElem? (i := 0) rfl)) (hw _ (List.mem_of_getElem? (i := 1) rfl)) (hw _ (List.mem_of_getElem? (i := 2) rfl)) e0 (by decide) (by decide) (hb hby at_0) ?_
    intro T1 h1 b1 g1 X1 e1 E1 B1 D1
    have G_b1 : n0 ≤ b1 := Nat.le_trans Z0 (Nat.le_of_eq g1.symm)
    have Z_1 : n0 ≤ h1.size := Nat.le_trans Z0 E1.1
    have F_documents_b1 : Fld Z h1 b1 "com/example/leafrank/leafrank/core/IndexSize" "documents" "J" (.long (0 : Int64)) := D1 (Or.inr (hw _ (List.mem_of_getElem? (i := 15) rfl))) (ty := .long) (by decide)
    have F_elements_b1 : Fld Z h1 b1 "com/example/leafrank/leafrank/core/IndexSize" "elements" "J" (.long (0 : Int64)) := D1 (Or.inr (hw _ (List.mem_of_getElem? (i := 17) rfl))) (ty := .long) (by decide)
    have F_classes_b1 : Fld Z h1 b1 "com/example/leafrank/leafrank/core/IndexSize" "classes" "J" (.long (0 : Int64)) := D1 (Or.inr (hw _ (List.mem_of_getElem? (i := 19) rfl))) (ty := .long) (by decide)
    have F_terms_b1 : Fld Z h1 b1 "com/example/leafrank/leafrank/core/IndexSize" "terms" "J" (.long (0 : Int64)) := D1 (Or.inr (hw _ (List.mem_of_getElem? (i := 21) rfl))) (ty := .long) (by decide)
    have F_groups_b1 : Fld Z h1 b1 "com/example/leafrank/leafrank/core/IndexSize" "groups" "J" (.long (0 : Int64)) := D1 (Or.inr (hw _ (List.mem_of_getElem? (i := 23) rfl))) (ty := .long) (by decide)
    have F_postings_b1 : Fld Z h1 b1 "com/example/leafrank/leafrank/core/IndexSize" "postings" "J" (.long (0 : Int64)) := D1 (Or.inr (hw _ (List.mem_of_getElem? (i := 25) rfl))) (ty := .long) (by decide)
    have F_textBytes_b1 : Fld Z h1 b1 "com/example/leafrank/leafrank/core/IndexSize" "textBytes" "J" (.long (0 : Int64)) := D1 (Or.inr (hw _ (List.mem_of_getElem? (i := 27) rfl))) (ty := .long) (by decide)
    show Gl _ _ _ _ _ _ _ (T1.setTop (mkF m 3 #[.val (.long z0), .second, .val (.long z1), .second, .val (.long z2), .second, .val (.long z3), .second, .val (.long z4), .second, .val (.int z5), .unset, .unset, .unset, .unset, .unset, .unset, .unset, .unset, .unset, .unset, .unset, .unset, .unset, .unset, .unset] [(.ref b1)]))
    refine Gl.st (b := T1.setTop (mkF m 4 #[.val (.long z0), .second, .val (.long z1), .second, .val (.long z2), .second, .val (.long z3), .second, .val (.long z4), .second, .val (.int z5), .unset, .unset, .unset, .unset, .unset, .unset, .unset, .unset, .unset, .unset, .unset, .unset, .unset, .unset, .unset] [(.ref b1), (.ref b1)])) (fun tq kq => XS.dup X1.here hx rfl (hb hby at_3) rfl rfl kq) ?_
    refine Gl.st (b := T1.setTop (mkF m 5 #[.val (.long z0), .second, .val (.long z1), .second, .val (.long z2), .second, .val (.long z3), .second, .val (.long z4), .second, .val (.int z5), .unset, .unset, .unset, .unset, .unset, .unset, .unset, .unset, .unset, .unset, .unset, .unset, .unset, .unset, .unset] [(.long z0), (.ref b1), (.ref b1)])) (fun tq kq => XS.lloadN X1.here hx rfl (hb hby at_4) rfl kq) ?_
    refine Gl.st (b := T1.setTop (mkF m 7 #[.val (.long z0), .second, .val (.long z1), .second, .val (.long z2), .second, .val (.long z3), .second, .val (.long z4), .second, .val (.int z5), .unset, .unset, .unset, .unset, .unset, .unset, .unset, .unset, .unset, .unset, .unset, .unset, .unset, .unset, .unset] [(.long z3), (.long z0), (.ref b1), (.ref b1)])) (fun tq kq => XS.lload X1.here hx rfl (hb hby at_5) rfl kq) ?_
    refine Gl.st (b := T1.setTop (mkF m 8 #[.val (.long z0), .second, .val (.long z1), .second, .val (.long z2), .second, .val (.long z3), .second, .val (.long z4), .second, .val (.int z5), .unset, .unset, .unset, .unset, .unset, .unset, .unset, .unset, .unset, .unset, .unset, .unset, .unset, .unset, .unset] [(.long z1), (.long z3), (.long z0), (.ref b1), (.ref b1)])) (fun tq kq => XS.lloadN X1.here hx rfl (hb hby at_7) rfl kq) ?_
    refine Gl.st (b := T1.setTop (mkF m 10 #[.val (.long z0), .second, .val (.long z1), .second, .val (.long z2), .second, .val (.long z3), .second, .val (.long z4), .second, .val (.int z5), .unset, .unset, .unset, .unset, .unset, .unset, .unset, .unset, .unset, .unset, .unset, .unset, .unset, .unset, .unset] [(.long z4), (.long z1), (.long z3), (.long z0), (.ref b1), (.ref b1)])) (fun tq kq => XS.lload X1.here hx rfl (hb hby at_8) rfl kq) ?_
    refine Gl.st (b := T1.setTop (mkF m 12 #[.val (.long z0), .second, .val (.long z1), .second, .val (.long z2), .second, .val (.long z3), .second, .val (.long z4), .second, .val (.int z5), .unset, .unset, .unset, .unset, .unset, .unset, .unset, .unset, .unset, .unset, .unset, .unset, .unset, .unset, .unset] [(.long z3), (.long z4), (.long z1), (.long z3), (.long z0), (.ref b1), (.ref b1)])) (fun tq kq => XS.lload X1.here hx rfl (hb hby at_10) rfl kq) ?_
    refine Gl.st (b := T1.setTop (mkF m 14 #[.val (.long z0), .second, .val (.long z1), .second, .val (.long z2), .second, .val (.long z3), .second, .val (.long z4), .second, .val (.int z5), .unset, .unset, .unset, .unset, .unset, .unset, .unset, .unset, .unset, .unset, .unset, .unset, .unset, .unset, .unset] [(.long z4), (.long z3), (.long z4), (.long z1), (.long z3), (.long z0), (.ref b1), (.ref b1)])) (fun tq kq => XS.lload X1.here hx rfl (hb hby at_12) rfl kq) ?_
    refine Gl.st (b := T1.setTop (mkF m 15 #[.val (.long z0), .second, .val (.long z1), .second, .val (.long z2), .second, .val (.long z3), .second, .val (.long z4), .second, .val (.int z5), .unset, .unset, .unset, .unset, .unset, .unset, .unset, .unset, .unset, .unset, .unset, .unset, .unset, .unset, .unset] [(.long (z3 ^^^ z4)), (.long z4), (.long z1), (.long z3), (.long z0), (.ref b1), (.ref b1)])) (fun tq kq => XS.lxor X1.here hx rfl (hb hby at_14) rfl kq) ?_
    refine Gl.st (b := T1.setTop (mkF m 17 #[.val (.long z0), .second, .val (.long z1), .second, .val (.long z2), .second, .val (.long z3), .second, .val (.long z4), .second, .val (.int z5), .unset, .unset, .unset, .unset, .unset, .unset, .unset, .unset, .unset, .unset, .unset, .unset, .unset, .unset, .unset] [(.int z5), (.long (z3 ^^^ z4)), (.long z4), (.long z1), (.long z3), (.long z0), (.ref b1), (.ref b1)])) (fun tq kq => XS.iload X1.here hx rfl (hb hby at_15) rfl kq) ?_
    refine Gl.st (b := T1.setTop (mkF m 18 #[.val (.long z0), .second, .val (.long z1), .second, .val (.long z2), .second, .val (.long z3), .second, .val (.long z4), .second, .val (.int z5), .unset, .unset, .unset, .unset, .unset, .unset, .unset, .unset, .unset, .unset, .unset, .unset, .unset, .unset, .unset] [(.long (z5.toInt64)), (.long (z3 ^^^ z4)), (.long z4), (.long z1), (.long z3), (.long z0), (.ref b1), (.ref b1)])) (fun tq kq => XS.i2l X1.here hx rfl (hb hby at_17) rfl kq) ?_
    refine Gl.st (b := T1.setTop (mkF m 20 #[.val (.long z0), .second, .val (.long z1), .second, .val (.long z2), .second, .val (.long z3), .second, .val (.long z4), .second, .val (.int z5), .unset, .unset, .unset, .unset, .unset, .unset, .unset, .unset, .unset, .unset, .unset, .unset, .unset, .unset, .unset] [(.long z2), (.long (z5.toInt64)), (.long (z3 ^^^ z4)), (.long z4), (.long z1), (.long z3), (.long z0), (.ref b1), (.ref b1)])) (fun tq kq => XS.lload X1.here hx rfl (hb hby at_18) rfl kq) ?_
    refine Gl.callI (W := 1) (argsL := [(.long z0), (.long z3), (.long z1), (.long z4), (.long (z3 ^^^ z4)), (.long (z5.toInt64)), (.long z2)]) (rest := [(.ref b1)]) (a := b1) X1 hx hZ rfl hown (hw _ (List.mem_of_getElem? (i := 3) rfl)) (hw _ (List.mem_of_getElem? (i := 4) rfl)) (hw _ (List.mem_of_getElem? (i := 2) rfl)) (hw _ (List.mem_of_getElem? (i := 5) rfl)) (by decide) (rm2 l Z a0 hw [] b1 z0 z3 z1 z4 (z3 ^^^ z4) (z5.toInt64) z2 h1 n0 Z_1 B1 F_documents_b1 F_elements_b1 F_classes_b1 F_terms_b1 F_groups_b1 F_postings_b1 F_textBytes_b1 G_b1) (by decide) (by decide) e1 (by decide) (by decide) (by rw [hml]; rfl) (lenOf own_pd1 rfl) rfl rfl (Nat.le_of_eq rfl) (hb hby at_20) ?_
    intro T2 v2 L2 X2 hQ2
    obtain ⟨rfl, N2q, K2, B2, Fd2, Fc2, Ft2⟩ := hQ2
    have N2 := N0.app N2q
    have Z_2 : n0 ≤ T2.heap.size := Nat.le_trans Z_1 K2.1
    show Gl _ _ _ _ _ _ _ (T2.setTop (mkF m 23 #[.val (.long z0), .second, .val (.long z1), .second, .val (.long z2), .second, .val (.long z3), .second, .val (.long z4), .second, .val (.int z5), .unset, .unset, .unset, .unset, .unset, .unset, .unset, .unset, .unset, .unset, .unset, .unset, .unset, .unset, .unset] [(.ref b1)]))
    refine Gl.st (b := T2.setTop (mkF m 25 #[.val (.long z0), .second, .val (.long z1), .second, .val (.long z2), .second, .val (.long z3), .second, .val (.long z4), .second, .val (.int z5), .val (.ref b1), .unset, .unset, .unset, .unset, .unset, .unset, .unset, .unset, .unset, .unset, .unset, .unset, .unset, .unset] [])) (fun tq kq => XS.astore X2.here hx rfl (hb hby at_23) rfl rfl (l' := #[.val (.long z0), .second, .val (.long z1), .second, .val (.long z2), .second, .val (.long z3), .second, .val (.long z4), .second, .val (.int z5), .val (.ref b1), .unset, .unset, .unset, .unset, .unset, .unset, .unset, .unset, .unset, .unset, .unset, .unset, .unset, .unset]) rfl kq) ?_
    refine Gl.newO X2 hx hZ hown (hw _ (List.mem_of_getElem? (i := 0) rfl)) (hw _ (List.mem_of_getElem? (i := 1) rfl)) (hw _ (List.mem_of_getElem? (i := 2) rfl)) rfl (by decide) (by decide) (hb hby at_25) ?_
    intro T3 h3 b3 g3 X3 e3 E3 B3 D3
    have ne_b1_b3 : b1 ≠ b3 := Nat.ne_of_lt (Nat.lt_of_lt_of_le B2.lt (Nat.le_of_eq g3.symm))
    have G_b3 : n0 ≤ b3 := Nat.le_trans Z_2 (Nat.le_of_eq g3.symm)
    have Z_3 : n0 ≤ h3.size := Nat.le_trans Z_2 E3.1
    have E_b1_3 := B2.ext E3
    have F_b1_documents_3 := Fd2.ext E3
    have F_b1_classes_3 := Fc2.ext E3
    have F_b1_textBytes_3 := Ft2.ext E3
    have F_documents_b3 : Fld Z h3 b3 "com/example/leafrank/leafrank/core/IndexSize" "documents" "J" (.long (0 : Int64)) := D3 (Or.inr (hw _ (List.mem_of_getElem? (i := 15) rfl))) (ty := .long) (by decide)
    have F_elements_b3 : Fld Z h3 b3 "com/example/leafrank/leafrank/core/IndexSize" "elements" "J" (.long (0 : Int64)) := D3 (Or.inr (hw _ (List.mem_of_getElem? (i := 17) rfl))) (ty := .long) (by decide)
    have F_classes_b3 : Fld Z h3 b3 "com/example/leafrank/leafrank/core/IndexSize" "classes" "J" (.long (0 : Int64)) := D3 (Or.inr (hw _ (List.mem_of_getElem? (i := 19) rfl))) (ty := .long) (by decide)
    have F_terms_b3 : Fld Z h3 b3 "com/example/leafrank/leafrank/core/IndexSize" "terms" "J" (.long (0 : Int64)) := D3 (Or.inr (hw _ (List.mem_of_getElem? (i := 21) rfl))) (ty := .long) (by decide)
    have F_groups_b3 : Fld Z h3 b3 "com/example/leafrank/leafrank/core/IndexSize" "groups" "J" (.long (0 : Int64)) := D3 (Or.inr (hw _ (List.mem_of_getElem? (i := 23) rfl))) (ty := .long) (by decide)
    have F_postings_b3 : Fld Z h3 b3 "com/example/leafrank/leafrank/core/IndexSize" "postings" "J" (.long (0 : Int64)) := D3 (Or.inr (hw _ (List.mem_of_getElem? (i := 25) rfl))) (ty := .long) (by decide)
    have F_textBytes_b3 : Fld Z h3 b3 "com/example/leafrank/leafrank/core/IndexSize" "textBytes" "J" (.long (0 : Int64)) := D3 (Or.inr (hw _ (List.mem_of_getElem? (i := 27) rfl))) (ty := .long) (by decide)
    show Gl _ _ _ _ _ _ _ (T3.setTop (mkF m 28 #[.val (.long z0), .second, .val (.long z1), .second, .val (.long z2), .second, .val (.long z3), .second, .val (.long z4), .second, .val (.int z5), .val (.ref b1), .unset, .unset, .unset, .unset, .unset, .unset, .unset, .unset, .unset, .unset, .unset, .unset, .unset, .unset] [(.ref b3)]))
    refine Gl.st (b := T3.setTop (mkF m 29 #[.val (.long z0), .second, .val (.long z1), .second, .val (.long z2), .second, .val (.long z3), .second, .val (.long z4), .second, .val (.int z5), .val (.ref b1), .unset, .unset, .unset, .unset, .unset, .unset, .unset, .unset, .unset, .unset, .unset, .unset, .unset, .unset] [(.ref b3), (.ref b3)])) (fun tq kq => XS.dup X3.here hx rfl (hb hby at_28) rfl rfl kq) ?_
    refine Gl.st (b := T3.setTop (mkF m 30 #[.val (.long z0), .second, .val (.long z1), .second, .val (.long z2), .second, .val (.long z3), .second, .val (.long z4), .second, .val (.int z5), .val (.ref b1), .unset, .unset, .unset, .unset, .unset, .unset, .unset, .unset, .unset, .unset, .unset, .unset, .unset, .unset] [(.long z0), (.ref b3), (.ref b3)])) (fun tq kq => XS.lloadN X3.here hx rfl (hb hby at_29) rfl kq) ?_
    refine Gl.st (b := T3.setTop (mkF m 32 #[.val (.long z0), .second, .val (.long z1), .second, .val (.long z2), .second, .val (.long z3), .second, .val (.long z4), .second, .val (.int z5), .val (.ref b1), .unset, .unset, .unset, .unset, .unset, .unset, .unset, .unset, .unset, .unset, .unset, .unset, .unset, .unset] [(.long z4), (.long z0), (.ref b3), (.ref b3)])) (fun tq kq => XS.lload X3.here hx rfl (hb hby at_30) rfl kq) ?_
    refine Gl.st (b := T3.setTop (mkF m 33 #[.val (.long z0), .second, .val (.long z1), .second, .val (.long z2), .second, .val (.long z3), .second, .val (.long z4), .second, .val (.int z5), .val (.ref b1), .unset, .unset, .unset, .unset, .unset, .unset, .unset, .unset, .unset, .unset, .unset, .unset, .unset, .unset] [(.long z1), (.long z4), (.long z0), (.ref b3), (.ref b3)])) (fun tq kq => XS.lloadN X3.here hx rfl (hb hby at_32) rfl kq) ?_
    refine Gl.st (b := T3.setTop (mkF m 35 #[.val (.long z0), .second, .val (.long z1), .second, .val (.long z2), .second, .val (.long z3), .second, .val (.long z4), .second, .val (.int z5), .val (.ref b1), .unset, .unset, .unset, .unset, .unset, .unset, .unset, .unset, .unset, .unset, .unset, .unset, .unset, .unset] [(.long z3), (.long z1), (.long z4), (.long z0), (.ref b3), (.ref b3)])) (fun tq kq => XS.lload X3.here hx rfl (hb hby at_33) rfl kq) ?_
    refine Gl.st (b := T3.setTop (mkF m 37 #[.val (.long z0), .second, .val (.long z1), .second, .val (.long z2), .second, .val (.long z3), .second, .val (.long z4), .second, .val (.int z5), .val (.ref b1), .unset, .unset, .unset, .unset, .unset, .unset, .unset, .unset, .unset, .unset, .unset, .unset, .unset, .unset] [(.int z5), (.long z3), (.long z1), (.long z4), (.long z0), (.ref b3), (.ref b3)])) (fun tq kq => XS.iload X3.here hx rfl (hb hby at_35) rfl kq) ?_
    refine Gl.st (b := T3.setTop (mkF m 38 #[.val (.long z0), .second, .val (.long z1), .second, .val (.long z2), .second, .val (.long z3), .second, .val (.long z4), .second, .val (.int z5), .val (.ref b1), .unset, .unset, .unset, .unset, .unset, .unset, .unset, .unset, .unset, .unset, .unset, .unset, .unset, .unset] [(.long (z5.toInt64)), (.long z3), (.long z1), (.long z4), (.long z0), (.ref b3), (.ref b3)])) (fun tq kq => XS.i2l X3.here hx rfl (hb hby at_37) rfl kq) ?_
    refine Gl.st (b := T3.setTop (mkF m 40 #[.val (.long z0), .second, .val (.long z1), .second, .val (.long z2), .second, .val (.long z3), .second, .val (.long z4), .second, .val (.int z5), .val (.ref b1), .unset, .unset, .unset, .unset, .unset, .unset, .unset, .unset, .unset, .unset, .unset, .unset, .unset, .unset] [(.long z3), (.long (z5.toInt64)), (.long z3), (.long z1), (.long z4), (.long z0), (.ref b3), (.ref b3)])) (fun tq kq => XS.lload X3.here hx rfl (hb hby at_38) rfl kq) ?_
    refine Gl.st (b := T3.setTop (mkF m 42 #[.val (.long z0), .second, .val (.long z1), .second, .val (.long z2), .second, .val (.long z3), .second, .val (.long z4), .second, .val (.int z5), .val (.ref b1), .unset, .unset, .unset, .unset, .unset, .unset, .unset, .unset, .unset, .unset, .unset, .unset, .unset, .unset] [(.long z4), (.long z3), (.long (z5.toInt64)), (.long z3), (.long z1), (.long z4), (.long z0), (.ref b3), (.ref b3)])) (fun tq kq => XS.lload X3.here hx rfl (hb hby at_40) rfl kq) ?_
    refine Gl.st (b := T3.setTop (mkF m 43 #[.val (.long z0), .second, .val (.long z1), .second, .val (.long z2), .second, .val (.long z3), .second, .val (.long z4), .second, .val (.int z5), .val (.ref b1), .unset, .unset, .unset, .unset, .unset, .unset, .unset, .unset, .unset, .unset, .unset, .unset, .unset, .unset] [(.long (z3 + z4)), (.long (z5.toInt64)), (.long z3), (.long z1), (.long z4), (.long z0), (.ref b3), (.ref b3)])) (fun tq kq => XS.ladd X3.here hx rfl (hb hby at_42) rfl kq) ?_
    refine Gl.st (b := T3.setTop (mkF m 45 #[.val (.long z0), .second, .val (.long z1), .second, .val (.long z2), .second, .val (.long z3), .second, .val (.long z4), .second, .val (.int z5), .val (.ref b1), .unset, .unset, .unset, .unset, .unset, .unset, .unset, .unset, .unset, .unset, .unset, .unset, .unset, .unset] [(.long z2), (.long (z3 + z4)), (.long (z5.toInt64)), (.long z3), (.long z1), (.long z4), (.long z0), (.ref b3), (.ref b3)])) (fun tq kq => XS.lload X3.here hx rfl (hb hby at_43) rfl kq) ?_
    refine Gl.callI (W := 1) (argsL := [(.long z0), (.long z4), (.long z1), (.long z3), (.long (z5.toInt64)), (.long (z3 + z4)), (.long z2)]) (rest := [(.ref b3)]) (a := b3) X3 hx hZ rfl hown (hw _ (List.mem_of_getElem? (i := 3) rfl)) (hw _ (List.mem_of_getElem? (i := 4) rfl)) (hw _ (List.mem_of_getElem? (i := 2) rfl)) (hw _ (List.mem_of_getElem? (i := 5) rfl)) (by decide) (rm2 l Z a0 hw [] b3 z0 z4 z1 z3 (z5.toInt64) (z3 + z4) z2 h3 n0 Z_3 B3 F_documents_b3 F_elements_b3 F_classes_b3 F_terms_b3 F_groups_b3 F_postings_b3 F_textBytes_b3 G_b3) (by decide) (by decide) e3 (by decide) (by decide) (by rw [hml]; rfl) (lenOf own_pd1 rfl) rfl rfl (Nat.le_of_eq rfl) (hb hby at_45) ?_
    intro T4 v4 L4 X4 hQ4
    obtain ⟨rfl, N4q, K4, B4, Fd4, Fc4, Ft4⟩ := hQ4
    have N4 := N2.app N4q
    have Z_4 : n0 ≤ T4.heap.size := Nat.le_trans Z_3 K4.1
    have E_b1_4 := E_b1_3.keep K4
    have F_b1_documents_4 := F_b1_documents_3.keep K4 (ninS ne_b1_b3 nin0)
    have F_b1_classes_4 := F_b1_classes_3.keep K4 (ninS ne_b1_b3 nin0)
    have F_b1_textBytes_4 := F_b1_textBytes_3.keep K4 (ninS ne_b1_b3 nin0)
    show Gl _ _ _ _ _ _ _ (T4.setTop (mkF m 48 #[.val (.long z0), .second, .val (.long z1), .second, .val (.long z2), .second, .val (.long z3), .second, .val (.long z4), .second, .val (.int z5), .val (.ref b1), .unset, .unset, .unset, .unset, .unset, .unset, .unset, .unset, .unset, .unset, .unset, .unset, .unset, .unset] [(.ref b3)]))
    refine Gl.st (b := T4.setTop (mkF m 50 #[.val (.long z0), .second, .val (.long z1), .second, .val (.long z2), .second, .val (.long z3), .second, .val (.long z4), .second, .val (.int z5), .val (.ref b1), .val (.ref b3), .unset, .unset, .unset, .unset, .unset, .unset, .unset, .unset, .unset, .unset, .unset, .unset, .unset] [])) (fun tq kq => XS.astore X4.here hx rfl (hb hby at_48) rfl rfl (l' := #[.val (.long z0), .second, .val (.long z1), .second, .val (.long z2), .second, .val (.long z3), .second, .val (.long z4), .second, .val (.int z5), .val (.ref b1), .val (.ref b3), .unset, .unset, .unset, .unset, .unset, .unset, .unset, .unset, .unset, .unset, .unset, .unset, .unset]) rfl kq) ?_
    refine Gl.newO X4 hx hZ hown (hw _ (List.mem_of_getElem? (i := 0) rfl)) (hw _ (List.mem_of_getElem? (i := 1) rfl)) (hw _ (List.mem_of_getElem? (i := 2) rfl)) rfl (by decide) (by decide) (hb hby at_50) ?_
    intro T5 h5 b5 g5 X5 e5 E5 B5 D5
    have ne_b1_b5 : b1 ≠ b5 := Nat.ne_of_lt (Nat.lt_of_lt_of_le E_b1_4.lt (Nat.le_of_eq g5.symm))
    have ne_b3_b5 : b3 ≠ b5 := Nat.ne_of_lt (Nat.lt_of_lt_of_le B4.lt (Nat.le_of_eq g5.symm))
    have G_b5 : n0 ≤ b5 := Nat.le_trans Z_4 (Nat.le_of_eq g5.symm)
    have Z_5 : n0 ≤ h5.size := Nat.le_trans Z_4 E5.1
    have E_b1_5 := E_b1_4.ext E5
    have F_b1_documents_5 := F_b1_documents_4.ext E5
    have F_b1_classes_5 := F_b1_classes_4.ext E5
    have F_b1_textBytes_5 := F_b1_textBytes_4.ext E5
    have E_b3_5 := B4.ext E5
    have F_b3_documents_5 := Fd4.ext E5
    have F_b3_classes_5 := Fc4.ext E5
    have F_b3_textBytes_5 := Ft4.ext E5
    have F_documents_b5 : Fld Z h5 b5 "com/example/leafrank/leafrank/core/IndexSize" "documents" "J" (.long (0 : Int64)) := D5 (Or.inr (hw _ (List.mem_of_getElem? (i := 15) rfl))) (ty := .long) (by decide)
    have F_elements_b5 : Fld Z h5 b5 "com/example/leafrank/leafrank/core/IndexSize" "elements" "J" (.long (0 : Int64)) := D5 (Or.inr (hw _ (List.mem_of_getElem? (i := 17) rfl))) (ty := .long) (by decide)
    have F_classes_b5 : Fld Z h5 b5 "com/example/leafrank/leafrank/core/IndexSize" "classes" "J" (.long (0 : Int64)) := D5 (Or.inr (hw _ (List.mem_of_getElem? (i := 19) rfl))) (ty := .long) (by decide)
    have F_terms_b5 : Fld Z h5 b5 "com/example/leafrank/leafrank/core/IndexSize" "terms" "J" (.long (0 : Int64)) := D5 (Or.inr (hw _ (List.mem_of_getElem? (i := 21) rfl))) (ty := .long) (by decide)
    have F_groups_b5 : Fld Z h5 b5 "com/example/leafrank/leafrank/core/IndexSize" "groups" "J" (.long (0 : Int64)) := D5 (Or.inr (hw _ (List.mem_of_getElem? (i := 23) rfl))) (ty := .long) (by decide)
    have F_postings_b5 : Fld Z h5 b5 "com/example/leafrank/leafrank/core/IndexSize" "postings" "J" (.long (0 : Int64)) := D5 (Or.inr (hw _ (List.mem_of_getElem? (i := 25) rfl))) (ty := .long) (by decide)
    have F_textBytes_b5 : Fld Z h5 b5 "com/example/leafrank/leafrank/core/IndexSize" "textBytes" "J" (.long (0 : Int64)) := D5 (Or.inr (hw _ (List.mem_of_getElem? (i := 27) rfl))) (ty := .long) (by decide)
    show Gl _ _ _ _ _ _ _ (T5.setTop (mkF m 53 #[.val (.long z0), .second, .val (.long z1), .second, .val (.long z2), .second, .val (.long z3), .second, .val (.long z4), .second, .val (.int z5), .val (.ref b1), .val (.ref b3), .unset, .unset, .unset, .unset, .unset, .unset, .unset, .unset, .unset, .unset, .unset, .unset, .unset] [(.ref b5)]))
    refine Gl.st (b := T5.setTop (mkF m 54 #[.val (.long z0), .second, .val (.long z1), .second, .val (.long z2), .second, .val (.long z3), .second, .val (.long z4), .second, .val (.int z5), .val (.ref b1), .val (.ref b3), .unset, .unset, .unset, .unset, .unset, .unset, .unset, .unset, .unset, .unset, .unset, .unset, .unset] [(.ref b5), (.ref b5)])) (fun tq kq => XS.dup X5.here hx rfl (hb hby at_53) rfl rfl kq) ?_
    refine Gl.st (b := T5.setTop (mkF m 55 #[.val (.long z0), .second, .val (.long z1), .second, .val (.long z2), .second, .val (.long z3), .second, .val (.long z4), .second, .val (.int z5), .val (.ref b1), .val (.ref b3), .unset, .unset, .unset, .unset, .unset, .unset, .unset, .unset, .unset, .unset, .unset, .unset, .unset] [(.long (1 : Int64)), (.ref b5), (.ref b5)])) (fun tq kq => XS.lconst X5.here hx rfl (hb hby at_54) kq) ?_
    refine Gl.st (b := T5.setTop (mkF m 56 #[.val (.long z0), .second, .val (.long z1), .second, .val (.long z2), .second, .val (.long z3), .second, .val (.long z4), .second, .val (.int z5), .val (.ref b1), .val (.ref b3), .unset, .unset, .unset, .unset, .unset, .unset, .unset, .unset, .unset, .unset, .unset, .unset, .unset] [(.long (0 : Int64)), (.long (1 : Int64)), (.ref b5), (.ref b5)])) (fun tq kq => XS.lconst X5.here hx rfl (hb hby at_55) kq) ?_
    refine Gl.st (b := T5.setTop (mkF m 57 #[.val (.long z0), .second, .val (.long z1), .second, .val (.long z2), .second, .val (.long z3), .second, .val (.long z4), .second, .val (.int z5), .val (.ref b1), .val (.ref b3), .unset, .unset, .unset, .unset, .unset, .unset, .unset, .unset, .unset, .unset, .unset, .unset, .unset] [(.long (0 : Int64)), (.long (0 : Int64)), (.long (1 : Int64)), (.ref b5), (.ref b5)])) (fun tq kq => XS.lconst X5.here hx rfl (hb hby at_56) kq) ?_
    refine Gl.st (b := T5.setTop (mkF m 58 #[.val (.long z0), .second, .val (.long z1), .second, .val (.long z2), .second, .val (.long z3), .second, .val (.long z4), .second, .val (.int z5), .val (.ref b1), .val (.ref b3), .unset, .unset, .unset, .unset, .unset, .unset, .unset, .unset, .unset, .unset, .unset, .unset, .unset] [(.long (0 : Int64)), (.long (0 : Int64)), (.long (0 : Int64)), (.long (1 : Int64)), (.ref b5), (.ref b5)])) (fun tq kq => XS.lconst X5.here hx rfl (hb hby at_57) kq) ?_
    refine Gl.st (b := T5.setTop (mkF m 59 #[.val (.long z0), .second, .val (.long z1), .second, .val (.long z2), .second, .val (.long z3), .second, .val (.long z4), .second, .val (.int z5), .val (.ref b1), .val (.ref b3), .unset, .unset, .unset, .unset, .unset, .unset, .unset, .unset, .unset, .unset, .unset, .unset, .unset] [(.long (0 : Int64)), (.long (0 : Int64)), (.long (0 : Int64)), (.long (0 : Int64)), (.long (1 : Int64)), (.ref b5), (.ref b5)])) (fun tq kq => XS.lconst X5.here hx rfl (hb hby at_58) kq) ?_
    refine Gl.st (b := T5.setTop (mkF m 60 #[.val (.long z0), .second, .val (.long z1), .second, .val (.long z2), .second, .val (.long z3), .second, .val (.long z4), .second, .val (.int z5), .val (.ref b1), .val (.ref b3), .unset, .unset, .unset, .unset, .unset, .unset, .unset, .unset, .unset, .unset, .unset, .unset, .unset] [(.long (0 : Int64)), (.long (0 : Int64)), (.long (0 : Int64)), (.long (0 : Int64)), (.long (0 : Int64)), (.long (1 : Int64)), (.ref b5), (.ref b5)])) (fun tq kq => XS.lconst X5.here hx rfl (hb hby at_59) kq) ?_
    refine Gl.st (b := T5.setTop (mkF m 61 #[.val (.long z0), .second, .val (.long z1), .second, .val (.long z2), .second, .val (.long z3), .second, .val (.long z4), .second, .val (.int z5), .val (.ref b1), .val (.ref b3), .unset, .unset, .unset, .unset, .unset, .unset, .unset, .unset, .unset, .unset, .unset, .unset, .unset] [(.long (0 : Int64)), (.long (0 : Int64)), (.long (0 : Int64)), (.long (0 : Int64)), (.long (0 : Int64)), (.long (0 : Int64)), (.long (1 : Int64)), (.ref b5), (.ref b5)])) (fun tq kq => XS.lconst X5.here hx rfl (hb hby at_60) kq) ?_
    refine Gl.callI (W := 1) (argsL := [(.long (1 : Int64)), (.long (0 : Int64)), (.long (0 : Int64)), (.long (0 : Int64)), (.long (0 : Int64)), (.long (0 : Int64)), (.long (0 : Int64))]) (rest := [(.ref b5)]) (a := b5) X5 hx hZ rfl hown (hw _ (List.mem_of_getElem? (i := 3) rfl)) (hw _ (List.mem_of_getElem? (i := 4) rfl)) (hw _ (List.mem_of_getElem? (i := 2) rfl)) (hw _ (List.mem_of_getElem? (i := 5) rfl)) (by decide) (rm2 l Z a0 hw [] b5 (1 : Int64) (0 : Int64) (0 : Int64) (0 : Int64) (0 : Int64) (0 : Int64) (0 : Int64) h5 n0 Z_5 B5 F_documents_b5 F_elements_b5 F_classes_b5 F_terms_b5 F_groups_b5 F_postings_b5 F_textBytes_b5 G_b5) (by decide) (by decide) e5 (by decide) (by decide) (by rw [hml]; rfl) (lenOf own_pd1 rfl) rfl rfl (Nat.le_of_eq rfl) (hb hby at_61) ?_
    intro T6 v6 L6 X6 hQ6
    obtain ⟨rfl, N6q, K6, B6, Fd6, Fc6, Ft6⟩ := hQ6
    have N6 := N4.app N6q
    have Z_6 : n0 ≤ T6.heap.size := Nat.le_trans Z_5 K6.1
    have E_b1_6 := E_b1_5.keep K6
    have F_b1_documents_6 := F_b1_documents_5.keep K6 (ninS ne_b1_b5 nin0)
    have F_b1_classes_6 := F_b1_classes_5.keep K6 (ninS ne_b1_b5 nin0)
    have F_b1_textBytes_6 := F_b1_textBytes_5.keep K6 (ninS ne_b1_b5 nin0)
    have E_b3_6 := E_b3_5.keep K6
    have F_b3_documents_6 := F_b3_documents_5.keep K6 (ninS ne_b3_b5 nin0)
    have F_b3_classes_6 := F_b3_classes_5.keep K6 (ninS ne_b3_b5 nin0)
    have F_b3_textBytes_6 := F_b3_textBytes_5.keep K6 (ninS ne_b3_b5 nin0)
    show Gl _ _ _ _ _ _ _ (T6.setTop (mkF m 64 #[.val (.long z0), .second, .val (.long z1), .second, .val (.long z2), .second, .val (.long z3), .second, .val (.long z4), .second, .val (.int z5), .val (.ref b1), .val (.ref b3), .unset, .unset, .unset, .unset, .unset, .unset, .unset, .unset, .unset, .unset, .unset, .unset, .unset] [(.ref b5)]))
    refine Gl.callV (W := 0) (argsL := []) (rest := []) (a := b5) X6 hx hZ hown (hw _ (List.mem_of_getElem? (i := 28) rfl)) (hw _ (List.mem_of_getElem? (i := 29) rfl)) (hw _ (List.mem_of_getElem? (i := 31) rfl)) (hw _ (List.mem_of_getElem? (i := 30) rfl)) (hw _ (List.mem_of_getElem? (i := 2) rfl)) (hw _ (List.mem_of_getElem? (i := 32) rfl)) (by decide) (rm3 l Z a0 hw [] b5 (1 : Int64) (0 : Int64) (0 : Int64) T6.heap n0 Z_6 Fd6 Fc6 Ft6) (by decide) (by decide) rfl B6 (by decide) (by decide) (by rw [hml]; rfl) (lenOf own_pd2 rfl) rfl rfl (Nat.le_of_eq rfl) (hb hby at_64) ?_
    intro T7 v7 L7 X7 hQ7
    obtain ⟨rfl, N7q, e7q⟩ := hQ7
    have N7 := N6.app N7q
    show Gl _ _ _ _ _ _ _ (T7.setTop (mkF m 67 #[.val (.long z0), .second, .val (.long z1), .second, .val (.long z2), .second, .val (.long z3), .second, .val (.long z4), .second, .val (.int z5), .val (.ref b1), .val (.ref b3), .unset, .unset, .unset, .unset, .unset, .unset, .unset, .unset, .unset, .unset, .unset, .unset, .unset] [(.long (own_rb (0 : Int64) (1 : Int64) (0 : Int64)))]))
    refine Gl.st (b := T7.setTop (mkF m 69 #[.val (.long z0), .second, .val (.long z1), .second, .val (.long z2), .second, .val (.long z3), .second, .val (.long z4), .second, .val (.int z5), .val (.ref b1), .val (.ref b3), .val (.long (own_rb (0 : Int64) (1 : Int64) (0 : Int64))), .second, .unset, .unset, .unset, .unset, .unset, .unset, .unset, .unset, .unset, .unset, .unset] [])) (fun tq kq => XS.lstore X7.here hx rfl (hb hby at_67) rfl (l' := #[.val (.long z0), .second, .val (.long z1), .second, .val (.long z2), .second, .val (.long z3), .second, .val (.long z4), .second, .val (.int z5), .val (.ref b1), .val (.ref b3), .val (.long (own_rb (0 : Int64) (1 : Int64) (0 : Int64))), .second, .unset, .unset, .unset, .unset, .unset, .unset, .unset, .unset, .unset, .unset, .unset]) rfl kq) ?_
    refine Gl.newO X7 hx hZ hown (hw _ (List.mem_of_getElem? (i := 0) rfl)) (hw _ (List.mem_of_getElem? (i := 1) rfl)) (hw _ (List.mem_of_getElem? (i := 2) rfl)) e7q (by decide) (by decide) (hb hby at_69) ?_
    intro T8 h8 b8 g8 X8 e8 E8 B8 D8
    have ne_b1_b8 : b1 ≠ b8 := Nat.ne_of_lt (Nat.lt_of_lt_of_le E_b1_6.lt (Nat.le_of_eq g8.symm))
    have ne_b3_b8 : b3 ≠ b8 := Nat.ne_of_lt (Nat.lt_of_lt_of_le E_b3_6.lt (Nat.le_of_eq g8.symm))
    have G_b8 : n0 ≤ b8 := Nat.le_trans Z_6 (Nat.le_of_eq g8.symm)
    have Z_8 : n0 ≤ h8.size := Nat.le_trans Z_6 E8.1
    have E_b1_8 := E_b1_6.ext E8
    have F_b1_documents_8 := F_b1_documents_6.ext E8
    have F_b1_classes_8 := F_b1_classes_6.ext E8
    have F_b1_textBytes_8 := F_b1_textBytes_6.ext E8
    have E_b3_8 := E_b3_6.ext E8
    have F_b3_documents_8 := F_b3_documents_6.ext E8
    have F_b3_classes_8 := F_b3_classes_6.ext E8
    have F_b3_textBytes_8 := F_b3_textBytes_6.ext E8
    have F_documents_b8 : Fld Z h8 b8 "com/example/leafrank/leafrank/core/IndexSize" "documents" "J" (.long (0 : Int64)) := D8 (Or.inr (hw _ (List.mem_of_getElem? (i := 15) rfl))) (ty := .long) (by decide)
    have F_elements_b8 : Fld Z h8 b8 "com/example/leafrank/leafrank/core/IndexSize" "elements" "J" (.long (0 : Int64)) := D8 (Or.inr (hw _ (List.mem_of_getElem? (i := 17) rfl))) (ty := .long) (by decide)
    have F_classes_b8 : Fld Z h8 b8 "com/example/leafrank/leafrank/core/IndexSize" "classes" "J" (.long (0 : Int64)) := D8 (Or.inr (hw _ (List.mem_of_getElem? (i := 19) rfl))) (ty := .long) (by decide)
    have F_terms_b8 : Fld Z h8 b8 "com/example/leafrank/leafrank/core/IndexSize" "terms" "J" (.long (0 : Int64)) := D8 (Or.inr (hw _ (List.mem_of_getElem? (i := 21) rfl))) (ty := .long) (by decide)
    have F_groups_b8 : Fld Z h8 b8 "com/example/leafrank/leafrank/core/IndexSize" "groups" "J" (.long (0 : Int64)) := D8 (Or.inr (hw _ (List.mem_of_getElem? (i := 23) rfl))) (ty := .long) (by decide)
    have F_postings_b8 : Fld Z h8 b8 "com/example/leafrank/leafrank/core/IndexSize" "postings" "J" (.long (0 : Int64)) := D8 (Or.inr (hw _ (List.mem_of_getElem? (i := 25) rfl))) (ty := .long) (by decide)
    have F_textBytes_b8 : Fld Z h8 b8 "com/example/leafrank/leafrank/core/IndexSize" "textBytes" "J" (.long (0 : Int64)) := D8 (Or.inr (hw _ (List.mem_of_getElem? (i := 27) rfl))) (ty := .long) (by decide)
    show Gl _ _ _ _ _ _ _ (T8.setTop (mkF m 72 #[.val (.long z0), .second, .val (.long z1), .second, .val (.long z2), .second, .val (.long z3), .second, .val (.long z4), .second, .val (.int z5), .val (.ref b1), .val (.ref b3), .val (.long (own_rb (0 : Int64) (1 : Int64) (0 : Int64))), .second, .unset, .unset, .unset, .unset, .unset, .unset, .unset, .unset, .unset, .unset, .unset] [(.ref b8)]))
    refine Gl.st (b := T8.setTop (mkF m 73 #[.val (.long z0), .second, .val (.long z1), .second, .val (.long z2), .second, .val (.long z3), .second, .val (.long z4), .second, .val (.int z5), .val (.ref b1), .val (.ref b3), .val (.long (own_rb (0 : Int64) (1 : Int64) (0 : Int64))), .second, .unset, .unset, .unset, .unset, .unset, .unset, .unset, .unset, .unset, .unset, .unset] [(.ref b8), (.ref b8)])) (fun tq kq => XS.dup X8.here hx rfl (hb hby at_72) rfl rfl kq) ?_
    refine Gl.st (b := T8.setTop (mkF m 74 #[.val (.long z0), .second, .val (.long z1), .second, .val (.long z2), .second, .val (.long z3), .second, .val (.long z4), .second, .val (.int z5), .val (.ref b1), .val (.ref b3), .val (.long (own_rb (0 : Int64) (1 : Int64) (0 : Int64))), .second, .unset, .unset, .unset, .unset, .unset, .unset, .unset, .unset, .unset, .unset, .unset] [(.long (0 : Int64)), (.ref b8), (.ref b8)])) (fun tq kq => XS.lconst X8.here hx rfl (hb hby at_73) kq) ?_
    refine Gl.st (b := T8.setTop (mkF m 75 #[.val (.long z0), .second, .val (.long z1), .second, .val (.long z2), .second, .val (.long z3), .second, .val (.long z4), .second, .val (.int z5), .val (.ref b1), .val (.ref b3), .val (.long (own_rb (0 : Int64) (1 : Int64) (0 : Int64))), .second, .unset, .unset, .unset, .unset, .unset, .unset, .unset, .unset, .unset, .unset, .unset] [(.long (0 : Int64)), (.long (0 : Int64)), (.ref b8), (.ref b8)])) (fun tq kq => XS.lconst X8.here hx rfl (hb hby at_74) kq) ?_
    refine Gl.st (b := T8.setTop (mkF m 76 #[.val (.long z0), .second, .val (.long z1), .second, .val (.long z2), .second, .val (.long z3), .second, .val (.long z4), .second, .val (.int z5), .val (.ref b1), .val (.ref b3), .val (.long (own_rb (0 : Int64) (1 : Int64) (0 : Int64))), .second, .unset, .unset, .unset, .unset, .unset, .unset, .unset, .unset, .unset, .unset, .unset] [(.long (1 : Int64)), (.long (0 : Int64)), (.long (0 : Int64)), (.ref b8), (.ref b8)])) (fun tq kq => XS.lconst X8.here hx rfl (hb hby at_75) kq) ?_
    refine Gl.st (b := T8.setTop (mkF m 77 #[.val (.long z0), .second, .val (.long z1), .second, .val (.long z2), .second, .val (.long z3), .second, .val (.long z4), .second, .val (.int z5), .val (.ref b1), .val (.ref b3), .val (.long (own_rb (0 : Int64) (1 : Int64) (0 : Int64))), .second, .unset, .unset, .unset, .unset, .unset, .unset, .unset, .unset, .unset, .unset, .unset] [(.long (0 : Int64)), (.long (1 : Int64)), (.long (0 : Int64)), (.long (0 : Int64)), (.ref b8), (.ref b8)])) (fun tq kq => XS.lconst X8.here hx rfl (hb hby at_76) kq) ?_
    refine Gl.st (b := T8.setTop (mkF m 78 #[.val (.long z0), .second, .val (.long z1), .second, .val (.long z2), .second, .val (.long z3), .second, .val (.long z4), .second, .val (.int z5), .val (.ref b1), .val (.ref b3), .val (.long (own_rb (0 : Int64) (1 : Int64) (0 : Int64))), .second, .unset, .unset, .unset, .unset, .unset, .unset, .unset, .unset, .unset, .unset, .unset] [(.long (0 : Int64)), (.long (0 : Int64)), (.long (1 : Int64)), (.long (0 : Int64)), (.long (0 : Int64)), (.ref b8), (.ref b8)])) (fun tq kq => XS.lconst X8.here hx rfl (hb hby at_77) kq) ?_
    refine Gl.st (b := T8.setTop (mkF m 79 #[.val (.long z0), .second, .val (.long z1), .second, .val (.long z2), .second, .val (.long z3), .second, .val (.long z4), .second, .val (.int z5), .val (.ref b1), .val (.ref b3), .val (.long (own_rb (0 : Int64) (1 : Int64) (0 : Int64))), .second, .unset, .unset, .unset, .unset, .unset, .unset, .unset, .unset, .unset, .unset, .unset] [(.long (0 : Int64)), (.long (0 : Int64)), (.long (0 : Int64)), (.long (1 : Int64)), (.long (0 : Int64)), (.long (0 : Int64)), (.ref b8), (.ref b8)])) (fun tq kq => XS.lconst X8.here hx rfl (hb hby at_78) kq) ?_
    refine Gl.st (b := T8.setTop (mkF m 80 #[.val (.long z0), .second, .val (.long z1), .second, .val (.long z2), .second, .val (.long z3), .second, .val (.long z4), .second, .val (.int z5), .val (.ref b1), .val (.ref b3), .val (.long (own_rb (0 : Int64) (1 : Int64) (0 : Int64))), .second, .unset, .unset, .unset, .unset, .unset, .unset, .unset, .unset, .unset, .unset, .unset] [(.long (0 : Int64)), (.long (0 : Int64)), (.long (0 : Int64)), (.long (0 : Int64)), (.long (1 : Int64)), (.long (0 : Int64)), (.long (0 : Int64)), (.ref b8), (.ref b8)])) (fun tq kq => XS.lconst X8.here hx rfl (hb hby at_79) kq) ?_
    refine Gl.callI (W := 1) (argsL := [(.long (0 : Int64)), (.long (0 : Int64)), (.long (1 : Int64)), (.long (0 : Int64)), (.long (0 : Int64)), (.long (0 : Int64)), (.long (0 : Int64))]) (rest := [(.ref b8)]) (a := b8) X8 hx hZ rfl hown (hw _ (List.mem_of_getElem? (i := 3) rfl)) (hw _ (List.mem_of_getElem? (i := 4) rfl)) (hw _ (List.mem_of_getElem? (i := 2) rfl)) (hw _ (List.mem_of_getElem? (i := 5) rfl)) (by decide) (rm2 l Z a0 hw [] b8 (0 : Int64) (0 : Int64) (1 : Int64) (0 : Int64) (0 : Int64) (0 : Int64) (0 : Int64) h8 n0 Z_8 B8 F_documents_b8 F_elements_b8 F_classes_b8 F_terms_b8 F_groups_b8 F_postings_b8 F_textBytes_b8 G_b8) (by decide) (by decide) e8 (by decide) (by decide) (by rw [hml]; rfl) (lenOf own_pd1 rfl) rfl rfl (Nat.le_of_eq rfl) (hb hby at_80) ?_
    intro T9 v9 L9 X9 hQ9
    obtain ⟨rfl, N9q, K9, B9, Fd9, Fc9, Ft9⟩ := hQ9
    have N9 := N7.app N9q
    have Z_9 : n0 ≤ T9.heap.size := Nat.le_trans Z_8 K9.1
    have E_b1_9 := E_b1_8.keep K9
    have F_b1_documents_9 := F_b1_documents_8.keep K9 (ninS ne_b1_b8 nin0)
    have F_b1_classes_9 := F_b1_classes_8.keep K9 (ninS ne_b1_b8 nin0)
    have F_b1_textBytes_9 := F_b1_textBytes_8.keep K9 (ninS ne_b1_b8 nin0)
    have E_b3_9 := E_b3_8.keep K9
    have F_b3_documents_9 := F_b3_documents_8.keep K9 (ninS ne_b3_b8 nin0)
    have F_b3_classes_9 := F_b3_classes_8.keep K9 (ninS ne_b3_b8 nin0)
    have F_b3_textBytes_9 := F_b3_textBytes_8.keep K9 (ninS ne_b3_b8 nin0)
    show Gl _ _ _ _ _ _ _ (T9.setTop (mkF m 83 #[.val (.long z0), .second, .val (.long z1), .second, .val (.long z2), .second, .val (.long z3), .second, .val (.long z4), .second, .val (.int z5), .val (.ref b1), .val (.ref b3), .val (.long (own_rb (0 : Int64) (1 : Int64) (0 : Int64))), .second, .unset, .unset, .unset, .unset, .unset, .unset, .unset, .unset, .unset, .unset, .unset] [(.ref b8)]))
    refine Gl.callV (W := 0) (argsL := []) (rest := []) (a := b8) X9 hx hZ hown (hw _ (List.mem_of_getElem? (i := 28) rfl)) (hw _ (List.mem_of_getElem? (i := 29) rfl)) (hw _ (List.mem_of_getElem? (i := 31) rfl)) (hw _ (List.mem_of_getElem? (i := 30) rfl)) (hw _ (List.mem_of_getElem? (i := 2) rfl)) (hw _ (List.mem_of_getElem? (i := 32) rfl)) (by decide) (rm3 l Z a0 hw [] b8 (0 : Int64) (1 : Int64) (0 : Int64) T9.heap n0 Z_9 Fd9 Fc9 Ft9) (by decide) (by decide) rfl B9 (by decide) (by decide) (by rw [hml]; rfl) (lenOf own_pd2 rfl) rfl rfl (Nat.le_of_eq rfl) (hb hby at_83) ?_
    intro T10 v10 L10 X10 hQ10
    obtain ⟨rfl, N10q, e10q⟩ := hQ10
    have N10 := N9.app N10q
    show Gl _ _ _ _ _ _ _ (T10.setTop (mkF m 86 #[.val (.long z0), .second, .val (.long z1), .second, .val (.long z2), .second, .val (.long z3), .second, .val (.long z4), .second, .val (.int z5), .val (.ref b1), .val (.ref b3), .val (.long (own_rb (0 : Int64) (1 : Int64) (0 : Int64))), .second, .unset, .unset, .unset, .unset, .unset, .unset, .unset, .unset, .unset, .unset, .unset] [(.long (own_rb (1 : Int64) (0 : Int64) (0 : Int64)))]))
    refine Gl.st (b := T10.setTop (mkF m 88 #[.val (.long z0), .second, .val (.long z1), .second, .val (.long z2), .second, .val (.long z3), .second, .val (.long z4), .second, .val (.int z5), .val (.ref b1), .val (.ref b3), .val (.long (own_rb (0 : Int64) (1 : Int64) (0 : Int64))), .second, .val (.long (own_rb (1 : Int64) (0 : Int64) (0 : Int64))), .second, .unset, .unset, .unset, .unset, .unset, .unset, .unset, .unset, .unset] [])) (fun tq kq => XS.lstore X10.here hx rfl (hb hby at_86) rfl (l' := #[.val (.long z0), .second, .val (.long z1), .second, .val (.long z2), .second, .val (.long z3), .second, .val (.long z4), .second, .val (.int z5), .val (.ref b1), .val (.ref b3), .val (.long (own_rb (0 : Int64) (1 : Int64) (0 : Int64))), .second, .val (.long (own_rb (1 : Int64) (0 : Int64) (0 : Int64))), .second, .unset, .unset, .unset, .unset, .unset, .unset, .unset, .unset, .unset]) rfl kq) ?_
    refine Gl.newO X10 hx hZ hown (hw _ (List.mem_of_getElem? (i := 0) rfl)) (hw _ (List.mem_of_getElem? (i := 1) rfl)) (hw _ (List.mem_of_getElem? (i := 2) rfl)) e10q (by decide) (by decide) (hb hby at_88) ?_
    intro T11 h11 b11 g11 X11 e11 E11 B11 D11
    have ne_b1_b11 : b1 ≠ b11 := Nat.ne_of_lt (Nat.lt_of_lt_of_le E_b1_9.lt (Nat.le_of_eq g11.symm))
    have ne_b3_b11 : b3 ≠ b11 := Nat.ne_of_lt (Nat.lt_of_lt_of_le E_b3_9.lt (Nat.le_of_eq g11.symm))
    have G_b11 : n0 ≤ b11 := Nat.le_trans Z_9 (Nat.le_of_eq g11.symm)
    have Z_11 : n0 ≤ h11.size := Nat.le_trans Z_9 E11.1
    have E_b1_11 := E_b1_9.ext E11
    have F_b1_documents_11 := F_b1_documents_9.ext E11
    have F_b1_classes_11 := F_b1_classes_9.ext E11
    have F_b1_textBytes_11 := F_b1_textBytes_9.ext E11
    have E_b3_11 := E_b3_9.ext E11
    have F_b3_documents_11 := F_b3_documents_9.ext E11
    have F_b3_classes_11 := F_b3_classes_9.ext E11
    have F_b3_textBytes_11 := F_b3_textBytes_9.ext E11
    have F_documents_b11 : Fld Z h11 b11 "com/example/leafrank/leafrank/core/IndexSize" "documents" "J" (.long (0 : Int64)) := D11 (Or.inr (hw _ (List.mem_of_getElem? (i := 15) rfl))) (ty := .long) (by decide)
    have F_elements_b11 : Fld Z h11 b11 "com/example/leafrank/leafrank/core/IndexSize" "elements" "J" (.long (0 : Int64)) := D11 (Or.inr (hw _ (List.mem_of_getElem? (i := 17) rfl))) (ty := .long) (by decide)
    have F_classes_b11 : Fld Z h11 b11 "com/example/leafrank/leafrank/core/IndexSize" "classes" "J" (.long (0 : Int64)) := D11 (Or.inr (hw _ (List.mem_of_getElem? (i := 19) rfl))) (ty := .long) (by decide)
    have F_terms_b11 : Fld Z h11 b11 "com/example/leafrank/leafrank/core/IndexSize" "terms" "J" (.long (0 : Int64)) := D11 (Or.inr (hw _ (List.mem_of_getElem? (i := 21) rfl))) (ty := .long) (by decide)
    have F_groups_b11 : Fld Z h11 b11 "com/example/leafrank/leafrank/core/IndexSize" "groups" "J" (.long (0 : Int64)) := D11 (Or.inr (hw _ (List.mem_of_getElem? (i := 23) rfl))) (ty := .long) (by decide)
    have F_postings_b11 : Fld Z h11 b11 "com/example/leafrank/leafrank/core/IndexSize" "postings" "J" (.long (0 : Int64)) := D11 (Or.inr (hw _ (List.mem_of_getElem? (i := 25) rfl))) (ty := .long) (by decide)
    have F_textBytes_b11 : Fld Z h11 b11 "com/example/leafrank/leafrank/core/IndexSize" "textBytes" "J" (.long (0 : Int64)) := D11 (Or.inr (hw _ (List.mem_of_getElem? (i := 27) rfl))) (ty := .long) (by decide)
    show Gl _ _ _ _ _ _ _ (T11.setTop (mkF m 91 #[.val (.long z0), .second, .val (.long z1), .second, .val (.long z2), .second, .val (.long z3), .second, .val (.long z4), .second, .val (.int z5), .val (.ref b1), .val (.ref b3), .val (.long (own_rb (0 : Int64) (1 : Int64) (0 : Int64))), .second, .val (.long (own_rb (1 : Int64) (0 : Int64) (0 : Int64))), .second, .unset, .unset, .unset, .unset, .unset, .unset, .unset, .unset, .unset] [(.ref b11)]))
    refine Gl.st (b := T11.setTop (mkF m 92 #[.val (.long z0), .second, .val (.long z1), .second, .val (.long z2), .second, .val (.long z3), .second, .val (.long z4), .second, .val (.int z5), .val (.ref b1), .val (.ref b3), .val (.long (own_rb (0 : Int64) (1 : Int64) (0 : Int64))), .second, .val (.long (own_rb (1 : Int64) (0 : Int64) (0 : Int64))), .second, .unset, .unset, .unset, .unset, .unset, .unset, .unset, .unset, .unset] [(.ref b11), (.ref b11)])) (fun tq kq => XS.dup X11.here hx rfl (hb hby at_91) rfl rfl kq) ?_
    refine Gl.st (b := T11.setTop (mkF m 93 #[.val (.long z0), .second, .val (.long z1), .second, .val (.long z2), .second, .val (.long z3), .second, .val (.long z4), .second, .val (.int z5), .val (.ref b1), .val (.ref b3), .val (.long (own_rb (0 : Int64) (1 : Int64) (0 : Int64))), .second, .val (.long (own_rb (1 : Int64) (0 : Int64) (0 : Int64))), .second, .unset, .unset, .unset, .unset, .unset, .unset, .unset, .unset, .unset] [(.long (0 : Int64)), (.ref b11), (.ref b11)])) (fun tq kq => XS.lconst X11.here hx rfl (hb hby at_92) kq) ?_
    refine Gl.st (b := T11.setTop (mkF m 94 #[.val (.long z0), .second, .val (.long z1), .second, .val (.long z2), .second, .val (.long z3), .second, .val (.long z4), .second, .val (.int z5), .val (.ref b1), .val (.ref b3), .val (.long (own_rb (0 : Int64) (1 : Int64) (0 : Int64))), .second, .val (.long (own_rb (1 : Int64) (0 : Int64) (0 : Int64))), .second, .unset, .unset, .unset, .unset, .unset, .unset, .unset, .unset, .unset] [(.long (0 : Int64)), (.long (0 : Int64)), (.ref b11), (.ref b11)])) (fun tq kq => XS.lconst X11.here hx rfl (hb hby at_93) kq) ?_
    refine Gl.st (b := T11.setTop (mkF m 95 #[.val (.long z0), .second, .val (.long z1), .second, .val (.long z2), .second, .val (.long z3), .second, .val (.long z4), .second, .val (.int z5), .val (.ref b1), .val (.ref b3), .val (.long (own_rb (0 : Int64) (1 : Int64) (0 : Int64))), .second, .val (.long (own_rb (1 : Int64) (0 : Int64) (0 : Int64))), .second, .unset, .unset, .unset, .unset, .unset, .unset, .unset, .unset, .unset] [(.long (0 : Int64)), (.long (0 : Int64)), (.long (0 : Int64)), (.ref b11), (.ref b11)])) (fun tq kq => XS.lconst X11.here hx rfl (hb hby at_94) kq) ?_
    refine Gl.st (b := T11.setTop (mkF m 96 #[.val (.long z0), .second, .val (.long z1), .second, .val (.long z2), .second, .val (.long z3), .second, .val (.long z4), .second, .val (.int z5), .val (.ref b1), .val (.ref b3), .val (.long (own_rb (0 : Int64) (1 : Int64) (0 : Int64))), .second, .val (.long (own_rb (1 : Int64) (0 : Int64) (0 : Int64))), .second, .unset, .unset, .unset, .unset, .unset, .unset, .unset, .unset, .unset] [(.long (0 : Int64)), (.long (0 : Int64)), (.long (0 : Int64)), (.long (0 : Int64)), (.ref b11), (.ref b11)])) (fun tq kq => XS.lconst X11.here hx rfl (hb hby at_95) kq) ?_
    refine Gl.st (b := T11.setTop (mkF m 97 #[.val (.long z0), .second, .val (.long z1), .second, .val (.long z2), .second, .val (.long z3), .second, .val (.long z4), .second, .val (.int z5), .val (.ref b1), .val (.ref b3), .val (.long (own_rb (0 : Int64) (1 : Int64) (0 : Int64))), .second, .val (.long (own_rb (1 : Int64) (0 : Int64) (0 : Int64))), .second, .unset, .unset, .unset, .unset, .unset, .unset, .unset, .unset, .unset] [(.long (0 : Int64)), (.long (0 : Int64)), (.long (0 : Int64)), (.long (0 : Int64)), (.long (0 : Int64)), (.ref b11), (.ref b11)])) (fun tq kq => XS.lconst X11.here hx rfl (hb hby at_96) kq) ?_
    refine Gl.st (b := T11.setTop (mkF m 98 #[.val (.long z0), .second, .val (.long z1), .second, .val (.long z2), .second, .val (.long z3), .second, .val (.long z4), .second, .val (.int z5), .val (.ref b1), .val (.ref b3), .val (.long (own_rb (0 : Int64) (1 : Int64) (0 : Int64))), .second, .val (.long (own_rb (1 : Int64) (0 : Int64) (0 : Int64))), .second, .unset, .unset, .unset, .unset, .unset, .unset, .unset, .unset, .unset] [(.long (0 : Int64)), (.long (0 : Int64)), (.long (0 : Int64)), (.long (0 : Int64)), (.long (0 : Int64)), (.long (0 : Int64)), (.ref b11), (.ref b11)])) (fun tq kq => XS.lconst X11.here hx rfl (hb hby at_97) kq) ?_
    refine Gl.st (b := T11.setTop (mkF m 99 #[.val (.long z0), .second, .val (.long z1), .second, .val (.long z2), .second, .val (.long z3), .second, .val (.long z4), .second, .val (.int z5), .val (.ref b1), .val (.ref b3), .val (.long (own_rb (0 : Int64) (1 : Int64) (0 : Int64))), .second, .val (.long (own_rb (1 : Int64) (0 : Int64) (0 : Int64))), .second, .unset, .unset, .unset, .unset, .unset, .unset, .unset, .unset, .unset] [(.long (1 : Int64)), (.long (0 : Int64)), (.long (0 : Int64)), (.long (0 : Int64)), (.long (0 : Int64)), (.long (0 : Int64)), (.long (0 : Int64)), (.ref b11), (.ref b11)])) (fun tq kq => XS.lconst X11.here hx rfl (hb hby at_98) kq) ?_
    refine Gl.callI (W := 1) (argsL := [(.long (0 : Int64)), (.long (0 : Int64)), (.long (0 : Int64)), (.long (0 : Int64)), (.long (0 : Int64)), (.long (0 : Int64)), (.long (1 : Int64))]) (rest := [(.ref b11)]) (a := b11) X11 hx hZ rfl hown (hw _ (List.mem_of_getElem? (i := 3) rfl)) (hw _ (List.mem_of_getElem? (i := 4) rfl)) (hw _ (List.mem_of_getElem? (i := 2) rfl)) (hw _ (List.mem_of_getElem? (i := 5) rfl)) (by decide) (rm2 l Z a0 hw [] b11 (0 : Int64) (0 : Int64) (0 : Int64) (0 : Int64) (0 : Int64) (0 : Int64) (1 : Int64) h11 n0 Z_11 B11 F_documents_b11 F_elements_b11 F_classes_b11 F_terms_b11 F_groups_b11 F_postings_b11 F_textBytes_b11 G_b11) (by decide) (by decide) e11 (by decide) (by decide) (by rw [hml]; rfl) (lenOf own_pd1 rfl) rfl rfl (Nat.le_of_eq rfl) (hb hby at_99) ?_
    intro T12 v12 L12 X12 hQ12
    obtain ⟨rfl, N12q, K12, B12, Fd12, Fc12, Ft12⟩ := hQ12
    have N12 := N10.app N12q
    have Z_12 : n0 ≤ T12.heap.size := Nat.le_trans Z_11 K12.1
    have E_b1_12 := E_b1_11.keep K12
    have F_b1_documents_12 := F_b1_documents_11.keep K12 (ninS ne_b1_b11 nin0)
    have F_b1_classes_12 := F_b1_classes_11.keep K12 (ninS ne_b1_b11 nin0)
    have F_b1_textBytes_12 := F_b1_textBytes_11.keep K12 (ninS ne_b1_b11 nin0)
    have E_b3_12 := E_b3_11.keep K12
    have F_b3_documents_12 := F_b3_documents_11.keep K12 (ninS ne_b3_b11 nin0)
    have F_b3_classes_12 := F_b3_classes_11.keep K12 (ninS ne_b3_b11 nin0)
    have F_b3_textBytes_12 := F_b3_textBytes_11.keep K12 (ninS ne_b3_b11 nin0)
    show Gl _ _ _ _ _ _ _ (T12.setTop (mkF m 102 #[.val (.long z0), .second, .val (.long z1), .second, .val (.long z2), .second, .val (.long z3), .second, .val (.long z4), .second, .val (.int z5), .val (.ref b1), .val (.ref b3), .val (.long (own_rb (0 : Int64) (1 : Int64) (0 : Int64))), .second, .val (.long (own_rb (1 : Int64) (0 : Int64) (0 : Int64))), .second, .unset, .unset, .unset, .unset, .unset, .unset, .unset, .unset, .unset] [(.ref b11)]))
    refine Gl.callV (W := 0) (argsL := []) (rest := []) (a := b11) X12 hx hZ hown (hw _ (List.mem_of_getElem? (i := 28) rfl)) (hw _ (List.mem_of_getElem? (i := 29) rfl)) (hw _ (List.mem_of_getElem? (i := 31) rfl)) (hw _ (List.mem_of_getElem? (i := 30) rfl)) (hw _ (List.mem_of_getElem? (i := 2) rfl)) (hw _ (List.mem_of_getElem? (i := 32) rfl)) (by decide) (rm3 l Z a0 hw [] b11 (0 : Int64) (0 : Int64) (1 : Int64) T12.heap n0 Z_12 Fd12 Fc12 Ft12) (by decide) (by decide) rfl B12 (by decide) (by decide) (by rw [hml]; rfl) (lenOf own_pd2 rfl) rfl rfl (Nat.le_of_eq rfl) (hb hby at_102) ?_
    intro T13 v13 L13 X13 hQ13
    obtain ⟨rfl, N13q, e13q⟩ := hQ13
    have N13 := N12.app N13q
    show Gl _ _ _ _ _ _ _ (T13.setTop (mkF m 105 #[.val (.long z0), .second, .val (.long z1), .second, .val (.long z2), .second, .val (.long z3), .second, .val (.long z4), .second, .val (.int z5), .val (.ref b1), .val (.ref b3), .val (.long (own_rb (0 : Int64) (1 : Int64) (0 : Int64))), .second, .val (.long (own_rb (1 : Int64) (0 : Int64) (0 : Int64))), .second, .unset, .unset, .unset, .unset, .unset, .unset, .unset, .unset, .unset] [(.long (own_rb (0 : Int64) (0 : Int64) (1 : Int64)))]))
    refine Gl.st (b := T13.setTop (mkF m 107 #[.val (.long z0), .second, .val (.long z1), .second, .val (.long z2), .second, .val (.long z3), .second, .val (.long z4), .second, .val (.int z5), .val (.ref b1), .val (.ref b3), .val (.long (own_rb (0 : Int64) (1 : Int64) (0 : Int64))), .second, .val (.long (own_rb (1 : Int64) (0 : Int64) (0 : Int64))), .second, .val (.long (own_rb (0 : Int64) (0 : Int64) (1 : Int64))), .second, .unset, .unset, .unset, .unset, .unset, .unset, .unset] [])) (fun tq kq => XS.lstore X13.here hx rfl (hb hby at_105) rfl (l' := #[.val (.long z0), .second, .val (.long z1), .second, .val (.long z2), .second, .val (.long z3), .second, .val (.long z4), .second, .val (.int z5), .val (.ref b1), .val (.ref b3), .val (.long (own_rb (0 : Int64) (1 : Int64) (0 : Int64))), .second, .val (.long (own_rb (1 : Int64) (0 : Int64) (0 : Int64))), .second, .val (.long (own_rb (0 : Int64) (0 : Int64) (1 : Int64))), .second, .unset, .unset, .unset, .unset, .unset, .unset, .unset]) rfl kq) ?_
    refine Gl.st (b := T13.setTop (mkF m 109 #[.val (.long z0), .second, .val (.long z1), .second, .val (.long z2), .second, .val (.long z3), .second, .val (.long z4), .second, .val (.int z5), .val (.ref b1), .val (.ref b3), .val (.long (own_rb (0 : Int64) (1 : Int64) (0 : Int64))), .second, .val (.long (own_rb (1 : Int64) (0 : Int64) (0 : Int64))), .second, .val (.long (own_rb (0 : Int64) (0 : Int64) (1 : Int64))), .second, .unset, .unset, .unset, .unset, .unset, .unset, .unset] [(.ref b1)])) (fun tq kq => XS.aload X13.here hx rfl (hb hby at_107) rfl rfl kq) ?_
    refine Gl.callV (W := 0) (argsL := []) (rest := []) (a := b1) X13 hx hZ hown (hw _ (List.mem_of_getElem? (i := 28) rfl)) (hw _ (List.mem_of_getElem? (i := 29) rfl)) (hw _ (List.mem_of_getElem? (i := 31) rfl)) (hw _ (List.mem_of_getElem? (i := 30) rfl)) (hw _ (List.mem_of_getElem? (i := 2) rfl)) (hw _ (List.mem_of_getElem? (i := 32) rfl)) (by decide) (rm3 l Z a0 hw [] b1 z0 z1 z2 T12.heap n0 Z_12 F_b1_documents_12 F_b1_classes_12 F_b1_textBytes_12) (by decide) (by decide) e13q E_b1_12 (by decide) (by decide) (by rw [hml]; rfl) (lenOf own_pd2 rfl) rfl rfl (Nat.le_of_eq rfl) (hb hby at_109) ?_
    intro T14 v14 L14 X14 hQ14
    obtain ⟨rfl, N14q, e14q⟩ := hQ14
    have N14 := N13.app N14q
    show Gl _ _ _ _ _ _ _ (T14.setTop (mkF m 112 #[.val (.long z0), .second, .val (.long z1), .second, .val (.long z2), .second, .val (.long z3), .second, .val (.long z4), .second, .val (.int z5), .val (.ref b1), .val (.ref b3), .val (.long (own_rb (0 : Int64) (1 : Int64) (0 : Int64))), .second, .val (.long (own_rb (1 : Int64) (0 : Int64) (0 : Int64))), .second, .val (.long (own_rb (0 : Int64) (0 : Int64) (1 : Int64))), .second, .unset, .unset, .unset, .unset, .unset, .unset, .unset] [(.long (own_rb z1 z0 z2))]))
    refine Gl.st (b := T14.setTop (mkF m 114 #[.val (.long z0), .second, .val (.long z1), .second, .val (.long z2), .second, .val (.long z3), .second, .val (.long z4), .second, .val (.int z5), .val (.ref b1), .val (.ref b3), .val (.long (own_rb (0 : Int64) (1 : Int64) (0 : Int64))), .second, .val (.long (own_rb (1 : Int64) (0 : Int64) (0 : Int64))), .second, .val (.long (own_rb (0 : Int64) (0 : Int64) (1 : Int64))), .second, .val (.long (own_rb z1 z0 z2)), .second, .unset, .unset, .unset, .unset, .unset] [])) (fun tq kq => XS.lstore X14.here hx rfl (hb hby at_112) rfl (l' := #[.val (.long z0), .second, .val (.long z1), .second, .val (.long z2), .second, .val (.long z3), .second, .val (.long z4), .second, .val (.int z5), .val (.ref b1), .val (.ref b3), .val (.long (own_rb (0 : Int64) (1 : Int64) (0 : Int64))), .second, .val (.long (own_rb (1 : Int64) (0 : Int64) (0 : Int64))), .second, .val (.long (own_rb (0 : Int64) (0 : Int64) (1 : Int64))), .second, .val (.long (own_rb z1 z0 z2)), .second, .unset, .unset, .unset, .unset, .unset]) rfl kq) ?_
    refine Gl.st (b := T14.setTop (mkF m 116 #[.val (.long z0), .second, .val (.long z1), .second, .val (.long z2), .second, .val (.long z3), .second, .val (.long z4), .second, .val (.int z5), .val (.ref b1), .val (.ref b3), .val (.long (own_rb (0 : Int64) (1 : Int64) (0 : Int64))), .second, .val (.long (own_rb (1 : Int64) (0 : Int64) (0 : Int64))), .second, .val (.long (own_rb (0 : Int64) (0 : Int64) (1 : Int64))), .second, .val (.long (own_rb z1 z0 z2)), .second, .unset, .unset, .unset, .unset, .unset] [(.ref b3)])) (fun tq kq => XS.aload X14.here hx rfl (hb hby at_114) rfl rfl kq) ?_
    refine Gl.callV (W := 0) (argsL := []) (rest := []) (a := b3) X14 hx hZ hown (hw _ (List.mem_of_getElem? (i := 28) rfl)) (hw _ (List.mem_of_getElem? (i := 29) rfl)) (hw _ (List.mem_of_getElem? (i := 31) rfl)) (hw _ (List.mem_of_getElem? (i := 30) rfl)) (hw _ (List.mem_of_getElem? (i := 2) rfl)) (hw _ (List.mem_of_getElem? (i := 32) rfl)) (by decide) (rm3 l Z a0 hw [] b3 z0 z1 z2 T12.heap n0 Z_12 F_b3_documents_12 F_b3_classes_12 F_b3_textBytes_12) (by decide) (by decide) e14q E_b3_12 (by decide) (by decide) (by rw [hml]; rfl) (lenOf own_pd2 rfl) rfl rfl (Nat.le_of_eq rfl) (hb hby at_116) ?_
    intro T15 v15 L15 X15 hQ15
    obtain ⟨rfl, N15q, e15q⟩ := hQ15
    have N15 := N14.app N15q
    show Gl _ _ _ _ _ _ _ (T15.setTop (mkF m 119 #[.val (.long z0), .second, .val (.long z1), .second, .val (.long z2), .second, .val (.long z3), .second, .val (.long z4), .second, .val (.int z5), .val (.ref b1), .val (.ref b3), .val (.long (own_rb (0 : Int64) (1 : Int64) (0 : Int64))), .second, .val (.long (own_rb (1 : Int64) (0 : Int64) (0 : Int64))), .second, .val (.long (own_rb (0 : Int64) (0 : Int64) (1 : Int64))), .second, .val (.long (own_rb z1 z0 z2)), .second, .unset, .unset, .unset, .unset, .unset] [(.long (own_rb z1 z0 z2))]))
    refine Gl.st (b := T15.setTop (mkF m 121 #[.val (.long z0), .second, .val (.long z1), .second, .val (.long z2), .second, .val (.long z3), .second, .val (.long z4), .second, .val (.int z5), .val (.ref b1), .val (.ref b3), .val (.long (own_rb (0 : Int64) (1 : Int64) (0 : Int64))), .second, .val (.long (own_rb (1 : Int64) (0 : Int64) (0 : Int64))), .second, .val (.long (own_rb (0 : Int64) (0 : Int64) (1 : Int64))), .second, .val (.long (own_rb z1 z0 z2)), .second, .val (.long (own_rb z1 z0 z2)), .second, .unset, .unset, .unset] [])) (fun tq kq => XS.lstore X15.here hx rfl (hb hby at_119) rfl (l' := #[.val (.long z0), .second, .val (.long z1), .second, .val (.long z2), .second, .val (.long z3), .second, .val (.long z4), .second, .val (.int z5), .val (.ref b1), .val (.ref b3), .val (.long (own_rb (0 : Int64) (1 : Int64) (0 : Int64))), .second, .val (.long (own_rb (1 : Int64) (0 : Int64) (0 : Int64))), .second, .val (.long (own_rb (0 : Int64) (0 : Int64) (1 : Int64))), .second, .val (.long (own_rb z1 z0 z2)), .second, .val (.long (own_rb z1 z0 z2)), .second, .unset, .unset, .unset]) rfl kq) ?_
    refine Gl.st (b := T15.setTop (mkF m 123 #[.val (.long z0), .second, .val (.long z1), .second, .val (.long z2), .second, .val (.long z3), .second, .val (.long z4), .second, .val (.int z5), .val (.ref b1), .val (.ref b3), .val (.long (own_rb (0 : Int64) (1 : Int64) (0 : Int64))), .second, .val (.long (own_rb (1 : Int64) (0 : Int64) (0 : Int64))), .second, .val (.long (own_rb (0 : Int64) (0 : Int64) (1 : Int64))), .second, .val (.long (own_rb z1 z0 z2)), .second, .val (.long (own_rb z1 z0 z2)), .second, .unset, .unset, .unset] [(.long (own_rb (0 : Int64) (1 : Int64) (0 : Int64)))])) (fun tq kq => XS.lload X15.here hx rfl (hb hby at_121) rfl kq) ?_
    refine Gl.st (b := T15.setTop (mkF m 126 #[.val (.long z0), .second, .val (.long z1), .second, .val (.long z2), .second, .val (.long z3), .second, .val (.long z4), .second, .val (.int z5), .val (.ref b1), .val (.ref b3), .val (.long (own_rb (0 : Int64) (1 : Int64) (0 : Int64))), .second, .val (.long (own_rb (1 : Int64) (0 : Int64) (0 : Int64))), .second, .val (.long (own_rb (0 : Int64) (0 : Int64) (1 : Int64))), .second, .val (.long (own_rb z1 z0 z2)), .second, .val (.long (own_rb z1 z0 z2)), .second, .unset, .unset, .unset] [(.long (64 : Int64)), (.long (own_rb (0 : Int64) (1 : Int64) (0 : Int64)))])) (fun tq kq => X15.ldc2Long hx hown (mvT hZ (hw _ (List.mem_of_getElem? (i := 36) rfl))) (g := (mkF m 123 #[.val (.long z0), .second, .val (.long z1), .second, .val (.long z2), .second, .val (.long z3), .second, .val (.long z4), .second, .val (.int z5), .val (.ref b1), .val (.ref b3), .val (.long (own_rb (0 : Int64) (1 : Int64) (0 : Int64))), .second, .val (.long (own_rb (1 : Int64) (0 : Int64) (0 : Int64))), .second, .val (.long (own_rb (0 : Int64) (0 : Int64) (1 : Int64))), .second, .val (.long (own_rb z1 z0 z2)), .second, .val (.long (own_rb z1 z0 z2)), .second, .unset, .unset, .unset] [(.long (own_rb (0 : Int64) (1 : Int64) (0 : Int64)))])) rfl (hb hby at_123) tq kq) ?_
    refine Gl.st (b := T15.setTop (mkF m 127 #[.val (.long z0), .second, .val (.long z1), .second, .val (.long z2), .second, .val (.long z3), .second, .val (.long z4), .second, .val (.int z5), .val (.ref b1), .val (.ref b3), .val (.long (own_rb (0 : Int64) (1 : Int64) (0 : Int64))), .second, .val (.long (own_rb (1 : Int64) (0 : Int64) (0 : Int64))), .second, .val (.long (own_rb (0 : Int64) (0 : Int64) (1 : Int64))), .second, .val (.long (own_rb z1 z0 z2)), .second, .val (.long (own_rb z1 z0 z2)), .second, .unset, .unset, .unset] [(.int (lcmpW (own_rb (0 : Int64) (1 : Int64) (0 : Int64)) (64 : Int64)))])) (fun tq kq => XS.lcmp X15.here hx rfl (hb hby at_126) rfl kq) ?_
    refine Gl.st (b := T15.setTop (mkF m 130 #[.val (.long z0), .second, .val (.long z1), .second, .val (.long z2), .second, .val (.long z3), .second, .val (.long z4), .second, .val (.int z5), .val (.ref b1), .val (.ref b3), .val (.long (own_rb (0 : Int64) (1 : Int64) (0 : Int64))), .second, .val (.long (own_rb (1 : Int64) (0 : Int64) (0 : Int64))), .second, .val (.long (own_rb (0 : Int64) (0 : Int64) (1 : Int64))), .second, .val (.long (own_rb z1 z0 z2)), .second, .val (.long (own_rb z1 z0 z2)), .second, .unset, .unset, .unset] [])) (fun tq kq => XS.ifNo X15.here hx rfl (hb hby at_127) rfl ((if0 _ _).trans (teq ((lw_eq _ _).mpr (by decide))).2) kq) ?_
    refine Gl.st (b := T15.setTop (mkF m 132 #[.val (.long z0), .second, .val (.long z1), .second, .val (.long z2), .second, .val (.long z3), .second, .val (.long z4), .second, .val (.int z5), .val (.ref b1), .val (.ref b3), .val (.long (own_rb (0 : Int64) (1 : Int64) (0 : Int64))), .second, .val (.long (own_rb (1 : Int64) (0 : Int64) (0 : Int64))), .second, .val (.long (own_rb (0 : Int64) (0 : Int64) (1 : Int64))), .second, .val (.long (own_rb z1 z0 z2)), .second, .val (.long (own_rb z1 z0 z2)), .second, .unset, .unset, .unset] [(.long (own_rb (1 : Int64) (0 : Int64) (0 : Int64)))])) (fun tq kq => XS.lload X15.here hx rfl (hb hby at_130) rfl kq) ?_
    refine Gl.st (b := T15.setTop (mkF m 135 #[.val (.long z0), .second, .val (.long z1), .second, .val (.long z2), .second, .val (.long z3), .second, .val (.long z4), .second, .val (.int z5), .val (.ref b1), .val (.ref b3), .val (.long (own_rb (0 : Int64) (1 : Int64) (0 : Int64))), .second, .val (.long (own_rb (1 : Int64) (0 : Int64) (0 : Int64))), .second, .val (.long (own_rb (0 : Int64) (0 : Int64) (1 : Int64))), .second, .val (.long (own_rb z1 z0 z2)), .second, .val (.long (own_rb z1 z0 z2)), .second, .unset, .unset, .unset] [(.long (56 : Int64)), (.long (own_rb (1 : Int64) (0 : Int64) (0 : Int64)))])) (fun tq kq => X15.ldc2Long hx hown (mvT hZ (hw _ (List.mem_of_getElem? (i := 37) rfl))) (g := (mkF m 132 #[.val (.long z0), .second, .val (.long z1), .second, .val (.long z2), .second, .val (.long z3), .second, .val (.long z4), .second, .val (.int z5), .val (.ref b1), .val (.ref b3), .val (.long (own_rb (0 : Int64) (1 : Int64) (0 : Int64))), .second, .val (.long (own_rb (1 : Int64) (0 : Int64) (0 : Int64))), .second, .val (.long (own_rb (0 : Int64) (0 : Int64) (1 : Int64))), .second, .val (.long (own_rb z1 z0 z2)), .second, .val (.long (own_rb z1 z0 z2)), .second, .unset, .unset, .unset] [(.long (own_rb (1 : Int64) (0 : Int64) (0 : Int64)))])) rfl (hb hby at_132) tq kq) ?_
    refine Gl.st (b := T15.setTop (mkF m 136 #[.val (.long z0), .second, .val (.long z1), .second, .val (.long z2), .second, .val (.long z3), .second, .val (.long z4), .second, .val (.int z5), .val (.ref b1), .val (.ref b3), .val (.long (own_rb (0 : Int64) (1 : Int64) (0 : Int64))), .second, .val (.long (own_rb (1 : Int64) (0 : Int64) (0 : Int64))), .second, .val (.long (own_rb (0 : Int64) (0 : Int64) (1 : Int64))), .second, .val (.long (own_rb z1 z0 z2)), .second, .val (.long (own_rb z1 z0 z2)), .second, .unset, .unset, .unset] [(.int (lcmpW (own_rb (1 : Int64) (0 : Int64) (0 : Int64)) (56 : Int64)))])) (fun tq kq => XS.lcmp X15.here hx rfl (hb hby at_135) rfl kq) ?_
    refine Gl.st (b := T15.setTop (mkF m 139 #[.val (.long z0), .second, .val (.long z1), .second, .val (.long z2), .second, .val (.long z3), .second, .val (.long z4), .second, .val (.int z5), .val (.ref b1), .val (.ref b3), .val (.long (own_rb (0 : Int64) (1 : Int64) (0 : Int64))), .second, .val (.long (own_rb (1 : Int64) (0 : Int64) (0 : Int64))), .second, .val (.long (own_rb (0 : Int64) (0 : Int64) (1 : Int64))), .second, .val (.long (own_rb z1 z0 z2)), .second, .val (.long (own_rb z1 z0 z2)), .second, .unset, .unset, .unset] [])) (fun tq kq => XS.ifNo X15.here hx rfl (hb hby at_136) rfl ((if0 _ _).trans (teq ((lw_eq _ _).mpr (by decide))).2) kq) ?_
    refine Gl.st (b := T15.setTop (mkF m 141 #[.val (.long z0), .second, .val (.long z1), .second, .val (.long z2), .second, .val (.long z3), .second, .val (.long z4), .second, .val (.int z5), .val (.ref b1), .val (.ref b3), .val (.long (own_rb (0 : Int64) (1 : Int64) (0 : Int64))), .second, .val (.long (own_rb (1 : Int64) (0 : Int64) (0 : Int64))), .second, .val (.long (own_rb (0 : Int64) (0 : Int64) (1 : Int64))), .second, .val (.long (own_rb z1 z0 z2)), .second, .val (.long (own_rb z1 z0 z2)), .second, .unset, .unset, .unset] [(.long (own_rb (0 : Int64) (0 : Int64) (1 : Int64)))])) (fun tq kq => XS.lload X15.here hx rfl (hb hby at_139) rfl kq) ?_
    refine Gl.st (b := T15.setTop (mkF m 144 #[.val (.long z0), .second, .val (.long z1), .second, .val (.long z2), .second, .val (.long z3), .second, .val (.long z4), .second, .val (.int z5), .val (.ref b1), .val (.ref b3), .val (.long (own_rb (0 : Int64) (1 : Int64) (0 : Int64))), .second, .val (.long (own_rb (1 : Int64) (0 : Int64) (0 : Int64))), .second, .val (.long (own_rb (0 : Int64) (0 : Int64) (1 : Int64))), .second, .val (.long (own_rb z1 z0 z2)), .second, .val (.long (own_rb z1 z0 z2)), .second, .unset, .unset, .unset] [(.long (2 : Int64)), (.long (own_rb (0 : Int64) (0 : Int64) (1 : Int64)))])) (fun tq kq => X15.ldc2Long hx hown (mvT hZ (hw _ (List.mem_of_getElem? (i := 38) rfl))) (g := (mkF m 141 #[.val (.long z0), .second, .val (.long z1), .second, .val (.long z2), .second, .val (.long z3), .second, .val (.long z4), .second, .val (.int z5), .val (.ref b1), .val (.ref b3), .val (.long (own_rb (0 : Int64) (1 : Int64) (0 : Int64))), .second, .val (.long (own_rb (1 : Int64) (0 : Int64) (0 : Int64))), .second, .val (.long (own_rb (0 : Int64) (0 : Int64) (1 : Int64))), .second, .val (.long (own_rb z1 z0 z2)), .second, .val (.long (own_rb z1 z0 z2)), .second, .unset, .unset, .unset] [(.long (own_rb (0 : Int64) (0 : Int64) (1 : Int64)))])) rfl (hb hby at_141) tq kq) ?_
    refine Gl.st (b := T15.setTop (mkF m 145 #[.val (.long z0), .second, .val (.long z1), .second, .val (.long z2), .second, .val (.long z3), .second, .val (.long z4), .second, .val (.int z5), .val (.ref b1), .val (.ref b3), .val (.long (own_rb (0 : Int64) (1 : Int64) (0 : Int64))), .second, .val (.long (own_rb (1 : Int64) (0 : Int64) (0 : Int64))), .second, .val (.long (own_rb (0 : Int64) (0 : Int64) (1 : Int64))), .second, .val (.long (own_rb z1 z0 z2)), .second, .val (.long (own_rb z1 z0 z2)), .second, .unset, .unset, .unset] [(.int (lcmpW (own_rb (0 : Int64) (0 : Int64) (1 : Int64)) (2 : Int64)))])) (fun tq kq => XS.lcmp X15.here hx rfl (hb hby at_144) rfl kq) ?_
    refine Gl.st (b := T15.setTop (mkF m 148 #[.val (.long z0), .second, .val (.long z1), .second, .val (.long z2), .second, .val (.long z3), .second, .val (.long z4), .second, .val (.int z5), .val (.ref b1), .val (.ref b3), .val (.long (own_rb (0 : Int64) (1 : Int64) (0 : Int64))), .second, .val (.long (own_rb (1 : Int64) (0 : Int64) (0 : Int64))), .second, .val (.long (own_rb (0 : Int64) (0 : Int64) (1 : Int64))), .second, .val (.long (own_rb z1 z0 z2)), .second, .val (.long (own_rb z1 z0 z2)), .second, .unset, .unset, .unset] [])) (fun tq kq => XS.ifNo X15.here hx rfl (hb hby at_145) rfl ((if0 _ _).trans (teq ((lw_eq _ _).mpr (by decide))).2) kq) ?_
    refine Gl.st (b := T15.setTop (mkF m 149 #[.val (.long z0), .second, .val (.long z1), .second, .val (.long z2), .second, .val (.long z3), .second, .val (.long z4), .second, .val (.int z5), .val (.ref b1), .val (.ref b3), .val (.long (own_rb (0 : Int64) (1 : Int64) (0 : Int64))), .second, .val (.long (own_rb (1 : Int64) (0 : Int64) (0 : Int64))), .second, .val (.long (own_rb (0 : Int64) (0 : Int64) (1 : Int64))), .second, .val (.long (own_rb z1 z0 z2)), .second, .val (.long (own_rb z1 z0 z2)), .second, .unset, .unset, .unset] [(.int (1 : Int32))])) (fun tq kq => XS.iconst X15.here hx rfl (hb hby at_148) kq) ?_
    refine Gl.st (b := T15.setTop (mkF m 153 #[.val (.long z0), .second, .val (.long z1), .second, .val (.long z2), .second, .val (.long z3), .second, .val (.long z4), .second, .val (.int z5), .val (.ref b1), .val (.ref b3), .val (.long (own_rb (0 : Int64) (1 : Int64) (0 : Int64))), .second, .val (.long (own_rb (1 : Int64) (0 : Int64) (0 : Int64))), .second, .val (.long (own_rb (0 : Int64) (0 : Int64) (1 : Int64))), .second, .val (.long (own_rb z1 z0 z2)), .second, .val (.long (own_rb z1 z0 z2)), .second, .unset, .unset, .unset] [(.int (1 : Int32))])) (fun tq kq => XS.goto X15.here hx rfl (pc0 := 149) (pc' := 153) rfl (hb hby at_149) (by decide) (by decide) kq) ?_
    refine Gl.st (b := T15.setTop (mkF m 155 #[.val (.long z0), .second, .val (.long z1), .second, .val (.long z2), .second, .val (.long z3), .second, .val (.long z4), .second, .val (.int z5), .val (.ref b1), .val (.ref b3), .val (.long (own_rb (0 : Int64) (1 : Int64) (0 : Int64))), .second, .val (.long (own_rb (1 : Int64) (0 : Int64) (0 : Int64))), .second, .val (.long (own_rb (0 : Int64) (0 : Int64) (1 : Int64))), .second, .val (.long (own_rb z1 z0 z2)), .second, .val (.long (own_rb z1 z0 z2)), .second, .val (.int (1 : Int32)), .unset, .unset] [])) (fun tq kq => XS.istore X15.here hx rfl (hb hby at_153) rfl (l' := #[.val (.long z0), .second, .val (.long z1), .second, .val (.long z2), .second, .val (.long z3), .second, .val (.long z4), .second, .val (.int z5), .val (.ref b1), .val (.ref b3), .val (.long (own_rb (0 : Int64) (1 : Int64) (0 : Int64))), .second, .val (.long (own_rb (1 : Int64) (0 : Int64) (0 : Int64))), .second, .val (.long (own_rb (0 : Int64) (0 : Int64) (1 : Int64))), .second, .val (.long (own_rb z1 z0 z2)), .second, .val (.long (own_rb z1 z0 z2)), .second, .val (.int (1 : Int32)), .unset, .unset]) rfl kq) ?_
    refine Gl.st (b := T15.setTop (mkF m 157 #[.val (.long z0), .second, .val (.long z1), .second, .val (.long z2), .second, .val (.long z3), .second, .val (.long z4), .second, .val (.int z5), .val (.ref b1), .val (.ref b3), .val (.long (own_rb (0 : Int64) (1 : Int64) (0 : Int64))), .second, .val (.long (own_rb (1 : Int64) (0 : Int64) (0 : Int64))), .second, .val (.long (own_rb (0 : Int64) (0 : Int64) (1 : Int64))), .second, .val (.long (own_rb z1 z0 z2)), .second, .val (.long (own_rb z1 z0 z2)), .second, .val (.int (1 : Int32)), .unset, .unset] [(.long (own_rb z1 z0 z2))])) (fun tq kq => XS.lload X15.here hx rfl (hb hby at_155) rfl kq) ?_
    refine Gl.st (b := T15.setTop (mkF m 159 #[.val (.long z0), .second, .val (.long z1), .second, .val (.long z2), .second, .val (.long z3), .second, .val (.long z4), .second, .val (.int z5), .val (.ref b1), .val (.ref b3), .val (.long (own_rb (0 : Int64) (1 : Int64) (0 : Int64))), .second, .val (.long (own_rb (1 : Int64) (0 : Int64) (0 : Int64))), .second, .val (.long (own_rb (0 : Int64) (0 : Int64) (1 : Int64))), .second, .val (.long (own_rb z1 z0 z2)), .second, .val (.long (own_rb z1 z0 z2)), .second, .val (.int (1 : Int32)), .unset, .unset] [(.long (own_rb z1 z0 z2)), (.long (own_rb z1 z0 z2))])) (fun tq kq => XS.lload X15.here hx rfl (hb hby at_157) rfl kq) ?_
    refine Gl.st (b := T15.setTop (mkF m 160 #[.val (.long z0), .second, .val (.long z1), .second, .val (.long z2), .second, .val (.long z3), .second, .val (.long z4), .second, .val (.int z5), .val (.ref b1), .val (.ref b3), .val (.long (own_rb (0 : Int64) (1 : Int64) (0 : Int64))), .second, .val (.long (own_rb (1 : Int64) (0 : Int64) (0 : Int64))), .second, .val (.long (own_rb (0 : Int64) (0 : Int64) (1 : Int64))), .second, .val (.long (own_rb z1 z0 z2)), .second, .val (.long (own_rb z1 z0 z2)), .second, .val (.int (1 : Int32)), .unset, .unset] [(.int (lcmpW (own_rb z1 z0 z2) (own_rb z1 z0 z2)))])) (fun tq kq => XS.lcmp X15.here hx rfl (hb hby at_159) rfl kq) ?_
    refine Gl.st (b := T15.setTop (mkF m 163 #[.val (.long z0), .second, .val (.long z1), .second, .val (.long z2), .second, .val (.long z3), .second, .val (.long z4), .second, .val (.int z5), .val (.ref b1), .val (.ref b3), .val (.long (own_rb (0 : Int64) (1 : Int64) (0 : Int64))), .second, .val (.long (own_rb (1 : Int64) (0 : Int64) (0 : Int64))), .second, .val (.long (own_rb (0 : Int64) (0 : Int64) (1 : Int64))), .second, .val (.long (own_rb z1 z0 z2)), .second, .val (.long (own_rb z1 z0 z2)), .second, .val (.int (1 : Int32)), .unset, .unset] [])) (fun tq kq => XS.ifNo X15.here hx rfl (hb hby at_160) rfl ((if0 _ _).trans (teq ((lw_eq _ _).mpr rfl)).2) kq) ?_
    refine Gl.st (b := T15.setTop (mkF m 164 #[.val (.long z0), .second, .val (.long z1), .second, .val (.long z2), .second, .val (.long z3), .second, .val (.long z4), .second, .val (.int z5), .val (.ref b1), .val (.ref b3), .val (.long (own_rb (0 : Int64) (1 : Int64) (0 : Int64))), .second, .val (.long (own_rb (1 : Int64) (0 : Int64) (0 : Int64))), .second, .val (.long (own_rb (0 : Int64) (0 : Int64) (1 : Int64))), .second, .val (.long (own_rb z1 z0 z2)), .second, .val (.long (own_rb z1 z0 z2)), .second, .val (.int (1 : Int32)), .unset, .unset] [(.int (1 : Int32))])) (fun tq kq => XS.iconst X15.here hx rfl (hb hby at_163) kq) ?_
    refine Gl.st (b := T15.setTop (mkF m 168 #[.val (.long z0), .second, .val (.long z1), .second, .val (.long z2), .second, .val (.long z3), .second, .val (.long z4), .second, .val (.int z5), .val (.ref b1), .val (.ref b3), .val (.long (own_rb (0 : Int64) (1 : Int64) (0 : Int64))), .second, .val (.long (own_rb (1 : Int64) (0 : Int64) (0 : Int64))), .second, .val (.long (own_rb (0 : Int64) (0 : Int64) (1 : Int64))), .second, .val (.long (own_rb z1 z0 z2)), .second, .val (.long (own_rb z1 z0 z2)), .second, .val (.int (1 : Int32)), .unset, .unset] [(.int (1 : Int32))])) (fun tq kq => XS.goto X15.here hx rfl (pc0 := 164) (pc' := 168) rfl (hb hby at_164) (by decide) (by decide) kq) ?_
    refine Gl.st (b := T15.setTop (mkF m 170 #[.val (.long z0), .second, .val (.long z1), .second, .val (.long z2), .second, .val (.long z3), .second, .val (.long z4), .second, .val (.int z5), .val (.ref b1), .val (.ref b3), .val (.long (own_rb (0 : Int64) (1 : Int64) (0 : Int64))), .second, .val (.long (own_rb (1 : Int64) (0 : Int64) (0 : Int64))), .second, .val (.long (own_rb (0 : Int64) (0 : Int64) (1 : Int64))), .second, .val (.long (own_rb z1 z0 z2)), .second, .val (.long (own_rb z1 z0 z2)), .second, .val (.int (1 : Int32)), .val (.int (1 : Int32)), .unset] [])) (fun tq kq => XS.istore X15.here hx rfl (hb hby at_168) rfl (l' := #[.val (.long z0), .second, .val (.long z1), .second, .val (.long z2), .second, .val (.long z3), .second, .val (.long z4), .second, .val (.int z5), .val (.ref b1), .val (.ref b3), .val (.long (own_rb (0 : Int64) (1 : Int64) (0 : Int64))), .second, .val (.long (own_rb (1 : Int64) (0 : Int64) (0 : Int64))), .second, .val (.long (own_rb (0 : Int64) (0 : Int64) (1 : Int64))), .second, .val (.long (own_rb z1 z0 z2)), .second, .val (.long (own_rb z1 z0 z2)), .second, .val (.int (1 : Int32)), .val (.int (1 : Int32)), .unset]) rfl kq) ?_
    refine Gl.st (b := T15.setTop (mkF m 172 #[.val (.long z0), .second, .val (.long z1), .second, .val (.long z2), .second, .val (.long z3), .second, .val (.long z4), .second, .val (.int z5), .val (.ref b1), .val (.ref b3), .val (.long (own_rb (0 : Int64) (1 : Int64) (0 : Int64))), .second, .val (.long (own_rb (1 : Int64) (0 : Int64) (0 : Int64))), .second, .val (.long (own_rb (0 : Int64) (0 : Int64) (1 : Int64))), .second, .val (.long (own_rb z1 z0 z2)), .second, .val (.long (own_rb z1 z0 z2)), .second, .val (.int (1 : Int32)), .val (.int (1 : Int32)), .unset] [(.long (own_rb z1 z0 z2))])) (fun tq kq => XS.lload X15.here hx rfl (hb hby at_170) rfl kq) ?_
    refine Gl.st (b := T15.setTop (mkF m 173 #[.val (.long z0), .second, .val (.long z1), .second, .val (.long z2), .second, .val (.long z3), .second, .val (.long z4), .second, .val (.int z5), .val (.ref b1), .val (.ref b3), .val (.long (own_rb (0 : Int64) (1 : Int64) (0 : Int64))), .second, .val (.long (own_rb (1 : Int64) (0 : Int64) (0 : Int64))), .second, .val (.long (own_rb (0 : Int64) (0 : Int64) (1 : Int64))), .second, .val (.long (own_rb z1 z0 z2)), .second, .val (.long (own_rb z1 z0 z2)), .second, .val (.int (1 : Int32)), .val (.int (1 : Int32)), .unset] [(.long z0), (.long (own_rb z1 z0 z2))])) (fun tq kq => XS.lloadN X15.here hx rfl (hb hby at_172) rfl kq) ?_
    refine Gl.st (b := T15.setTop (mkF m 175 #[.val (.long z0), .second, .val (.long z1), .second, .val (.long z2), .second, .val (.long z3), .second, .val (.long z4), .second, .val (.int z5), .val (.ref b1), .val (.ref b3), .val (.long (own_rb (0 : Int64) (1 : Int64) (0 : Int64))), .second, .val (.long (own_rb (1 : Int64) (0 : Int64) (0 : Int64))), .second, .val (.long (own_rb (0 : Int64) (0 : Int64) (1 : Int64))), .second, .val (.long (own_rb z1 z0 z2)), .second, .val (.long (own_rb z1 z0 z2)), .second, .val (.int (1 : Int32)), .val (.int (1 : Int32)), .unset] [(.long (own_rb (0 : Int64) (1 : Int64) (0 : Int64))), (.long z0), (.long (own_rb z1 z0 z2))])) (fun tq kq => XS.lload X15.here hx rfl (hb hby at_173) rfl kq) ?_
    refine Gl.st (b := T15.setTop (mkF m 176 #[.val (.long z0), .second, .val (.long z1), .second, .val (.long z2), .second, .val (.long z3), .second, .val (.long z4), .second, .val (.int z5), .val (.ref b1), .val (.ref b3), .val (.long (own_rb (0 : Int64) (1 : Int64) (0 : Int64))), .second, .val (.long (own_rb (1 : Int64) (0 : Int64) (0 : Int64))), .second, .val (.long (own_rb (0 : Int64) (0 : Int64) (1 : Int64))), .second, .val (.long (own_rb z1 z0 z2)), .second, .val (.long (own_rb z1 z0 z2)), .second, .val (.int (1 : Int32)), .val (.int (1 : Int32)), .unset] [(.long (z0 * (own_rb (0 : Int64) (1 : Int64) (0 : Int64)))), (.long (own_rb z1 z0 z2))])) (fun tq kq => XS.lmul X15.here hx rfl (hb hby at_175) rfl kq) ?_
    refine Gl.st (b := T15.setTop (mkF m 177 #[.val (.long z0), .second, .val (.long z1), .second, .val (.long z2), .second, .val (.long z3), .second, .val (.long z4), .second, .val (.int z5), .val (.ref b1), .val (.ref b3), .val (.long (own_rb (0 : Int64) (1 : Int64) (0 : Int64))), .second, .val (.long (own_rb (1 : Int64) (0 : Int64) (0 : Int64))), .second, .val (.long (own_rb (0 : Int64) (0 : Int64) (1 : Int64))), .second, .val (.long (own_rb z1 z0 z2)), .second, .val (.long (own_rb z1 z0 z2)), .second, .val (.int (1 : Int32)), .val (.int (1 : Int32)), .unset] [(.long z1), (.long (z0 * (own_rb (0 : Int64) (1 : Int64) (0 : Int64)))), (.long (own_rb z1 z0 z2))])) (fun tq kq => XS.lloadN X15.here hx rfl (hb hby at_176) rfl kq) ?_
    refine Gl.st (b := T15.setTop (mkF m 179 #[.val (.long z0), .second, .val (.long z1), .second, .val (.long z2), .second, .val (.long z3), .second, .val (.long z4), .second, .val (.int z5), .val (.ref b1), .val (.ref b3), .val (.long (own_rb (0 : Int64) (1 : Int64) (0 : Int64))), .second, .val (.long (own_rb (1 : Int64) (0 : Int64) (0 : Int64))), .second, .val (.long (own_rb (0 : Int64) (0 : Int64) (1 : Int64))), .second, .val (.long (own_rb z1 z0 z2)), .second, .val (.long (own_rb z1 z0 z2)), .second, .val (.int (1 : Int32)), .val (.int (1 : Int32)), .unset] [(.long (own_rb (1 : Int64) (0 : Int64) (0 : Int64))), (.long z1), (.long (z0 * (own_rb (0 : Int64) (1 : Int64) (0 : Int64)))), (.long (own_rb z1 z0 z2))])) (fun tq kq => XS.lload X15.here hx rfl (hb hby at_177) rfl kq) ?_
    refine Gl.st (b := T15.setTop (mkF m 180 #[.val (.long z0), .second, .val (.long z1), .second, .val (.long z2), .second, .val (.long z3), .second, .val (.long z4), .second, .val (.int z5), .val (.ref b1), .val (.ref b3), .val (.long (own_rb (0 : Int64) (1 : Int64) (0 : Int64))), .second, .val (.long (own_rb (1 : Int64) (0 : Int64) (0 : Int64))), .second, .val (.long (own_rb (0 : Int64) (0 : Int64) (1 : Int64))), .second, .val (.long (own_rb z1 z0 z2)), .second, .val (.long (own_rb z1 z0 z2)), .second, .val (.int (1 : Int32)), .val (.int (1 : Int32)), .unset] [(.long (z1 * (own_rb (1 : Int64) (0 : Int64) (0 : Int64)))), (.long (z0 * (own_rb (0 : Int64) (1 : Int64) (0 : Int64)))), (.long (own_rb z1 z0 z2))])) (fun tq kq => XS.lmul X15.here hx rfl (hb hby at_179) rfl kq) ?_
    refine Gl.st (b := T15.setTop (mkF m 181 #[.val (.long z0), .second, .val (.long z1), .second, .val (.long z2), .second, .val (.long z3), .second, .val (.long z4), .second, .val (.int z5), .val (.ref b1), .val (.ref b3), .val (.long (own_rb (0 : Int64) (1 : Int64) (0 : Int64))), .second, .val (.long (own_rb (1 : Int64) (0 : Int64) (0 : Int64))), .second, .val (.long (own_rb (0 : Int64) (0 : Int64) (1 : Int64))), .second, .val (.long (own_rb z1 z0 z2)), .second, .val (.long (own_rb z1 z0 z2)), .second, .val (.int (1 : Int32)), .val (.int (1 : Int32)), .unset] [(.long ((z0 * (own_rb (0 : Int64) (1 : Int64) (0 : Int64))) + (z1 * (own_rb (1 : Int64) (0 : Int64) (0 : Int64))))), (.long (own_rb z1 z0 z2))])) (fun tq kq => XS.ladd X15.here hx rfl (hb hby at_180) rfl kq) ?_
    refine Gl.st (b := T15.setTop (mkF m 183 #[.val (.long z0), .second, .val (.long z1), .second, .val (.long z2), .second, .val (.long z3), .second, .val (.long z4), .second, .val (.int z5), .val (.ref b1), .val (.ref b3), .val (.long (own_rb (0 : Int64) (1 : Int64) (0 : Int64))), .second, .val (.long (own_rb (1 : Int64) (0 : Int64) (0 : Int64))), .second, .val (.long (own_rb (0 : Int64) (0 : Int64) (1 : Int64))), .second, .val (.long (own_rb z1 z0 z2)), .second, .val (.long (own_rb z1 z0 z2)), .second, .val (.int (1 : Int32)), .val (.int (1 : Int32)), .unset] [(.long z2), (.long ((z0 * (own_rb (0 : Int64) (1 : Int64) (0 : Int64))) + (z1 * (own_rb (1 : Int64) (0 : Int64) (0 : Int64))))), (.long (own_rb z1 z0 z2))])) (fun tq kq => XS.lload X15.here hx rfl (hb hby at_181) rfl kq) ?_
    refine Gl.st (b := T15.setTop (mkF m 185 #[.val (.long z0), .second, .val (.long z1), .second, .val (.long z2), .second, .val (.long z3), .second, .val (.long z4), .second, .val (.int z5), .val (.ref b1), .val (.ref b3), .val (.long (own_rb (0 : Int64) (1 : Int64) (0 : Int64))), .second, .val (.long (own_rb (1 : Int64) (0 : Int64) (0 : Int64))), .second, .val (.long (own_rb (0 : Int64) (0 : Int64) (1 : Int64))), .second, .val (.long (own_rb z1 z0 z2)), .second, .val (.long (own_rb z1 z0 z2)), .second, .val (.int (1 : Int32)), .val (.int (1 : Int32)), .unset] [(.long (own_rb (0 : Int64) (0 : Int64) (1 : Int64))), (.long z2), (.long ((z0 * (own_rb (0 : Int64) (1 : Int64) (0 : Int64))) + (z1 * (own_rb (1 : Int64) (0 : Int64) (0 : Int64))))), (.long (own_rb z1 z0 z2))])) (fun tq kq => XS.lload X15.here hx rfl (hb hby at_183) rfl kq) ?_
    refine Gl.st (b := T15.setTop (mkF m 186 #[.val (.long z0), .second, .val (.long z1), .second, .val (.long z2), .second, .val (.long z3), .second, .val (.long z4), .second, .val (.int z5), .val (.ref b1), .val (.ref b3), .val (.long (own_rb (0 : Int64) (1 : Int64) (0 : Int64))), .second, .val (.long (own_rb (1 : Int64) (0 : Int64) (0 : Int64))), .second, .val (.long (own_rb (0 : Int64) (0 : Int64) (1 : Int64))), .second, .val (.long (own_rb z1 z0 z2)), .second, .val (.long (own_rb z1 z0 z2)), .second, .val (.int (1 : Int32)), .val (.int (1 : Int32)), .unset] [(.long (z2 * (own_rb (0 : Int64) (0 : Int64) (1 : Int64)))), (.long ((z0 * (own_rb (0 : Int64) (1 : Int64) (0 : Int64))) + (z1 * (own_rb (1 : Int64) (0 : Int64) (0 : Int64))))), (.long (own_rb z1 z0 z2))])) (fun tq kq => XS.lmul X15.here hx rfl (hb hby at_185) rfl kq) ?_
    refine Gl.st (b := T15.setTop (mkF m 187 #[.val (.long z0), .second, .val (.long z1), .second, .val (.long z2), .second, .val (.long z3), .second, .val (.long z4), .second, .val (.int z5), .val (.ref b1), .val (.ref b3), .val (.long (own_rb (0 : Int64) (1 : Int64) (0 : Int64))), .second, .val (.long (own_rb (1 : Int64) (0 : Int64) (0 : Int64))), .second, .val (.long (own_rb (0 : Int64) (0 : Int64) (1 : Int64))), .second, .val (.long (own_rb z1 z0 z2)), .second, .val (.long (own_rb z1 z0 z2)), .second, .val (.int (1 : Int32)), .val (.int (1 : Int32)), .unset] [(.long (((z0 * (own_rb (0 : Int64) (1 : Int64) (0 : Int64))) + (z1 * (own_rb (1 : Int64) (0 : Int64) (0 : Int64)))) + (z2 * (own_rb (0 : Int64) (0 : Int64) (1 : Int64))))), (.long (own_rb z1 z0 z2))])) (fun tq kq => XS.ladd X15.here hx rfl (hb hby at_186) rfl kq) ?_
    refine Gl.st (b := T15.setTop (mkF m 188 #[.val (.long z0), .second, .val (.long z1), .second, .val (.long z2), .second, .val (.long z3), .second, .val (.long z4), .second, .val (.int z5), .val (.ref b1), .val (.ref b3), .val (.long (own_rb (0 : Int64) (1 : Int64) (0 : Int64))), .second, .val (.long (own_rb (1 : Int64) (0 : Int64) (0 : Int64))), .second, .val (.long (own_rb (0 : Int64) (0 : Int64) (1 : Int64))), .second, .val (.long (own_rb z1 z0 z2)), .second, .val (.long (own_rb z1 z0 z2)), .second, .val (.int (1 : Int32)), .val (.int (1 : Int32)), .unset] [(.int (lcmpW (own_rb z1 z0 z2) (((z0 * (own_rb (0 : Int64) (1 : Int64) (0 : Int64))) + (z1 * (own_rb (1 : Int64) (0 : Int64) (0 : Int64)))) + (z2 * (own_rb (0 : Int64) (0 : Int64) (1 : Int64))))))])) (fun tq kq => XS.lcmp X15.here hx rfl (hb hby at_187) rfl kq) ?_
    refine Gl.st (b := T15.setTop (mkF m 191 #[.val (.long z0), .second, .val (.long z1), .second, .val (.long z2), .second, .val (.long z3), .second, .val (.long z4), .second, .val (.int z5), .val (.ref b1), .val (.ref b3), .val (.long (own_rb (0 : Int64) (1 : Int64) (0 : Int64))), .second, .val (.long (own_rb (1 : Int64) (0 : Int64) (0 : Int64))), .second, .val (.long (own_rb (0 : Int64) (0 : Int64) (1 : Int64))), .second, .val (.long (own_rb z1 z0 z2)), .second, .val (.long (own_rb z1 z0 z2)), .second, .val (.int (1 : Int32)), .val (.int (1 : Int32)), .unset] [])) (fun tq kq => XS.ifNo X15.here hx rfl (hb hby at_188) rfl ((if0 _ _).trans (teq ((lw_eq _ _).mpr (own_key z0 z1 z2))).2) kq) ?_
    refine Gl.st (b := T15.setTop (mkF m 192 #[.val (.long z0), .second, .val (.long z1), .second, .val (.long z2), .second, .val (.long z3), .second, .val (.long z4), .second, .val (.int z5), .val (.ref b1), .val (.ref b3), .val (.long (own_rb (0 : Int64) (1 : Int64) (0 : Int64))), .second, .val (.long (own_rb (1 : Int64) (0 : Int64) (0 : Int64))), .second, .val (.long (own_rb (0 : Int64) (0 : Int64) (1 : Int64))), .second, .val (.long (own_rb z1 z0 z2)), .second, .val (.long (own_rb z1 z0 z2)), .second, .val (.int (1 : Int32)), .val (.int (1 : Int32)), .unset] [(.int (1 : Int32))])) (fun tq kq => XS.iconst X15.here hx rfl (hb hby at_191) kq) ?_
    refine Gl.st (b := T15.setTop (mkF m 196 #[.val (.long z0), .second, .val (.long z1), .second, .val (.long z2), .second, .val (.long z3), .second, .val (.long z4), .second, .val (.int z5), .val (.ref b1), .val (.ref b3), .val (.long (own_rb (0 : Int64) (1 : Int64) (0 : Int64))), .second, .val (.long (own_rb (1 : Int64) (0 : Int64) (0 : Int64))), .second, .val (.long (own_rb (0 : Int64) (0 : Int64) (1 : Int64))), .second, .val (.long (own_rb z1 z0 z2)), .second, .val (.long (own_rb z1 z0 z2)), .second, .val (.int (1 : Int32)), .val (.int (1 : Int32)), .unset] [(.int (1 : Int32))])) (fun tq kq => XS.goto X15.here hx rfl (pc0 := 192) (pc' := 196) rfl (hb hby at_192) (by decide) (by decide) kq) ?_
    refine Gl.st (b := T15.setTop (mkF m 198 #[.val (.long z0), .second, .val (.long z1), .second, .val (.long z2), .second, .val (.long z3), .second, .val (.long z4), .second, .val (.int z5), .val (.ref b1), .val (.ref b3), .val (.long (own_rb (0 : Int64) (1 : Int64) (0 : Int64))), .second, .val (.long (own_rb (1 : Int64) (0 : Int64) (0 : Int64))), .second, .val (.long (own_rb (0 : Int64) (0 : Int64) (1 : Int64))), .second, .val (.long (own_rb z1 z0 z2)), .second, .val (.long (own_rb z1 z0 z2)), .second, .val (.int (1 : Int32)), .val (.int (1 : Int32)), .val (.int (1 : Int32))] [])) (fun tq kq => XS.istore X15.here hx rfl (hb hby at_196) rfl (l' := #[.val (.long z0), .second, .val (.long z1), .second, .val (.long z2), .second, .val (.long z3), .second, .val (.long z4), .second, .val (.int z5), .val (.ref b1), .val (.ref b3), .val (.long (own_rb (0 : Int64) (1 : Int64) (0 : Int64))), .second, .val (.long (own_rb (1 : Int64) (0 : Int64) (0 : Int64))), .second, .val (.long (own_rb (0 : Int64) (0 : Int64) (1 : Int64))), .second, .val (.long (own_rb z1 z0 z2)), .second, .val (.long (own_rb z1 z0 z2)), .second, .val (.int (1 : Int32)), .val (.int (1 : Int32)), .val (.int (1 : Int32))]) rfl kq) ?_
    refine Gl.st (b := T15.setTop (mkF m 200 #[.val (.long z0), .second, .val (.long z1), .second, .val (.long z2), .second, .val (.long z3), .second, .val (.long z4), .second, .val (.int z5), .val (.ref b1), .val (.ref b3), .val (.long (own_rb (0 : Int64) (1 : Int64) (0 : Int64))), .second, .val (.long (own_rb (1 : Int64) (0 : Int64) (0 : Int64))), .second, .val (.long (own_rb (0 : Int64) (0 : Int64) (1 : Int64))), .second, .val (.long (own_rb z1 z0 z2)), .second, .val (.long (own_rb z1 z0 z2)), .second, .val (.int (1 : Int32)), .val (.int (1 : Int32)), .val (.int (1 : Int32))] [(.int (1 : Int32))])) (fun tq kq => XS.iload X15.here hx rfl (hb hby at_198) rfl kq) ?_
    refine Gl.st (b := T15.setTop (mkF m 203 #[.val (.long z0), .second, .val (.long z1), .second, .val (.long z2), .second, .val (.long z3), .second, .val (.long z4), .second, .val (.int z5), .val (.ref b1), .val (.ref b3), .val (.long (own_rb (0 : Int64) (1 : Int64) (0 : Int64))), .second, .val (.long (own_rb (1 : Int64) (0 : Int64) (0 : Int64))), .second, .val (.long (own_rb (0 : Int64) (0 : Int64) (1 : Int64))), .second, .val (.long (own_rb z1 z0 z2)), .second, .val (.long (own_rb z1 z0 z2)), .second, .val (.int (1 : Int32)), .val (.int (1 : Int32)), .val (.int (1 : Int32))] [])) (fun tq kq => XS.ifNo X15.here hx rfl (hb hby at_200) rfl ((if0 _ _).trans (feq (x := (1 : Int32)) (y := (0 : Int32)) (by decide)).1) kq) ?_
    refine Gl.st (b := T15.setTop (mkF m 205 #[.val (.long z0), .second, .val (.long z1), .second, .val (.long z2), .second, .val (.long z3), .second, .val (.long z4), .second, .val (.int z5), .val (.ref b1), .val (.ref b3), .val (.long (own_rb (0 : Int64) (1 : Int64) (0 : Int64))), .second, .val (.long (own_rb (1 : Int64) (0 : Int64) (0 : Int64))), .second, .val (.long (own_rb (0 : Int64) (0 : Int64) (1 : Int64))), .second, .val (.long (own_rb z1 z0 z2)), .second, .val (.long (own_rb z1 z0 z2)), .second, .val (.int (1 : Int32)), .val (.int (1 : Int32)), .val (.int (1 : Int32))] [(.int (1 : Int32))])) (fun tq kq => XS.iload X15.here hx rfl (hb hby at_203) rfl kq) ?_
    refine Gl.st (b := T15.setTop (mkF m 208 #[.val (.long z0), .second, .val (.long z1), .second, .val (.long z2), .second, .val (.long z3), .second, .val (.long z4), .second, .val (.int z5), .val (.ref b1), .val (.ref b3), .val (.long (own_rb (0 : Int64) (1 : Int64) (0 : Int64))), .second, .val (.long (own_rb (1 : Int64) (0 : Int64) (0 : Int64))), .second, .val (.long (own_rb (0 : Int64) (0 : Int64) (1 : Int64))), .second, .val (.long (own_rb z1 z0 z2)), .second, .val (.long (own_rb z1 z0 z2)), .second, .val (.int (1 : Int32)), .val (.int (1 : Int32)), .val (.int (1 : Int32))] [])) (fun tq kq => XS.ifNo X15.here hx rfl (hb hby at_205) rfl ((if0 _ _).trans (feq (x := (1 : Int32)) (y := (0 : Int32)) (by decide)).1) kq) ?_
    refine Gl.st (b := T15.setTop (mkF m 210 #[.val (.long z0), .second, .val (.long z1), .second, .val (.long z2), .second, .val (.long z3), .second, .val (.long z4), .second, .val (.int z5), .val (.ref b1), .val (.ref b3), .val (.long (own_rb (0 : Int64) (1 : Int64) (0 : Int64))), .second, .val (.long (own_rb (1 : Int64) (0 : Int64) (0 : Int64))), .second, .val (.long (own_rb (0 : Int64) (0 : Int64) (1 : Int64))), .second, .val (.long (own_rb z1 z0 z2)), .second, .val (.long (own_rb z1 z0 z2)), .second, .val (.int (1 : Int32)), .val (.int (1 : Int32)), .val (.int (1 : Int32))] [(.int (1 : Int32))])) (fun tq kq => XS.iload X15.here hx rfl (hb hby at_208) rfl kq) ?_
    refine Gl.st (b := T15.setTop (mkF m 213 #[.val (.long z0), .second, .val (.long z1), .second, .val (.long z2), .second, .val (.long z3), .second, .val (.long z4), .second, .val (.int z5), .val (.ref b1), .val (.ref b3), .val (.long (own_rb (0 : Int64) (1 : Int64) (0 : Int64))), .second, .val (.long (own_rb (1 : Int64) (0 : Int64) (0 : Int64))), .second, .val (.long (own_rb (0 : Int64) (0 : Int64) (1 : Int64))), .second, .val (.long (own_rb z1 z0 z2)), .second, .val (.long (own_rb z1 z0 z2)), .second, .val (.int (1 : Int32)), .val (.int (1 : Int32)), .val (.int (1 : Int32))] [])) (fun tq kq => XS.ifNo X15.here hx rfl (hb hby at_210) rfl ((if0 _ _).trans (feq (x := (1 : Int32)) (y := (0 : Int32)) (by decide)).1) kq) ?_
    refine Gl.st (b := T15.setTop (mkF m 214 #[.val (.long z0), .second, .val (.long z1), .second, .val (.long z2), .second, .val (.long z3), .second, .val (.long z4), .second, .val (.int z5), .val (.ref b1), .val (.ref b3), .val (.long (own_rb (0 : Int64) (1 : Int64) (0 : Int64))), .second, .val (.long (own_rb (1 : Int64) (0 : Int64) (0 : Int64))), .second, .val (.long (own_rb (0 : Int64) (0 : Int64) (1 : Int64))), .second, .val (.long (own_rb z1 z0 z2)), .second, .val (.long (own_rb z1 z0 z2)), .second, .val (.int (1 : Int32)), .val (.int (1 : Int32)), .val (.int (1 : Int32))] [(.int (1 : Int32))])) (fun tq kq => XS.iconst X15.here hx rfl (hb hby at_213) kq) ?_
    refine Gl.st (b := T15.setTop (mkF m 218 #[.val (.long z0), .second, .val (.long z1), .second, .val (.long z2), .second, .val (.long z3), .second, .val (.long z4), .second, .val (.int z5), .val (.ref b1), .val (.ref b3), .val (.long (own_rb (0 : Int64) (1 : Int64) (0 : Int64))), .second, .val (.long (own_rb (1 : Int64) (0 : Int64) (0 : Int64))), .second, .val (.long (own_rb (0 : Int64) (0 : Int64) (1 : Int64))), .second, .val (.long (own_rb z1 z0 z2)), .second, .val (.long (own_rb z1 z0 z2)), .second, .val (.int (1 : Int32)), .val (.int (1 : Int32)), .val (.int (1 : Int32))] [(.int (1 : Int32))])) (fun tq kq => XS.goto X15.here hx rfl (pc0 := 214) (pc' := 218) rfl (hb hby at_214) (by decide) (by decide) kq) ?_
    exact Gl.retN X15 hx hret (by simp) (hb hby at_218) hlk (by decide) (by decide) ⟨rfl, N15⟩
  exact GOAL
set_option maxRecDepth 65536 in
set_option maxHeartbeats 40000000 in
theorem comes_1 {Post : Tables → Env → Array Value → State → Outcome → State → Prop} (hpost : ∀ tb e args s v u, (limb_1_1.after args s (.returned v) u = true ∧ limb_1_2.after args s (.returned v) u = true ∧ True) → FrameEnd s (.returned v) u (Jvm.fieldLocs frame_1_writes args s ++ Jvm.arrayLocs frame_1_arrays args s ++ Jvm.staticLocs frame_1_statics s) 24 192 → Post tb e args s (.returned v) u) :
    ArmFor flags0 classFile x code maxLocals ret World_1 tables_1 room_1 Calls_1 rest_1 Pre_1 Post := by
  intro l hfl _ _ p e ha hc hk s m args below hf hA hF happ hP
  obtain ⟨hcalls, hrest, hpre⟩ := hP
  obtain ⟨-, -, -, hnamed, -, -, -, hat⟩ := (Spec.applies_iff hf).mp happ
  obtain ⟨hg, hn⟩ := and_e (Cond.before_iff.mp (show (Jvm.Cond.and given_1 narrow_1).before args s = true from hpre))
  obtain ⟨g1, k1⟩ := and_e hg
  obtain ⟨g2, k2⟩ := and_e k1
  obtain ⟨g3, k3⟩ := and_e k2
  obtain ⟨g4, k4⟩ := and_e k3
  obtain ⟨g5, k5⟩ := and_e k4
  obtain ⟨g6, k6⟩ := and_e k5
  obtain ⟨w0, w1, w2, w3, w4, w5, rfl⟩ : ∃ w0 w1 w2 w3 w4 w5 : Value, args = #[w0, w1, w2, w3, w4, w5] := by
    have hs : args.size = 6 := by simpa [Cond.value, given_1] using g1
    obtain ⟨L⟩ := args
    match L, hs with
    | [w0, w1, w2, w3, w4, w5], _ => exact ⟨w0, w1, w2, w3, w4, w5, rfl⟩
  have hw := fun d (hd : d ∈ tables_1) => atoms_spec (ws := Jvm.Cond.code x code maxLocals ret :: tables_1) hat d (List.mem_cons_of_mem _ hd)
  obtain ⟨i0, ei0⟩ := isL_v g2
  obtain rfl : w0 = (.long i0) := Option.some.inj ei0
  obtain ⟨i1, ei1⟩ := isL_v g3
  obtain rfl : w1 = (.long i1) := Option.some.inj ei1
  obtain ⟨i2, ei2⟩ := isL_v g4
  obtain rfl : w2 = (.long i2) := Option.some.inj ei2
  obtain ⟨i3, ei3⟩ := isL_v g5
  obtain rfl : w3 = (.long i3) := Option.some.inj ei3
  obtain ⟨i4, ei4⟩ := isL_v g6
  obtain rfl : w4 = (.long i4) := Option.some.inj ei4
  obtain ⟨i5, ei5⟩ := is_v k6
  obtain rfl : w5 = (.int i5) := Option.some.inj ei5
  obtain ⟨n, o, h1, h2, h3, _, L, rfl, ⟨rfl, N⟩, hq⟩ := rm0 l s _ hw tables_1 i0 i1 i2 i3 i4 i5 s.heap s.heap.size (Nat.le_refl _)  p e ha hc hk s m _ below hf ((Spec.applies_iff_loose hf).mp happ).1 ⟨rfl, State.Warmed39.refl s, rfl⟩ trivial
  refine ⟨n, _, h1, h2, h3, hpost _ _ _ _ _ _ ⟨Cond.after_iff.mpr rfl, Cond.after_iff.mpr (eq_i res_at (Term.int_eval (1)) rfl), trivial⟩ ⟨hq.1, hq.2.1, (hq.2.2.sift fun y hy => Or.inr (N y hy)).mono (by decide) (by decide)⟩⟩
theorem main_1_1 : Claimed_1_1 := comes_1 fun _ _ _ _ _ _ h hF => ⟨h.1, hF⟩
theorem main_1_2 : Claimed_1_2 := comes_1 fun _ _ _ _ _ _ h hF => ⟨h.2.1, hF⟩

end Jvm.Pilot.@@N@@
namespace Jvm.Pilot.@@N@@
open Jvm Jvm.ClassFile Sem Op Lib Jvm.Free Jvm.Stand Jvm.Pilot.@@N@@.Jvm.D
/-! MADE BY PROGRAM (witnessworld.py) out of the Statement's table words and the real class files: 10 classes; the members and pool entries that the words name. The judged class is class 1, her method 1. -/
namespace start1
open Jvm.ClassFile
def u (s : String) : CpInfo := .utf8 (stringToUtf16 s)
/-- a pool by its gaps: so many unusable entries, then the entry; so many at the end -/
def gap : Nat → List CpInfo → List CpInfo
  | 0, r => r
  | n + 1, r => .unusable :: gap n r
def poolList (es : List (Nat × CpInfo)) (last : Nat) : List CpInfo := es.foldr (fun e r => gap e.1 (e.2 :: r)) (gap last [])
def pool (es : List (Nat × CpInfo)) (last : Nat) : Array CpInfo := ⟨poolList es last⟩
def fileOf (pool : Array CpInfo) (this : Nat) (attrs : Array Attribute := #[]) (ms : Array MethodInfo := #[]) (fl : Nat := 33) (sup : Nat := 0) (ifs : Array Nat := #[]) (fds : Array FieldInfo := #[]) : ClassFile where
  minorVersion := 0
  majorVersion := 65
  constantPool := pool
  accessFlags := fl
  thisClass := this
  superClass := sup
  interfaces := ifs
  fields := fds
  methods := ms
  attributes := attrs
def plain (name : String) (sup : Option ClassId) : Class where
  name := name
  kind := .ordinary
  loader := none
  accessFlags := 33
  super := sup
  interfaces := #[]
  cf := none
  fields := #[]
  methods := #[]
  instanceTypes := #[]
  staticTypes := #[]
  resolved := #[]
  callSites := []
  init := .initialized
  statics := none
  mirror := none

def pool0 : Array CpInfo := pool [(5, u "<init>"), (0, u "()V"), (1, .class_ 10), (1, u "java/lang/Object")] 113

def k0c0 : Code := { maxStack := 0, maxLocals := 1, code := object_method_1_code, exceptionTable := #[], attributes := #[] }
def k0m0 : Method := { name := "<init>", desc := "()V", sig := { parameters := [], returnType := none }, accessFlags := 1, code := some k0c0 }
/-- java/lang/Object -/
def k0 : Class := { plain "java/lang/Object" none with
  accessFlags := 33
  interfaces := #[]
  cf := some (fileOf pool0 8 #[] #[{ accessFlags := 1, nameIndex := 5, descriptorIndex := 6, attributes := #[] }] 33 0 #[] #[])
  fields := #[]
  methods := #[k0m0]
  instanceTypes := #[]
  staticTypes := #[]
  resolved := Array.replicate 124 none
  statics := none }

def pool1 : Array CpInfo := pool [(2, .class_ 4), (1, u "java/lang/Object"), (0, u "<init>"), (0, u "()V"), (0, .class_ 8), (0, u "com/example/leafrank/leafrank/core/IndexSize"), (0, .methodref 7 10), (0, .nameAndType 5 11), (0, u "(JJJJJJJ)V"), (0, .methodref 7 13), (0, .nameAndType 14 15), (0, u "readBytes"), (0, u "()J"), (0, .long 64), (1, .long 56), (1, .long 2), (1, .class_ 23), (0, u "com/example/leafrank/leafrank/core/IndexSizeReadBytesPinLaw"), (2, u "law"), (0, u "(JJJJJI)Z")] 3

def k1m0 : Method := { name := "<init>", desc := "()V", sig := { parameters := [], returnType := none }, accessFlags := 2, code := none }
def k1c1 : Code := { maxStack := 16, maxLocals := 26, code := code, exceptionTable := #[], attributes := #[] }
def k1m1 : Method := { name := "law", desc := "(JJJJJI)Z", sig := { parameters := [.long, .long, .long, .long, .long, .int], returnType := some .boolean }, accessFlags := 9, code := some k1c1 }
/-- com/example/leafrank/leafrank/core/IndexSizeReadBytesPinLaw -/
def k1 : Class := { plain "com/example/leafrank/leafrank/core/IndexSizeReadBytesPinLaw" (some 0) with
  accessFlags := 49
  interfaces := #[]
  cf := some (fileOf pool1 22 #[] #[{ accessFlags := 2, nameIndex := 5, descriptorIndex := 6, attributes := #[] }, { accessFlags := 9, nameIndex := 26, descriptorIndex := 27, attributes := #[] }] 49 2 #[] #[])
  fields := #[]
  methods := #[k1m0, k1m1]
  instanceTypes := #[]
  staticTypes := #[]
  resolved := Array.replicate 31 none
  statics := none }

def pool2 : Array CpInfo := pool [(1, .methodref 2 3), (0, .class_ 4), (0, .nameAndType 5 6), (0, u "java/lang/Object"), (0, u "<init>"), (0, u "()V"), (0, .class_ 8), (0, u "java/lang/Record")] 13

def k2c0 : Code := { maxStack := 1, maxLocals := 1, code := jdk_30_method_1_code, exceptionTable := #[], attributes := #[] }
def k2m0 : Method := { name := "<init>", desc := "()V", sig := { parameters := [], returnType := none }, accessFlags := 4, code := some k2c0 }
/-- java/lang/Record -/
def k2 : Class := { plain "java/lang/Record" (some 0) with
  accessFlags := 1057
  interfaces := #[]
  cf := some (fileOf pool2 7 #[] #[{ accessFlags := 4, nameIndex := 5, descriptorIndex := 6, attributes := #[] }] 1057 2 #[] #[])
  fields := #[]
  methods := #[k2m0]
  instanceTypes := #[]
  staticTypes := #[]
  resolved := Array.replicate 22 none
  statics := none }

def pool3 : Array CpInfo := pool [(1, .methodref 2 3), (0, .class_ 4), (0, .nameAndType 5 6), (0, u "java/lang/Record"), (0, u "<init>"), (0, u "()V"), (0, .fieldref 8 9), (0, .class_ 10), (0, .nameAndType 11 12), (0, u "com/example/leafrank/leafrank/core/IndexSize"), (0, u "documents"), (0, u "J"), (0, .fieldref 8 14), (0, .nameAndType 15 12), (0, u "elements"), (0, .fieldref 8 17), (0, .nameAndType 18 12), (0, u "classes"), (0, .fieldref 8 20), (0, .nameAndType 21 12), (0, u "terms"), (0, .fieldref 8 23), (0, .nameAndType 24 12), (0, u "groups"), (0, .fieldref 8 26), (0, .nameAndType 27 12), (0, u "postings"), (0, .fieldref 8 29), (0, .nameAndType 30 12), (0, u "textBytes"), (48, u "()J"), (8, u "(JJJJJJJ)V"), (2, u "readBytes"), (4, .long 56), (1, .long 64), (1, .long 2), (66, u "RESERVED_HEAP"), (1, u "CLASS_READ_BYTES"), (0, u "I"), (1, u "DOCUMENT_READ_BYTES"), (1, u "TEXT_READ_BYTES"), (1, u "CLASS_HELD_BYTES"), (1, u "DOCUMENT_HELD_BYTES"), (1, u "ELEMENT_HELD_BYTES")] 58

def k3c0 : Code := { maxStack := 3, maxLocals := 15, code := prog_120_method_1_code, exceptionTable := #[], attributes := #[] }
def k3m0 : Method := { name := "<init>", desc := "(JJJJJJJ)V", sig := { parameters := [.long, .long, .long, .long, .long, .long, .long], returnType := none }, accessFlags := 0, code := some k3c0 }
def k3c1 : Code := { maxStack := 6, maxLocals := 1, code := prog_120_method_5_code, exceptionTable := #[], attributes := #[] }
def k3m1 : Method := { name := "readBytes", desc := "()J", sig := { parameters := [], returnType := some .long }, accessFlags := 0, code := some k3c1 }
/-- com/example/leafrank/leafrank/core/IndexSize -/
def k3 : Class := { plain "com/example/leafrank/leafrank/core/IndexSize" (some 2) with
  accessFlags := 48
  interfaces := #[]
  cf := some (fileOf pool3 8 #[] #[{ accessFlags := 0, nameIndex := 5, descriptorIndex := 88, attributes := #[] }, { accessFlags := 0, nameIndex := 91, descriptorIndex := 79, attributes := #[] }] 48 2 #[] #[{ accessFlags := 18, nameIndex := 11, descriptorIndex := 12, attributes := #[] }, { accessFlags := 18, nameIndex := 15, descriptorIndex := 12, attributes := #[] }, { accessFlags := 18, nameIndex := 18, descriptorIndex := 12, attributes := #[] }, { accessFlags := 18, nameIndex := 21, descriptorIndex := 12, attributes := #[] }, { accessFlags := 18, nameIndex := 24, descriptorIndex := 12, attributes := #[] }, { accessFlags := 18, nameIndex := 27, descriptorIndex := 12, attributes := #[] }, { accessFlags := 18, nameIndex := 30, descriptorIndex := 12, attributes := #[] }, { accessFlags := 24, nameIndex := 167, descriptorIndex := 12, attributes := #[] }, { accessFlags := 26, nameIndex := 169, descriptorIndex := 170, attributes := #[] }, { accessFlags := 26, nameIndex := 172, descriptorIndex := 170, attributes := #[] }, { accessFlags := 26, nameIndex := 174, descriptorIndex := 170, attributes := #[] }, { accessFlags := 26, nameIndex := 176, descriptorIndex := 170, attributes := #[] }, { accessFlags := 26, nameIndex := 178, descriptorIndex := 170, attributes := #[] }, { accessFlags := 26, nameIndex := 180, descriptorIndex := 170, attributes := #[] }])
  fields := #[{ name := "documents", type := .long, accessFlags := 18, slot := 0, constantValue := 0 }, { name := "elements", type := .long, accessFlags := 18, slot := 1, constantValue := 0 }, { name := "classes", type := .long, accessFlags := 18, slot := 2, constantValue := 0 }, { name := "terms", type := .long, accessFlags := 18, slot := 3, constantValue := 0 }, { name := "groups", type := .long, accessFlags := 18, slot := 4, constantValue := 0 }, { name := "postings", type := .long, accessFlags := 18, slot := 5, constantValue := 0 }, { name := "textBytes", type := .long, accessFlags := 18, slot := 6, constantValue := 0 }, { name := "RESERVED_HEAP", type := .long, accessFlags := 24, slot := 0, constantValue := 0 }, { name := "CLASS_READ_BYTES", type := .int, accessFlags := 26, slot := 1, constantValue := 0 }, { name := "DOCUMENT_READ_BYTES", type := .int, accessFlags := 26, slot := 2, constantValue := 0 }, { name := "TEXT_READ_BYTES", type := .int, accessFlags := 26, slot := 3, constantValue := 0 }, { name := "CLASS_HELD_BYTES", type := .int, accessFlags := 26, slot := 4, constantValue := 0 }, { name := "DOCUMENT_HELD_BYTES", type := .int, accessFlags := 26, slot := 5, constantValue := 0 }, { name := "ELEMENT_HELD_BYTES", type := .int, accessFlags := 26, slot := 6, constantValue := 0 }]
  methods := #[k3m0, k3m1]
  instanceTypes := #[.long, .long, .long, .long, .long, .long, .long]
  staticTypes := #[.long, .int, .int, .int, .int, .int, .int]
  resolved := Array.replicate 239 none
  statics := none }

def pool4 : Array CpInfo := pool [(1, u "java/lang/Cloneable"), (0, .class_ 1), (0, u "java/lang/Object"), (0, .class_ 3)] 3

/-- java/lang/Cloneable -/
def k4 : Class := { plain "java/lang/Cloneable" (some 0) with
  accessFlags := 1537
  interfaces := #[]
  cf := some (fileOf pool4 2 #[] #[] 1537 4 #[] #[])
  fields := #[]
  methods := #[]
  instanceTypes := #[]
  staticTypes := #[]
  resolved := Array.replicate 8 none
  statics := none }

def pool5 : Array CpInfo := pool [(1, u "java/io/Serializable"), (0, .class_ 1), (0, u "java/lang/Object"), (0, .class_ 3)] 3

/-- java/io/Serializable -/
def k5 : Class := { plain "java/io/Serializable" (some 0) with
  accessFlags := 1537
  interfaces := #[]
  cf := some (fileOf pool5 2 #[] #[] 1537 4 #[] #[])
  fields := #[]
  methods := #[]
  instanceTypes := #[]
  staticTypes := #[]
  resolved := Array.replicate 8 none
  statics := none }

/-- the primitive byte -/
def k6 : Class := { plain "byte" none with kind := .primitive 'B', accessFlags := 0x411 }
/-- [B -/
def k7 : Class := { plain "[B" (some 0) with kind := .array 6 .byte, interfaces := #[4, 5], accessFlags := 1041 }

/-- the primitive int -/
def k8 : Class := { plain "int" none with kind := .primitive 'I', accessFlags := 0x411 }
/-- [I -/
def k9 : Class := { plain "[I" (some 0) with kind := .array 8 .int, interfaces := #[4, 5], accessFlags := 1041 }

def heap : Heap := #[]
def classes : Array Class := #[k0, k1, k2, k3, k4, k5, k6, k7, k8, k9]
def interned : List (Array UInt16 × Addr) := []
def slotsUsed : Nat := 0
def theMethod : MethodId := ⟨1, 1⟩
def args0 : Array Value := #[.long 5, .long 5, .long 5, .long 5, .long 5, .int 3]
def aboutOver (below : List Frame) : State where
  vm := { classes := classes, interned := interned.toArray }
  heap := heap
  slotsUsed := slotsUsed
  threads := #[{ frames := .invoking theMethod args0 :: below }]
def below0 : List Frame := [.native { method := ⟨0, 0⟩, args := #[] }]
def about1 : State := aboutOver below0
def p0 : Program := .bare "" "" ""
def e0 : Env := launch0.env 0 0 0
theorem w_frames : about1.frames = Frame.invoking theMethod args0 :: below0 := rfl
set_option maxRecDepth 65536 in
theorem w_args : argsFit about1.vm theMethod args0 = true := by decide +kernel
set_option maxRecDepth 65536 in
theorem w_heap : heapFits about1 = true := by decide +kernel
set_option maxRecDepth 65536 in
theorem w_runnable : about1.curStatus? = some .runnable := by decide +kernel
set_option maxRecDepth 65536 in
theorem w_alone : about1.alone = true := by decide +kernel
set_option maxRecDepth 65536 in
theorem w_named : about1.methodNamed? x = some theMethod := by decide +kernel
set_option maxRecDepth 65536 in
theorem w_hears : about1.hears theMethod below0 = true := by decide +kernel
set_option maxRecDepth 65536 in
theorem w_ripe : about1.ripe theMethod args0 below0 = true := by decide +kernel
theorem w_running : about1.status = .running := rfl
set_option maxRecDepth 65536 in
theorem w_room : about1.hasRoom e0.platform room_1 = true :=
  launch0.hasRoom_least _ room_1 (by decide +kernel) (by decide +kernel) (by decide +kernel) (by decide +kernel) (by decide +kernel) (by decide +kernel)
theorem allAtoms_all (ts : List Jvm.Cond) (a : Array Jvm.Value) (st : Jvm.State) : (allAtoms ts).before a st = ts.all (fun c => c.before a st) := by
  induction ts with
  | nil => rfl
  | cons c t ih =>
    show (Jvm.Cond.and c (allAtoms t)).before a st = _
    rw [Jvm.Cond.before_and, ih, List.all_cons]
def words1 : List Jvm.Cond := Jvm.Cond.code x code maxLocals ret :: tables_1
/-- a 'code' word, met by the world's own term for the bytes: nothing is compared byte by byte -/
theorem code_word {y : MethodName} {bytes : ByteArray} {mx : Nat} {rt : Option FieldType} {a : Array Value} {s : State} {m : MethodId} {meth : Method} {c : Code} (h1 : s.methodNamed? y = some m) (h2 : s.vm.method? m = some meth) (h3 : meth.code = some c) (h4 : c.code = bytes)
    (h5 : (c.maxLocals == mx && c.exceptionTable.isEmpty && decide (c.maxStack ≤ mostOperands) && decide (meth.sig.returnType = rt) && !meth.locks && decide (parseMethodDescriptor y.desc = some meth.sig)) = true) : (Jvm.Cond.code y bytes mx rt).before a s = true := by
  simp only [Bool.and_eq_true, beq_iff_eq, Bool.not_eq_true', decide_eq_true_eq] at h5
  obtain ⟨⟨⟨⟨⟨g1, g2⟩, g3⟩, g4⟩, g5⟩, g6⟩ := h5
  simp [Cond.before, Cond.holds, Cond.value, h1, h2, h3, h4, g1, g2, g3, g4, g5, g6]
def isCode : Jvm.Cond → Bool
  | .code _ _ _ _ => true
  | _ => false
theorem all_split {L : List Jvm.Cond} {P : Jvm.Cond → Bool} (h1 : L.all (fun c => isCode c || P c) = true) (h2 : ∀ c ∈ L.filter isCode, P c = true) : L.all P = true := by
  refine List.all_eq_true.mpr fun c hc => ?_
  have h := List.all_eq_true.mp h1 c hc
  rcases Bool.eq_false_or_eq_true (isCode c) with hi | hi
  · exact h2 c (List.mem_filter.mpr ⟨hc, hi⟩)
  · simpa [hi] using h
set_option maxRecDepth 65536 in
theorem w_c0 : (Jvm.Cond.code x code maxLocals ret).before args0 about1 = true := code_word (m := ⟨1, 1⟩) (meth := k1m1) (c := k1c1) (by decide +kernel) rfl rfl rfl (by decide +kernel)
set_option maxRecDepth 65536 in
theorem w_c1 : (Jvm.Cond.code ({ cls := "com/example/leafrank/leafrank/core/IndexSize", name := "<init>", desc := "(JJJJJJJ)V" } : Jvm.MethodName) prog_120_method_1_code (15 : Nat) (Option.none : Option Jvm.ClassFile.FieldType)).before args0 about1 = true := code_word (m := ⟨3, 0⟩) (meth := k3m0) (c := k3c0) (by decide +kernel) rfl rfl rfl (by decide +kernel)
set_option maxRecDepth 65536 in
theorem w_c2 : (Jvm.Cond.code ({ cls := "java/lang/Record", name := "<init>", desc := "()V" } : Jvm.MethodName) jdk_30_method_1_code (1 : Nat) (Option.none : Option Jvm.ClassFile.FieldType)).before args0 about1 = true := code_word (m := ⟨2, 0⟩) (meth := k2m0) (c := k2c0) (by decide +kernel) rfl rfl rfl (by decide +kernel)
set_option maxRecDepth 65536 in
theorem w_c3 : (Jvm.Cond.code ({ cls := "java/lang/Object", name := "<init>", desc := "()V" } : Jvm.MethodName) object_method_1_code (1 : Nat) (Option.none : Option Jvm.ClassFile.FieldType)).before args0 about1 = true := code_word (m := ⟨0, 0⟩) (meth := k0m0) (c := k0c0) (by decide +kernel) rfl rfl rfl (by decide +kernel)
set_option maxRecDepth 65536 in
theorem w_c4 : (Jvm.Cond.code ({ cls := "com/example/leafrank/leafrank/core/IndexSize", name := "readBytes", desc := "()J" } : Jvm.MethodName) prog_120_method_5_code (1 : Nat) (Option.some Jvm.ClassFile.FieldType.long)).before args0 about1 = true := code_word (m := ⟨3, 1⟩) (meth := k3m1) (c := k3c1) (by decide +kernel) rfl rfl rfl (by decide +kernel)
def codes1 : List Jvm.Cond := [Jvm.Cond.code x code maxLocals ret, Jvm.Cond.code ({ cls := "com/example/leafrank/leafrank/core/IndexSize", name := "<init>", desc := "(JJJJJJJ)V" } : Jvm.MethodName) prog_120_method_1_code (15 : Nat) (Option.none : Option Jvm.ClassFile.FieldType), Jvm.Cond.code ({ cls := "java/lang/Record", name := "<init>", desc := "()V" } : Jvm.MethodName) jdk_30_method_1_code (1 : Nat) (Option.none : Option Jvm.ClassFile.FieldType), Jvm.Cond.code ({ cls := "java/lang/Object", name := "<init>", desc := "()V" } : Jvm.MethodName) object_method_1_code (1 : Nat) (Option.none : Option Jvm.ClassFile.FieldType), Jvm.Cond.code ({ cls := "com/example/leafrank/leafrank/core/IndexSize", name := "readBytes", desc := "()J" } : Jvm.MethodName) prog_120_method_5_code (1 : Nat) (Option.some Jvm.ClassFile.FieldType.long)]
set_option maxRecDepth 65536 in
theorem codes_eq : words1.filter isCode = codes1 := rfl
theorem w_codes : ∀ c ∈ words1.filter isCode, c.before args0 about1 = true := by
  rw [codes_eq]
  intro c hc
  simp only [codes1, List.mem_cons, List.not_mem_nil, or_false] at hc
  rcases hc with rfl | rfl | rfl | rfl | rfl
  · exact w_c0
  · exact w_c1
  · exact w_c2
  · exact w_c3
  · exact w_c4
set_option maxRecDepth 65536 in
theorem w_t1 : (words1.take 24).all (fun c => isCode c || c.before args0 about1) = true := by decide +kernel
set_option maxRecDepth 65536 in
theorem w_t2 : (words1.drop 24).all (fun c => isCode c || c.before args0 about1) = true := by decide +kernel
theorem w_tables : (allAtoms (Jvm.Cond.code x code maxLocals ret :: tables_1)).before args0 about1 = true := by
  rw [allAtoms_all]
  show words1.all (fun c => c.before args0 about1) = true
  refine all_split ?_ w_codes
  rw [← List.take_append_drop 24 words1, List.all_append, w_t1, w_t2]
  rfl
set_option maxRecDepth 65536 in
theorem w_case : (Jvm.Cond.and given_1 narrow_1).before args0 about1 = true := by decide +kernel
theorem w_applies : (headSpec (Jvm.Cond.code x code maxLocals ret :: tables_1) room_1).applies x e0.platform about1 = true :=
  (Spec.applies_iff w_frames).mpr ⟨w_running, w_runnable, w_alone, w_named, w_hears, w_ripe, w_room, w_tables⟩
theorem atStart : AtStart classFile x code maxLocals ret World_1 tables_1 room_1 Calls_1 rest_1 Pre_1 launch0 p0 e0 about1 theMethod args0 below0 :=
  ⟨lists_1, trivial, launch0.admits_env _ _ _, launch0.least_env, fairChoices_fair.cas, fairChoices_fair.clock, w_frames, w_args, w_heap, w_applies, trivial, trivial, w_case⟩
end start1
theorem witness_1 : WitnessClaimed_1 := ⟨start1.p0, start1.e0, start1.about1, start1.theMethod, start1.args0, start1.below0, start1.atStart⟩
end Jvm.Pilot.@@N@@
