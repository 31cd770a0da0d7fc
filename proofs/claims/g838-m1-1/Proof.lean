import JvmDerived
import JvmDerived.Pilot.@@N@@Statement
import JvmDerived.Pilot.@@N@@Code
set_option linter.unusedVariables false
set_option linter.unusedSimpArgs false
namespace Jvm.Pilot.@@N@@
open Jvm Jvm.ClassFile Sem Op Lib Jvm.Free Jvm.Stand Jvm.LawKit Jvm.RoadKit Bundle Jvm.Pilot.@@N@@.Jvm.D
section Own
variable {p : Program} {l : Launch} {e : Env} {R : Room} {s : State} {m : MethodId} {args : Array Value} {below : List Frame} {meth : Method} {c : Code} {T : State} {locs : List Loc} {cells slots : Nat} {Z : State} {a0 : Array Value} {h h' : Heap} {Q : Option Value → Heap → List Loc → Prop} {kc ks n0 : Nat}
/-- from the state st the invocation ends as the contract asks -/
def Gl (p : Program) (e : Env) (below : List Frame) (s : State) (Q : Option Value → Heap → List Loc → Prop) (kc ks : Nat) (st : State) : Prop :=
  ∃ s₂ o, Steps p.tables e below st s₂ ∧ s₂.status = .running ∧ Ended s₂ below o ∧ ∃ v L, o = .returned v ∧ Q v s₂.heap L ∧ FrameEnd s o s₂ L kc ks
theorem Gl.st {a b : State} (h : ∀ t, Steps p.tables e below b t → Steps p.tables e below a t) (H : Gl p e below s Q kc ks b) : Gl p e below s Q kc ks a := by
  obtain ⟨s₂, o, h1, r⟩ := H
  exact ⟨s₂, o, h _ h1, r⟩
theorem Gl.cast {g g' : JFrame} (q : g = g') (H : Gl p e below s Q kc ks (T.setTop g')) : Gl p e below s Q kc ks (T.setTop g) := q ▸ H
theorem Gl.ret (X : Stand p l e R s m args below meth c T locs cells slots) {v : Option Value} (hv : meth.sig.returnType = none → v = none) (hlk : meth.locks = false) {g : State}
    (hst : ∀ fs, (∀ (f : JFrame) (acts : List Action), f.method = m → f.locked = none → f.entered = [] → (doReturn e (T.setTop f) acts v).1 = T.setFrames fs) → Steps p.tables e below g (T.setFrames fs))
    (hQ : Q v T.heap locs) (h1 : cells ≤ kc) (h2 : slots ≤ ks) : Gl p e below s Q kc ks g := by
  obtain ⟨fs, hr, hrun, hended, hW, hsame⟩ := X.leave (v := v) hv hlk
  exact ⟨_, _, hst fs hr, hrun, hended, _, _, rfl, hQ, ⟨_, rfl⟩, hW, hsame.mono h1 h2⟩
theorem Gl.retN (X : Stand p l e R s m args below meth c T locs cells slots) (hx : p.tables.exec = Jvm.exec) {pc : Nat} {Ls : Array Slot} {z : Int32} {t : FieldType} {rest : List Value} (hret : meth.sig.returnType = some t) (ht : t = .boolean ∨ t = .byte ∨ t = .char ∨ t = .short)
    (hd : decode c.code pc = .ok (.ireturn, 1)) (hlk : meth.locks = false) (h1 : cells ≤ kc) (h2 : slots ≤ ks) (hQ : Q (some (.int (nar t z))) T.heap locs) : Gl p e below s Q kc ks (T.setTop (mkF m pc Ls (.int z :: rest))) :=
  Gl.ret X (fun q => by rw [hret] at q; cases q) hlk (fun _ hr => Jvm.RoadKit.retN X hx hret ht hd hr) hQ h1 h2
theorem Gl.retI (X : Stand p l e R s m args below meth c T locs cells slots) (hx : p.tables.exec = Jvm.exec) {pc : Nat} {Ls : Array Slot} {z : Int32} {rest : List Value} (hret : meth.sig.returnType = some .int)
    (hd : decode c.code pc = .ok (.ireturn, 1)) (hlk : meth.locks = false) (h1 : cells ≤ kc) (h2 : slots ≤ ks) (hQ : Q (some (.int z)) T.heap locs) : Gl p e below s Q kc ks (T.setTop (mkF m pc Ls (.int z :: rest))) :=
  Gl.ret X (fun q => by rw [hret] at q; cases q) hlk (fun _ hr => retOut X hx hret rfl (Or.inl ⟨rfl, Or.inl rfl, _, rfl⟩) hd hr) hQ h1 h2
theorem Gl.retJ (X : Stand p l e R s m args below meth c T locs cells slots) (hx : p.tables.exec = Jvm.exec) {pc : Nat} {Ls : Array Slot} {z : Int64} {rest : List Value} (hret : meth.sig.returnType = some .long)
    (hd : decode c.code pc = .ok (.lreturn, 1)) (hlk : meth.locks = false) (h1 : cells ≤ kc) (h2 : slots ≤ ks) (hQ : Q (some (.long z)) T.heap locs) : Gl p e below s Q kc ks (T.setTop (mkF m pc Ls (.long z :: rest))) :=
  Gl.ret X (fun q => by rw [hret] at q; cases q) hlk (fun _ hr => retOut X hx hret rfl (Or.inr (Or.inl ⟨rfl, rfl, _, rfl⟩)) hd hr) hQ h1 h2
theorem Gl.retA (X : Stand p l e R s m args below meth c T locs cells slots) (hx : p.tables.exec = Jvm.exec) {pc : Nat} {Ls : Array Slot} {z : Addr} {t : FieldType} {rest : List Value} (hret : meth.sig.returnType = some (.array t))
    (hd : decode c.code pc = .ok (.areturn, 1)) (hlk : meth.locks = false) (h1 : cells ≤ kc) (h2 : slots ≤ ks) (hQ : Q (some (.ref z)) T.heap locs) : Gl p e below s Q kc ks (T.setTop (mkF m pc Ls (.ref z :: rest))) :=
  Gl.ret X (fun q => by rw [hret] at q; cases q) hlk (fun _ hr => retOut X hx hret rfl (Or.inr (Or.inr (Or.inr (Or.inr ⟨rfl, rfl, rfl⟩)))) hd hr) hQ h1 h2
theorem Gl.retV (X : Stand p l e R s m args below meth c T locs cells slots) (hx : p.tables.exec = Jvm.exec) {pc : Nat} {Ls : Array Slot} (hret : meth.sig.returnType = none)
    (hd : decode c.code pc = .ok (.return_, 1)) (hlk : meth.locks = false) (h1 : cells ≤ kc) (h2 : slots ≤ ks) (hQ : Q none T.heap locs) : Gl p e below s Q kc ks (T.setTop (mkF m pc Ls [])) :=
  Gl.ret X (fun _ => rfl) hlk (fun _ hr => X.returnOut hx hret hd hr) hQ h1 h2
/-- what a body that changes nothing leaves: the value w, the heap as it was -/
def QP (n0 : Nat) (h0 : Heap) (w : Value) (v : Option Value) (h : Heap) (L : List Loc) : Prop := v = some w ∧ Fr n0 L ∧ h = h0
/-- a static call by its contract -/
theorem Gl.callS (X : Stand p l e R s m args below meth c T locs cells slots) (hx : p.tables.exec = Jvm.exec) (hZ : Z.Warmed39 s.vm) {own : String} {index : Nat} {y : MethodName} {bytes : ByteArray} {maxL : Nat} {ret : Option FieldType} {rm : Room} {W : Nat} {as' : Array Value} {Qc : Option Value → Heap → List Loc → Prop}
    (hown : s.vm.findClass own = some m.cls) (w1 : (Cond.methodLink own index y).before a0 Z = true) (w2 : (Cond.static y).before a0 Z = true) (w3 : (Cond.initialized y.cls).before a0 Z = true) (w4 : (Cond.code y bytes maxL ret).before a0 Z = true)
    (hy : y.cls ≠ "java/lang/invoke/MethodHandle" ∧ y.cls ≠ "java/lang/invoke/VarHandle")
    (hM : MetFree l y (head1 [Cond.code y bytes maxL ret] rm) (fun a U => a = as' ∧ Z.Warmed39 U.vm ∧ U.heap = h) (fun _ _ _ _ _ => True) (fun _ U o U' => ∃ v L, o = .returned v ∧ Qc v U'.heap L ∧ FrameEnd U o U' L rm.cells rm.slots))
    (hf : rm.frames + 1 ≤ R.frames) (hl : W + (maxL + 11) + rm.locals ≤ R.locals) (eT : T.heap = h) (hc1 : cells + rm.cells ≤ R.cells) (hs1 : slots + rm.slots ≤ R.slots)
    {pc : Nat} {Ls : Array Slot} {stk argsL rest : List Value} (hsz : Ls.size = c.maxLocals) (hlen : ∀ sig, parseMethodDescriptor y.desc = some sig → argsL.length = sig.parameters.length) (hstk : stk = argsL.reverse ++ rest) (has : argsL.toArray = as')
    (hW : (rest.map fun v => v.category).sum ≤ W) (hd : decode c.code pc = .ok (.invokestatic index, 3))
    (K : ∀ (T' : State) (v : Option Value) (L : List Loc), Stand p l e R s m args below meth c T' (locs ++ L) (cells + rm.cells) (slots + rm.slots) → Qc v T'.heap L → Gl p e below s Q kc ks (T'.setTop (mkF m (pc + 3) Ls (v.toList ++ rest)))) :
    Gl p e below s Q kc ks (T.setTop (mkF m pc Ls stk)) := by
  obtain ⟨v, _, ⟨T', L', k', n'⟩, -, X', ⟨Lc, hQ, l1, y1, z1⟩, st⟩ := Jvm.LawKit.callS X hx (y := y) hown (mvT hZ w1) (mvT hZ w2) (mvT hZ w3) (mvT hZ w4) hy (backOf (W := W) hM hZ w4 w3 hf hl) (g := mkF m pc Ls stk) rfl hsz (argsL := argsL) (rest := rest) hlen hstk
    (by show 2 * 0 + _ ≤ _; rw [Nat.mul_zero, Nat.zero_add]; exact hW) hd (fun _ _ => ⟨has, eT, hc1, hs1⟩)
  dsimp only [Pt.U, Pt.locs, Pt.cells, Pt.slots] at X' l1 y1 z1 st hQ
  subst l1 y1 z1
  exact Gl.st (fun t k => st t k) (K T' v Lc X' hQ)
/-- a static call of a body that changes nothing -/
theorem Gl.callP (X : Stand p l e R s m args below meth c T locs cells slots) (hx : p.tables.exec = Jvm.exec) (hZ : Z.Warmed39 s.vm) {own : String} {index : Nat} {y : MethodName} {bytes : ByteArray} {maxL : Nat} {ret : Option FieldType} {fr lo W : Nat} {as' : Array Value} {w : Value}
    (hown : s.vm.findClass own = some m.cls) (w1 : (Cond.methodLink own index y).before a0 Z = true) (w2 : (Cond.static y).before a0 Z = true) (w3 : (Cond.initialized y.cls).before a0 Z = true) (w4 : (Cond.code y bytes maxL ret).before a0 Z = true)
    (hy : y.cls ≠ "java/lang/invoke/MethodHandle" ∧ y.cls ≠ "java/lang/invoke/VarHandle")
    (hM : MetFree l y (head1 [Cond.code y bytes maxL ret] ⟨fr, 0, 0, lo⟩) (fun a U => a = as' ∧ Z.Warmed39 U.vm ∧ U.heap = h) (fun _ _ _ _ _ => True) (fun _ U o U' => ∃ v L, o = .returned v ∧ QP n0 h w v U'.heap L ∧ FrameEnd U o U' L 0 0))
    (hf : fr + 1 ≤ R.frames) (hl : W + (maxL + 11) + lo ≤ R.locals) (eT : T.heap = h) (N : Fr n0 locs) (hc1 : cells ≤ R.cells) (hs1 : slots ≤ R.slots)
    {pc : Nat} {Ls : Array Slot} {stk argsL rest : List Value} (hsz : Ls.size = c.maxLocals) (hlen : ∀ sig, parseMethodDescriptor y.desc = some sig → argsL.length = sig.parameters.length) (hstk : stk = argsL.reverse ++ rest) (has : argsL.toArray = as')
    (hW : (rest.map fun v => v.category).sum ≤ W) (hd : decode c.code pc = .ok (.invokestatic index, 3))
    (K : ∀ (T' : State) (L : List Loc), Stand p l e R s m args below meth c T' L cells slots → T'.heap = h → Fr n0 L → Gl p e below s Q kc ks (T'.setTop (mkF m (pc + 3) Ls (w :: rest)))) :
    Gl p e below s Q kc ks (T.setTop (mkF m pc Ls stk)) :=
  Gl.callS (rm := ⟨fr, 0, 0, lo⟩) X hx hZ hown w1 w2 w3 w4 hy hM hf hl eT hc1 hs1 hsz hlen hstk has hW hd fun T' v L X' hq => by
    obtain ⟨rfl, N', e'⟩ := hq
    exact K T' _ X' e' (N.app N')
end Own
theorem own_ltI {x y : Int32} : x < y ↔ x.toInt < y.toInt := Int32.lt_iff_toInt_lt
theorem own_eqI {x y : Int32} : x = y ↔ x.toInt = y.toInt := ⟨fun h => h ▸ rfl, fun h => Int32.toInt_inj.mp h⟩
theorem own_ltJ {x y : Int64} : x < y ↔ x.toInt < y.toInt := Int64.lt_iff_toInt_lt
theorem own_eqJ {x y : Int64} : x = y ↔ x.toInt = y.toInt := ⟨fun h => h ▸ rfl, fun h => Int64.toInt_inj.mp h⟩
/-- a truth as the int that a boolean method returns -/
def own_b (b : Bool) : Int32 := if b then 1 else 0
theorem own_b1 {b : Bool} (h : b = true) : some (Value.int (nar .boolean 1)) = some (Value.int (own_b b)) := by subst h; rfl
theorem own_b0 {b : Bool} (h : b = false) : some (Value.int (nar .boolean 0)) = some (Value.int (own_b b)) := by subst h; rfl
theorem own_bn (b : Bool) : nar .boolean (own_b b) = own_b b := by cases b <;> rfl
theorem own_bt {b : Bool} (h : b = true) : ¬ own_b b = 0 := by subst h; decide
theorem own_bf {b : Bool} (h : ¬ b = true) : own_b b = 0 := by cases b with | true => exact absurd rfl h | false => rfl
def QL (n0 : Nat) (v : Option Value) (h : Heap) (L : List Loc) : Prop := v = some (.int 1) ∧ Fr n0 L
theorem own_pn0 : plainName "com/example/fiche/fiche/table/ItemKey" = true := by first | (simp [plainName, overriddenIn]; done) | decide +kernel
theorem own_pd0 : parseMethodDescriptor "([BI)I" = some ⟨[(.array .byte), .int], some .int⟩ := by decide +kernel
theorem own_pn1 : plainName "com/example/fiche/fiche/table/ItemKeyPartitionBytesLengthPinLaw" = true := by first | (simp [plainName, overriddenIn]; done) | decide +kernel
section OwnA
variable {p : Program} {l : Launch} {e : Env} {R : Room} {s : State} {m : MethodId} {args : Array Value} {below : List Frame} {meth : Method} {c : Code} {T : State} {locs : List Loc} {cells slots : Nat} {Z : State} {a0 : Array Value} {h h' : Heap} {Q : Option Value → Heap → List Loc → Prop} {kc ks n0 : Nat} {a b : Addr} {ty : FieldType} {vs : List Value}
/-- the array at a is of the kind ty and holds just vs -/
def Ar (Z : State) (h : Heap) (a : Addr) (ty : FieldType) (vs : List Value) : Prop := ∃ c : Cell, Arr Z h a c ty ∧ c.slots.toList = vs
theorem Ar.lt (F : Ar Z h a ty vs) : a < h.size := by obtain ⟨c, A, -⟩ := F; exact A.lt
theorem Ar.ext (F : Ar Z h a ty vs) (E : Ext h h') : Ar Z h' a ty vs := by obtain ⟨c, A, r⟩ := F; exact ⟨c, A.ext E, r⟩
theorem Ar.other {sl : Nat} {v : Value} (F : Ar Z h b ty vs) (W : Wr h h' a sl v) (q : b ≠ a) : Ar Z h' b ty vs := by obtain ⟨c, A, r⟩ := F; exact ⟨c, A.other W q, r⟩
theorem Ar.keep {ws : List Addr} (F : Ar Z h a ty vs) (K : Keep h h' ws) (q : a ∉ ws) : Ar Z h' a ty vs := by obtain ⟨c, A, r⟩ := F; exact ⟨c, ⟨K.2.1 a c A.1 q, A.2⟩, r⟩
theorem Ar.same {k : Nat} {v : Value} (F : Ar Z h a ty vs) (W : Wr h h' a k v) : Ar Z h' a ty (vs.set k v) := by
  obtain ⟨c, A, r⟩ := F
  exact ⟨c.setSlot k v, A.same W, by subst r; simp [Cell.setSlot]⟩
theorem own_clamp {j : Int32} {k : Nat} (hj : j.toInt = k) : j.toNatClampNeg = k ∧ ¬ j < 0 := by
  refine ⟨?_, fun q => ?_⟩
  · have : j.toNatClampNeg = j.toInt.toNat := rfl
    rw [this, hj]; rfl
  · have := own_ltI.mp q
    have h0 : (0 : Int32).toInt = 0 := by decide
    omega
theorem own_in {cl : Cell} {j : Int32} {k : Nat} (hj : j.toInt = k) (e : cl.slots.toList = vs) (hk : k < vs.length) : ¬ (j < 0 ∨ cl.slots.size ≤ j.toNatClampNeg) := by
  obtain ⟨h1, h2⟩ := own_clamp hj
  have : cl.slots.size = vs.length := by rw [← e]; simp
  rw [h1, this]
  exact fun q => q.elim h2 fun q => absurd q (by omega)
theorem own_at {cl : Cell} {j : Int32} {k : Nat} {v : Value} (hj : j.toInt = k) (e : cl.slots.toList = vs) (hv : vs[k]? = some v) : cl.slots[j.toNatClampNeg]? = some v := by
  rw [(own_clamp hj).1, ← Array.getElem?_toList, e]; exact hv
theorem own_len {k : Nat} {v : Value} (hv : vs[k]? = some v) : k < vs.length := (List.getElem?_eq_some_iff.mp hv).1
theorem Gl.caload (X : Stand p l e R s m args below meth c T locs cells slots) (hx : p.tables.exec = Jvm.exec) (hZ : Z.Warmed39 s.vm) (eT : T.heap = h) (A : Ar Z h a .char vs) {j : Int32} {k : Nat} {v : Value} (hj : j.toInt = k) (hv : vs[k]? = some v)
    {pc : Nat} {Ls : Array Slot} {rest : List Value} (hd : decode c.code pc = .ok (.caload, 1)) (K : Gl p e below s Q kc ks (T.setTop (mkF m (pc + 1) Ls (v :: rest)))) : Gl p e below s Q kc ks (T.setTop (mkF m pc Ls (.int j :: .ref a :: rest))) := by
  obtain ⟨cl, A, q⟩ := A
  exact Gl.st (fun t k => X.caload hx (by rw [eT]; exact A.1) (State.isArrayOf_alike hZ.alike A.2.1) A.2.2 (own_in hj q (own_len hv)) (own_at hj q hv) (g := mkF m pc Ls (.int j :: .ref a :: rest)) rfl rfl hd t k) K
theorem Gl.baload (X : Stand p l e R s m args below meth c T locs cells slots) (hx : p.tables.exec = Jvm.exec) (hZ : Z.Warmed39 s.vm) (eT : T.heap = h) (A : Ar Z h a .byte vs) {j : Int32} {k : Nat} {v : Value} (hj : j.toInt = k) (hv : vs[k]? = some v)
    {pc : Nat} {Ls : Array Slot} {rest : List Value} (hd : decode c.code pc = .ok (.baload, 1)) (K : Gl p e below s Q kc ks (T.setTop (mkF m (pc + 1) Ls (v :: rest)))) : Gl p e below s Q kc ks (T.setTop (mkF m pc Ls (.int j :: .ref a :: rest))) := by
  obtain ⟨cl, A, q⟩ := A
  exact Gl.st (fun t k => X.baloadBytes hx (by rw [eT]; exact A.1) (State.isArrayOf_alike hZ.alike A.2.1) A.2.2 (own_in hj q (own_len hv)) (own_at hj q hv) (g := mkF m pc Ls (.int j :: .ref a :: rest)) rfl rfl hd t k) K
theorem Gl.iaload (X : Stand p l e R s m args below meth c T locs cells slots) (hx : p.tables.exec = Jvm.exec) (hZ : Z.Warmed39 s.vm) (eT : T.heap = h) (A : Ar Z h a .int vs) {j : Int32} {k : Nat} {v : Value} (hj : j.toInt = k) (hv : vs[k]? = some v)
    {pc : Nat} {Ls : Array Slot} {rest : List Value} (hd : decode c.code pc = .ok (.iaload, 1)) (K : Gl p e below s Q kc ks (T.setTop (mkF m (pc + 1) Ls (v :: rest)))) : Gl p e below s Q kc ks (T.setTop (mkF m pc Ls (.int j :: .ref a :: rest))) := by
  obtain ⟨cl, A, q⟩ := A
  exact Gl.st (fun t k => X.iaload hx (by rw [eT]; exact A.1) (State.isArrayOf_alike hZ.alike A.2.1) A.2.2 (own_in hj q (own_len hv)) (own_at hj q hv) (g := mkF m pc Ls (.int j :: .ref a :: rest)) rfl rfl hd t k) K
theorem Gl.laload (X : Stand p l e R s m args below meth c T locs cells slots) (hx : p.tables.exec = Jvm.exec) (hZ : Z.Warmed39 s.vm) (eT : T.heap = h) (A : Ar Z h a .long vs) {j : Int32} {k : Nat} {v : Value} (hj : j.toInt = k) (hv : vs[k]? = some v)
    {pc : Nat} {Ls : Array Slot} {rest : List Value} (hd : decode c.code pc = .ok (.laload, 1)) (K : Gl p e below s Q kc ks (T.setTop (mkF m (pc + 1) Ls (v :: rest)))) : Gl p e below s Q kc ks (T.setTop (mkF m pc Ls (.int j :: .ref a :: rest))) := by
  obtain ⟨cl, A, q⟩ := A
  exact Gl.st (fun t k => X.laload hx (by rw [eT]; exact A.1) (State.isArrayOf_alike hZ.alike A.2.1) A.2.2 (own_in hj q (own_len hv)) (own_at hj q hv) (g := mkF m pc Ls (.int j :: .ref a :: rest)) rfl rfl hd t k) K
theorem Gl.alen (X : Stand p l e R s m args below meth c T locs cells slots) (hx : p.tables.exec = Jvm.exec) (hZ : Z.Warmed39 s.vm) (eT : T.heap = h) (A : Ar Z h a ty vs) {z : Int32} (hz : vs.length.toInt32 = z)
    {pc : Nat} {Ls : Array Slot} {rest : List Value} (hd : decode c.code pc = .ok (.arraylength, 1)) (K : Gl p e below s Q kc ks (T.setTop (mkF m (pc + 1) Ls (.int z :: rest)))) : Gl p e below s Q kc ks (T.setTop (mkF m pc Ls (.ref a :: rest))) := by
  obtain ⟨cl, A, q⟩ := A
  have e1 : cl.slots.size.toInt32 = z := by rw [← hz, ← q]; simp
  exact Gl.st (fun t k => X.arraylength hx (by rw [eT]; exact A.1) (State.isArrayOf_alike hZ.alike A.2.1) (g := mkF m pc Ls (.ref a :: rest)) rfl rfl hd t k) (by rw [e1]; exact K)
theorem Gl.castore (X : Stand p l e R s m args below meth c T locs cells slots) (hx : p.tables.exec = Jvm.exec) (hZ : Z.Warmed39 s.vm) (eT : T.heap = h) (A : Ar Z h a .char vs) (N : Fr n0 locs) (ga : n0 ≤ a) {j x : Int32} {k : Nat} (hj : j.toInt = k) (hk : k < vs.length)
    {pc : Nat} {Ls : Array Slot} {rest : List Value} (hd : decode c.code pc = .ok (.castore, 1))
    (K : ∀ (T' : State) (h' : Heap) (L : List Loc), Stand p l e R s m args below meth c T' L cells slots → T'.heap = h' → Fr n0 L → Wr h h' a k (.int (nar .char x)) → Ar Z h' a .char (vs.set k (.int (nar .char x))) → Gl p e below s Q kc ks (T'.setTop (mkF m (pc + 1) Ls rest))) :
    Gl p e below s Q kc ks (T.setTop (mkF m pc Ls (.int x :: .int j :: .ref a :: rest))) := by
  obtain ⟨cl, B, q⟩ := A
  obtain ⟨T', h', X', e', W', st⟩ := stC X hx hZ eT B (j := j) (x := x) (own_in hj q hk) (g := mkF m pc Ls (.int x :: .int j :: .ref a :: rest)) rfl rfl hd
  have N' := Fr.snoc X' N ga
  rw [(own_clamp hj).1] at W'
  exact Gl.st st (K T' h' _ X' e' N' W' (Ar.same ⟨cl, B, q⟩ W'))
theorem Gl.bastore (X : Stand p l e R s m args below meth c T locs cells slots) (hx : p.tables.exec = Jvm.exec) (hZ : Z.Warmed39 s.vm) (eT : T.heap = h) (A : Ar Z h a .byte vs) (N : Fr n0 locs) (ga : n0 ≤ a) {j x : Int32} {k : Nat} (hj : j.toInt = k) (hk : k < vs.length)
    {pc : Nat} {Ls : Array Slot} {rest : List Value} (hd : decode c.code pc = .ok (.bastore, 1))
    (K : ∀ (T' : State) (h' : Heap) (L : List Loc), Stand p l e R s m args below meth c T' L cells slots → T'.heap = h' → Fr n0 L → Wr h h' a k (.int (nar .byte x)) → Ar Z h' a .byte (vs.set k (.int (nar .byte x))) → Gl p e below s Q kc ks (T'.setTop (mkF m (pc + 1) Ls rest))) :
    Gl p e below s Q kc ks (T.setTop (mkF m pc Ls (.int x :: .int j :: .ref a :: rest))) := by
  obtain ⟨cl, B, q⟩ := A
  obtain ⟨T', h', X', e', W', st⟩ := stB X hx hZ eT B (j := j) (x := x) (own_in hj q hk) (g := mkF m pc Ls (.int x :: .int j :: .ref a :: rest)) rfl rfl hd
  have N' := Fr.snoc X' N ga
  rw [(own_clamp hj).1] at W'
  exact Gl.st st (K T' h' _ X' e' N' W' (Ar.same ⟨cl, B, q⟩ W'))
theorem Gl.iastore (X : Stand p l e R s m args below meth c T locs cells slots) (hx : p.tables.exec = Jvm.exec) (hZ : Z.Warmed39 s.vm) (eT : T.heap = h) (A : Ar Z h a .int vs) (N : Fr n0 locs) (ga : n0 ≤ a) {j x : Int32} {k : Nat} (hj : j.toInt = k) (hk : k < vs.length)
    {pc : Nat} {Ls : Array Slot} {rest : List Value} (hd : decode c.code pc = .ok (.iastore, 1))
    (K : ∀ (T' : State) (h' : Heap) (L : List Loc), Stand p l e R s m args below meth c T' L cells slots → T'.heap = h' → Fr n0 L → Wr h h' a k (.int x) → Ar Z h' a .int (vs.set k (.int x)) → Gl p e below s Q kc ks (T'.setTop (mkF m (pc + 1) Ls rest))) :
    Gl p e below s Q kc ks (T.setTop (mkF m pc Ls (.int x :: .int j :: .ref a :: rest))) := by
  obtain ⟨cl, B, q⟩ := A
  obtain ⟨T', h', X', e', W', st⟩ := stI X hx hZ eT B (j := j) (x := x) (own_in hj q hk) (g := mkF m pc Ls (.int x :: .int j :: .ref a :: rest)) rfl rfl hd
  have N' := Fr.snoc X' N ga
  rw [(own_clamp hj).1] at W'
  exact Gl.st st (K T' h' _ X' e' N' W' (Ar.same ⟨cl, B, q⟩ W'))
theorem Gl.lastore (X : Stand p l e R s m args below meth c T locs cells slots) (hx : p.tables.exec = Jvm.exec) (hZ : Z.Warmed39 s.vm) (eT : T.heap = h) (A : Ar Z h a .long vs) (N : Fr n0 locs) (ga : n0 ≤ a) {j : Int32} {x : Int64} {k : Nat} (hj : j.toInt = k) (hk : k < vs.length)
    {pc : Nat} {Ls : Array Slot} {rest : List Value} (hd : decode c.code pc = .ok (.lastore, 1))
    (K : ∀ (T' : State) (h' : Heap) (L : List Loc), Stand p l e R s m args below meth c T' L cells slots → T'.heap = h' → Fr n0 L → Wr h h' a k (.long x) → Ar Z h' a .long (vs.set k (.long x)) → Gl p e below s Q kc ks (T'.setTop (mkF m (pc + 1) Ls rest))) :
    Gl p e below s Q kc ks (T.setTop (mkF m pc Ls (.long x :: .int j :: .ref a :: rest))) := by
  obtain ⟨cl, B, q⟩ := A
  obtain ⟨T', h', X', e', W', st⟩ := stJ X hx hZ eT B (j := j) (x := x) (own_in hj q hk) (g := mkF m pc Ls (.long x :: .int j :: .ref a :: rest)) rfl rfl hd
  have N' := Fr.snoc X' N ga
  rw [(own_clamp hj).1] at W'
  exact Gl.st st (K T' h' _ X' e' N' W' (Ar.same ⟨cl, B, q⟩ W'))
theorem Gl.newA (X : Stand p l e R s m args below meth c T locs cells slots) (hx : p.tables.exec = Jvm.exec) (hZ : Z.Warmed39 s.vm) {aty : ArrayType} (w : (Cond.arrayClass (newarray.typeOf aty)).before a0 Z = true) (eT : T.heap = h) {n : Int32} {k cap : Nat} (hn : n.toInt = k) (hcap : k ≤ cap) (hb : cap * 8 ≤ 536870912) (hc : cells + 1 ≤ R.cells) (hl : slots + cap ≤ R.slots)
    {pc : Nat} {Ls : Array Slot} {rest : List Value} (hd : decode c.code pc = .ok (.newarray aty, 2))
    (K : ∀ (T' : State) (h' : Heap) (b : Addr), b = h.size → Stand p l e R s m args below meth c T' locs (cells + 1) (slots + cap) → T'.heap = h' → Ext h h' → Ar Z h' b (newarray.typeOf aty) (List.replicate k (defaultValue (newarray.typeOf aty))) → Gl p e below s Q kc ks (T'.setTop (mkF m (pc + 2) Ls (.ref b :: rest)))) :
    Gl p e below s Q kc ks (T.setTop (mkF m pc Ls (.int n :: rest))) := by
  obtain ⟨h1, h2⟩ := own_clamp hn
  obtain ⟨T', h', cA, X', e', E', A', st⟩ := newP X hx hZ w eT (g := mkF m pc Ls (.int n :: rest)) rfl hd rfl h2 (cap := cap) (by rw [h1]; exact hcap) hb hc hl
  exact Gl.st st (K T' h' _ rfl X' e' E' ⟨_, A', by simp [Jvm.RoadKit.newA, h1]⟩)
theorem Gl.getF (X : Stand p l e R s m args below meth c T locs cells slots) (hx : p.tables.exec = Jvm.exec) (hZ : Z.Warmed39 s.vm) {own O n d : String} {index : Nat} (hown : s.vm.findClass own = some m.cls) (w : (Cond.fieldLink own index O n d).before a0 Z = true) (eT : T.heap = h) {v : Value} (F : Fld Z h a O n d v)
    {pc : Nat} {Ls : Array Slot} {rest : List Value} (hd : decode c.code pc = .ok (.getfield index, 3))
    (K : ∀ (T' : State), Stand p l e R s m args below meth c T' locs cells slots → T'.heap = h → Gl p e below s Q kc ks (T'.setTop (mkF m (pc + 3) Ls (v :: rest)))) :
    Gl p e below s Q kc ks (T.setTop (mkF m pc Ls (.ref a :: rest))) := by
  obtain ⟨T', X', e', st⟩ := Jvm.RoadKit.getF X hx hZ hown (host := "") (Or.inl w) Via.refl eT F (g := mkF m pc Ls (.ref a :: rest)) rfl rfl hd
  exact Gl.st st (K T' X' e')
theorem Gl.putF (X : Stand p l e R s m args below meth c T locs cells slots) (hx : p.tables.exec = Jvm.exec) (hZ : Z.Warmed39 s.vm) {own O n d C : String} {index kk : Nat} {ty : FieldType} (hown : s.vm.findClass own = some m.cls) (w : (Cond.fieldLink own index O n d).before a0 Z = true) (eT : T.heap = h) {v old : Value} (F : Fld Z h a O n d old)
    (E : Exa Z h a C) (L : (Cond.lays C O n d).before a0 Z = true ∨ ((Cond.laysFinal C O n d).before a0 Z = true ∧ own = O ∧ meth.name = "<init>")) (wi : (Cond.instantiable C kk).before a0 Z = true) (hty : parseFieldDescriptor d = some ty) (hn : narrow ty v = v) (hf : fits ty v = true) (N : Fr n0 locs) (ga : n0 ≤ a)
    {pc : Nat} {Ls : Array Slot} {rest : List Value} (hd : decode c.code pc = .ok (.putfield index, 3))
    (K : ∀ (T' : State) (h' : Heap) (L : List Loc), Stand p l e R s m args below meth c T' L cells slots → T'.heap = h' → Fr n0 L → Wr h h' a (Jvm.RoadKit.slotOf Z O n d) v → Gl p e below s Q kc ks (T'.setTop (mkF m (pc + 3) Ls rest))) :
    Gl p e below s Q kc ks (T.setTop (mkF m pc Ls (v :: .ref a :: rest))) := by
  obtain ⟨T', h', X', e', W', st⟩ := Jvm.RoadKit.putF X hx hZ hown (host := "") (Or.inl w) Via.refl eT F E L wi hty hn hf (g := mkF m pc Ls (v :: .ref a :: rest)) rfl rfl hd
  exact Gl.st st (K T' h' _ X' e' (Fr.snoc X' N ga) W')
theorem Gl.newO (X : Stand p l e R s m args below meth c T locs cells slots) (hx : p.tables.exec = Jvm.exec) (hZ : Z.Warmed39 s.vm) {own C : String} {index n : Nat} (hown : s.vm.findClass own = some m.cls) (w : (Cond.classLink own index C).before a0 Z = true) (wi : (Cond.instantiable C n).before a0 Z = true) (wz : (Cond.initialized C).before a0 Z = true) (eT : T.heap = h) (hc : cells + 1 ≤ R.cells) (hl : slots + n ≤ R.slots)
    {pc : Nat} {Ls : Array Slot} {rest : List Value} (hd : decode c.code pc = .ok (.new index, 3))
    (K : ∀ (T' : State) (h' : Heap) (b : Addr), b = h.size → Stand p l e R s m args below meth c T' locs (cells + 1) (slots + n) → T'.heap = h' → Ext h h' → Exa Z h' b C → (∀ {O nm d : String} {ty : FieldType}, Laid Z a0 C O nm d → parseFieldDescriptor d = some ty → Fld Z h' b O nm d (defaultValue ty)) → Gl p e below s Q kc ks (T'.setTop (mkF m (pc + 3) Ls (.ref b :: rest)))) :
    Gl p e below s Q kc ks (T.setTop (mkF m pc Ls rest)) := by
  obtain ⟨T', h', X', e', E', A', D', -, st⟩ := Jvm.RoadKit.newO X hx hZ hown w wi wz eT (g := mkF m pc Ls rest) rfl hd hc hl
  exact Gl.st st (K T' h' _ rfl X' e' E' A' D')
/-- a step that a law of the library hands out as 'there is a state' with the heap as it was -/
theorem Gl.ex {g g0 : JFrame} (H : ∃ T', Stand p l e R s m args below meth c T' locs cells slots ∧ T'.heap = h ∧ ∀ target, Steps p.tables e below (T'.setTop g) target → Steps p.tables e below (T.setTop g0) target)
    (K : ∀ (T' : State), Stand p l e R s m args below meth c T' locs cells slots → T'.heap = h → Gl p e below s Q kc ks (T'.setTop g)) : Gl p e below s Q kc ks (T.setTop g0) := by
  obtain ⟨T', X', e', st⟩ := H
  exact Gl.st st (K T' X' e')
/-- a constructor by its contract -/
theorem Gl.callI (X : Stand p l e R s m args below meth c T locs cells slots) (hx : p.tables.exec = Jvm.exec) (hZ : Z.Warmed39 s.vm) {own : String} {index : Nat} {y : MethodName} {bytes : ByteArray} {maxL : Nat} {rm : Room} {W : Nat} {as' : Array Value} {Qc : Option Value → Heap → List Loc → Prop}
    (hy1 : y.name = "<init>") (hown : s.vm.findClass own = some m.cls) (w1 : (Cond.methodLink own index y).before a0 Z = true) (w2 : (Cond.instanceMethod y).before a0 Z = true) (w3 : (Cond.initialized y.cls).before a0 Z = true) (w4 : (Cond.code y bytes maxL none).before a0 Z = true)
    (hy : y.cls ≠ "java/lang/invoke/MethodHandle" ∧ y.cls ≠ "java/lang/invoke/VarHandle")
    (hM : MetFree l y (head1 [Cond.code y bytes maxL none] rm) (fun a U => a = as' ∧ Z.Warmed39 U.vm ∧ U.heap = h) (fun _ _ _ _ _ => True) (fun _ U o U' => ∃ v L, o = .returned v ∧ Qc v U'.heap L ∧ FrameEnd U o U' L rm.cells rm.slots))
    (hf : rm.frames + 1 ≤ R.frames) (hl : W + (maxL + 11) + rm.locals ≤ R.locals) (eT : T.heap = h) (hc1 : cells + rm.cells ≤ R.cells) (hs1 : slots + rm.slots ≤ R.slots)
    {pc : Nat} {Ls : Array Slot} {stk argsL rest : List Value} (hsz : Ls.size = c.maxLocals) (hlen : ∀ sig, parseMethodDescriptor y.desc = some sig → argsL.length = sig.parameters.length) (hstk : stk = argsL.reverse ++ .ref a :: rest) (has : (.ref a :: argsL).toArray = as')
    (hW : (rest.map fun v => v.category).sum ≤ W) (hd : decode c.code pc = .ok (.invokespecial index, 3))
    (K : ∀ (T' : State) (v : Option Value) (L : List Loc), Stand p l e R s m args below meth c T' (locs ++ L) (cells + rm.cells) (slots + rm.slots) → Qc v T'.heap L → Gl p e below s Q kc ks (T'.setTop (mkF m (pc + 3) Ls (v.toList ++ rest)))) :
    Gl p e below s Q kc ks (T.setTop (mkF m pc Ls stk)) := by
  obtain ⟨v, _, ⟨T', L', k', n'⟩, -, X', ⟨Lc, hQ, l1, y1, z1⟩, st⟩ := X.specialBack hx (y := y) hy1 hown (mvT hZ w1) (mvT hZ w2) (mvT hZ w4) hy (backOf (W := W) hM hZ w4 w3 hf hl) (g := mkF m pc Ls stk) rfl hsz (Steps.refl _) (a := a) (argsL := argsL) (rest := rest) hlen hstk
    (by show 2 * 0 + _ ≤ _; rw [Nat.mul_zero, Nat.zero_add]; exact hW) hd (fun _ _ => ⟨has, eT, hc1, hs1⟩)
  dsimp only [Pt.U, Pt.locs, Pt.cells, Pt.slots] at X' l1 y1 z1 st hQ
  subst l1 y1 z1
  exact Gl.st (fun t k => st.trans k) (K T' v Lc X' hQ)
/-- an instance method of the receiver's own class by its contract -/
theorem Gl.callV (X : Stand p l e R s m args below meth c T locs cells slots) (hx : p.tables.exec = Jvm.exec) (hZ : Z.Warmed39 s.vm) {own : String} {index : Nat} {y : MethodName} {bytes : ByteArray} {maxL : Nat} {ret : Option FieldType} {rm : Room} {W : Nat} {as' : Array Value} {Qc : Option Value → Heap → List Loc → Prop}
    (hown : s.vm.findClass own = some m.cls) (w1 : (Cond.methodLink own index y).before a0 Z = true) (w2 : (Cond.declares y).before a0 Z = true) (w5 : (Cond.selects y.cls y y).before a0 Z = true) (w6 : (Cond.instanceMethod y).before a0 Z = true) (w3 : (Cond.initialized y.cls).before a0 Z = true) (w4 : (Cond.code y bytes maxL ret).before a0 Z = true)
    (hy : y.cls ≠ "java/lang/invoke/MethodHandle" ∧ y.cls ≠ "java/lang/invoke/VarHandle")
    (hM : MetFree l y (head1 [Cond.code y bytes maxL ret] rm) (fun a U => a = as' ∧ Z.Warmed39 U.vm ∧ U.heap = h) (fun _ _ _ _ _ => True) (fun _ U o U' => ∃ v L, o = .returned v ∧ Qc v U'.heap L ∧ FrameEnd U o U' L rm.cells rm.slots))
    (hf : rm.frames + 1 ≤ R.frames) (hl : W + (maxL + 11) + rm.locals ≤ R.locals) (eT : T.heap = h) (E : Exa Z h a y.cls) (hc1 : cells + rm.cells ≤ R.cells) (hs1 : slots + rm.slots ≤ R.slots)
    {pc : Nat} {Ls : Array Slot} {stk argsL rest : List Value} (hsz : Ls.size = c.maxLocals) (hlen : ∀ sig, parseMethodDescriptor y.desc = some sig → argsL.length = sig.parameters.length) (hstk : stk = argsL.reverse ++ .ref a :: rest) (has : (.ref a :: argsL).toArray = as')
    (hW : (rest.map fun v => v.category).sum ≤ W) (hd : decode c.code pc = .ok (.invokevirtual index, 3))
    (K : ∀ (T' : State) (v : Option Value) (L : List Loc), Stand p l e R s m args below meth c T' (locs ++ L) (cells + rm.cells) (slots + rm.slots) → Qc v T'.heap L → Gl p e below s Q kc ks (T'.setTop (mkF m (pc + 3) Ls (v.toList ++ rest)))) :
    Gl p e below s Q kc ks (T.setTop (mkF m pc Ls stk)) := by
  obtain ⟨cq, kq, q1, q2, q3⟩ := isOf hZ eT E
  obtain ⟨v, _, ⟨T', L', k', n'⟩, -, X', ⟨Lc, hQ, l1, y1, z1⟩, st⟩ := X.virtualBack hx (y := y) (z := y) hown (mvT hZ w1) (mvT hZ w2) (notFace_of_selects (args := #[]) (mvT hZ w5)) (mvT hZ w5) (mvT hZ w6) hy (backOf (W := W) hM hZ w4 w3 hf hl) q1 q3 (g := mkF m pc Ls stk) rfl hsz (Steps.refl _) (argsL := argsL) (rest := rest) hlen hstk
    (by show 2 * 0 + _ ≤ _; rw [Nat.mul_zero, Nat.zero_add]; exact hW) hd (fun _ _ => ⟨has, eT, hc1, hs1⟩)
  dsimp only [Pt.U, Pt.locs, Pt.cells, Pt.slots] at X' l1 y1 z1 st hQ
  subst l1 y1 z1
  exact Gl.st (fun t k => st.trans k) (K T' v Lc X' hQ)
end OwnA

theorem own_key (z : Int32) : (2 : Int32) + ((((nar .byte (((z &&& (65535 : Int32)) / (256 : Int32)).toInt8.toInt32)) &&& (255 : Int32)) <<< ((8 : Int32) &&& 31)) ||| ((nar .byte (((z &&& (65535 : Int32)) - (((z &&& (65535 : Int32)) / (256 : Int32)) * (256 : Int32))).toInt8.toInt32)) &&& (255 : Int32))) = (z &&& (65535 : Int32)) + (2 : Int32) := by
  have hm : (z &&& (65535 : Int32)).toInt = z.toInt % (2 ^ 16 : Nat) := c_mask z 65535 16 (by decide) (by decide)
  generalize (z &&& (65535 : Int32)) = n at *
  have k256 : (256 : Int32).toInt = 256 := by decide
  have k2 : (2 : Int32).toInt = 2 := by decide
  have hd := (c_idiv n 256 256 k256 (by decide)).1 (by omega)
  generalize n / (256 : Int32) = hi at *
  have hmu := c_imul hi (256 : Int32)
  have rmu := rng32 (hi * (256 : Int32))
  rw [k256] at hmu
  have hsu := c_isub n (hi * (256 : Int32))
  have rsu := rng32 (n - hi * (256 : Int32))
  generalize n - hi * (256 : Int32) = lo at *
  generalize hi * (256 : Int32) = hm2 at *
  have b1 : nar .byte (hi.toInt8.toInt32) = hi.toInt8.toInt32.toInt8.toInt32 := rfl
  have b2 : nar .byte (lo.toInt8.toInt32) = lo.toInt8.toInt32.toInt8.toInt32 := rfl
  rw [b1, b2]
  have c1 := c_i2b hi
  have c2 := c_i2b hi.toInt8.toInt32
  have c3 := c_i2b lo
  have c4 := c_i2b lo.toInt8.toInt32
  generalize hi.toInt8.toInt32.toInt8.toInt32 = x at *
  generalize lo.toInt8.toInt32.toInt8.toInt32 = y at *
  have mx : (x &&& (255 : Int32)).toInt = x.toInt % (2 ^ 8 : Nat) := c_mask x 255 8 (by decide) (by decide)
  have my : (y &&& (255 : Int32)).toInt = y.toInt % (2 ^ 8 : Nat) := c_mask y 255 8 (by decide) (by decide)
  generalize (x &&& (255 : Int32)) = u at *
  generalize (y &&& (255 : Int32)) = v at *
  have sh := c_ishl u (8 : Int32) 8 (by decide)
  have rsh := rng32 (u <<< ((8 : Int32) &&& 31))
  generalize u <<< ((8 : Int32) &&& 31) = t at *
  have e1 : t.toInt = u.toInt * 256 := by omega
  have ho := c_or t v 8 (by decide) 256 rfl (by omega) (by omega) (by omega)
  have ro := rng32 (t ||| v)
  generalize t ||| v = o at *
  have s1 := c_iadd (2 : Int32) o
  have s2 := c_iadd n (2 : Int32)
  have r1 := rng32 ((2 : Int32) + o)
  have r2 := rng32 (n + (2 : Int32))
  apply own_eqI.mpr
  omega

theorem d1_0 : decode prog_26_method_8_code 0 = .ok (.iconst 2, 1) := by decide +kernel
theorem d1_1 : decode prog_26_method_8_code 1 = .ok (.aload_n 0, 1) := by decide +kernel
theorem d1_2 : decode prog_26_method_8_code 2 = .ok (.iload_n 1, 1) := by decide +kernel
theorem d1_3 : decode prog_26_method_8_code 3 = .ok (.baload, 1) := by decide +kernel
theorem d1_4 : decode prog_26_method_8_code 4 = .ok (.sipush 255, 3) := by decide +kernel
theorem d1_7 : decode prog_26_method_8_code 7 = .ok (.iand, 1) := by decide +kernel
theorem d1_8 : decode prog_26_method_8_code 8 = .ok (.bipush 8, 2) := by decide +kernel
theorem d1_10 : decode prog_26_method_8_code 10 = .ok (.ishl, 1) := by decide +kernel
theorem d1_11 : decode prog_26_method_8_code 11 = .ok (.aload_n 0, 1) := by decide +kernel
theorem d1_12 : decode prog_26_method_8_code 12 = .ok (.iload_n 1, 1) := by decide +kernel
theorem d1_13 : decode prog_26_method_8_code 13 = .ok (.iconst 1, 1) := by decide +kernel
theorem d1_14 : decode prog_26_method_8_code 14 = .ok (.iadd, 1) := by decide +kernel
theorem d1_15 : decode prog_26_method_8_code 15 = .ok (.baload, 1) := by decide +kernel
theorem d1_16 : decode prog_26_method_8_code 16 = .ok (.sipush 255, 3) := by decide +kernel
theorem d1_19 : decode prog_26_method_8_code 19 = .ok (.iand, 1) := by decide +kernel
theorem d1_20 : decode prog_26_method_8_code 20 = .ok (.ior, 1) := by decide +kernel
theorem d1_21 : decode prog_26_method_8_code 21 = .ok (.iadd, 1) := by decide +kernel
theorem d1_22 : decode prog_26_method_8_code 22 = .ok (.ireturn, 1) := by decide +kernel
theorem ef1 (m : MethodId) (a0_ : Addr) (z1 : Int32) : entryFrame m #[(.ref a0_), (.int z1)] 2 = mkF m 0 #[.val (.ref a0_), .val (.int z1)] [] := by first | (simp [entryFrame, mkF, argsToLocals, Value.category]; done) | rfl
set_option maxRecDepth 65536 in
set_option maxHeartbeats 40000000 in
theorem rm1 (l : Launch) (Z : State) (a0 : Array Value) (hw : ∀ d ∈ tables_1, d.before a0 Z = true) (ws : List Jvm.Cond) (a0_ : Addr) (z1 : Int32) (vs : List Value) (k : Nat) (x0 x1 : Int32) (h0 : Heap) (n0 : Nat) (Z0 : n0 ≤ h0.size) (A : Ar Z h0 a0_ .byte vs) (hj : z1.toInt = k) (hj1 : (z1 + (1 : Int32)).toInt = ((k + 1 : Nat) : Int)) (hv0 : vs[k]? = some (.int x0)) (hv1 : vs[k + 1]? = some (.int x1)) :
    MetFree l (⟨"com/example/fiche/fiche/table/ItemKey", "partitionBytesLength", "([BI)I"⟩ : MethodName) (head1 (Jvm.Cond.code (⟨"com/example/fiche/fiche/table/ItemKey", "partitionBytesLength", "([BI)I"⟩ : MethodName) prog_26_method_8_code 2 (some .int) :: ws) (⟨0, 0, 0, 0⟩ : Room)) (fun a U => a = #[(.ref a0_), (.int z1)] ∧ Z.Warmed39 U.vm ∧ U.heap = h0) (fun _ _ _ _ _ => True) (fun _ U o U' => ∃ v L, o = .returned v ∧ QP n0 h0 (.int ((2 : Int32) + (((x0 &&& (255 : Int32)) <<< ((8 : Int32) &&& 31)) ||| (x1 &&& (255 : Int32))))) v U'.heap L ∧ FrameEnd U o U' L 0 0) := by
  refine MetFree.of_bodySF (plainFor_of_name own_pn0) hisR ?_
  intro p e s m args below meth c s₁ Bd hml0 hP hK
  obtain ⟨rfl, hZ, hh⟩ := hP
  have hx := Bd.exec
  have hby := Bd.bytes
  have hml : c.maxLocals = 2 := hml0
  have hown : s.vm.findClass "com/example/fiche/fiche/table/ItemKey" = some m.cls := findClass_of_methodNamed Bd.named
  have hnm := (name_of_methodNamed Bd.named Bd.method).1
  have hlk : meth.locks = false := Bd.notSynchronized
  have hret := Bd.returns
  have X0 : Stand p l e (⟨0, 0, 0, 0⟩ : Room) s m #[(.ref a0_), (.int z1)] below meth c s₁ [] 0 0 := Stand.of_body Bd
  have e0 : s₁.heap = h0 := by rw [← hh, Bd.state]; rfl
  have N0 := Fr.nil n0
  have GOAL : Gl p e below s (QP n0 h0 (.int ((2 : Int32) + (((x0 &&& (255 : Int32)) <<< ((8 : Int32) &&& 31)) ||| (x1 &&& (255 : Int32)))))) 0 0 (s₁.setTop (entryFrame m #[(.ref a0_), (.int z1)] 2)) := by
    refine Gl.cast (ef1 m a0_ z1) ?_
    refine Gl.st (b := s₁.setTop (mkF m 1 #[.val (.ref a0_), .val (.int z1)] [(.int (2 : Int32))])) (fun tq kq => XS.iconst X0.here hx rfl (hb hby d1_0) kq) ?_
    refine Gl.st (b := s₁.setTop (mkF m 2 #[.val (.ref a0_), .val (.int z1)] [(.ref a0_), (.int (2 : Int32))])) (fun tq kq => XS.aloadN X0.here hx rfl (hb hby d1_1) rfl rfl kq) ?_
    refine Gl.st (b := s₁.setTop (mkF m 3 #[.val (.ref a0_), .val (.int z1)] [(.int z1), (.ref a0_), (.int (2 : Int32))])) (fun tq kq => XS.iloadN X0.here hx rfl (hb hby d1_2) rfl kq) ?_
    refine Gl.baload (k := k) (v := (.int x0)) X0 hx hZ e0 A hj hv0 (hb hby d1_3) ?_
    show Gl _ _ _ _ _ _ _ (s₁.setTop (mkF m 4 #[.val (.ref a0_), .val (.int z1)] [(.int x0), (.int (2 : Int32))]))
    refine Gl.st (b := s₁.setTop (mkF m 7 #[.val (.ref a0_), .val (.int z1)] [(.int (255 : Int32)), (.int x0), (.int (2 : Int32))])) (fun tq kq => XS.sipush X0.here hx rfl (hb hby d1_4) kq) ?_
    refine Gl.st (b := s₁.setTop (mkF m 8 #[.val (.ref a0_), .val (.int z1)] [(.int (x0 &&& (255 : Int32))), (.int (2 : Int32))])) (fun tq kq => XS.iand X0.here hx rfl (hb hby d1_7) rfl kq) ?_
    refine Gl.st (b := s₁.setTop (mkF m 10 #[.val (.ref a0_), .val (.int z1)] [(.int (8 : Int32)), (.int (x0 &&& (255 : Int32))), (.int (2 : Int32))])) (fun tq kq => XS.bipush X0.here hx rfl (hb hby d1_8) kq) ?_
    refine Gl.st (b := s₁.setTop (mkF m 11 #[.val (.ref a0_), .val (.int z1)] [(.int ((x0 &&& (255 : Int32)) <<< ((8 : Int32) &&& 31))), (.int (2 : Int32))])) (fun tq kq => XS.ishl X0.here hx rfl (hb hby d1_10) rfl kq) ?_
    refine Gl.st (b := s₁.setTop (mkF m 12 #[.val (.ref a0_), .val (.int z1)] [(.ref a0_), (.int ((x0 &&& (255 : Int32)) <<< ((8 : Int32) &&& 31))), (.int (2 : Int32))])) (fun tq kq => XS.aloadN X0.here hx rfl (hb hby d1_11) rfl rfl kq) ?_
    refine Gl.st (b := s₁.setTop (mkF m 13 #[.val (.ref a0_), .val (.int z1)] [(.int z1), (.ref a0_), (.int ((x0 &&& (255 : Int32)) <<< ((8 : Int32) &&& 31))), (.int (2 : Int32))])) (fun tq kq => XS.iloadN X0.here hx rfl (hb hby d1_12) rfl kq) ?_
    refine Gl.st (b := s₁.setTop (mkF m 14 #[.val (.ref a0_), .val (.int z1)] [(.int (1 : Int32)), (.int z1), (.ref a0_), (.int ((x0 &&& (255 : Int32)) <<< ((8 : Int32) &&& 31))), (.int (2 : Int32))])) (fun tq kq => XS.iconst X0.here hx rfl (hb hby d1_13) kq) ?_
    refine Gl.st (b := s₁.setTop (mkF m 15 #[.val (.ref a0_), .val (.int z1)] [(.int (z1 + (1 : Int32))), (.ref a0_), (.int ((x0 &&& (255 : Int32)) <<< ((8 : Int32) &&& 31))), (.int (2 : Int32))])) (fun tq kq => XS.iadd X0.here hx rfl (hb hby d1_14) rfl kq) ?_
    refine Gl.baload (k := (k + 1)) (v := (.int x1)) X0 hx hZ e0 A hj1 hv1 (hb hby d1_15) ?_
    show Gl _ _ _ _ _ _ _ (s₁.setTop (mkF m 16 #[.val (.ref a0_), .val (.int z1)] [(.int x1), (.int ((x0 &&& (255 : Int32)) <<< ((8 : Int32) &&& 31))), (.int (2 : Int32))]))
    refine Gl.st (b := s₁.setTop (mkF m 19 #[.val (.ref a0_), .val (.int z1)] [(.int (255 : Int32)), (.int x1), (.int ((x0 &&& (255 : Int32)) <<< ((8 : Int32) &&& 31))), (.int (2 : Int32))])) (fun tq kq => XS.sipush X0.here hx rfl (hb hby d1_16) kq) ?_
    refine Gl.st (b := s₁.setTop (mkF m 20 #[.val (.ref a0_), .val (.int z1)] [(.int (x1 &&& (255 : Int32))), (.int ((x0 &&& (255 : Int32)) <<< ((8 : Int32) &&& 31))), (.int (2 : Int32))])) (fun tq kq => XS.iand X0.here hx rfl (hb hby d1_19) rfl kq) ?_
    refine Gl.st (b := s₁.setTop (mkF m 21 #[.val (.ref a0_), .val (.int z1)] [(.int (((x0 &&& (255 : Int32)) <<< ((8 : Int32) &&& 31)) ||| (x1 &&& (255 : Int32)))), (.int (2 : Int32))])) (fun tq kq => XS.ior X0.here hx rfl (hb hby d1_20) rfl kq) ?_
    refine Gl.st (b := s₁.setTop (mkF m 22 #[.val (.ref a0_), .val (.int z1)] [(.int ((2 : Int32) + (((x0 &&& (255 : Int32)) <<< ((8 : Int32) &&& 31)) ||| (x1 &&& (255 : Int32)))))])) (fun tq kq => XS.iadd X0.here hx rfl (hb hby d1_21) rfl kq) ?_
    exact Gl.retI X0 hx hret (hb hby d1_22) hlk (by decide) (by decide) ⟨rfl, N0, e0⟩
  exact GOAL
theorem ef0 (m : MethodId) (z0 : Int32) (z1 : Int32) (z2 : Int32) (z3 : Int32) (z4 : Int32) : entryFrame m #[(.int z0), (.int z1), (.int z2), (.int z3), (.int z4)] maxLocals = mkF m 0 #[.val (.int z0), .val (.int z1), .val (.int z2), .val (.int z3), .val (.int z4), .unset, .unset, .unset, .unset, .unset, .unset] [] := by first | (simp [entryFrame, mkF, argsToLocals, Value.category, maxLocals]; done) | rfl
set_option maxRecDepth 65536 in
set_option maxHeartbeats 40000000 in
theorem rm0 (l : Launch) (Z : State) (a0 : Array Value) (hw : ∀ d ∈ tables_1, d.before a0 Z = true) (ws : List Jvm.Cond) (z0 : Int32) (z1 : Int32) (z2 : Int32) (z3 : Int32) (z4 : Int32)  (h0 : Heap) (n0 : Nat) (Z0 : n0 ≤ h0.size)  :
    MetFree l x (head1 (Jvm.Cond.code x code maxLocals ret :: ws) room_1) (fun a U => a = #[(.int z0), (.int z1), (.int z2), (.int z3), (.int z4)] ∧ Z.Warmed39 U.vm ∧ U.heap = h0) (fun _ _ _ _ _ => True) (fun _ U o U' => ∃ v L, o = .returned v ∧ QL n0 v U'.heap L ∧ FrameEnd U o U' L 1 5) := by
  refine MetFree.of_bodySF (plainFor_of_name own_pn1) hisR ?_
  intro p e s m args below meth c s₁ Bd hml0 hP hK
  obtain ⟨rfl, hZ, hh⟩ := hP
  have hx := Bd.exec
  have hby := Bd.bytes
  have hml : c.maxLocals = 11 := hml0
  have hown : s.vm.findClass "com/example/fiche/fiche/table/ItemKeyPartitionBytesLengthPinLaw" = some m.cls := findClass_of_methodNamed Bd.named
  have hnm := (name_of_methodNamed Bd.named Bd.method).1
  have hlk : meth.locks = false := Bd.notSynchronized
  have hret := Bd.returns
  have X0 : Stand p l e room_1 s m #[(.int z0), (.int z1), (.int z2), (.int z3), (.int z4)] below meth c s₁ [] 0 0 := Stand.of_body Bd
  have e0 : s₁.heap = h0 := by rw [← hh, Bd.state]; rfl
  have N0 := Fr.nil n0
  have GOAL : Gl p e below s (QL n0) 1 5 (s₁.setTop (entryFrame m #[(.int z0), (.int z1), (.int z2), (.int z3), (.int z4)] maxLocals)) := by
    refine Gl.cast (ef0 m z0 z1 z2 z3 z4) ?_
    refine Gl.st (b := s₁.setTop (mkF m 1 #[.val (.int z0), .val (.int z1), .val (.int z2), .val (.int z3), .val (.int z4), .unset, .unset, .unset, .unset, .unset, .unset] [(.int z0)])) (fun tq kq => XS.iloadN X0.here hx rfl (hb hby at_0) rfl kq) ?_
    refine Gl.st (b := s₁.setTop (mkF m 3 #[.val (.int z0), .val (.int z1), .val (.int z2), .val (.int z3), .val (.int z4), .unset, .unset, .unset, .unset, .unset, .unset] [(.int (65535 : Int32)), (.int z0)])) (fun tq kq => X0.ldcInt hx hown (mvT hZ (hw _ (List.mem_of_getElem? (i := 0) rfl))) (g := (mkF m 1 #[.val (.int z0), .val (.int z1), .val (.int z2), .val (.int z3), .val (.int z4), .unset, .unset, .unset, .unset, .unset, .unset] [(.int z0)])) rfl (hb hby at_1) tq kq) ?_
    refine Gl.st (b := s₁.setTop (mkF m 4 #[.val (.int z0), .val (.int z1), .val (.int z2), .val (.int z3), .val (.int z4), .unset, .unset, .unset, .unset, .unset, .unset] [(.int (z0 &&& (65535 : Int32)))])) (fun tq kq => XS.iand X0.here hx rfl (hb hby at_3) rfl kq) ?_
    refine Gl.st (b := s₁.setTop (mkF m 6 #[.val (.int z0), .val (.int z1), .val (.int z2), .val (.int z3), .val (.int z4), .val (.int (z0 &&& (65535 : Int32))), .unset, .unset, .unset, .unset, .unset] [])) (fun tq kq => XS.istore X0.here hx rfl (hb hby at_4) rfl (l' := #[.val (.int z0), .val (.int z1), .val (.int z2), .val (.int z3), .val (.int z4), .val (.int (z0 &&& (65535 : Int32))), .unset, .unset, .unset, .unset, .unset]) rfl kq) ?_
    refine Gl.st (b := s₁.setTop (mkF m 7 #[.val (.int z0), .val (.int z1), .val (.int z2), .val (.int z3), .val (.int z4), .val (.int (z0 &&& (65535 : Int32))), .unset, .unset, .unset, .unset, .unset] [(.int z1)])) (fun tq kq => XS.iloadN X0.here hx rfl (hb hby at_6) rfl kq) ?_
    refine Gl.st (b := s₁.setTop (mkF m 9 #[.val (.int z0), .val (.int z1), .val (.int z2), .val (.int z3), .val (.int z4), .val (.int (z0 &&& (65535 : Int32))), .unset, .unset, .unset, .unset, .unset] [(.int (2147483647 : Int32)), (.int z1)])) (fun tq kq => X0.ldcInt hx hown (mvT hZ (hw _ (List.mem_of_getElem? (i := 1) rfl))) (g := (mkF m 7 #[.val (.int z0), .val (.int z1), .val (.int z2), .val (.int z3), .val (.int z4), .val (.int (z0 &&& (65535 : Int32))), .unset, .unset, .unset, .unset, .unset] [(.int z1)])) rfl (hb hby at_7) tq kq) ?_
    refine Gl.st (b := s₁.setTop (mkF m 10 #[.val (.int z0), .val (.int z1), .val (.int z2), .val (.int z3), .val (.int z4), .val (.int (z0 &&& (65535 : Int32))), .unset, .unset, .unset, .unset, .unset] [(.int (z1 &&& (2147483647 : Int32)))])) (fun tq kq => XS.iand X0.here hx rfl (hb hby at_9) rfl kq) ?_
    refine Gl.st (b := s₁.setTop (mkF m 11 #[.val (.int z0), .val (.int z1), .val (.int z2), .val (.int z3), .val (.int z4), .val (.int (z0 &&& (65535 : Int32))), .unset, .unset, .unset, .unset, .unset] [(.int (4 : Int32)), (.int (z1 &&& (2147483647 : Int32)))])) (fun tq kq => XS.iconst X0.here hx rfl (hb hby at_10) kq) ?_
    refine Gl.st (b := s₁.setTop (mkF m 12 #[.val (.int z0), .val (.int z1), .val (.int z2), .val (.int z3), .val (.int z4), .val (.int (z0 &&& (65535 : Int32))), .unset, .unset, .unset, .unset, .unset] [(.int ((z1 &&& (2147483647 : Int32)) % (4 : Int32)))])) (fun tq kq => iremM (g := (mkF m 11 #[.val (.int z0), .val (.int z1), .val (.int z2), .val (.int z3), .val (.int z4), .val (.int (z0 &&& (65535 : Int32))), .unset, .unset, .unset, .unset, .unset] [(.int (4 : Int32)), (.int (z1 &&& (2147483647 : Int32)))])) X0 hx rfl (hb hby at_11) rfl (by decide) kq) ?_
    refine Gl.st (b := s₁.setTop (mkF m 14 #[.val (.int z0), .val (.int z1), .val (.int z2), .val (.int z3), .val (.int z4), .val (.int (z0 &&& (65535 : Int32))), .val (.int ((z1 &&& (2147483647 : Int32)) % (4 : Int32))), .unset, .unset, .unset, .unset] [])) (fun tq kq => XS.istore X0.here hx rfl (hb hby at_12) rfl (l' := #[.val (.int z0), .val (.int z1), .val (.int z2), .val (.int z3), .val (.int z4), .val (.int (z0 &&& (65535 : Int32))), .val (.int ((z1 &&& (2147483647 : Int32)) % (4 : Int32))), .unset, .unset, .unset, .unset]) rfl kq) ?_
    refine Gl.st (b := s₁.setTop (mkF m 15 #[.val (.int z0), .val (.int z1), .val (.int z2), .val (.int z3), .val (.int z4), .val (.int (z0 &&& (65535 : Int32))), .val (.int ((z1 &&& (2147483647 : Int32)) % (4 : Int32))), .unset, .unset, .unset, .unset] [(.int (5 : Int32))])) (fun tq kq => XS.iconst X0.here hx rfl (hb hby at_14) kq) ?_
    refine Gl.newA (k := 5) (cap := 5) X0 hx hZ (hw _ (List.mem_of_getElem? (i := 2) rfl)) e0 rfl (by decide) (by decide) (by decide) (by decide) (hb hby at_15) ?_
    intro T1 h1 b1 g1 X1 e1 E1 A1
    have AA1 : Ar Z h1 b1 .byte [(.int (0 : Int32)), (.int (0 : Int32)), (.int (0 : Int32)), (.int (0 : Int32)), (.int (0 : Int32))] := A1
    have G_b1 : n0 ≤ b1 := Nat.le_trans Z0 (Nat.le_of_eq g1.symm)
    have Z_1 : n0 ≤ h1.size := Nat.le_trans Z0 E1.1
    show Gl _ _ _ _ _ _ _ (T1.setTop (mkF m 17 #[.val (.int z0), .val (.int z1), .val (.int z2), .val (.int z3), .val (.int z4), .val (.int (z0 &&& (65535 : Int32))), .val (.int ((z1 &&& (2147483647 : Int32)) % (4 : Int32))), .unset, .unset, .unset, .unset] [(.ref b1)]))
    refine Gl.st (b := T1.setTop (mkF m 19 #[.val (.int z0), .val (.int z1), .val (.int z2), .val (.int z3), .val (.int z4), .val (.int (z0 &&& (65535 : Int32))), .val (.int ((z1 &&& (2147483647 : Int32)) % (4 : Int32))), .val (.ref b1), .unset, .unset, .unset] [])) (fun tq kq => XS.astore X1.here hx rfl (hb hby at_17) rfl rfl (l' := #[.val (.int z0), .val (.int z1), .val (.int z2), .val (.int z3), .val (.int z4), .val (.int (z0 &&& (65535 : Int32))), .val (.int ((z1 &&& (2147483647 : Int32)) % (4 : Int32))), .val (.ref b1), .unset, .unset, .unset]) rfl kq) ?_
    refine Gl.st (b := T1.setTop (mkF m 21 #[.val (.int z0), .val (.int z1), .val (.int z2), .val (.int z3), .val (.int z4), .val (.int (z0 &&& (65535 : Int32))), .val (.int ((z1 &&& (2147483647 : Int32)) % (4 : Int32))), .val (.ref b1), .unset, .unset, .unset] [(.ref b1)])) (fun tq kq => XS.aload X1.here hx rfl (hb hby at_19) rfl rfl kq) ?_
    refine Gl.st (b := T1.setTop (mkF m 22 #[.val (.int z0), .val (.int z1), .val (.int z2), .val (.int z3), .val (.int z4), .val (.int (z0 &&& (65535 : Int32))), .val (.int ((z1 &&& (2147483647 : Int32)) % (4 : Int32))), .val (.ref b1), .unset, .unset, .unset] [(.int (0 : Int32)), (.ref b1)])) (fun tq kq => XS.iconst X1.here hx rfl (hb hby at_21) kq) ?_
    refine Gl.st (b := T1.setTop (mkF m 23 #[.val (.int z0), .val (.int z1), .val (.int z2), .val (.int z3), .val (.int z4), .val (.int (z0 &&& (65535 : Int32))), .val (.int ((z1 &&& (2147483647 : Int32)) % (4 : Int32))), .val (.ref b1), .unset, .unset, .unset] [(.int z2), (.int (0 : Int32)), (.ref b1)])) (fun tq kq => XS.iloadN X1.here hx rfl (hb hby at_22) rfl kq) ?_
    refine Gl.st (b := T1.setTop (mkF m 24 #[.val (.int z0), .val (.int z1), .val (.int z2), .val (.int z3), .val (.int z4), .val (.int (z0 &&& (65535 : Int32))), .val (.int ((z1 &&& (2147483647 : Int32)) % (4 : Int32))), .val (.ref b1), .unset, .unset, .unset] [(.int (z2.toInt8.toInt32)), (.int (0 : Int32)), (.ref b1)])) (fun tq kq => XS.i2b X1.here hx rfl (hb hby at_23) rfl kq) ?_
    refine Gl.bastore (k := 0) X1 hx hZ e1 AA1 N0 G_b1 rfl (Nat.le_of_ble_eq_true rfl) (hb hby at_24) ?_
    intro T2 h2 L2 X2 e2 N2 W2 A2
    have AA2 : Ar Z h2 b1 .byte [(.int (nar .byte (z2.toInt8.toInt32))), (.int (0 : Int32)), (.int (0 : Int32)), (.int (0 : Int32)), (.int (0 : Int32))] := A2
    have Z_2 : n0 ≤ h2.size := Nat.le_trans Z_1 (Nat.le_of_eq W2.size.symm)
    show Gl _ _ _ _ _ _ _ (T2.setTop (mkF m 25 #[.val (.int z0), .val (.int z1), .val (.int z2), .val (.int z3), .val (.int z4), .val (.int (z0 &&& (65535 : Int32))), .val (.int ((z1 &&& (2147483647 : Int32)) % (4 : Int32))), .val (.ref b1), .unset, .unset, .unset] []))
    refine Gl.st (b := T2.setTop (mkF m 27 #[.val (.int z0), .val (.int z1), .val (.int z2), .val (.int z3), .val (.int z4), .val (.int (z0 &&& (65535 : Int32))), .val (.int ((z1 &&& (2147483647 : Int32)) % (4 : Int32))), .val (.ref b1), .unset, .unset, .unset] [(.ref b1)])) (fun tq kq => XS.aload X2.here hx rfl (hb hby at_25) rfl rfl kq) ?_
    refine Gl.st (b := T2.setTop (mkF m 28 #[.val (.int z0), .val (.int z1), .val (.int z2), .val (.int z3), .val (.int z4), .val (.int (z0 &&& (65535 : Int32))), .val (.int ((z1 &&& (2147483647 : Int32)) % (4 : Int32))), .val (.ref b1), .unset, .unset, .unset] [(.int (1 : Int32)), (.ref b1)])) (fun tq kq => XS.iconst X2.here hx rfl (hb hby at_27) kq) ?_
    refine Gl.st (b := T2.setTop (mkF m 29 #[.val (.int z0), .val (.int z1), .val (.int z2), .val (.int z3), .val (.int z4), .val (.int (z0 &&& (65535 : Int32))), .val (.int ((z1 &&& (2147483647 : Int32)) % (4 : Int32))), .val (.ref b1), .unset, .unset, .unset] [(.int z2), (.int (1 : Int32)), (.ref b1)])) (fun tq kq => XS.iloadN X2.here hx rfl (hb hby at_28) rfl kq) ?_
    refine Gl.st (b := T2.setTop (mkF m 31 #[.val (.int z0), .val (.int z1), .val (.int z2), .val (.int z3), .val (.int z4), .val (.int (z0 &&& (65535 : Int32))), .val (.int ((z1 &&& (2147483647 : Int32)) % (4 : Int32))), .val (.ref b1), .unset, .unset, .unset] [(.int (8 : Int32)), (.int z2), (.int (1 : Int32)), (.ref b1)])) (fun tq kq => XS.bipush X2.here hx rfl (hb hby at_29) kq) ?_
    refine Gl.st (b := T2.setTop (mkF m 32 #[.val (.int z0), .val (.int z1), .val (.int z2), .val (.int z3), .val (.int z4), .val (.int (z0 &&& (65535 : Int32))), .val (.int ((z1 &&& (2147483647 : Int32)) % (4 : Int32))), .val (.ref b1), .unset, .unset, .unset] [(.int ((z2.toUInt32 >>> ((8 : Int32) &&& 31).toUInt32).toInt32)), (.int (1 : Int32)), (.ref b1)])) (fun tq kq => XS.iushr X2.here hx rfl (hb hby at_31) rfl kq) ?_
    refine Gl.st (b := T2.setTop (mkF m 33 #[.val (.int z0), .val (.int z1), .val (.int z2), .val (.int z3), .val (.int z4), .val (.int (z0 &&& (65535 : Int32))), .val (.int ((z1 &&& (2147483647 : Int32)) % (4 : Int32))), .val (.ref b1), .unset, .unset, .unset] [(.int (((z2.toUInt32 >>> ((8 : Int32) &&& 31).toUInt32).toInt32).toInt8.toInt32)), (.int (1 : Int32)), (.ref b1)])) (fun tq kq => XS.i2b X2.here hx rfl (hb hby at_32) rfl kq) ?_
    refine Gl.bastore (k := 1) X2 hx hZ e2 AA2 N2 G_b1 rfl (Nat.le_of_ble_eq_true rfl) (hb hby at_33) ?_
    intro T3 h3 L3 X3 e3 N3 W3 A3
    have AA3 : Ar Z h3 b1 .byte [(.int (nar .byte (z2.toInt8.toInt32))), (.int (nar .byte (((z2.toUInt32 >>> ((8 : Int32) &&& 31).toUInt32).toInt32).toInt8.toInt32))), (.int (0 : Int32)), (.int (0 : Int32)), (.int (0 : Int32))] := A3
    have Z_3 : n0 ≤ h3.size := Nat.le_trans Z_2 (Nat.le_of_eq W3.size.symm)
    show Gl _ _ _ _ _ _ _ (T3.setTop (mkF m 34 #[.val (.int z0), .val (.int z1), .val (.int z2), .val (.int z3), .val (.int z4), .val (.int (z0 &&& (65535 : Int32))), .val (.int ((z1 &&& (2147483647 : Int32)) % (4 : Int32))), .val (.ref b1), .unset, .unset, .unset] []))
    refine Gl.st (b := T3.setTop (mkF m 36 #[.val (.int z0), .val (.int z1), .val (.int z2), .val (.int z3), .val (.int z4), .val (.int (z0 &&& (65535 : Int32))), .val (.int ((z1 &&& (2147483647 : Int32)) % (4 : Int32))), .val (.ref b1), .unset, .unset, .unset] [(.ref b1)])) (fun tq kq => XS.aload X3.here hx rfl (hb hby at_34) rfl rfl kq) ?_
    refine Gl.st (b := T3.setTop (mkF m 37 #[.val (.int z0), .val (.int z1), .val (.int z2), .val (.int z3), .val (.int z4), .val (.int (z0 &&& (65535 : Int32))), .val (.int ((z1 &&& (2147483647 : Int32)) % (4 : Int32))), .val (.ref b1), .unset, .unset, .unset] [(.int (2 : Int32)), (.ref b1)])) (fun tq kq => XS.iconst X3.here hx rfl (hb hby at_36) kq) ?_
    refine Gl.st (b := T3.setTop (mkF m 38 #[.val (.int z0), .val (.int z1), .val (.int z2), .val (.int z3), .val (.int z4), .val (.int (z0 &&& (65535 : Int32))), .val (.int ((z1 &&& (2147483647 : Int32)) % (4 : Int32))), .val (.ref b1), .unset, .unset, .unset] [(.int z3), (.int (2 : Int32)), (.ref b1)])) (fun tq kq => XS.iloadN X3.here hx rfl (hb hby at_37) rfl kq) ?_
    refine Gl.st (b := T3.setTop (mkF m 39 #[.val (.int z0), .val (.int z1), .val (.int z2), .val (.int z3), .val (.int z4), .val (.int (z0 &&& (65535 : Int32))), .val (.int ((z1 &&& (2147483647 : Int32)) % (4 : Int32))), .val (.ref b1), .unset, .unset, .unset] [(.int (z3.toInt8.toInt32)), (.int (2 : Int32)), (.ref b1)])) (fun tq kq => XS.i2b X3.here hx rfl (hb hby at_38) rfl kq) ?_
    refine Gl.bastore (k := 2) X3 hx hZ e3 AA3 N3 G_b1 rfl (Nat.le_of_ble_eq_true rfl) (hb hby at_39) ?_
    intro T4 h4 L4 X4 e4 N4 W4 A4
    have AA4 : Ar Z h4 b1 .byte [(.int (nar .byte (z2.toInt8.toInt32))), (.int (nar .byte (((z2.toUInt32 >>> ((8 : Int32) &&& 31).toUInt32).toInt32).toInt8.toInt32))), (.int (nar .byte (z3.toInt8.toInt32))), (.int (0 : Int32)), (.int (0 : Int32))] := A4
    have Z_4 : n0 ≤ h4.size := Nat.le_trans Z_3 (Nat.le_of_eq W4.size.symm)
    show Gl _ _ _ _ _ _ _ (T4.setTop (mkF m 40 #[.val (.int z0), .val (.int z1), .val (.int z2), .val (.int z3), .val (.int z4), .val (.int (z0 &&& (65535 : Int32))), .val (.int ((z1 &&& (2147483647 : Int32)) % (4 : Int32))), .val (.ref b1), .unset, .unset, .unset] []))
    refine Gl.st (b := T4.setTop (mkF m 42 #[.val (.int z0), .val (.int z1), .val (.int z2), .val (.int z3), .val (.int z4), .val (.int (z0 &&& (65535 : Int32))), .val (.int ((z1 &&& (2147483647 : Int32)) % (4 : Int32))), .val (.ref b1), .unset, .unset, .unset] [(.ref b1)])) (fun tq kq => XS.aload X4.here hx rfl (hb hby at_40) rfl rfl kq) ?_
    refine Gl.st (b := T4.setTop (mkF m 43 #[.val (.int z0), .val (.int z1), .val (.int z2), .val (.int z3), .val (.int z4), .val (.int (z0 &&& (65535 : Int32))), .val (.int ((z1 &&& (2147483647 : Int32)) % (4 : Int32))), .val (.ref b1), .unset, .unset, .unset] [(.int (3 : Int32)), (.ref b1)])) (fun tq kq => XS.iconst X4.here hx rfl (hb hby at_42) kq) ?_
    refine Gl.st (b := T4.setTop (mkF m 44 #[.val (.int z0), .val (.int z1), .val (.int z2), .val (.int z3), .val (.int z4), .val (.int (z0 &&& (65535 : Int32))), .val (.int ((z1 &&& (2147483647 : Int32)) % (4 : Int32))), .val (.ref b1), .unset, .unset, .unset] [(.int z3), (.int (3 : Int32)), (.ref b1)])) (fun tq kq => XS.iloadN X4.here hx rfl (hb hby at_43) rfl kq) ?_
    refine Gl.st (b := T4.setTop (mkF m 46 #[.val (.int z0), .val (.int z1), .val (.int z2), .val (.int z3), .val (.int z4), .val (.int (z0 &&& (65535 : Int32))), .val (.int ((z1 &&& (2147483647 : Int32)) % (4 : Int32))), .val (.ref b1), .unset, .unset, .unset] [(.int (8 : Int32)), (.int z3), (.int (3 : Int32)), (.ref b1)])) (fun tq kq => XS.bipush X4.here hx rfl (hb hby at_44) kq) ?_
    refine Gl.st (b := T4.setTop (mkF m 47 #[.val (.int z0), .val (.int z1), .val (.int z2), .val (.int z3), .val (.int z4), .val (.int (z0 &&& (65535 : Int32))), .val (.int ((z1 &&& (2147483647 : Int32)) % (4 : Int32))), .val (.ref b1), .unset, .unset, .unset] [(.int ((z3.toUInt32 >>> ((8 : Int32) &&& 31).toUInt32).toInt32)), (.int (3 : Int32)), (.ref b1)])) (fun tq kq => XS.iushr X4.here hx rfl (hb hby at_46) rfl kq) ?_
    refine Gl.st (b := T4.setTop (mkF m 48 #[.val (.int z0), .val (.int z1), .val (.int z2), .val (.int z3), .val (.int z4), .val (.int (z0 &&& (65535 : Int32))), .val (.int ((z1 &&& (2147483647 : Int32)) % (4 : Int32))), .val (.ref b1), .unset, .unset, .unset] [(.int (((z3.toUInt32 >>> ((8 : Int32) &&& 31).toUInt32).toInt32).toInt8.toInt32)), (.int (3 : Int32)), (.ref b1)])) (fun tq kq => XS.i2b X4.here hx rfl (hb hby at_47) rfl kq) ?_
    refine Gl.bastore (k := 3) X4 hx hZ e4 AA4 N4 G_b1 rfl (Nat.le_of_ble_eq_true rfl) (hb hby at_48) ?_
    intro T5 h5 L5 X5 e5 N5 W5 A5
    have AA5 : Ar Z h5 b1 .byte [(.int (nar .byte (z2.toInt8.toInt32))), (.int (nar .byte (((z2.toUInt32 >>> ((8 : Int32) &&& 31).toUInt32).toInt32).toInt8.toInt32))), (.int (nar .byte (z3.toInt8.toInt32))), (.int (nar .byte (((z3.toUInt32 >>> ((8 : Int32) &&& 31).toUInt32).toInt32).toInt8.toInt32))), (.int (0 : Int32))] := A5
    have Z_5 : n0 ≤ h5.size := Nat.le_trans Z_4 (Nat.le_of_eq W5.size.symm)
    show Gl _ _ _ _ _ _ _ (T5.setTop (mkF m 49 #[.val (.int z0), .val (.int z1), .val (.int z2), .val (.int z3), .val (.int z4), .val (.int (z0 &&& (65535 : Int32))), .val (.int ((z1 &&& (2147483647 : Int32)) % (4 : Int32))), .val (.ref b1), .unset, .unset, .unset] []))
    refine Gl.st (b := T5.setTop (mkF m 51 #[.val (.int z0), .val (.int z1), .val (.int z2), .val (.int z3), .val (.int z4), .val (.int (z0 &&& (65535 : Int32))), .val (.int ((z1 &&& (2147483647 : Int32)) % (4 : Int32))), .val (.ref b1), .unset, .unset, .unset] [(.ref b1)])) (fun tq kq => XS.aload X5.here hx rfl (hb hby at_49) rfl rfl kq) ?_
    refine Gl.st (b := T5.setTop (mkF m 52 #[.val (.int z0), .val (.int z1), .val (.int z2), .val (.int z3), .val (.int z4), .val (.int (z0 &&& (65535 : Int32))), .val (.int ((z1 &&& (2147483647 : Int32)) % (4 : Int32))), .val (.ref b1), .unset, .unset, .unset] [(.int (4 : Int32)), (.ref b1)])) (fun tq kq => XS.iconst X5.here hx rfl (hb hby at_51) kq) ?_
    refine Gl.st (b := T5.setTop (mkF m 54 #[.val (.int z0), .val (.int z1), .val (.int z2), .val (.int z3), .val (.int z4), .val (.int (z0 &&& (65535 : Int32))), .val (.int ((z1 &&& (2147483647 : Int32)) % (4 : Int32))), .val (.ref b1), .unset, .unset, .unset] [(.int z4), (.int (4 : Int32)), (.ref b1)])) (fun tq kq => XS.iload X5.here hx rfl (hb hby at_52) rfl kq) ?_
    refine Gl.st (b := T5.setTop (mkF m 55 #[.val (.int z0), .val (.int z1), .val (.int z2), .val (.int z3), .val (.int z4), .val (.int (z0 &&& (65535 : Int32))), .val (.int ((z1 &&& (2147483647 : Int32)) % (4 : Int32))), .val (.ref b1), .unset, .unset, .unset] [(.int (z4.toInt8.toInt32)), (.int (4 : Int32)), (.ref b1)])) (fun tq kq => XS.i2b X5.here hx rfl (hb hby at_54) rfl kq) ?_
    refine Gl.bastore (k := 4) X5 hx hZ e5 AA5 N5 G_b1 rfl (Nat.le_of_ble_eq_true rfl) (hb hby at_55) ?_
    intro T6 h6 L6 X6 e6 N6 W6 A6
    have AA6 : Ar Z h6 b1 .byte [(.int (nar .byte (z2.toInt8.toInt32))), (.int (nar .byte (((z2.toUInt32 >>> ((8 : Int32) &&& 31).toUInt32).toInt32).toInt8.toInt32))), (.int (nar .byte (z3.toInt8.toInt32))), (.int (nar .byte (((z3.toUInt32 >>> ((8 : Int32) &&& 31).toUInt32).toInt32).toInt8.toInt32))), (.int (nar .byte (z4.toInt8.toInt32)))] := A6
    have Z_6 : n0 ≤ h6.size := Nat.le_trans Z_5 (Nat.le_of_eq W6.size.symm)
    show Gl _ _ _ _ _ _ _ (T6.setTop (mkF m 56 #[.val (.int z0), .val (.int z1), .val (.int z2), .val (.int z3), .val (.int z4), .val (.int (z0 &&& (65535 : Int32))), .val (.int ((z1 &&& (2147483647 : Int32)) % (4 : Int32))), .val (.ref b1), .unset, .unset, .unset] []))
    refine Gl.st (b := T6.setTop (mkF m 58 #[.val (.int z0), .val (.int z1), .val (.int z2), .val (.int z3), .val (.int z4), .val (.int (z0 &&& (65535 : Int32))), .val (.int ((z1 &&& (2147483647 : Int32)) % (4 : Int32))), .val (.ref b1), .unset, .unset, .unset] [(.int (z0 &&& (65535 : Int32)))])) (fun tq kq => XS.iload X6.here hx rfl (hb hby at_56) rfl kq) ?_
    refine Gl.st (b := T6.setTop (mkF m 61 #[.val (.int z0), .val (.int z1), .val (.int z2), .val (.int z3), .val (.int z4), .val (.int (z0 &&& (65535 : Int32))), .val (.int ((z1 &&& (2147483647 : Int32)) % (4 : Int32))), .val (.ref b1), .unset, .unset, .unset] [(.int (256 : Int32)), (.int (z0 &&& (65535 : Int32)))])) (fun tq kq => XS.sipush X6.here hx rfl (hb hby at_58) kq) ?_
    refine Gl.st (b := T6.setTop (mkF m 62 #[.val (.int z0), .val (.int z1), .val (.int z2), .val (.int z3), .val (.int z4), .val (.int (z0 &&& (65535 : Int32))), .val (.int ((z1 &&& (2147483647 : Int32)) % (4 : Int32))), .val (.ref b1), .unset, .unset, .unset] [(.int ((z0 &&& (65535 : Int32)) / (256 : Int32)))])) (fun tq kq => XS.idiv X6.here hx rfl (hb hby at_61) rfl (by decide) kq) ?_
    refine Gl.st (b := T6.setTop (mkF m 64 #[.val (.int z0), .val (.int z1), .val (.int z2), .val (.int z3), .val (.int z4), .val (.int (z0 &&& (65535 : Int32))), .val (.int ((z1 &&& (2147483647 : Int32)) % (4 : Int32))), .val (.ref b1), .val (.int ((z0 &&& (65535 : Int32)) / (256 : Int32))), .unset, .unset] [])) (fun tq kq => XS.istore X6.here hx rfl (hb hby at_62) rfl (l' := #[.val (.int z0), .val (.int z1), .val (.int z2), .val (.int z3), .val (.int z4), .val (.int (z0 &&& (65535 : Int32))), .val (.int ((z1 &&& (2147483647 : Int32)) % (4 : Int32))), .val (.ref b1), .val (.int ((z0 &&& (65535 : Int32)) / (256 : Int32))), .unset, .unset]) rfl kq) ?_
    refine Gl.st (b := T6.setTop (mkF m 66 #[.val (.int z0), .val (.int z1), .val (.int z2), .val (.int z3), .val (.int z4), .val (.int (z0 &&& (65535 : Int32))), .val (.int ((z1 &&& (2147483647 : Int32)) % (4 : Int32))), .val (.ref b1), .val (.int ((z0 &&& (65535 : Int32)) / (256 : Int32))), .unset, .unset] [(.int (z0 &&& (65535 : Int32)))])) (fun tq kq => XS.iload X6.here hx rfl (hb hby at_64) rfl kq) ?_
    refine Gl.st (b := T6.setTop (mkF m 68 #[.val (.int z0), .val (.int z1), .val (.int z2), .val (.int z3), .val (.int z4), .val (.int (z0 &&& (65535 : Int32))), .val (.int ((z1 &&& (2147483647 : Int32)) % (4 : Int32))), .val (.ref b1), .val (.int ((z0 &&& (65535 : Int32)) / (256 : Int32))), .unset, .unset] [(.int ((z0 &&& (65535 : Int32)) / (256 : Int32))), (.int (z0 &&& (65535 : Int32)))])) (fun tq kq => XS.iload X6.here hx rfl (hb hby at_66) rfl kq) ?_
    refine Gl.st (b := T6.setTop (mkF m 71 #[.val (.int z0), .val (.int z1), .val (.int z2), .val (.int z3), .val (.int z4), .val (.int (z0 &&& (65535 : Int32))), .val (.int ((z1 &&& (2147483647 : Int32)) % (4 : Int32))), .val (.ref b1), .val (.int ((z0 &&& (65535 : Int32)) / (256 : Int32))), .unset, .unset] [(.int (256 : Int32)), (.int ((z0 &&& (65535 : Int32)) / (256 : Int32))), (.int (z0 &&& (65535 : Int32)))])) (fun tq kq => XS.sipush X6.here hx rfl (hb hby at_68) kq) ?_
    refine Gl.st (b := T6.setTop (mkF m 72 #[.val (.int z0), .val (.int z1), .val (.int z2), .val (.int z3), .val (.int z4), .val (.int (z0 &&& (65535 : Int32))), .val (.int ((z1 &&& (2147483647 : Int32)) % (4 : Int32))), .val (.ref b1), .val (.int ((z0 &&& (65535 : Int32)) / (256 : Int32))), .unset, .unset] [(.int (((z0 &&& (65535 : Int32)) / (256 : Int32)) * (256 : Int32))), (.int (z0 &&& (65535 : Int32)))])) (fun tq kq => XS.imul X6.here hx rfl (hb hby at_71) rfl kq) ?_
    refine Gl.st (b := T6.setTop (mkF m 73 #[.val (.int z0), .val (.int z1), .val (.int z2), .val (.int z3), .val (.int z4), .val (.int (z0 &&& (65535 : Int32))), .val (.int ((z1 &&& (2147483647 : Int32)) % (4 : Int32))), .val (.ref b1), .val (.int ((z0 &&& (65535 : Int32)) / (256 : Int32))), .unset, .unset] [(.int ((z0 &&& (65535 : Int32)) - (((z0 &&& (65535 : Int32)) / (256 : Int32)) * (256 : Int32))))])) (fun tq kq => XS.isub X6.here hx rfl (hb hby at_72) rfl kq) ?_
    refine Gl.st (b := T6.setTop (mkF m 75 #[.val (.int z0), .val (.int z1), .val (.int z2), .val (.int z3), .val (.int z4), .val (.int (z0 &&& (65535 : Int32))), .val (.int ((z1 &&& (2147483647 : Int32)) % (4 : Int32))), .val (.ref b1), .val (.int ((z0 &&& (65535 : Int32)) / (256 : Int32))), .val (.int ((z0 &&& (65535 : Int32)) - (((z0 &&& (65535 : Int32)) / (256 : Int32)) * (256 : Int32)))), .unset] [])) (fun tq kq => XS.istore X6.here hx rfl (hb hby at_73) rfl (l' := #[.val (.int z0), .val (.int z1), .val (.int z2), .val (.int z3), .val (.int z4), .val (.int (z0 &&& (65535 : Int32))), .val (.int ((z1 &&& (2147483647 : Int32)) % (4 : Int32))), .val (.ref b1), .val (.int ((z0 &&& (65535 : Int32)) / (256 : Int32))), .val (.int ((z0 &&& (65535 : Int32)) - (((z0 &&& (65535 : Int32)) / (256 : Int32)) * (256 : Int32)))), .unset]) rfl kq) ?_
    obtain ⟨fr, hfr⟩ : ∃ q, q = ((z1 &&& (2147483647 : Int32)) % (4 : Int32)) := ⟨_, rfl⟩
    rw [← hfr]
    show Gl _ _ _ _ _ _ _ (T6.setTop (mkF m 75 #[.val (.int z0), .val (.int z1), .val (.int z2), .val (.int z3), .val (.int z4), .val (.int (z0 &&& (65535 : Int32))), .val (.int fr), .val (.ref b1), .val (.int ((z0 &&& (65535 : Int32)) / (256 : Int32))), .val (.int ((z0 &&& (65535 : Int32)) - (((z0 &&& (65535 : Int32)) / (256 : Int32)) * (256 : Int32)))), .unset] []))
    have hm : (z1 &&& (2147483647 : Int32)).toInt = z1.toInt % (2 ^ 31 : Nat) := c_mask z1 2147483647 31 (by decide) (by decide)
    have hr := (c_irem (z1 &&& (2147483647 : Int32)) (4 : Int32) 4 (by decide)).1 (by omega)
    rw [← hfr] at hr
    have hcs_fr : fr.toInt = 0 ∨ fr.toInt = 1 ∨ fr.toInt = 2 ∨ fr.toInt = 3 := by omega
    have hcl_fr : fr = (0 : Int32) ∨ fr = (1 : Int32) ∨ fr = (2 : Int32) ∨ fr = (3 : Int32) := by
      rcases hcs_fr with q | q | q | q
      · exact Or.inl (own_eqI.mpr q)
      · exact Or.inr (Or.inl (own_eqI.mpr q))
      · exact Or.inr (Or.inr (Or.inl (own_eqI.mpr q)))
      · exact Or.inr (Or.inr (Or.inr ((own_eqI.mpr q))))
    clear hcs_fr
    rcases hcl_fr with rfl | rfl | rfl | rfl
    ·
      refine Gl.st (b := T6.setTop (mkF m 77 #[.val (.int z0), .val (.int z1), .val (.int z2), .val (.int z3), .val (.int z4), .val (.int (z0 &&& (65535 : Int32))), .val (.int (0 : Int32)), .val (.ref b1), .val (.int ((z0 &&& (65535 : Int32)) / (256 : Int32))), .val (.int ((z0 &&& (65535 : Int32)) - (((z0 &&& (65535 : Int32)) / (256 : Int32)) * (256 : Int32)))), .unset] [(.ref b1)])) (fun tq kq => XS.aload X6.here hx rfl (hb hby at_75) rfl rfl kq) ?_
      refine Gl.st (b := T6.setTop (mkF m 79 #[.val (.int z0), .val (.int z1), .val (.int z2), .val (.int z3), .val (.int z4), .val (.int (z0 &&& (65535 : Int32))), .val (.int (0 : Int32)), .val (.ref b1), .val (.int ((z0 &&& (65535 : Int32)) / (256 : Int32))), .val (.int ((z0 &&& (65535 : Int32)) - (((z0 &&& (65535 : Int32)) / (256 : Int32)) * (256 : Int32)))), .unset] [(.int (0 : Int32)), (.ref b1)])) (fun tq kq => XS.iload X6.here hx rfl (hb hby at_77) rfl kq) ?_
      refine Gl.st (b := T6.setTop (mkF m 81 #[.val (.int z0), .val (.int z1), .val (.int z2), .val (.int z3), .val (.int z4), .val (.int (z0 &&& (65535 : Int32))), .val (.int (0 : Int32)), .val (.ref b1), .val (.int ((z0 &&& (65535 : Int32)) / (256 : Int32))), .val (.int ((z0 &&& (65535 : Int32)) - (((z0 &&& (65535 : Int32)) / (256 : Int32)) * (256 : Int32)))), .unset] [(.int ((z0 &&& (65535 : Int32)) / (256 : Int32))), (.int (0 : Int32)), (.ref b1)])) (fun tq kq => XS.iload X6.here hx rfl (hb hby at_79) rfl kq) ?_
      refine Gl.st (b := T6.setTop (mkF m 82 #[.val (.int z0), .val (.int z1), .val (.int z2), .val (.int z3), .val (.int z4), .val (.int (z0 &&& (65535 : Int32))), .val (.int (0 : Int32)), .val (.ref b1), .val (.int ((z0 &&& (65535 : Int32)) / (256 : Int32))), .val (.int ((z0 &&& (65535 : Int32)) - (((z0 &&& (65535 : Int32)) / (256 : Int32)) * (256 : Int32)))), .unset] [(.int (((z0 &&& (65535 : Int32)) / (256 : Int32)).toInt8.toInt32)), (.int (0 : Int32)), (.ref b1)])) (fun tq kq => XS.i2b X6.here hx rfl (hb hby at_81) rfl kq) ?_
      refine Gl.bastore (k := 0) X6 hx hZ e6 AA6 N6 G_b1 rfl (Nat.le_of_ble_eq_true rfl) (hb hby at_82) ?_
      intro T7 h7 L7 X7 e7 N7 W7 A7
      have AA7 : Ar Z h7 b1 .byte [(.int (nar .byte (((z0 &&& (65535 : Int32)) / (256 : Int32)).toInt8.toInt32))), (.int (nar .byte (((z2.toUInt32 >>> ((8 : Int32) &&& 31).toUInt32).toInt32).toInt8.toInt32))), (.int (nar .byte (z3.toInt8.toInt32))), (.int (nar .byte (((z3.toUInt32 >>> ((8 : Int32) &&& 31).toUInt32).toInt32).toInt8.toInt32))), (.int (nar .byte (z4.toInt8.toInt32)))] := A7
      have Z_7 : n0 ≤ h7.size := Nat.le_trans Z_6 (Nat.le_of_eq W7.size.symm)
      show Gl _ _ _ _ _ _ _ (T7.setTop (mkF m 83 #[.val (.int z0), .val (.int z1), .val (.int z2), .val (.int z3), .val (.int z4), .val (.int (z0 &&& (65535 : Int32))), .val (.int (0 : Int32)), .val (.ref b1), .val (.int ((z0 &&& (65535 : Int32)) / (256 : Int32))), .val (.int ((z0 &&& (65535 : Int32)) - (((z0 &&& (65535 : Int32)) / (256 : Int32)) * (256 : Int32)))), .unset] []))
      refine Gl.st (b := T7.setTop (mkF m 85 #[.val (.int z0), .val (.int z1), .val (.int z2), .val (.int z3), .val (.int z4), .val (.int (z0 &&& (65535 : Int32))), .val (.int (0 : Int32)), .val (.ref b1), .val (.int ((z0 &&& (65535 : Int32)) / (256 : Int32))), .val (.int ((z0 &&& (65535 : Int32)) - (((z0 &&& (65535 : Int32)) / (256 : Int32)) * (256 : Int32)))), .unset] [(.ref b1)])) (fun tq kq => XS.aload X7.here hx rfl (hb hby at_83) rfl rfl kq) ?_
      refine Gl.st (b := T7.setTop (mkF m 87 #[.val (.int z0), .val (.int z1), .val (.int z2), .val (.int z3), .val (.int z4), .val (.int (z0 &&& (65535 : Int32))), .val (.int (0 : Int32)), .val (.ref b1), .val (.int ((z0 &&& (65535 : Int32)) / (256 : Int32))), .val (.int ((z0 &&& (65535 : Int32)) - (((z0 &&& (65535 : Int32)) / (256 : Int32)) * (256 : Int32)))), .unset] [(.int (0 : Int32)), (.ref b1)])) (fun tq kq => XS.iload X7.here hx rfl (hb hby at_85) rfl kq) ?_
      refine Gl.st (b := T7.setTop (mkF m 88 #[.val (.int z0), .val (.int z1), .val (.int z2), .val (.int z3), .val (.int z4), .val (.int (z0 &&& (65535 : Int32))), .val (.int (0 : Int32)), .val (.ref b1), .val (.int ((z0 &&& (65535 : Int32)) / (256 : Int32))), .val (.int ((z0 &&& (65535 : Int32)) - (((z0 &&& (65535 : Int32)) / (256 : Int32)) * (256 : Int32)))), .unset] [(.int (1 : Int32)), (.int (0 : Int32)), (.ref b1)])) (fun tq kq => XS.iconst X7.here hx rfl (hb hby at_87) kq) ?_
      refine Gl.st (b := T7.setTop (mkF m 89 #[.val (.int z0), .val (.int z1), .val (.int z2), .val (.int z3), .val (.int z4), .val (.int (z0 &&& (65535 : Int32))), .val (.int (0 : Int32)), .val (.ref b1), .val (.int ((z0 &&& (65535 : Int32)) / (256 : Int32))), .val (.int ((z0 &&& (65535 : Int32)) - (((z0 &&& (65535 : Int32)) / (256 : Int32)) * (256 : Int32)))), .unset] [(.int (1 : Int32)), (.ref b1)])) (fun tq kq => XS.iadd X7.here hx rfl (hb hby at_88) rfl kq) ?_
      refine Gl.st (b := T7.setTop (mkF m 91 #[.val (.int z0), .val (.int z1), .val (.int z2), .val (.int z3), .val (.int z4), .val (.int (z0 &&& (65535 : Int32))), .val (.int (0 : Int32)), .val (.ref b1), .val (.int ((z0 &&& (65535 : Int32)) / (256 : Int32))), .val (.int ((z0 &&& (65535 : Int32)) - (((z0 &&& (65535 : Int32)) / (256 : Int32)) * (256 : Int32)))), .unset] [(.int ((z0 &&& (65535 : Int32)) - (((z0 &&& (65535 : Int32)) / (256 : Int32)) * (256 : Int32)))), (.int (1 : Int32)), (.ref b1)])) (fun tq kq => XS.iload X7.here hx rfl (hb hby at_89) rfl kq) ?_
      refine Gl.st (b := T7.setTop (mkF m 92 #[.val (.int z0), .val (.int z1), .val (.int z2), .val (.int z3), .val (.int z4), .val (.int (z0 &&& (65535 : Int32))), .val (.int (0 : Int32)), .val (.ref b1), .val (.int ((z0 &&& (65535 : Int32)) / (256 : Int32))), .val (.int ((z0 &&& (65535 : Int32)) - (((z0 &&& (65535 : Int32)) / (256 : Int32)) * (256 : Int32)))), .unset] [(.int (((z0 &&& (65535 : Int32)) - (((z0 &&& (65535 : Int32)) / (256 : Int32)) * (256 : Int32))).toInt8.toInt32)), (.int (1 : Int32)), (.ref b1)])) (fun tq kq => XS.i2b X7.here hx rfl (hb hby at_91) rfl kq) ?_
      refine Gl.bastore (k := 1) X7 hx hZ e7 AA7 N7 G_b1 rfl (Nat.le_of_ble_eq_true rfl) (hb hby at_92) ?_
      intro T8 h8 L8 X8 e8 N8 W8 A8
      have AA8 : Ar Z h8 b1 .byte [(.int (nar .byte (((z0 &&& (65535 : Int32)) / (256 : Int32)).toInt8.toInt32))), (.int (nar .byte (((z0 &&& (65535 : Int32)) - (((z0 &&& (65535 : Int32)) / (256 : Int32)) * (256 : Int32))).toInt8.toInt32))), (.int (nar .byte (z3.toInt8.toInt32))), (.int (nar .byte (((z3.toUInt32 >>> ((8 : Int32) &&& 31).toUInt32).toInt32).toInt8.toInt32))), (.int (nar .byte (z4.toInt8.toInt32)))] := A8
      have Z_8 : n0 ≤ h8.size := Nat.le_trans Z_7 (Nat.le_of_eq W8.size.symm)
      show Gl _ _ _ _ _ _ _ (T8.setTop (mkF m 93 #[.val (.int z0), .val (.int z1), .val (.int z2), .val (.int z3), .val (.int z4), .val (.int (z0 &&& (65535 : Int32))), .val (.int (0 : Int32)), .val (.ref b1), .val (.int ((z0 &&& (65535 : Int32)) / (256 : Int32))), .val (.int ((z0 &&& (65535 : Int32)) - (((z0 &&& (65535 : Int32)) / (256 : Int32)) * (256 : Int32)))), .unset] []))
      refine Gl.st (b := T8.setTop (mkF m 95 #[.val (.int z0), .val (.int z1), .val (.int z2), .val (.int z3), .val (.int z4), .val (.int (z0 &&& (65535 : Int32))), .val (.int (0 : Int32)), .val (.ref b1), .val (.int ((z0 &&& (65535 : Int32)) / (256 : Int32))), .val (.int ((z0 &&& (65535 : Int32)) - (((z0 &&& (65535 : Int32)) / (256 : Int32)) * (256 : Int32)))), .unset] [(.ref b1)])) (fun tq kq => XS.aload X8.here hx rfl (hb hby at_93) rfl rfl kq) ?_
      refine Gl.st (b := T8.setTop (mkF m 97 #[.val (.int z0), .val (.int z1), .val (.int z2), .val (.int z3), .val (.int z4), .val (.int (z0 &&& (65535 : Int32))), .val (.int (0 : Int32)), .val (.ref b1), .val (.int ((z0 &&& (65535 : Int32)) / (256 : Int32))), .val (.int ((z0 &&& (65535 : Int32)) - (((z0 &&& (65535 : Int32)) / (256 : Int32)) * (256 : Int32)))), .unset] [(.int (0 : Int32)), (.ref b1)])) (fun tq kq => XS.iload X8.here hx rfl (hb hby at_95) rfl kq) ?_
      refine Gl.callS (W := 0) (argsL := [(.ref b1), (.int (0 : Int32))]) (rest := []) X8 hx hZ hown (hw _ (List.mem_of_getElem? (i := 3) rfl)) (hw _ (List.mem_of_getElem? (i := 4) rfl)) (hw _ (List.mem_of_getElem? (i := 5) rfl)) (hw _ (List.mem_of_getElem? (i := 6) rfl)) (by decide) (rm1 l Z a0 hw [] b1 (0 : Int32) [(.int (nar .byte (((z0 &&& (65535 : Int32)) / (256 : Int32)).toInt8.toInt32))), (.int (nar .byte (((z0 &&& (65535 : Int32)) - (((z0 &&& (65535 : Int32)) / (256 : Int32)) * (256 : Int32))).toInt8.toInt32))), (.int (nar .byte (z3.toInt8.toInt32))), (.int (nar .byte (((z3.toUInt32 >>> ((8 : Int32) &&& 31).toUInt32).toInt32).toInt8.toInt32))), (.int (nar .byte (z4.toInt8.toInt32)))] 0 (nar .byte (((z0 &&& (65535 : Int32)) / (256 : Int32)).toInt8.toInt32)) (nar .byte (((z0 &&& (65535 : Int32)) - (((z0 &&& (65535 : Int32)) / (256 : Int32)) * (256 : Int32))).toInt8.toInt32)) h8 n0 Z_8 AA8 rfl rfl rfl rfl) (by decide) (by decide) e8 (by decide) (by decide) (by rw [hml]; rfl) (lenOf own_pd0 rfl) rfl rfl (Nat.le_of_eq rfl) (hb hby at_97) ?_
      intro T9 v9 L9 X9 hQ9
      obtain ⟨rfl, N9q, e9q⟩ := hQ9
      have N9 := N8.app N9q
      show Gl _ _ _ _ _ _ _ (T9.setTop (mkF m 100 #[.val (.int z0), .val (.int z1), .val (.int z2), .val (.int z3), .val (.int z4), .val (.int (z0 &&& (65535 : Int32))), .val (.int (0 : Int32)), .val (.ref b1), .val (.int ((z0 &&& (65535 : Int32)) / (256 : Int32))), .val (.int ((z0 &&& (65535 : Int32)) - (((z0 &&& (65535 : Int32)) / (256 : Int32)) * (256 : Int32)))), .unset] [(.int ((2 : Int32) + ((((nar .byte (((z0 &&& (65535 : Int32)) / (256 : Int32)).toInt8.toInt32)) &&& (255 : Int32)) <<< ((8 : Int32) &&& 31)) ||| ((nar .byte (((z0 &&& (65535 : Int32)) - (((z0 &&& (65535 : Int32)) / (256 : Int32)) * (256 : Int32))).toInt8.toInt32)) &&& (255 : Int32)))))]))
      refine Gl.st (b := T9.setTop (mkF m 102 #[.val (.int z0), .val (.int z1), .val (.int z2), .val (.int z3), .val (.int z4), .val (.int (z0 &&& (65535 : Int32))), .val (.int (0 : Int32)), .val (.ref b1), .val (.int ((z0 &&& (65535 : Int32)) / (256 : Int32))), .val (.int ((z0 &&& (65535 : Int32)) - (((z0 &&& (65535 : Int32)) / (256 : Int32)) * (256 : Int32)))), .val (.int ((2 : Int32) + ((((nar .byte (((z0 &&& (65535 : Int32)) / (256 : Int32)).toInt8.toInt32)) &&& (255 : Int32)) <<< ((8 : Int32) &&& 31)) ||| ((nar .byte (((z0 &&& (65535 : Int32)) - (((z0 &&& (65535 : Int32)) / (256 : Int32)) * (256 : Int32))).toInt8.toInt32)) &&& (255 : Int32)))))] [])) (fun tq kq => XS.istore X9.here hx rfl (hb hby at_100) rfl (l' := #[.val (.int z0), .val (.int z1), .val (.int z2), .val (.int z3), .val (.int z4), .val (.int (z0 &&& (65535 : Int32))), .val (.int (0 : Int32)), .val (.ref b1), .val (.int ((z0 &&& (65535 : Int32)) / (256 : Int32))), .val (.int ((z0 &&& (65535 : Int32)) - (((z0 &&& (65535 : Int32)) / (256 : Int32)) * (256 : Int32)))), .val (.int ((2 : Int32) + ((((nar .byte (((z0 &&& (65535 : Int32)) / (256 : Int32)).toInt8.toInt32)) &&& (255 : Int32)) <<< ((8 : Int32) &&& 31)) ||| ((nar .byte (((z0 &&& (65535 : Int32)) - (((z0 &&& (65535 : Int32)) / (256 : Int32)) * (256 : Int32))).toInt8.toInt32)) &&& (255 : Int32)))))]) rfl kq) ?_
      refine Gl.st (b := T9.setTop (mkF m 104 #[.val (.int z0), .val (.int z1), .val (.int z2), .val (.int z3), .val (.int z4), .val (.int (z0 &&& (65535 : Int32))), .val (.int (0 : Int32)), .val (.ref b1), .val (.int ((z0 &&& (65535 : Int32)) / (256 : Int32))), .val (.int ((z0 &&& (65535 : Int32)) - (((z0 &&& (65535 : Int32)) / (256 : Int32)) * (256 : Int32)))), .val (.int ((2 : Int32) + ((((nar .byte (((z0 &&& (65535 : Int32)) / (256 : Int32)).toInt8.toInt32)) &&& (255 : Int32)) <<< ((8 : Int32) &&& 31)) ||| ((nar .byte (((z0 &&& (65535 : Int32)) - (((z0 &&& (65535 : Int32)) / (256 : Int32)) * (256 : Int32))).toInt8.toInt32)) &&& (255 : Int32)))))] [(.int ((2 : Int32) + ((((nar .byte (((z0 &&& (65535 : Int32)) / (256 : Int32)).toInt8.toInt32)) &&& (255 : Int32)) <<< ((8 : Int32) &&& 31)) ||| ((nar .byte (((z0 &&& (65535 : Int32)) - (((z0 &&& (65535 : Int32)) / (256 : Int32)) * (256 : Int32))).toInt8.toInt32)) &&& (255 : Int32)))))])) (fun tq kq => XS.iload X9.here hx rfl (hb hby at_102) rfl kq) ?_
      refine Gl.st (b := T9.setTop (mkF m 106 #[.val (.int z0), .val (.int z1), .val (.int z2), .val (.int z3), .val (.int z4), .val (.int (z0 &&& (65535 : Int32))), .val (.int (0 : Int32)), .val (.ref b1), .val (.int ((z0 &&& (65535 : Int32)) / (256 : Int32))), .val (.int ((z0 &&& (65535 : Int32)) - (((z0 &&& (65535 : Int32)) / (256 : Int32)) * (256 : Int32)))), .val (.int ((2 : Int32) + ((((nar .byte (((z0 &&& (65535 : Int32)) / (256 : Int32)).toInt8.toInt32)) &&& (255 : Int32)) <<< ((8 : Int32) &&& 31)) ||| ((nar .byte (((z0 &&& (65535 : Int32)) - (((z0 &&& (65535 : Int32)) / (256 : Int32)) * (256 : Int32))).toInt8.toInt32)) &&& (255 : Int32)))))] [(.int (z0 &&& (65535 : Int32))), (.int ((2 : Int32) + ((((nar .byte (((z0 &&& (65535 : Int32)) / (256 : Int32)).toInt8.toInt32)) &&& (255 : Int32)) <<< ((8 : Int32) &&& 31)) ||| ((nar .byte (((z0 &&& (65535 : Int32)) - (((z0 &&& (65535 : Int32)) / (256 : Int32)) * (256 : Int32))).toInt8.toInt32)) &&& (255 : Int32)))))])) (fun tq kq => XS.iload X9.here hx rfl (hb hby at_104) rfl kq) ?_
      refine Gl.st (b := T9.setTop (mkF m 107 #[.val (.int z0), .val (.int z1), .val (.int z2), .val (.int z3), .val (.int z4), .val (.int (z0 &&& (65535 : Int32))), .val (.int (0 : Int32)), .val (.ref b1), .val (.int ((z0 &&& (65535 : Int32)) / (256 : Int32))), .val (.int ((z0 &&& (65535 : Int32)) - (((z0 &&& (65535 : Int32)) / (256 : Int32)) * (256 : Int32)))), .val (.int ((2 : Int32) + ((((nar .byte (((z0 &&& (65535 : Int32)) / (256 : Int32)).toInt8.toInt32)) &&& (255 : Int32)) <<< ((8 : Int32) &&& 31)) ||| ((nar .byte (((z0 &&& (65535 : Int32)) - (((z0 &&& (65535 : Int32)) / (256 : Int32)) * (256 : Int32))).toInt8.toInt32)) &&& (255 : Int32)))))] [(.int (2 : Int32)), (.int (z0 &&& (65535 : Int32))), (.int ((2 : Int32) + ((((nar .byte (((z0 &&& (65535 : Int32)) / (256 : Int32)).toInt8.toInt32)) &&& (255 : Int32)) <<< ((8 : Int32) &&& 31)) ||| ((nar .byte (((z0 &&& (65535 : Int32)) - (((z0 &&& (65535 : Int32)) / (256 : Int32)) * (256 : Int32))).toInt8.toInt32)) &&& (255 : Int32)))))])) (fun tq kq => XS.iconst X9.here hx rfl (hb hby at_106) kq) ?_
      refine Gl.st (b := T9.setTop (mkF m 108 #[.val (.int z0), .val (.int z1), .val (.int z2), .val (.int z3), .val (.int z4), .val (.int (z0 &&& (65535 : Int32))), .val (.int (0 : Int32)), .val (.ref b1), .val (.int ((z0 &&& (65535 : Int32)) / (256 : Int32))), .val (.int ((z0 &&& (65535 : Int32)) - (((z0 &&& (65535 : Int32)) / (256 : Int32)) * (256 : Int32)))), .val (.int ((2 : Int32) + ((((nar .byte (((z0 &&& (65535 : Int32)) / (256 : Int32)).toInt8.toInt32)) &&& (255 : Int32)) <<< ((8 : Int32) &&& 31)) ||| ((nar .byte (((z0 &&& (65535 : Int32)) - (((z0 &&& (65535 : Int32)) / (256 : Int32)) * (256 : Int32))).toInt8.toInt32)) &&& (255 : Int32)))))] [(.int ((z0 &&& (65535 : Int32)) + (2 : Int32))), (.int ((2 : Int32) + ((((nar .byte (((z0 &&& (65535 : Int32)) / (256 : Int32)).toInt8.toInt32)) &&& (255 : Int32)) <<< ((8 : Int32) &&& 31)) ||| ((nar .byte (((z0 &&& (65535 : Int32)) - (((z0 &&& (65535 : Int32)) / (256 : Int32)) * (256 : Int32))).toInt8.toInt32)) &&& (255 : Int32)))))])) (fun tq kq => XS.iadd X9.here hx rfl (hb hby at_107) rfl kq) ?_
      refine Gl.st (b := T9.setTop (mkF m 111 #[.val (.int z0), .val (.int z1), .val (.int z2), .val (.int z3), .val (.int z4), .val (.int (z0 &&& (65535 : Int32))), .val (.int (0 : Int32)), .val (.ref b1), .val (.int ((z0 &&& (65535 : Int32)) / (256 : Int32))), .val (.int ((z0 &&& (65535 : Int32)) - (((z0 &&& (65535 : Int32)) / (256 : Int32)) * (256 : Int32)))), .val (.int ((2 : Int32) + ((((nar .byte (((z0 &&& (65535 : Int32)) / (256 : Int32)).toInt8.toInt32)) &&& (255 : Int32)) <<< ((8 : Int32) &&& 31)) ||| ((nar .byte (((z0 &&& (65535 : Int32)) - (((z0 &&& (65535 : Int32)) / (256 : Int32)) * (256 : Int32))).toInt8.toInt32)) &&& (255 : Int32)))))] [])) (fun tq kq => XS.icmpNo X9.here hx rfl (hb hby at_108) rfl (teq (own_key z0)).2 kq) ?_
      refine Gl.st (b := T9.setTop (mkF m 112 #[.val (.int z0), .val (.int z1), .val (.int z2), .val (.int z3), .val (.int z4), .val (.int (z0 &&& (65535 : Int32))), .val (.int (0 : Int32)), .val (.ref b1), .val (.int ((z0 &&& (65535 : Int32)) / (256 : Int32))), .val (.int ((z0 &&& (65535 : Int32)) - (((z0 &&& (65535 : Int32)) / (256 : Int32)) * (256 : Int32)))), .val (.int ((2 : Int32) + ((((nar .byte (((z0 &&& (65535 : Int32)) / (256 : Int32)).toInt8.toInt32)) &&& (255 : Int32)) <<< ((8 : Int32) &&& 31)) ||| ((nar .byte (((z0 &&& (65535 : Int32)) - (((z0 &&& (65535 : Int32)) / (256 : Int32)) * (256 : Int32))).toInt8.toInt32)) &&& (255 : Int32)))))] [(.int (1 : Int32))])) (fun tq kq => XS.iconst X9.here hx rfl (hb hby at_111) kq) ?_
      refine Gl.st (b := T9.setTop (mkF m 116 #[.val (.int z0), .val (.int z1), .val (.int z2), .val (.int z3), .val (.int z4), .val (.int (z0 &&& (65535 : Int32))), .val (.int (0 : Int32)), .val (.ref b1), .val (.int ((z0 &&& (65535 : Int32)) / (256 : Int32))), .val (.int ((z0 &&& (65535 : Int32)) - (((z0 &&& (65535 : Int32)) / (256 : Int32)) * (256 : Int32)))), .val (.int ((2 : Int32) + ((((nar .byte (((z0 &&& (65535 : Int32)) / (256 : Int32)).toInt8.toInt32)) &&& (255 : Int32)) <<< ((8 : Int32) &&& 31)) ||| ((nar .byte (((z0 &&& (65535 : Int32)) - (((z0 &&& (65535 : Int32)) / (256 : Int32)) * (256 : Int32))).toInt8.toInt32)) &&& (255 : Int32)))))] [(.int (1 : Int32))])) (fun tq kq => XS.goto X9.here hx rfl (pc0 := 112) (pc' := 116) rfl (hb hby at_112) (by decide) (by decide) kq) ?_
      exact Gl.retN X9 hx hret (by simp) (hb hby at_116) hlk (by decide) (by decide) ⟨rfl, N9⟩
    ·
      refine Gl.st (b := T6.setTop (mkF m 77 #[.val (.int z0), .val (.int z1), .val (.int z2), .val (.int z3), .val (.int z4), .val (.int (z0 &&& (65535 : Int32))), .val (.int (1 : Int32)), .val (.ref b1), .val (.int ((z0 &&& (65535 : Int32)) / (256 : Int32))), .val (.int ((z0 &&& (65535 : Int32)) - (((z0 &&& (65535 : Int32)) / (256 : Int32)) * (256 : Int32)))), .unset] [(.ref b1)])) (fun tq kq => XS.aload X6.here hx rfl (hb hby at_75) rfl rfl kq) ?_
      refine Gl.st (b := T6.setTop (mkF m 79 #[.val (.int z0), .val (.int z1), .val (.int z2), .val (.int z3), .val (.int z4), .val (.int (z0 &&& (65535 : Int32))), .val (.int (1 : Int32)), .val (.ref b1), .val (.int ((z0 &&& (65535 : Int32)) / (256 : Int32))), .val (.int ((z0 &&& (65535 : Int32)) - (((z0 &&& (65535 : Int32)) / (256 : Int32)) * (256 : Int32)))), .unset] [(.int (1 : Int32)), (.ref b1)])) (fun tq kq => XS.iload X6.here hx rfl (hb hby at_77) rfl kq) ?_
      refine Gl.st (b := T6.setTop (mkF m 81 #[.val (.int z0), .val (.int z1), .val (.int z2), .val (.int z3), .val (.int z4), .val (.int (z0 &&& (65535 : Int32))), .val (.int (1 : Int32)), .val (.ref b1), .val (.int ((z0 &&& (65535 : Int32)) / (256 : Int32))), .val (.int ((z0 &&& (65535 : Int32)) - (((z0 &&& (65535 : Int32)) / (256 : Int32)) * (256 : Int32)))), .unset] [(.int ((z0 &&& (65535 : Int32)) / (256 : Int32))), (.int (1 : Int32)), (.ref b1)])) (fun tq kq => XS.iload X6.here hx rfl (hb hby at_79) rfl kq) ?_
      refine Gl.st (b := T6.setTop (mkF m 82 #[.val (.int z0), .val (.int z1), .val (.int z2), .val (.int z3), .val (.int z4), .val (.int (z0 &&& (65535 : Int32))), .val (.int (1 : Int32)), .val (.ref b1), .val (.int ((z0 &&& (65535 : Int32)) / (256 : Int32))), .val (.int ((z0 &&& (65535 : Int32)) - (((z0 &&& (65535 : Int32)) / (256 : Int32)) * (256 : Int32)))), .unset] [(.int (((z0 &&& (65535 : Int32)) / (256 : Int32)).toInt8.toInt32)), (.int (1 : Int32)), (.ref b1)])) (fun tq kq => XS.i2b X6.here hx rfl (hb hby at_81) rfl kq) ?_
      refine Gl.bastore (k := 1) X6 hx hZ e6 AA6 N6 G_b1 rfl (Nat.le_of_ble_eq_true rfl) (hb hby at_82) ?_
      intro T10 h10 L10 X10 e10 N10 W10 A10
      have AA10 : Ar Z h10 b1 .byte [(.int (nar .byte (z2.toInt8.toInt32))), (.int (nar .byte (((z0 &&& (65535 : Int32)) / (256 : Int32)).toInt8.toInt32))), (.int (nar .byte (z3.toInt8.toInt32))), (.int (nar .byte (((z3.toUInt32 >>> ((8 : Int32) &&& 31).toUInt32).toInt32).toInt8.toInt32))), (.int (nar .byte (z4.toInt8.toInt32)))] := A10
      have Z_10 : n0 ≤ h10.size := Nat.le_trans Z_6 (Nat.le_of_eq W10.size.symm)
      show Gl _ _ _ _ _ _ _ (T10.setTop (mkF m 83 #[.val (.int z0), .val (.int z1), .val (.int z2), .val (.int z3), .val (.int z4), .val (.int (z0 &&& (65535 : Int32))), .val (.int (1 : Int32)), .val (.ref b1), .val (.int ((z0 &&& (65535 : Int32)) / (256 : Int32))), .val (.int ((z0 &&& (65535 : Int32)) - (((z0 &&& (65535 : Int32)) / (256 : Int32)) * (256 : Int32)))), .unset] []))
      refine Gl.st (b := T10.setTop (mkF m 85 #[.val (.int z0), .val (.int z1), .val (.int z2), .val (.int z3), .val (.int z4), .val (.int (z0 &&& (65535 : Int32))), .val (.int (1 : Int32)), .val (.ref b1), .val (.int ((z0 &&& (65535 : Int32)) / (256 : Int32))), .val (.int ((z0 &&& (65535 : Int32)) - (((z0 &&& (65535 : Int32)) / (256 : Int32)) * (256 : Int32)))), .unset] [(.ref b1)])) (fun tq kq => XS.aload X10.here hx rfl (hb hby at_83) rfl rfl kq) ?_
      refine Gl.st (b := T10.setTop (mkF m 87 #[.val (.int z0), .val (.int z1), .val (.int z2), .val (.int z3), .val (.int z4), .val (.int (z0 &&& (65535 : Int32))), .val (.int (1 : Int32)), .val (.ref b1), .val (.int ((z0 &&& (65535 : Int32)) / (256 : Int32))), .val (.int ((z0 &&& (65535 : Int32)) - (((z0 &&& (65535 : Int32)) / (256 : Int32)) * (256 : Int32)))), .unset] [(.int (1 : Int32)), (.ref b1)])) (fun tq kq => XS.iload X10.here hx rfl (hb hby at_85) rfl kq) ?_
      refine Gl.st (b := T10.setTop (mkF m 88 #[.val (.int z0), .val (.int z1), .val (.int z2), .val (.int z3), .val (.int z4), .val (.int (z0 &&& (65535 : Int32))), .val (.int (1 : Int32)), .val (.ref b1), .val (.int ((z0 &&& (65535 : Int32)) / (256 : Int32))), .val (.int ((z0 &&& (65535 : Int32)) - (((z0 &&& (65535 : Int32)) / (256 : Int32)) * (256 : Int32)))), .unset] [(.int (1 : Int32)), (.int (1 : Int32)), (.ref b1)])) (fun tq kq => XS.iconst X10.here hx rfl (hb hby at_87) kq) ?_
      refine Gl.st (b := T10.setTop (mkF m 89 #[.val (.int z0), .val (.int z1), .val (.int z2), .val (.int z3), .val (.int z4), .val (.int (z0 &&& (65535 : Int32))), .val (.int (1 : Int32)), .val (.ref b1), .val (.int ((z0 &&& (65535 : Int32)) / (256 : Int32))), .val (.int ((z0 &&& (65535 : Int32)) - (((z0 &&& (65535 : Int32)) / (256 : Int32)) * (256 : Int32)))), .unset] [(.int (2 : Int32)), (.ref b1)])) (fun tq kq => XS.iadd X10.here hx rfl (hb hby at_88) rfl kq) ?_
      refine Gl.st (b := T10.setTop (mkF m 91 #[.val (.int z0), .val (.int z1), .val (.int z2), .val (.int z3), .val (.int z4), .val (.int (z0 &&& (65535 : Int32))), .val (.int (1 : Int32)), .val (.ref b1), .val (.int ((z0 &&& (65535 : Int32)) / (256 : Int32))), .val (.int ((z0 &&& (65535 : Int32)) - (((z0 &&& (65535 : Int32)) / (256 : Int32)) * (256 : Int32)))), .unset] [(.int ((z0 &&& (65535 : Int32)) - (((z0 &&& (65535 : Int32)) / (256 : Int32)) * (256 : Int32)))), (.int (2 : Int32)), (.ref b1)])) (fun tq kq => XS.iload X10.here hx rfl (hb hby at_89) rfl kq) ?_
      refine Gl.st (b := T10.setTop (mkF m 92 #[.val (.int z0), .val (.int z1), .val (.int z2), .val (.int z3), .val (.int z4), .val (.int (z0 &&& (65535 : Int32))), .val (.int (1 : Int32)), .val (.ref b1), .val (.int ((z0 &&& (65535 : Int32)) / (256 : Int32))), .val (.int ((z0 &&& (65535 : Int32)) - (((z0 &&& (65535 : Int32)) / (256 : Int32)) * (256 : Int32)))), .unset] [(.int (((z0 &&& (65535 : Int32)) - (((z0 &&& (65535 : Int32)) / (256 : Int32)) * (256 : Int32))).toInt8.toInt32)), (.int (2 : Int32)), (.ref b1)])) (fun tq kq => XS.i2b X10.here hx rfl (hb hby at_91) rfl kq) ?_
      refine Gl.bastore (k := 2) X10 hx hZ e10 AA10 N10 G_b1 rfl (Nat.le_of_ble_eq_true rfl) (hb hby at_92) ?_
      intro T11 h11 L11 X11 e11 N11 W11 A11
      have AA11 : Ar Z h11 b1 .byte [(.int (nar .byte (z2.toInt8.toInt32))), (.int (nar .byte (((z0 &&& (65535 : Int32)) / (256 : Int32)).toInt8.toInt32))), (.int (nar .byte (((z0 &&& (65535 : Int32)) - (((z0 &&& (65535 : Int32)) / (256 : Int32)) * (256 : Int32))).toInt8.toInt32))), (.int (nar .byte (((z3.toUInt32 >>> ((8 : Int32) &&& 31).toUInt32).toInt32).toInt8.toInt32))), (.int (nar .byte (z4.toInt8.toInt32)))] := A11
      have Z_11 : n0 ≤ h11.size := Nat.le_trans Z_10 (Nat.le_of_eq W11.size.symm)
      show Gl _ _ _ _ _ _ _ (T11.setTop (mkF m 93 #[.val (.int z0), .val (.int z1), .val (.int z2), .val (.int z3), .val (.int z4), .val (.int (z0 &&& (65535 : Int32))), .val (.int (1 : Int32)), .val (.ref b1), .val (.int ((z0 &&& (65535 : Int32)) / (256 : Int32))), .val (.int ((z0 &&& (65535 : Int32)) - (((z0 &&& (65535 : Int32)) / (256 : Int32)) * (256 : Int32)))), .unset] []))
      refine Gl.st (b := T11.setTop (mkF m 95 #[.val (.int z0), .val (.int z1), .val (.int z2), .val (.int z3), .val (.int z4), .val (.int (z0 &&& (65535 : Int32))), .val (.int (1 : Int32)), .val (.ref b1), .val (.int ((z0 &&& (65535 : Int32)) / (256 : Int32))), .val (.int ((z0 &&& (65535 : Int32)) - (((z0 &&& (65535 : Int32)) / (256 : Int32)) * (256 : Int32)))), .unset] [(.ref b1)])) (fun tq kq => XS.aload X11.here hx rfl (hb hby at_93) rfl rfl kq) ?_
      refine Gl.st (b := T11.setTop (mkF m 97 #[.val (.int z0), .val (.int z1), .val (.int z2), .val (.int z3), .val (.int z4), .val (.int (z0 &&& (65535 : Int32))), .val (.int (1 : Int32)), .val (.ref b1), .val (.int ((z0 &&& (65535 : Int32)) / (256 : Int32))), .val (.int ((z0 &&& (65535 : Int32)) - (((z0 &&& (65535 : Int32)) / (256 : Int32)) * (256 : Int32)))), .unset] [(.int (1 : Int32)), (.ref b1)])) (fun tq kq => XS.iload X11.here hx rfl (hb hby at_95) rfl kq) ?_
      refine Gl.callS (W := 0) (argsL := [(.ref b1), (.int (1 : Int32))]) (rest := []) X11 hx hZ hown (hw _ (List.mem_of_getElem? (i := 3) rfl)) (hw _ (List.mem_of_getElem? (i := 4) rfl)) (hw _ (List.mem_of_getElem? (i := 5) rfl)) (hw _ (List.mem_of_getElem? (i := 6) rfl)) (by decide) (rm1 l Z a0 hw [] b1 (1 : Int32) [(.int (nar .byte (z2.toInt8.toInt32))), (.int (nar .byte (((z0 &&& (65535 : Int32)) / (256 : Int32)).toInt8.toInt32))), (.int (nar .byte (((z0 &&& (65535 : Int32)) - (((z0 &&& (65535 : Int32)) / (256 : Int32)) * (256 : Int32))).toInt8.toInt32))), (.int (nar .byte (((z3.toUInt32 >>> ((8 : Int32) &&& 31).toUInt32).toInt32).toInt8.toInt32))), (.int (nar .byte (z4.toInt8.toInt32)))] 1 (nar .byte (((z0 &&& (65535 : Int32)) / (256 : Int32)).toInt8.toInt32)) (nar .byte (((z0 &&& (65535 : Int32)) - (((z0 &&& (65535 : Int32)) / (256 : Int32)) * (256 : Int32))).toInt8.toInt32)) h11 n0 Z_11 AA11 rfl rfl rfl rfl) (by decide) (by decide) e11 (by decide) (by decide) (by rw [hml]; rfl) (lenOf own_pd0 rfl) rfl rfl (Nat.le_of_eq rfl) (hb hby at_97) ?_
      intro T12 v12 L12 X12 hQ12
      obtain ⟨rfl, N12q, e12q⟩ := hQ12
      have N12 := N11.app N12q
      show Gl _ _ _ _ _ _ _ (T12.setTop (mkF m 100 #[.val (.int z0), .val (.int z1), .val (.int z2), .val (.int z3), .val (.int z4), .val (.int (z0 &&& (65535 : Int32))), .val (.int (1 : Int32)), .val (.ref b1), .val (.int ((z0 &&& (65535 : Int32)) / (256 : Int32))), .val (.int ((z0 &&& (65535 : Int32)) - (((z0 &&& (65535 : Int32)) / (256 : Int32)) * (256 : Int32)))), .unset] [(.int ((2 : Int32) + ((((nar .byte (((z0 &&& (65535 : Int32)) / (256 : Int32)).toInt8.toInt32)) &&& (255 : Int32)) <<< ((8 : Int32) &&& 31)) ||| ((nar .byte (((z0 &&& (65535 : Int32)) - (((z0 &&& (65535 : Int32)) / (256 : Int32)) * (256 : Int32))).toInt8.toInt32)) &&& (255 : Int32)))))]))
      refine Gl.st (b := T12.setTop (mkF m 102 #[.val (.int z0), .val (.int z1), .val (.int z2), .val (.int z3), .val (.int z4), .val (.int (z0 &&& (65535 : Int32))), .val (.int (1 : Int32)), .val (.ref b1), .val (.int ((z0 &&& (65535 : Int32)) / (256 : Int32))), .val (.int ((z0 &&& (65535 : Int32)) - (((z0 &&& (65535 : Int32)) / (256 : Int32)) * (256 : Int32)))), .val (.int ((2 : Int32) + ((((nar .byte (((z0 &&& (65535 : Int32)) / (256 : Int32)).toInt8.toInt32)) &&& (255 : Int32)) <<< ((8 : Int32) &&& 31)) ||| ((nar .byte (((z0 &&& (65535 : Int32)) - (((z0 &&& (65535 : Int32)) / (256 : Int32)) * (256 : Int32))).toInt8.toInt32)) &&& (255 : Int32)))))] [])) (fun tq kq => XS.istore X12.here hx rfl (hb hby at_100) rfl (l' := #[.val (.int z0), .val (.int z1), .val (.int z2), .val (.int z3), .val (.int z4), .val (.int (z0 &&& (65535 : Int32))), .val (.int (1 : Int32)), .val (.ref b1), .val (.int ((z0 &&& (65535 : Int32)) / (256 : Int32))), .val (.int ((z0 &&& (65535 : Int32)) - (((z0 &&& (65535 : Int32)) / (256 : Int32)) * (256 : Int32)))), .val (.int ((2 : Int32) + ((((nar .byte (((z0 &&& (65535 : Int32)) / (256 : Int32)).toInt8.toInt32)) &&& (255 : Int32)) <<< ((8 : Int32) &&& 31)) ||| ((nar .byte (((z0 &&& (65535 : Int32)) - (((z0 &&& (65535 : Int32)) / (256 : Int32)) * (256 : Int32))).toInt8.toInt32)) &&& (255 : Int32)))))]) rfl kq) ?_
      refine Gl.st (b := T12.setTop (mkF m 104 #[.val (.int z0), .val (.int z1), .val (.int z2), .val (.int z3), .val (.int z4), .val (.int (z0 &&& (65535 : Int32))), .val (.int (1 : Int32)), .val (.ref b1), .val (.int ((z0 &&& (65535 : Int32)) / (256 : Int32))), .val (.int ((z0 &&& (65535 : Int32)) - (((z0 &&& (65535 : Int32)) / (256 : Int32)) * (256 : Int32)))), .val (.int ((2 : Int32) + ((((nar .byte (((z0 &&& (65535 : Int32)) / (256 : Int32)).toInt8.toInt32)) &&& (255 : Int32)) <<< ((8 : Int32) &&& 31)) ||| ((nar .byte (((z0 &&& (65535 : Int32)) - (((z0 &&& (65535 : Int32)) / (256 : Int32)) * (256 : Int32))).toInt8.toInt32)) &&& (255 : Int32)))))] [(.int ((2 : Int32) + ((((nar .byte (((z0 &&& (65535 : Int32)) / (256 : Int32)).toInt8.toInt32)) &&& (255 : Int32)) <<< ((8 : Int32) &&& 31)) ||| ((nar .byte (((z0 &&& (65535 : Int32)) - (((z0 &&& (65535 : Int32)) / (256 : Int32)) * (256 : Int32))).toInt8.toInt32)) &&& (255 : Int32)))))])) (fun tq kq => XS.iload X12.here hx rfl (hb hby at_102) rfl kq) ?_
      refine Gl.st (b := T12.setTop (mkF m 106 #[.val (.int z0), .val (.int z1), .val (.int z2), .val (.int z3), .val (.int z4), .val (.int (z0 &&& (65535 : Int32))), .val (.int (1 : Int32)), .val (.ref b1), .val (.int ((z0 &&& (65535 : Int32)) / (256 : Int32))), .val (.int ((z0 &&& (65535 : Int32)) - (((z0 &&& (65535 : Int32)) / (256 : Int32)) * (256 : Int32)))), .val (.int ((2 : Int32) + ((((nar .byte (((z0 &&& (65535 : Int32)) / (256 : Int32)).toInt8.toInt32)) &&& (255 : Int32)) <<< ((8 : Int32) &&& 31)) ||| ((nar .byte (((z0 &&& (65535 : Int32)) - (((z0 &&& (65535 : Int32)) / (256 : Int32)) * (256 : Int32))).toInt8.toInt32)) &&& (255 : Int32)))))] [(.int (z0 &&& (65535 : Int32))), (.int ((2 : Int32) + ((((nar .byte (((z0 &&& (65535 : Int32)) / (256 : Int32)).toInt8.toInt32)) &&& (255 : Int32)) <<< ((8 : Int32) &&& 31)) ||| ((nar .byte (((z0 &&& (65535 : Int32)) - (((z0 &&& (65535 : Int32)) / (256 : Int32)) * (256 : Int32))).toInt8.toInt32)) &&& (255 : Int32)))))])) (fun tq kq => XS.iload X12.here hx rfl (hb hby at_104) rfl kq) ?_
      refine Gl.st (b := T12.setTop (mkF m 107 #[.val (.int z0), .val (.int z1), .val (.int z2), .val (.int z3), .val (.int z4), .val (.int (z0 &&& (65535 : Int32))), .val (.int (1 : Int32)), .val (.ref b1), .val (.int ((z0 &&& (65535 : Int32)) / (256 : Int32))), .val (.int ((z0 &&& (65535 : Int32)) - (((z0 &&& (65535 : Int32)) / (256 : Int32)) * (256 : Int32)))), .val (.int ((2 : Int32) + ((((nar .byte (((z0 &&& (65535 : Int32)) / (256 : Int32)).toInt8.toInt32)) &&& (255 : Int32)) <<< ((8 : Int32) &&& 31)) ||| ((nar .byte (((z0 &&& (65535 : Int32)) - (((z0 &&& (65535 : Int32)) / (256 : Int32)) * (256 : Int32))).toInt8.toInt32)) &&& (255 : Int32)))))] [(.int (2 : Int32)), (.int (z0 &&& (65535 : Int32))), (.int ((2 : Int32) + ((((nar .byte (((z0 &&& (65535 : Int32)) / (256 : Int32)).toInt8.toInt32)) &&& (255 : Int32)) <<< ((8 : Int32) &&& 31)) ||| ((nar .byte (((z0 &&& (65535 : Int32)) - (((z0 &&& (65535 : Int32)) / (256 : Int32)) * (256 : Int32))).toInt8.toInt32)) &&& (255 : Int32)))))])) (fun tq kq => XS.iconst X12.here hx rfl (hb hby at_106) kq) ?_
      refine Gl.st (b := T12.setTop (mkF m 108 #[.val (.int z0), .val (.int z1), .val (.int z2), .val (.int z3), .val (.int z4), .val (.int (z0 &&& (65535 : Int32))), .val (.int (1 : Int32)), .val (.ref b1), .val (.int ((z0 &&& (65535 : Int32)) / (256 : Int32))), .val (.int ((z0 &&& (65535 : Int32)) - (((z0 &&& (65535 : Int32)) / (256 : Int32)) * (256 : Int32)))), .val (.int ((2 : Int32) + ((((nar .byte (((z0 &&& (65535 : Int32)) / (256 : Int32)).toInt8.toInt32)) &&& (255 : Int32)) <<< ((8 : Int32) &&& 31)) ||| ((nar .byte (((z0 &&& (65535 : Int32)) - (((z0 &&& (65535 : Int32)) / (256 : Int32)) * (256 : Int32))).toInt8.toInt32)) &&& (255 : Int32)))))] [(.int ((z0 &&& (65535 : Int32)) + (2 : Int32))), (.int ((2 : Int32) + ((((nar .byte (((z0 &&& (65535 : Int32)) / (256 : Int32)).toInt8.toInt32)) &&& (255 : Int32)) <<< ((8 : Int32) &&& 31)) ||| ((nar .byte (((z0 &&& (65535 : Int32)) - (((z0 &&& (65535 : Int32)) / (256 : Int32)) * (256 : Int32))).toInt8.toInt32)) &&& (255 : Int32)))))])) (fun tq kq => XS.iadd X12.here hx rfl (hb hby at_107) rfl kq) ?_
      refine Gl.st (b := T12.setTop (mkF m 111 #[.val (.int z0), .val (.int z1), .val (.int z2), .val (.int z3), .val (.int z4), .val (.int (z0 &&& (65535 : Int32))), .val (.int (1 : Int32)), .val (.ref b1), .val (.int ((z0 &&& (65535 : Int32)) / (256 : Int32))), .val (.int ((z0 &&& (65535 : Int32)) - (((z0 &&& (65535 : Int32)) / (256 : Int32)) * (256 : Int32)))), .val (.int ((2 : Int32) + ((((nar .byte (((z0 &&& (65535 : Int32)) / (256 : Int32)).toInt8.toInt32)) &&& (255 : Int32)) <<< ((8 : Int32) &&& 31)) ||| ((nar .byte (((z0 &&& (65535 : Int32)) - (((z0 &&& (65535 : Int32)) / (256 : Int32)) * (256 : Int32))).toInt8.toInt32)) &&& (255 : Int32)))))] [])) (fun tq kq => XS.icmpNo X12.here hx rfl (hb hby at_108) rfl (teq (own_key z0)).2 kq) ?_
      refine Gl.st (b := T12.setTop (mkF m 112 #[.val (.int z0), .val (.int z1), .val (.int z2), .val (.int z3), .val (.int z4), .val (.int (z0 &&& (65535 : Int32))), .val (.int (1 : Int32)), .val (.ref b1), .val (.int ((z0 &&& (65535 : Int32)) / (256 : Int32))), .val (.int ((z0 &&& (65535 : Int32)) - (((z0 &&& (65535 : Int32)) / (256 : Int32)) * (256 : Int32)))), .val (.int ((2 : Int32) + ((((nar .byte (((z0 &&& (65535 : Int32)) / (256 : Int32)).toInt8.toInt32)) &&& (255 : Int32)) <<< ((8 : Int32) &&& 31)) ||| ((nar .byte (((z0 &&& (65535 : Int32)) - (((z0 &&& (65535 : Int32)) / (256 : Int32)) * (256 : Int32))).toInt8.toInt32)) &&& (255 : Int32)))))] [(.int (1 : Int32))])) (fun tq kq => XS.iconst X12.here hx rfl (hb hby at_111) kq) ?_
      refine Gl.st (b := T12.setTop (mkF m 116 #[.val (.int z0), .val (.int z1), .val (.int z2), .val (.int z3), .val (.int z4), .val (.int (z0 &&& (65535 : Int32))), .val (.int (1 : Int32)), .val (.ref b1), .val (.int ((z0 &&& (65535 : Int32)) / (256 : Int32))), .val (.int ((z0 &&& (65535 : Int32)) - (((z0 &&& (65535 : Int32)) / (256 : Int32)) * (256 : Int32)))), .val (.int ((2 : Int32) + ((((nar .byte (((z0 &&& (65535 : Int32)) / (256 : Int32)).toInt8.toInt32)) &&& (255 : Int32)) <<< ((8 : Int32) &&& 31)) ||| ((nar .byte (((z0 &&& (65535 : Int32)) - (((z0 &&& (65535 : Int32)) / (256 : Int32)) * (256 : Int32))).toInt8.toInt32)) &&& (255 : Int32)))))] [(.int (1 : Int32))])) (fun tq kq => XS.goto X12.here hx rfl (pc0 := 112) (pc' := 116) rfl (hb hby at_112) (by decide) (by decide) kq) ?_
      exact Gl.retN X12 hx hret (by simp) (hb hby at_116) hlk (by decide) (by decide) ⟨rfl, N12⟩
    ·
      refine Gl.st (b := T6.setTop (mkF m 77 #[.val (.int z0), .val (.int z1), .val (.int z2), .val (.int z3), .val (.int z4), .val (.int (z0 &&& (65535 : Int32))), .val (.int (2 : Int32)), .val (.ref b1), .val (.int ((z0 &&& (65535 : Int32)) / (256 : Int32))), .val (.int ((z0 &&& (65535 : Int32)) - (((z0 &&& (65535 : Int32)) / (256 : Int32)) * (256 : Int32)))), .unset] [(.ref b1)])) (fun tq kq => XS.aload X6.here hx rfl (hb hby at_75) rfl rfl kq) ?_
      refine Gl.st (b := T6.setTop (mkF m 79 #[.val (.int z0), .val (.int z1), .val (.int z2), .val (.int z3), .val (.int z4), .val (.int (z0 &&& (65535 : Int32))), .val (.int (2 : Int32)), .val (.ref b1), .val (.int ((z0 &&& (65535 : Int32)) / (256 : Int32))), .val (.int ((z0 &&& (65535 : Int32)) - (((z0 &&& (65535 : Int32)) / (256 : Int32)) * (256 : Int32)))), .unset] [(.int (2 : Int32)), (.ref b1)])) (fun tq kq => XS.iload X6.here hx rfl (hb hby at_77) rfl kq) ?_
      refine Gl.st (b := T6.setTop (mkF m 81 #[.val (.int z0), .val (.int z1), .val (.int z2), .val (.int z3), .val (.int z4), .val (.int (z0 &&& (65535 : Int32))), .val (.int (2 : Int32)), .val (.ref b1), .val (.int ((z0 &&& (65535 : Int32)) / (256 : Int32))), .val (.int ((z0 &&& (65535 : Int32)) - (((z0 &&& (65535 : Int32)) / (256 : Int32)) * (256 : Int32)))), .unset] [(.int ((z0 &&& (65535 : Int32)) / (256 : Int32))), (.int (2 : Int32)), (.ref b1)])) (fun tq kq => XS.iload X6.here hx rfl (hb hby at_79) rfl kq) ?_
      refine Gl.st (b := T6.setTop (mkF m 82 #[.val (.int z0), .val (.int z1), .val (.int z2), .val (.int z3), .val (.int z4), .val (.int (z0 &&& (65535 : Int32))), .val (.int (2 : Int32)), .val (.ref b1), .val (.int ((z0 &&& (65535 : Int32)) / (256 : Int32))), .val (.int ((z0 &&& (65535 : Int32)) - (((z0 &&& (65535 : Int32)) / (256 : Int32)) * (256 : Int32)))), .unset] [(.int (((z0 &&& (65535 : Int32)) / (256 : Int32)).toInt8.toInt32)), (.int (2 : Int32)), (.ref b1)])) (fun tq kq => XS.i2b X6.here hx rfl (hb hby at_81) rfl kq) ?_
      refine Gl.bastore (k := 2) X6 hx hZ e6 AA6 N6 G_b1 rfl (Nat.le_of_ble_eq_true rfl) (hb hby at_82) ?_
      intro T13 h13 L13 X13 e13 N13 W13 A13
      have AA13 : Ar Z h13 b1 .byte [(.int (nar .byte (z2.toInt8.toInt32))), (.int (nar .byte (((z2.toUInt32 >>> ((8 : Int32) &&& 31).toUInt32).toInt32).toInt8.toInt32))), (.int (nar .byte (((z0 &&& (65535 : Int32)) / (256 : Int32)).toInt8.toInt32))), (.int (nar .byte (((z3.toUInt32 >>> ((8 : Int32) &&& 31).toUInt32).toInt32).toInt8.toInt32))), (.int (nar .byte (z4.toInt8.toInt32)))] := A13
      have Z_13 : n0 ≤ h13.size := Nat.le_trans Z_6 (Nat.le_of_eq W13.size.symm)
      show Gl _ _ _ _ _ _ _ (T13.setTop (mkF m 83 #[.val (.int z0), .val (.int z1), .val (.int z2), .val (.int z3), .val (.int z4), .val (.int (z0 &&& (65535 : Int32))), .val (.int (2 : Int32)), .val (.ref b1), .val (.int ((z0 &&& (65535 : Int32)) / (256 : Int32))), .val (.int ((z0 &&& (65535 : Int32)) - (((z0 &&& (65535 : Int32)) / (256 : Int32)) * (256 : Int32)))), .unset] []))
      refine Gl.st (b := T13.setTop (mkF m 85 #[.val (.int z0), .val (.int z1), .val (.int z2), .val (.int z3), .val (.int z4), .val (.int (z0 &&& (65535 : Int32))), .val (.int (2 : Int32)), .val (.ref b1), .val (.int ((z0 &&& (65535 : Int32)) / (256 : Int32))), .val (.int ((z0 &&& (65535 : Int32)) - (((z0 &&& (65535 : Int32)) / (256 : Int32)) * (256 : Int32)))), .unset] [(.ref b1)])) (fun tq kq => XS.aload X13.here hx rfl (hb hby at_83) rfl rfl kq) ?_
      refine Gl.st (b := T13.setTop (mkF m 87 #[.val (.int z0), .val (.int z1), .val (.int z2), .val (.int z3), .val (.int z4), .val (.int (z0 &&& (65535 : Int32))), .val (.int (2 : Int32)), .val (.ref b1), .val (.int ((z0 &&& (65535 : Int32)) / (256 : Int32))), .val (.int ((z0 &&& (65535 : Int32)) - (((z0 &&& (65535 : Int32)) / (256 : Int32)) * (256 : Int32)))), .unset] [(.int (2 : Int32)), (.ref b1)])) (fun tq kq => XS.iload X13.here hx rfl (hb hby at_85) rfl kq) ?_
      refine Gl.st (b := T13.setTop (mkF m 88 #[.val (.int z0), .val (.int z1), .val (.int z2), .val (.int z3), .val (.int z4), .val (.int (z0 &&& (65535 : Int32))), .val (.int (2 : Int32)), .val (.ref b1), .val (.int ((z0 &&& (65535 : Int32)) / (256 : Int32))), .val (.int ((z0 &&& (65535 : Int32)) - (((z0 &&& (65535 : Int32)) / (256 : Int32)) * (256 : Int32)))), .unset] [(.int (1 : Int32)), (.int (2 : Int32)), (.ref b1)])) (fun tq kq => XS.iconst X13.here hx rfl (hb hby at_87) kq) ?_
      refine Gl.st (b := T13.setTop (mkF m 89 #[.val (.int z0), .val (.int z1), .val (.int z2), .val (.int z3), .val (.int z4), .val (.int (z0 &&& (65535 : Int32))), .val (.int (2 : Int32)), .val (.ref b1), .val (.int ((z0 &&& (65535 : Int32)) / (256 : Int32))), .val (.int ((z0 &&& (65535 : Int32)) - (((z0 &&& (65535 : Int32)) / (256 : Int32)) * (256 : Int32)))), .unset] [(.int (3 : Int32)), (.ref b1)])) (fun tq kq => XS.iadd X13.here hx rfl (hb hby at_88) rfl kq) ?_
      refine Gl.st (b := T13.setTop (mkF m 91 #[.val (.int z0), .val (.int z1), .val (.int z2), .val (.int z3), .val (.int z4), .val (.int (z0 &&& (65535 : Int32))), .val (.int (2 : Int32)), .val (.ref b1), .val (.int ((z0 &&& (65535 : Int32)) / (256 : Int32))), .val (.int ((z0 &&& (65535 : Int32)) - (((z0 &&& (65535 : Int32)) / (256 : Int32)) * (256 : Int32)))), .unset] [(.int ((z0 &&& (65535 : Int32)) - (((z0 &&& (65535 : Int32)) / (256 : Int32)) * (256 : Int32)))), (.int (3 : Int32)), (.ref b1)])) (fun tq kq => XS.iload X13.here hx rfl (hb hby at_89) rfl kq) ?_
      refine Gl.st (b := T13.setTop (mkF m 92 #[.val (.int z0), .val (.int z1), .val (.int z2), .val (.int z3), .val (.int z4), .val (.int (z0 &&& (65535 : Int32))), .val (.int (2 : Int32)), .val (.ref b1), .val (.int ((z0 &&& (65535 : Int32)) / (256 : Int32))), .val (.int ((z0 &&& (65535 : Int32)) - (((z0 &&& (65535 : Int32)) / (256 : Int32)) * (256 : Int32)))), .unset] [(.int (((z0 &&& (65535 : Int32)) - (((z0 &&& (65535 : Int32)) / (256 : Int32)) * (256 : Int32))).toInt8.toInt32)), (.int (3 : Int32)), (.ref b1)])) (fun tq kq => XS.i2b X13.here hx rfl (hb hby at_91) rfl kq) ?_
      refine Gl.bastore (k := 3) X13 hx hZ e13 AA13 N13 G_b1 rfl (Nat.le_of_ble_eq_true rfl) (hb hby at_92) ?_
      intro T14 h14 L14 X14 e14 N14 W14 A14
      have AA14 : Ar Z h14 b1 .byte [(.int (nar .byte (z2.toInt8.toInt32))), (.int (nar .byte (((z2.toUInt32 >>> ((8 : Int32) &&& 31).toUInt32).toInt32).toInt8.toInt32))), (.int (nar .byte (((z0 &&& (65535 : Int32)) / (256 : Int32)).toInt8.toInt32))), (.int (nar .byte (((z0 &&& (65535 : Int32)) - (((z0 &&& (65535 : Int32)) / (256 : Int32)) * (256 : Int32))).toInt8.toInt32))), (.int (nar .byte (z4.toInt8.toInt32)))] := A14
      have Z_14 : n0 ≤ h14.size := Nat.le_trans Z_13 (Nat.le_of_eq W14.size.symm)
      show Gl _ _ _ _ _ _ _ (T14.setTop (mkF m 93 #[.val (.int z0), .val (.int z1), .val (.int z2), .val (.int z3), .val (.int z4), .val (.int (z0 &&& (65535 : Int32))), .val (.int (2 : Int32)), .val (.ref b1), .val (.int ((z0 &&& (65535 : Int32)) / (256 : Int32))), .val (.int ((z0 &&& (65535 : Int32)) - (((z0 &&& (65535 : Int32)) / (256 : Int32)) * (256 : Int32)))), .unset] []))
      refine Gl.st (b := T14.setTop (mkF m 95 #[.val (.int z0), .val (.int z1), .val (.int z2), .val (.int z3), .val (.int z4), .val (.int (z0 &&& (65535 : Int32))), .val (.int (2 : Int32)), .val (.ref b1), .val (.int ((z0 &&& (65535 : Int32)) / (256 : Int32))), .val (.int ((z0 &&& (65535 : Int32)) - (((z0 &&& (65535 : Int32)) / (256 : Int32)) * (256 : Int32)))), .unset] [(.ref b1)])) (fun tq kq => XS.aload X14.here hx rfl (hb hby at_93) rfl rfl kq) ?_
      refine Gl.st (b := T14.setTop (mkF m 97 #[.val (.int z0), .val (.int z1), .val (.int z2), .val (.int z3), .val (.int z4), .val (.int (z0 &&& (65535 : Int32))), .val (.int (2 : Int32)), .val (.ref b1), .val (.int ((z0 &&& (65535 : Int32)) / (256 : Int32))), .val (.int ((z0 &&& (65535 : Int32)) - (((z0 &&& (65535 : Int32)) / (256 : Int32)) * (256 : Int32)))), .unset] [(.int (2 : Int32)), (.ref b1)])) (fun tq kq => XS.iload X14.here hx rfl (hb hby at_95) rfl kq) ?_
      refine Gl.callS (W := 0) (argsL := [(.ref b1), (.int (2 : Int32))]) (rest := []) X14 hx hZ hown (hw _ (List.mem_of_getElem? (i := 3) rfl)) (hw _ (List.mem_of_getElem? (i := 4) rfl)) (hw _ (List.mem_of_getElem? (i := 5) rfl)) (hw _ (List.mem_of_getElem? (i := 6) rfl)) (by decide) (rm1 l Z a0 hw [] b1 (2 : Int32) [(.int (nar .byte (z2.toInt8.toInt32))), (.int (nar .byte (((z2.toUInt32 >>> ((8 : Int32) &&& 31).toUInt32).toInt32).toInt8.toInt32))), (.int (nar .byte (((z0 &&& (65535 : Int32)) / (256 : Int32)).toInt8.toInt32))), (.int (nar .byte (((z0 &&& (65535 : Int32)) - (((z0 &&& (65535 : Int32)) / (256 : Int32)) * (256 : Int32))).toInt8.toInt32))), (.int (nar .byte (z4.toInt8.toInt32)))] 2 (nar .byte (((z0 &&& (65535 : Int32)) / (256 : Int32)).toInt8.toInt32)) (nar .byte (((z0 &&& (65535 : Int32)) - (((z0 &&& (65535 : Int32)) / (256 : Int32)) * (256 : Int32))).toInt8.toInt32)) h14 n0 Z_14 AA14 rfl rfl rfl rfl) (by decide) (by decide) e14 (by decide) (by decide) (by rw [hml]; rfl) (lenOf own_pd0 rfl) rfl rfl (Nat.le_of_eq rfl) (hb hby at_97) ?_
      intro T15 v15 L15 X15 hQ15
      obtain ⟨rfl, N15q, e15q⟩ := hQ15
      have N15 := N14.app N15q
      show Gl _ _ _ _ _ _ _ (T15.setTop (mkF m 100 #[.val (.int z0), .val (.int z1), .val (.int z2), .val (.int z3), .val (.int z4), .val (.int (z0 &&& (65535 : Int32))), .val (.int (2 : Int32)), .val (.ref b1), .val (.int ((z0 &&& (65535 : Int32)) / (256 : Int32))), .val (.int ((z0 &&& (65535 : Int32)) - (((z0 &&& (65535 : Int32)) / (256 : Int32)) * (256 : Int32)))), .unset] [(.int ((2 : Int32) + ((((nar .byte (((z0 &&& (65535 : Int32)) / (256 : Int32)).toInt8.toInt32)) &&& (255 : Int32)) <<< ((8 : Int32) &&& 31)) ||| ((nar .byte (((z0 &&& (65535 : Int32)) - (((z0 &&& (65535 : Int32)) / (256 : Int32)) * (256 : Int32))).toInt8.toInt32)) &&& (255 : Int32)))))]))
      refine Gl.st (b := T15.setTop (mkF m 102 #[.val (.int z0), .val (.int z1), .val (.int z2), .val (.int z3), .val (.int z4), .val (.int (z0 &&& (65535 : Int32))), .val (.int (2 : Int32)), .val (.ref b1), .val (.int ((z0 &&& (65535 : Int32)) / (256 : Int32))), .val (.int ((z0 &&& (65535 : Int32)) - (((z0 &&& (65535 : Int32)) / (256 : Int32)) * (256 : Int32)))), .val (.int ((2 : Int32) + ((((nar .byte (((z0 &&& (65535 : Int32)) / (256 : Int32)).toInt8.toInt32)) &&& (255 : Int32)) <<< ((8 : Int32) &&& 31)) ||| ((nar .byte (((z0 &&& (65535 : Int32)) - (((z0 &&& (65535 : Int32)) / (256 : Int32)) * (256 : Int32))).toInt8.toInt32)) &&& (255 : Int32)))))] [])) (fun tq kq => XS.istore X15.here hx rfl (hb hby at_100) rfl (l' := #[.val (.int z0), .val (.int z1), .val (.int z2), .val (.int z3), .val (.int z4), .val (.int (z0 &&& (65535 : Int32))), .val (.int (2 : Int32)), .val (.ref b1), .val (.int ((z0 &&& (65535 : Int32)) / (256 : Int32))), .val (.int ((z0 &&& (65535 : Int32)) - (((z0 &&& (65535 : Int32)) / (256 : Int32)) * (256 : Int32)))), .val (.int ((2 : Int32) + ((((nar .byte (((z0 &&& (65535 : Int32)) / (256 : Int32)).toInt8.toInt32)) &&& (255 : Int32)) <<< ((8 : Int32) &&& 31)) ||| ((nar .byte (((z0 &&& (65535 : Int32)) - (((z0 &&& (65535 : Int32)) / (256 : Int32)) * (256 : Int32))).toInt8.toInt32)) &&& (255 : Int32)))))]) rfl kq) ?_
      refine Gl.st (b := T15.setTop (mkF m 104 #[.val (.int z0), .val (.int z1), .val (.int z2), .val (.int z3), .val (.int z4), .val (.int (z0 &&& (65535 : Int32))), .val (.int (2 : Int32)), .val (.ref b1), .val (.int ((z0 &&& (65535 : Int32)) / (256 : Int32))), .val (.int ((z0 &&& (65535 : Int32)) - (((z0 &&& (65535 : Int32)) / (256 : Int32)) * (256 : Int32)))), .val (.int ((2 : Int32) + ((((nar .byte (((z0 &&& (65535 : Int32)) / (256 : Int32)).toInt8.toInt32)) &&& (255 : Int32)) <<< ((8 : Int32) &&& 31)) ||| ((nar .byte (((z0 &&& (65535 : Int32)) - (((z0 &&& (65535 : Int32)) / (256 : Int32)) * (256 : Int32))).toInt8.toInt32)) &&& (255 : Int32)))))] [(.int ((2 : Int32) + ((((nar .byte (((z0 &&& (65535 : Int32)) / (256 : Int32)).toInt8.toInt32)) &&& (255 : Int32)) <<< ((8 : Int32) &&& 31)) ||| ((nar .byte (((z0 &&& (65535 : Int32)) - (((z0 &&& (65535 : Int32)) / (256 : Int32)) * (256 : Int32))).toInt8.toInt32)) &&& (255 : Int32)))))])) (fun tq kq => XS.iload X15.here hx rfl (hb hby at_102) rfl kq) ?_
      refine Gl.st (b := T15.setTop (mkF m 106 #[.val (.int z0), .val (.int z1), .val (.int z2), .val (.int z3), .val (.int z4), .val (.int (z0 &&& (65535 : Int32))), .val (.int (2 : Int32)), .val (.ref b1), .val (.int ((z0 &&& (65535 : Int32)) / (256 : Int32))), .val (.int ((z0 &&& (65535 : Int32)) - (((z0 &&& (65535 : Int32)) / (256 : Int32)) * (256 : Int32)))), .val (.int ((2 : Int32) + ((((nar .byte (((z0 &&& (65535 : Int32)) / (256 : Int32)).toInt8.toInt32)) &&& (255 : Int32)) <<< ((8 : Int32) &&& 31)) ||| ((nar .byte (((z0 &&& (65535 : Int32)) - (((z0 &&& (65535 : Int32)) / (256 : Int32)) * (256 : Int32))).toInt8.toInt32)) &&& (255 : Int32)))))] [(.int (z0 &&& (65535 : Int32))), (.int ((2 : Int32) + ((((nar .byte (((z0 &&& (65535 : Int32)) / (256 : Int32)).toInt8.toInt32)) &&& (255 : Int32)) <<< ((8 : Int32) &&& 31)) ||| ((nar .byte (((z0 &&& (65535 : Int32)) - (((z0 &&& (65535 : Int32)) / (256 : Int32)) * (256 : Int32))).toInt8.toInt32)) &&& (255 : Int32)))))])) (fun tq kq => XS.iload X15.here hx rfl (hb hby at_104) rfl kq) ?_
      refine Gl.st (b := T15.setTop (mkF m 107 #[.val (.int z0), .val (.int z1), .val (.int z2), .val (.int z3), .val (.int z4), .val (.int (z0 &&& (65535 : Int32))), .val (.int (2 : Int32)), .val (.ref b1), .val (.int ((z0 &&& (65535 : Int32)) / (256 : Int32))), .val (.int ((z0 &&& (65535 : Int32)) - (((z0 &&& (65535 : Int32)) / (256 : Int32)) * (256 : Int32)))), .val (.int ((2 : Int32) + ((((nar .byte (((z0 &&& (65535 : Int32)) / (256 : Int32)).toInt8.toInt32)) &&& (255 : Int32)) <<< ((8 : Int32) &&& 31)) ||| ((nar .byte (((z0 &&& (65535 : Int32)) - (((z0 &&& (65535 : Int32)) / (256 : Int32)) * (256 : Int32))).toInt8.toInt32)) &&& (255 : Int32)))))] [(.int (2 : Int32)), (.int (z0 &&& (65535 : Int32))), (.int ((2 : Int32) + ((((nar .byte (((z0 &&& (65535 : Int32)) / (256 : Int32)).toInt8.toInt32)) &&& (255 : Int32)) <<< ((8 : Int32) &&& 31)) ||| ((nar .byte (((z0 &&& (65535 : Int32)) - (((z0 &&& (65535 : Int32)) / (256 : Int32)) * (256 : Int32))).toInt8.toInt32)) &&& (255 : Int32)))))])) (fun tq kq => XS.iconst X15.here hx rfl (hb hby at_106) kq) ?_
      refine Gl.st (b := T15.setTop (mkF m 108 #[.val (.int z0), .val (.int z1), .val (.int z2), .val (.int z3), .val (.int z4), .val (.int (z0 &&& (65535 : Int32))), .val (.int (2 : Int32)), .val (.ref b1), .val (.int ((z0 &&& (65535 : Int32)) / (256 : Int32))), .val (.int ((z0 &&& (65535 : Int32)) - (((z0 &&& (65535 : Int32)) / (256 : Int32)) * (256 : Int32)))), .val (.int ((2 : Int32) + ((((nar .byte (((z0 &&& (65535 : Int32)) / (256 : Int32)).toInt8.toInt32)) &&& (255 : Int32)) <<< ((8 : Int32) &&& 31)) ||| ((nar .byte (((z0 &&& (65535 : Int32)) - (((z0 &&& (65535 : Int32)) / (256 : Int32)) * (256 : Int32))).toInt8.toInt32)) &&& (255 : Int32)))))] [(.int ((z0 &&& (65535 : Int32)) + (2 : Int32))), (.int ((2 : Int32) + ((((nar .byte (((z0 &&& (65535 : Int32)) / (256 : Int32)).toInt8.toInt32)) &&& (255 : Int32)) <<< ((8 : Int32) &&& 31)) ||| ((nar .byte (((z0 &&& (65535 : Int32)) - (((z0 &&& (65535 : Int32)) / (256 : Int32)) * (256 : Int32))).toInt8.toInt32)) &&& (255 : Int32)))))])) (fun tq kq => XS.iadd X15.here hx rfl (hb hby at_107) rfl kq) ?_
      refine Gl.st (b := T15.setTop (mkF m 111 #[.val (.int z0), .val (.int z1), .val (.int z2), .val (.int z3), .val (.int z4), .val (.int (z0 &&& (65535 : Int32))), .val (.int (2 : Int32)), .val (.ref b1), .val (.int ((z0 &&& (65535 : Int32)) / (256 : Int32))), .val (.int ((z0 &&& (65535 : Int32)) - (((z0 &&& (65535 : Int32)) / (256 : Int32)) * (256 : Int32)))), .val (.int ((2 : Int32) + ((((nar .byte (((z0 &&& (65535 : Int32)) / (256 : Int32)).toInt8.toInt32)) &&& (255 : Int32)) <<< ((8 : Int32) &&& 31)) ||| ((nar .byte (((z0 &&& (65535 : Int32)) - (((z0 &&& (65535 : Int32)) / (256 : Int32)) * (256 : Int32))).toInt8.toInt32)) &&& (255 : Int32)))))] [])) (fun tq kq => XS.icmpNo X15.here hx rfl (hb hby at_108) rfl (teq (own_key z0)).2 kq) ?_
      refine Gl.st (b := T15.setTop (mkF m 112 #[.val (.int z0), .val (.int z1), .val (.int z2), .val (.int z3), .val (.int z4), .val (.int (z0 &&& (65535 : Int32))), .val (.int (2 : Int32)), .val (.ref b1), .val (.int ((z0 &&& (65535 : Int32)) / (256 : Int32))), .val (.int ((z0 &&& (65535 : Int32)) - (((z0 &&& (65535 : Int32)) / (256 : Int32)) * (256 : Int32)))), .val (.int ((2 : Int32) + ((((nar .byte (((z0 &&& (65535 : Int32)) / (256 : Int32)).toInt8.toInt32)) &&& (255 : Int32)) <<< ((8 : Int32) &&& 31)) ||| ((nar .byte (((z0 &&& (65535 : Int32)) - (((z0 &&& (65535 : Int32)) / (256 : Int32)) * (256 : Int32))).toInt8.toInt32)) &&& (255 : Int32)))))] [(.int (1 : Int32))])) (fun tq kq => XS.iconst X15.here hx rfl (hb hby at_111) kq) ?_
      refine Gl.st (b := T15.setTop (mkF m 116 #[.val (.int z0), .val (.int z1), .val (.int z2), .val (.int z3), .val (.int z4), .val (.int (z0 &&& (65535 : Int32))), .val (.int (2 : Int32)), .val (.ref b1), .val (.int ((z0 &&& (65535 : Int32)) / (256 : Int32))), .val (.int ((z0 &&& (65535 : Int32)) - (((z0 &&& (65535 : Int32)) / (256 : Int32)) * (256 : Int32)))), .val (.int ((2 : Int32) + ((((nar .byte (((z0 &&& (65535 : Int32)) / (256 : Int32)).toInt8.toInt32)) &&& (255 : Int32)) <<< ((8 : Int32) &&& 31)) ||| ((nar .byte (((z0 &&& (65535 : Int32)) - (((z0 &&& (65535 : Int32)) / (256 : Int32)) * (256 : Int32))).toInt8.toInt32)) &&& (255 : Int32)))))] [(.int (1 : Int32))])) (fun tq kq => XS.goto X15.here hx rfl (pc0 := 112) (pc' := 116) rfl (hb hby at_112) (by decide) (by decide) kq) ?_
      exact Gl.retN X15 hx hret (by simp) (hb hby at_116) hlk (by decide) (by decide) ⟨rfl, N15⟩
    ·
      refine Gl.st (b := T6.setTop (mkF m 77 #[.val (.int z0), .val (.int z1), .val (.int z2), .val (.int z3), .val (.int z4), .val (.int (z0 &&& (65535 : Int32))), .val (.int (3 : Int32)), .val (.ref b1), .val (.int ((z0 &&& (65535 : Int32)) / (256 : Int32))), .val (.int ((z0 &&& (65535 : Int32)) - (((z0 &&& (65535 : Int32)) / (256 : Int32)) * (256 : Int32)))), .unset] [(.ref b1)])) (fun tq kq => XS.aload X6.here hx rfl (hb hby at_75) rfl rfl kq) ?_
      refine Gl.st (b := T6.setTop (mkF m 79 #[.val (.int z0), .val (.int z1), .val (.int z2), .val (.int z3), .val (.int z4), .val (.int (z0 &&& (65535 : Int32))), .val (.int (3 : Int32)), .val (.ref b1), .val (.int ((z0 &&& (65535 : Int32)) / (256 : Int32))), .val (.int ((z0 &&& (65535 : Int32)) - (((z0 &&& (65535 : Int32)) / (256 : Int32)) * (256 : Int32)))), .unset] [(.int (3 : Int32)), (.ref b1)])) (fun tq kq => XS.iload X6.here hx rfl (hb hby at_77) rfl kq) ?_
      refine Gl.st (b := T6.setTop (mkF m 81 #[.val (.int z0), .val (.int z1), .val (.int z2), .val (.int z3), .val (.int z4), .val (.int (z0 &&& (65535 : Int32))), .val (.int (3 : Int32)), .val (.ref b1), .val (.int ((z0 &&& (65535 : Int32)) / (256 : Int32))), .val (.int ((z0 &&& (65535 : Int32)) - (((z0 &&& (65535 : Int32)) / (256 : Int32)) * (256 : Int32)))), .unset] [(.int ((z0 &&& (65535 : Int32)) / (256 : Int32))), (.int (3 : Int32)), (.ref b1)])) (fun tq kq => XS.iload X6.here hx rfl (hb hby at_79) rfl kq) ?_
      refine Gl.st (b := T6.setTop (mkF m 82 #[.val (.int z0), .val (.int z1), .val (.int z2), .val (.int z3), .val (.int z4), .val (.int (z0 &&& (65535 : Int32))), .val (.int (3 : Int32)), .val (.ref b1), .val (.int ((z0 &&& (65535 : Int32)) / (256 : Int32))), .val (.int ((z0 &&& (65535 : Int32)) - (((z0 &&& (65535 : Int32)) / (256 : Int32)) * (256 : Int32)))), .unset] [(.int (((z0 &&& (65535 : Int32)) / (256 : Int32)).toInt8.toInt32)), (.int (3 : Int32)), (.ref b1)])) (fun tq kq => XS.i2b X6.here hx rfl (hb hby at_81) rfl kq) ?_
      refine Gl.bastore (k := 3) X6 hx hZ e6 AA6 N6 G_b1 rfl (Nat.le_of_ble_eq_true rfl) (hb hby at_82) ?_
      intro T16 h16 L16 X16 e16 N16 W16 A16
      have AA16 : Ar Z h16 b1 .byte [(.int (nar .byte (z2.toInt8.toInt32))), (.int (nar .byte (((z2.toUInt32 >>> ((8 : Int32) &&& 31).toUInt32).toInt32).toInt8.toInt32))), (.int (nar .byte (z3.toInt8.toInt32))), (.int (nar .byte (((z0 &&& (65535 : Int32)) / (256 : Int32)).toInt8.toInt32))), (.int (nar .byte (z4.toInt8.toInt32)))] := A16
      have Z_16 : n0 ≤ h16.size := Nat.le_trans Z_6 (Nat.le_of_eq W16.size.symm)
      show Gl _ _ _ _ _ _ _ (T16.setTop (mkF m 83 #[.val (.int z0), .val (.int z1), .val (.int z2), .val (.int z3), .val (.int z4), .val (.int (z0 &&& (65535 : Int32))), .val (.int (3 : Int32)), .val (.ref b1), .val (.int ((z0 &&& (65535 : Int32)) / (256 : Int32))), .val (.int ((z0 &&& (65535 : Int32)) - (((z0 &&& (65535 : Int32)) / (256 : Int32)) * (256 : Int32)))), .unset] []))
      refine Gl.st (b := T16.setTop (mkF m 85 #[.val (.int z0), .val (.int z1), .val (.int z2), .val (.int z3), .val (.int z4), .val (.int (z0 &&& (65535 : Int32))), .val (.int (3 : Int32)), .val (.ref b1), .val (.int ((z0 &&& (65535 : Int32)) / (256 : Int32))), .val (.int ((z0 &&& (65535 : Int32)) - (((z0 &&& (65535 : Int32)) / (256 : Int32)) * (256 : Int32)))), .unset] [(.ref b1)])) (fun tq kq => XS.aload X16.here hx rfl (hb hby at_83) rfl rfl kq) ?_
      refine Gl.st (b := T16.setTop (mkF m 87 #[.val (.int z0), .val (.int z1), .val (.int z2), .val (.int z3), .val (.int z4), .val (.int (z0 &&& (65535 : Int32))), .val (.int (3 : Int32)), .val (.ref b1), .val (.int ((z0 &&& (65535 : Int32)) / (256 : Int32))), .val (.int ((z0 &&& (65535 : Int32)) - (((z0 &&& (65535 : Int32)) / (256 : Int32)) * (256 : Int32)))), .unset] [(.int (3 : Int32)), (.ref b1)])) (fun tq kq => XS.iload X16.here hx rfl (hb hby at_85) rfl kq) ?_
      refine Gl.st (b := T16.setTop (mkF m 88 #[.val (.int z0), .val (.int z1), .val (.int z2), .val (.int z3), .val (.int z4), .val (.int (z0 &&& (65535 : Int32))), .val (.int (3 : Int32)), .val (.ref b1), .val (.int ((z0 &&& (65535 : Int32)) / (256 : Int32))), .val (.int ((z0 &&& (65535 : Int32)) - (((z0 &&& (65535 : Int32)) / (256 : Int32)) * (256 : Int32)))), .unset] [(.int (1 : Int32)), (.int (3 : Int32)), (.ref b1)])) (fun tq kq => XS.iconst X16.here hx rfl (hb hby at_87) kq) ?_
      refine Gl.st (b := T16.setTop (mkF m 89 #[.val (.int z0), .val (.int z1), .val (.int z2), .val (.int z3), .val (.int z4), .val (.int (z0 &&& (65535 : Int32))), .val (.int (3 : Int32)), .val (.ref b1), .val (.int ((z0 &&& (65535 : Int32)) / (256 : Int32))), .val (.int ((z0 &&& (65535 : Int32)) - (((z0 &&& (65535 : Int32)) / (256 : Int32)) * (256 : Int32)))), .unset] [(.int (4 : Int32)), (.ref b1)])) (fun tq kq => XS.iadd X16.here hx rfl (hb hby at_88) rfl kq) ?_
      refine Gl.st (b := T16.setTop (mkF m 91 #[.val (.int z0), .val (.int z1), .val (.int z2), .val (.int z3), .val (.int z4), .val (.int (z0 &&& (65535 : Int32))), .val (.int (3 : Int32)), .val (.ref b1), .val (.int ((z0 &&& (65535 : Int32)) / (256 : Int32))), .val (.int ((z0 &&& (65535 : Int32)) - (((z0 &&& (65535 : Int32)) / (256 : Int32)) * (256 : Int32)))), .unset] [(.int ((z0 &&& (65535 : Int32)) - (((z0 &&& (65535 : Int32)) / (256 : Int32)) * (256 : Int32)))), (.int (4 : Int32)), (.ref b1)])) (fun tq kq => XS.iload X16.here hx rfl (hb hby at_89) rfl kq) ?_
      refine Gl.st (b := T16.setTop (mkF m 92 #[.val (.int z0), .val (.int z1), .val (.int z2), .val (.int z3), .val (.int z4), .val (.int (z0 &&& (65535 : Int32))), .val (.int (3 : Int32)), .val (.ref b1), .val (.int ((z0 &&& (65535 : Int32)) / (256 : Int32))), .val (.int ((z0 &&& (65535 : Int32)) - (((z0 &&& (65535 : Int32)) / (256 : Int32)) * (256 : Int32)))), .unset] [(.int (((z0 &&& (65535 : Int32)) - (((z0 &&& (65535 : Int32)) / (256 : Int32)) * (256 : Int32))).toInt8.toInt32)), (.int (4 : Int32)), (.ref b1)])) (fun tq kq => XS.i2b X16.here hx rfl (hb hby at_91) rfl kq) ?_
      refine Gl.bastore (k := 4) X16 hx hZ e16 AA16 N16 G_b1 rfl (Nat.le_of_ble_eq_true rfl) (hb hby at_92) ?_
      intro T17 h17 L17 X17 e17 N17 W17 A17
      have AA17 : Ar Z h17 b1 .byte [(.int (nar .byte (z2.toInt8.toInt32))), (.int (nar .byte (((z2.toUInt32 >>> ((8 : Int32) &&& 31).toUInt32).toInt32).toInt8.toInt32))), (.int (nar .byte (z3.toInt8.toInt32))), (.int (nar .byte (((z0 &&& (65535 : Int32)) / (256 : Int32)).toInt8.toInt32))), (.int (nar .byte (((z0 &&& (65535 : Int32)) - (((z0 &&& (65535 : Int32)) / (256 : Int32)) * (256 : Int32))).toInt8.toInt32)))] := A17
      have Z_17 : n0 ≤ h17.size := Nat.le_trans Z_16 (Nat.le_of_eq W17.size.symm)
      show Gl _ _ _ _ _ _ _ (T17.setTop (mkF m 93 #[.val (.int z0), .val (.int z1), .val (.int z2), .val (.int z3), .val (.int z4), .val (.int (z0 &&& (65535 : Int32))), .val (.int (3 : Int32)), .val (.ref b1), .val (.int ((z0 &&& (65535 : Int32)) / (256 : Int32))), .val (.int ((z0 &&& (65535 : Int32)) - (((z0 &&& (65535 : Int32)) / (256 : Int32)) * (256 : Int32)))), .unset] []))
      refine Gl.st (b := T17.setTop (mkF m 95 #[.val (.int z0), .val (.int z1), .val (.int z2), .val (.int z3), .val (.int z4), .val (.int (z0 &&& (65535 : Int32))), .val (.int (3 : Int32)), .val (.ref b1), .val (.int ((z0 &&& (65535 : Int32)) / (256 : Int32))), .val (.int ((z0 &&& (65535 : Int32)) - (((z0 &&& (65535 : Int32)) / (256 : Int32)) * (256 : Int32)))), .unset] [(.ref b1)])) (fun tq kq => XS.aload X17.here hx rfl (hb hby at_93) rfl rfl kq) ?_
      refine Gl.st (b := T17.setTop (mkF m 97 #[.val (.int z0), .val (.int z1), .val (.int z2), .val (.int z3), .val (.int z4), .val (.int (z0 &&& (65535 : Int32))), .val (.int (3 : Int32)), .val (.ref b1), .val (.int ((z0 &&& (65535 : Int32)) / (256 : Int32))), .val (.int ((z0 &&& (65535 : Int32)) - (((z0 &&& (65535 : Int32)) / (256 : Int32)) * (256 : Int32)))), .unset] [(.int (3 : Int32)), (.ref b1)])) (fun tq kq => XS.iload X17.here hx rfl (hb hby at_95) rfl kq) ?_
      refine Gl.callS (W := 0) (argsL := [(.ref b1), (.int (3 : Int32))]) (rest := []) X17 hx hZ hown (hw _ (List.mem_of_getElem? (i := 3) rfl)) (hw _ (List.mem_of_getElem? (i := 4) rfl)) (hw _ (List.mem_of_getElem? (i := 5) rfl)) (hw _ (List.mem_of_getElem? (i := 6) rfl)) (by decide) (rm1 l Z a0 hw [] b1 (3 : Int32) [(.int (nar .byte (z2.toInt8.toInt32))), (.int (nar .byte (((z2.toUInt32 >>> ((8 : Int32) &&& 31).toUInt32).toInt32).toInt8.toInt32))), (.int (nar .byte (z3.toInt8.toInt32))), (.int (nar .byte (((z0 &&& (65535 : Int32)) / (256 : Int32)).toInt8.toInt32))), (.int (nar .byte (((z0 &&& (65535 : Int32)) - (((z0 &&& (65535 : Int32)) / (256 : Int32)) * (256 : Int32))).toInt8.toInt32)))] 3 (nar .byte (((z0 &&& (65535 : Int32)) / (256 : Int32)).toInt8.toInt32)) (nar .byte (((z0 &&& (65535 : Int32)) - (((z0 &&& (65535 : Int32)) / (256 : Int32)) * (256 : Int32))).toInt8.toInt32)) h17 n0 Z_17 AA17 rfl rfl rfl rfl) (by decide) (by decide) e17 (by decide) (by decide) (by rw [hml]; rfl) (lenOf own_pd0 rfl) rfl rfl (Nat.le_of_eq rfl) (hb hby at_97) ?_
      intro T18 v18 L18 X18 hQ18
      obtain ⟨rfl, N18q, e18q⟩ := hQ18
      have N18 := N17.app N18q
      show Gl _ _ _ _ _ _ _ (T18.setTop (mkF m 100 #[.val (.int z0), .val (.int z1), .val (.int z2), .val (.int z3), .val (.int z4), .val (.int (z0 &&& (65535 : Int32))), .val (.int (3 : Int32)), .val (.ref b1), .val (.int ((z0 &&& (65535 : Int32)) / (256 : Int32))), .val (.int ((z0 &&& (65535 : Int32)) - (((z0 &&& (65535 : Int32)) / (256 : Int32)) * (256 : Int32)))), .unset] [(.int ((2 : Int32) + ((((nar .byte (((z0 &&& (65535 : Int32)) / (256 : Int32)).toInt8.toInt32)) &&& (255 : Int32)) <<< ((8 : Int32) &&& 31)) ||| ((nar .byte (((z0 &&& (65535 : Int32)) - (((z0 &&& (65535 : Int32)) / (256 : Int32)) * (256 : Int32))).toInt8.toInt32)) &&& (255 : Int32)))))]))
      refine Gl.st (b := T18.setTop (mkF m 102 #[.val (.int z0), .val (.int z1), .val (.int z2), .val (.int z3), .val (.int z4), .val (.int (z0 &&& (65535 : Int32))), .val (.int (3 : Int32)), .val (.ref b1), .val (.int ((z0 &&& (65535 : Int32)) / (256 : Int32))), .val (.int ((z0 &&& (65535 : Int32)) - (((z0 &&& (65535 : Int32)) / (256 : Int32)) * (256 : Int32)))), .val (.int ((2 : Int32) + ((((nar .byte (((z0 &&& (65535 : Int32)) / (256 : Int32)).toInt8.toInt32)) &&& (255 : Int32)) <<< ((8 : Int32) &&& 31)) ||| ((nar .byte (((z0 &&& (65535 : Int32)) - (((z0 &&& (65535 : Int32)) / (256 : Int32)) * (256 : Int32))).toInt8.toInt32)) &&& (255 : Int32)))))] [])) (fun tq kq => XS.istore X18.here hx rfl (hb hby at_100) rfl (l' := #[.val (.int z0), .val (.int z1), .val (.int z2), .val (.int z3), .val (.int z4), .val (.int (z0 &&& (65535 : Int32))), .val (.int (3 : Int32)), .val (.ref b1), .val (.int ((z0 &&& (65535 : Int32)) / (256 : Int32))), .val (.int ((z0 &&& (65535 : Int32)) - (((z0 &&& (65535 : Int32)) / (256 : Int32)) * (256 : Int32)))), .val (.int ((2 : Int32) + ((((nar .byte (((z0 &&& (65535 : Int32)) / (256 : Int32)).toInt8.toInt32)) &&& (255 : Int32)) <<< ((8 : Int32) &&& 31)) ||| ((nar .byte (((z0 &&& (65535 : Int32)) - (((z0 &&& (65535 : Int32)) / (256 : Int32)) * (256 : Int32))).toInt8.toInt32)) &&& (255 : Int32)))))]) rfl kq) ?_
      refine Gl.st (b := T18.setTop (mkF m 104 #[.val (.int z0), .val (.int z1), .val (.int z2), .val (.int z3), .val (.int z4), .val (.int (z0 &&& (65535 : Int32))), .val (.int (3 : Int32)), .val (.ref b1), .val (.int ((z0 &&& (65535 : Int32)) / (256 : Int32))), .val (.int ((z0 &&& (65535 : Int32)) - (((z0 &&& (65535 : Int32)) / (256 : Int32)) * (256 : Int32)))), .val (.int ((2 : Int32) + ((((nar .byte (((z0 &&& (65535 : Int32)) / (256 : Int32)).toInt8.toInt32)) &&& (255 : Int32)) <<< ((8 : Int32) &&& 31)) ||| ((nar .byte (((z0 &&& (65535 : Int32)) - (((z0 &&& (65535 : Int32)) / (256 : Int32)) * (256 : Int32))).toInt8.toInt32)) &&& (255 : Int32)))))] [(.int ((2 : Int32) + ((((nar .byte (((z0 &&& (65535 : Int32)) / (256 : Int32)).toInt8.toInt32)) &&& (255 : Int32)) <<< ((8 : Int32) &&& 31)) ||| ((nar .byte (((z0 &&& (65535 : Int32)) - (((z0 &&& (65535 : Int32)) / (256 : Int32)) * (256 : Int32))).toInt8.toInt32)) &&& (255 : Int32)))))])) (fun tq kq => XS.iload X18.here hx rfl (hb hby at_102) rfl kq) ?_
      refine Gl.st (b := T18.setTop (mkF m 106 #[.val (.int z0), .val (.int z1), .val (.int z2), .val (.int z3), .val (.int z4), .val (.int (z0 &&& (65535 : Int32))), .val (.int (3 : Int32)), .val (.ref b1), .val (.int ((z0 &&& (65535 : Int32)) / (256 : Int32))), .val (.int ((z0 &&& (65535 : Int32)) - (((z0 &&& (65535 : Int32)) / (256 : Int32)) * (256 : Int32)))), .val (.int ((2 : Int32) + ((((nar .byte (((z0 &&& (65535 : Int32)) / (256 : Int32)).toInt8.toInt32)) &&& (255 : Int32)) <<< ((8 : Int32) &&& 31)) ||| ((nar .byte (((z0 &&& (65535 : Int32)) - (((z0 &&& (65535 : Int32)) / (256 : Int32)) * (256 : Int32))).toInt8.toInt32)) &&& (255 : Int32)))))] [(.int (z0 &&& (65535 : Int32))), (.int ((2 : Int32) + ((((nar .byte (((z0 &&& (65535 : Int32)) / (256 : Int32)).toInt8.toInt32)) &&& (255 : Int32)) <<< ((8 : Int32) &&& 31)) ||| ((nar .byte (((z0 &&& (65535 : Int32)) - (((z0 &&& (65535 : Int32)) / (256 : Int32)) * (256 : Int32))).toInt8.toInt32)) &&& (255 : Int32)))))])) (fun tq kq => XS.iload X18.here hx rfl (hb hby at_104) rfl kq) ?_
      refine Gl.st (b := T18.setTop (mkF m 107 #[.val (.int z0), .val (.int z1), .val (.int z2), .val (.int z3), .val (.int z4), .val (.int (z0 &&& (65535 : Int32))), .val (.int (3 : Int32)), .val (.ref b1), .val (.int ((z0 &&& (65535 : Int32)) / (256 : Int32))), .val (.int ((z0 &&& (65535 : Int32)) - (((z0 &&& (65535 : Int32)) / (256 : Int32)) * (256 : Int32)))), .val (.int ((2 : Int32) + ((((nar .byte (((z0 &&& (65535 : Int32)) / (256 : Int32)).toInt8.toInt32)) &&& (255 : Int32)) <<< ((8 : Int32) &&& 31)) ||| ((nar .byte (((z0 &&& (65535 : Int32)) - (((z0 &&& (65535 : Int32)) / (256 : Int32)) * (256 : Int32))).toInt8.toInt32)) &&& (255 : Int32)))))] [(.int (2 : Int32)), (.int (z0 &&& (65535 : Int32))), (.int ((2 : Int32) + ((((nar .byte (((z0 &&& (65535 : Int32)) / (256 : Int32)).toInt8.toInt32)) &&& (255 : Int32)) <<< ((8 : Int32) &&& 31)) ||| ((nar .byte (((z0 &&& (65535 : Int32)) - (((z0 &&& (65535 : Int32)) / (256 : Int32)) * (256 : Int32))).toInt8.toInt32)) &&& (255 : Int32)))))])) (fun tq kq => XS.iconst X18.here hx rfl (hb hby at_106) kq) ?_
      refine Gl.st (b := T18.setTop (mkF m 108 #[.val (.int z0), .val (.int z1), .val (.int z2), .val (.int z3), .val (.int z4), .val (.int (z0 &&& (65535 : Int32))), .val (.int (3 : Int32)), .val (.ref b1), .val (.int ((z0 &&& (65535 : Int32)) / (256 : Int32))), .val (.int ((z0 &&& (65535 : Int32)) - (((z0 &&& (65535 : Int32)) / (256 : Int32)) * (256 : Int32)))), .val (.int ((2 : Int32) + ((((nar .byte (((z0 &&& (65535 : Int32)) / (256 : Int32)).toInt8.toInt32)) &&& (255 : Int32)) <<< ((8 : Int32) &&& 31)) ||| ((nar .byte (((z0 &&& (65535 : Int32)) - (((z0 &&& (65535 : Int32)) / (256 : Int32)) * (256 : Int32))).toInt8.toInt32)) &&& (255 : Int32)))))] [(.int ((z0 &&& (65535 : Int32)) + (2 : Int32))), (.int ((2 : Int32) + ((((nar .byte (((z0 &&& (65535 : Int32)) / (256 : Int32)).toInt8.toInt32)) &&& (255 : Int32)) <<< ((8 : Int32) &&& 31)) ||| ((nar .byte (((z0 &&& (65535 : Int32)) - (((z0 &&& (65535 : Int32)) / (256 : Int32)) * (256 : Int32))).toInt8.toInt32)) &&& (255 : Int32)))))])) (fun tq kq => XS.iadd X18.here hx rfl (hb hby at_107) rfl kq) ?_
      refine Gl.st (b := T18.setTop (mkF m 111 #[.val (.int z0), .val (.int z1), .val (.int z2), .val (.int z3), .val (.int z4), .val (.int (z0 &&& (65535 : Int32))), .val (.int (3 : Int32)), .val (.ref b1), .val (.int ((z0 &&& (65535 : Int32)) / (256 : Int32))), .val (.int ((z0 &&& (65535 : Int32)) - (((z0 &&& (65535 : Int32)) / (256 : Int32)) * (256 : Int32)))), .val (.int ((2 : Int32) + ((((nar .byte (((z0 &&& (65535 : Int32)) / (256 : Int32)).toInt8.toInt32)) &&& (255 : Int32)) <<< ((8 : Int32) &&& 31)) ||| ((nar .byte (((z0 &&& (65535 : Int32)) - (((z0 &&& (65535 : Int32)) / (256 : Int32)) * (256 : Int32))).toInt8.toInt32)) &&& (255 : Int32)))))] [])) (fun tq kq => XS.icmpNo X18.here hx rfl (hb hby at_108) rfl (teq (own_key z0)).2 kq) ?_
      refine Gl.st (b := T18.setTop (mkF m 112 #[.val (.int z0), .val (.int z1), .val (.int z2), .val (.int z3), .val (.int z4), .val (.int (z0 &&& (65535 : Int32))), .val (.int (3 : Int32)), .val (.ref b1), .val (.int ((z0 &&& (65535 : Int32)) / (256 : Int32))), .val (.int ((z0 &&& (65535 : Int32)) - (((z0 &&& (65535 : Int32)) / (256 : Int32)) * (256 : Int32)))), .val (.int ((2 : Int32) + ((((nar .byte (((z0 &&& (65535 : Int32)) / (256 : Int32)).toInt8.toInt32)) &&& (255 : Int32)) <<< ((8 : Int32) &&& 31)) ||| ((nar .byte (((z0 &&& (65535 : Int32)) - (((z0 &&& (65535 : Int32)) / (256 : Int32)) * (256 : Int32))).toInt8.toInt32)) &&& (255 : Int32)))))] [(.int (1 : Int32))])) (fun tq kq => XS.iconst X18.here hx rfl (hb hby at_111) kq) ?_
      refine Gl.st (b := T18.setTop (mkF m 116 #[.val (.int z0), .val (.int z1), .val (.int z2), .val (.int z3), .val (.int z4), .val (.int (z0 &&& (65535 : Int32))), .val (.int (3 : Int32)), .val (.ref b1), .val (.int ((z0 &&& (65535 : Int32)) / (256 : Int32))), .val (.int ((z0 &&& (65535 : Int32)) - (((z0 &&& (65535 : Int32)) / (256 : Int32)) * (256 : Int32)))), .val (.int ((2 : Int32) + ((((nar .byte (((z0 &&& (65535 : Int32)) / (256 : Int32)).toInt8.toInt32)) &&& (255 : Int32)) <<< ((8 : Int32) &&& 31)) ||| ((nar .byte (((z0 &&& (65535 : Int32)) - (((z0 &&& (65535 : Int32)) / (256 : Int32)) * (256 : Int32))).toInt8.toInt32)) &&& (255 : Int32)))))] [(.int (1 : Int32))])) (fun tq kq => XS.goto X18.here hx rfl (pc0 := 112) (pc' := 116) rfl (hb hby at_112) (by decide) (by decide) kq) ?_
      exact Gl.retN X18 hx hret (by simp) (hb hby at_116) hlk (by decide) (by decide) ⟨rfl, N18⟩
  exact GOAL
set_option maxRecDepth 65536 in
set_option maxHeartbeats 40000000 in
theorem comes_1 {Post : Tables → Env → Array Value → State → Outcome → State → Prop} (hpost : ∀ tb e args s v u, (limb_1_1.after args s (.returned v) u = true ∧ limb_1_2.after args s (.returned v) u = true ∧ True) → FrameEnd s (.returned v) u (Jvm.fieldLocs frame_1_writes args s ++ Jvm.arrayLocs frame_1_arrays args s ++ Jvm.staticLocs frame_1_statics s) 16 128 → Post tb e args s (.returned v) u) :
    ArmFor flags0 classFile x code maxLocals ret World_1 tables_1 room_1 Calls_1 rest_1 Pre_1 Post := by
  intro l hfl _ _ p e ha hc hk s m args below hf hA hF happ hP
  obtain ⟨hcalls, hrest, hpre⟩ := hP
  obtain ⟨-, -, -, hnamed, -, -, -, hat⟩ := (Spec.applies_iff hf).mp happ
  obtain ⟨hg, hn⟩ := and_e (Cond.before_iff.mp (show (Jvm.Cond.and given_1 narrow_1).before args s = true from hpre))
  obtain ⟨g1, k1⟩ := and_e hg
  obtain ⟨g2, k2⟩ := and_e k1
  obtain ⟨g3, k3⟩ := and_e k2
  obtain ⟨g4, k4⟩ := and_e k3
  obtain ⟨g5, k5⟩ := and_e k4
  obtain ⟨w0, w1, w2, w3, w4, rfl⟩ : ∃ w0 w1 w2 w3 w4 : Value, args = #[w0, w1, w2, w3, w4] := by
    have hs : args.size = 5 := by simpa [Cond.value, given_1] using g1
    obtain ⟨L⟩ := args
    match L, hs with
    | [w0, w1, w2, w3, w4], _ => exact ⟨w0, w1, w2, w3, w4, rfl⟩
  have hw := fun d (hd : d ∈ tables_1) => atoms_spec (ws := Jvm.Cond.code x code maxLocals ret :: tables_1) hat d (List.mem_cons_of_mem _ hd)
  obtain ⟨i0, ei0⟩ := is_v g2
  obtain rfl : w0 = (.int i0) := Option.some.inj ei0
  obtain ⟨i1, ei1⟩ := is_v g3
  obtain rfl : w1 = (.int i1) := Option.some.inj ei1
  obtain ⟨i2, ei2⟩ := is_v g4
  obtain rfl : w2 = (.int i2) := Option.some.inj ei2
  obtain ⟨i3, ei3⟩ := is_v g5
  obtain rfl : w3 = (.int i3) := Option.some.inj ei3
  obtain ⟨i4, ei4⟩ := is_v k5
  obtain rfl : w4 = (.int i4) := Option.some.inj ei4
  obtain ⟨n, o, h1, h2, h3, _, L, rfl, ⟨rfl, N⟩, hq⟩ := rm0 l s _ hw tables_1 i0 i1 i2 i3 i4 s.heap s.heap.size (Nat.le_refl _)  p e ha hc hk s m _ below hf ((Spec.applies_iff_loose hf).mp happ).1 ⟨rfl, State.Warmed39.refl s, rfl⟩ trivial
  refine ⟨n, _, h1, h2, h3, hpost _ _ _ _ _ _ ⟨Cond.after_iff.mpr rfl, Cond.after_iff.mpr (eq_i res_at (Term.int_eval (1)) rfl), trivial⟩ ⟨hq.1, hq.2.1, (hq.2.2.sift fun y hy => Or.inr (N y hy)).mono (by decide) (by decide)⟩⟩
theorem main_1_1 : Claimed_1_1 := comes_1 fun _ _ _ _ _ _ h hF => ⟨h.1, hF⟩
theorem main_1_2 : Claimed_1_2 := comes_1 fun _ _ _ _ _ _ h hF => ⟨h.2.1, hF⟩

end Jvm.Pilot.@@N@@
namespace Jvm.Pilot.@@N@@
open Jvm Jvm.ClassFile Sem Op Lib Jvm.Free Jvm.Stand Jvm.Pilot.@@N@@.Jvm.D
/-! MADE BY PROGRAM (witnessworld.py) out of the Statement's table words and the real class files: 10 classes; the members and pool entries that the words name. The judged class is class 1, her method 1. -/
namespace start1
open Jvm.ClassFile
def u (s : String) : CpInfo := .utf8 (stringToUtf16 s)
/-- a pool by its gaps: so many unusable entries, then the entry; so many at the end -/
def gap : Nat → List CpInfo → List CpInfo
  | 0, r => r
  | n + 1, r => .unusable :: gap n r
def poolList (es : List (Nat × CpInfo)) (last : Nat) : List CpInfo := es.foldr (fun e r => gap e.1 (e.2 :: r)) (gap last [])
def pool (es : List (Nat × CpInfo)) (last : Nat) : Array CpInfo := ⟨poolList es last⟩
def fileOf (pool : Array CpInfo) (this : Nat) (attrs : Array Attribute := #[]) (ms : Array MethodInfo := #[]) (fl : Nat := 33) (sup : Nat := 0) (ifs : Array Nat := #[]) (fds : Array FieldInfo := #[]) : ClassFile where
  minorVersion := 0
  majorVersion := 65
  constantPool := pool
  accessFlags := fl
  thisClass := this
  superClass := sup
  interfaces := ifs
  fields := fds
  methods := ms
  attributes := attrs
def plain (name : String) (sup : Option ClassId) : Class where
  name := name
  kind := .ordinary
  loader := none
  accessFlags := 33
  super := sup
  interfaces := #[]
  cf := none
  fields := #[]
  methods := #[]
  instanceTypes := #[]
  staticTypes := #[]
  resolved := #[]
  callSites := []
  init := .initialized
  statics := none
  mirror := none

def pool0 : Array CpInfo := pool [(5, u "<init>"), (0, u "()V"), (1, .class_ 10), (1, u "java/lang/Object")] 113

def k0m0 : Method := { name := "<init>", desc := "()V", sig := { parameters := [], returnType := none }, accessFlags := 1, code := none }
/-- java/lang/Object -/
def k0 : Class := { plain "java/lang/Object" none with
  accessFlags := 33
  interfaces := #[]
  cf := some (fileOf pool0 8 #[] #[{ accessFlags := 1, nameIndex := 5, descriptorIndex := 6, attributes := #[] }] 33 0 #[] #[])
  fields := #[]
  methods := #[k0m0]
  instanceTypes := #[]
  staticTypes := #[]
  resolved := Array.replicate 124 none
  statics := none }

def pool1 : Array CpInfo := pool [(2, .class_ 4), (1, u "java/lang/Object"), (0, u "<init>"), (0, u "()V"), (0, .integer 65535), (0, .integer 2147483647), (0, .methodref 10 11), (0, .class_ 12), (0, .nameAndType 13 14), (0, u "com/example/fiche/fiche/table/ItemKey"), (0, u "partitionBytesLength"), (0, u "([BI)I"), (0, .class_ 16), (0, u "com/example/fiche/fiche/table/ItemKeyPartitionBytesLengthPinLaw"), (2, u "law"), (0, u "(IIIII)Z")] 5

def k1m0 : Method := { name := "<init>", desc := "()V", sig := { parameters := [], returnType := none }, accessFlags := 2, code := none }
def k1c1 : Code := { maxStack := 4, maxLocals := 11, code := code, exceptionTable := #[], attributes := #[] }
def k1m1 : Method := { name := "law", desc := "(IIIII)Z", sig := { parameters := [.int, .int, .int, .int, .int], returnType := some .boolean }, accessFlags := 9, code := some k1c1 }
/-- com/example/fiche/fiche/table/ItemKeyPartitionBytesLengthPinLaw -/
def k1 : Class := { plain "com/example/fiche/fiche/table/ItemKeyPartitionBytesLengthPinLaw" (some 0) with
  accessFlags := 49
  interfaces := #[]
  cf := some (fileOf pool1 15 #[] #[{ accessFlags := 2, nameIndex := 5, descriptorIndex := 6, attributes := #[] }, { accessFlags := 9, nameIndex := 19, descriptorIndex := 20, attributes := #[] }] 49 2 #[] #[])
  fields := #[]
  methods := #[k1m0, k1m1]
  instanceTypes := #[]
  staticTypes := #[]
  resolved := Array.replicate 26 none
  statics := none }

def pool2 : Array CpInfo := pool [(2, .class_ 4), (1, u "java/lang/Object"), (0, u "<init>"), (0, u "()V"), (0, .class_ 8), (0, u "java/lang/Record")] 13

def k2m0 : Method := { name := "<init>", desc := "()V", sig := { parameters := [], returnType := none }, accessFlags := 4, code := none }
/-- java/lang/Record -/
def k2 : Class := { plain "java/lang/Record" (some 0) with
  accessFlags := 1057
  interfaces := #[]
  cf := some (fileOf pool2 7 #[] #[{ accessFlags := 4, nameIndex := 5, descriptorIndex := 6, attributes := #[] }] 1057 2 #[] #[])
  fields := #[]
  methods := #[k2m0]
  instanceTypes := #[]
  staticTypes := #[]
  resolved := Array.replicate 22 none
  statics := none }

def pool3 : Array CpInfo := pool [(2, .class_ 4), (1, u "java/lang/Record"), (3, u "partition"), (7, .class_ 18), (1, u "com/example/fiche/fiche/table/ItemKey"), (0, u "Lcom/example/fiche/fiche/item/AttributeValue;"), (2, u "sort"), (49, .class_ 74), (1, u "com/example/fiche/fiche/table/ItemKey$1"), (114, u "MAX_PARTITION_BYTES"), (0, u "I"), (2, u "MAX_SORT_BYTES"), (1, u "NEGATIVE"), (0, u "B"), (1, u "ZERO"), (1, u "POSITIVE"), (1, u "NEGATIVE_END"), (1, u "ESCAPED_ZERO"), (13, u "partitionBytesLength"), (0, u "([BI)I")] 34

def k3c0 : Code := { maxStack := 5, maxLocals := 2, code := prog_26_method_8_code, exceptionTable := #[], attributes := #[] }
def k3m0 : Method := { name := "partitionBytesLength", desc := "([BI)I", sig := { parameters := [(.array .byte), .int], returnType := some .int }, accessFlags := 8, code := some k3c0 }
/-- com/example/fiche/fiche/table/ItemKey -/
def k3 : Class := { plain "com/example/fiche/fiche/table/ItemKey" (some 2) with
  accessFlags := 49
  interfaces := #[]
  cf := some (fileOf pool3 16 #[.nestMembers #[72]] #[{ accessFlags := 8, nameIndex := 218, descriptorIndex := 219, attributes := #[] }] 49 2 #[] #[{ accessFlags := 18, nameIndex := 8, descriptorIndex := 19, attributes := #[] }, { accessFlags := 18, nameIndex := 22, descriptorIndex := 19, attributes := #[] }, { accessFlags := 25, nameIndex := 189, descriptorIndex := 190, attributes := #[] }, { accessFlags := 25, nameIndex := 193, descriptorIndex := 190, attributes := #[] }, { accessFlags := 26, nameIndex := 195, descriptorIndex := 196, attributes := #[] }, { accessFlags := 26, nameIndex := 198, descriptorIndex := 196, attributes := #[] }, { accessFlags := 26, nameIndex := 200, descriptorIndex := 196, attributes := #[] }, { accessFlags := 26, nameIndex := 202, descriptorIndex := 196, attributes := #[] }, { accessFlags := 26, nameIndex := 204, descriptorIndex := 196, attributes := #[] }])
  fields := #[{ name := "partition", type := (.object "com/example/fiche/fiche/item/AttributeValue"), accessFlags := 18, slot := 0, constantValue := 0 }, { name := "sort", type := (.object "com/example/fiche/fiche/item/AttributeValue"), accessFlags := 18, slot := 1, constantValue := 0 }, { name := "MAX_PARTITION_BYTES", type := .int, accessFlags := 25, slot := 0, constantValue := 0 }, { name := "MAX_SORT_BYTES", type := .int, accessFlags := 25, slot := 1, constantValue := 0 }, { name := "NEGATIVE", type := .byte, accessFlags := 26, slot := 2, constantValue := 0 }, { name := "ZERO", type := .byte, accessFlags := 26, slot := 3, constantValue := 0 }, { name := "POSITIVE", type := .byte, accessFlags := 26, slot := 4, constantValue := 0 }, { name := "NEGATIVE_END", type := .byte, accessFlags := 26, slot := 5, constantValue := 0 }, { name := "ESCAPED_ZERO", type := .byte, accessFlags := 26, slot := 6, constantValue := 0 }]
  methods := #[k3m0]
  instanceTypes := #[(.object "com/example/fiche/fiche/item/AttributeValue"), (.object "com/example/fiche/fiche/item/AttributeValue")]
  staticTypes := #[.int, .int, .byte, .byte, .byte, .byte, .byte]
  resolved := Array.replicate 254 none
  statics := none }

def pool4 : Array CpInfo := pool [(1, u "java/lang/Cloneable"), (0, .class_ 1), (0, u "java/lang/Object"), (0, .class_ 3)] 3

/-- java/lang/Cloneable -/
def k4 : Class := { plain "java/lang/Cloneable" (some 0) with
  accessFlags := 1537
  interfaces := #[]
  cf := some (fileOf pool4 2 #[] #[] 1537 4 #[] #[])
  fields := #[]
  methods := #[]
  instanceTypes := #[]
  staticTypes := #[]
  resolved := Array.replicate 8 none
  statics := none }

def pool5 : Array CpInfo := pool [(1, u "java/io/Serializable"), (0, .class_ 1), (0, u "java/lang/Object"), (0, .class_ 3)] 3

/-- java/io/Serializable -/
def k5 : Class := { plain "java/io/Serializable" (some 0) with
  accessFlags := 1537
  interfaces := #[]
  cf := some (fileOf pool5 2 #[] #[] 1537 4 #[] #[])
  fields := #[]
  methods := #[]
  instanceTypes := #[]
  staticTypes := #[]
  resolved := Array.replicate 8 none
  statics := none }

/-- the primitive byte -/
def k6 : Class := { plain "byte" none with kind := .primitive 'B', accessFlags := 0x411 }
/-- [B -/
def k7 : Class := { plain "[B" (some 0) with kind := .array 6 .byte, interfaces := #[4, 5], accessFlags := 1041 }

/-- the primitive int -/
def k8 : Class := { plain "int" none with kind := .primitive 'I', accessFlags := 0x411 }
/-- [I -/
def k9 : Class := { plain "[I" (some 0) with kind := .array 8 .int, interfaces := #[4, 5], accessFlags := 1041 }

def heap : Heap := #[]
def classes : Array Class := #[k0, k1, k2, k3, k4, k5, k6, k7, k8, k9]
def interned : List (Array UInt16 × Addr) := []
def slotsUsed : Nat := 0
def theMethod : MethodId := ⟨1, 1⟩
def args0 : Array Value := #[.int 5, .int 5, .int 5, .int 5, .int 5]
def aboutOver (below : List Frame) : State where
  vm := { classes := classes, interned := interned.toArray }
  heap := heap
  slotsUsed := slotsUsed
  threads := #[{ frames := .invoking theMethod args0 :: below }]
def below0 : List Frame := [.native { method := ⟨0, 0⟩, args := #[] }]
def about1 : State := aboutOver below0
def p0 : Program := .bare "" "" ""
def e0 : Env := launch0.env 0 0 0
theorem w_frames : about1.frames = Frame.invoking theMethod args0 :: below0 := rfl
set_option maxRecDepth 65536 in
theorem w_args : argsFit about1.vm theMethod args0 = true := by decide +kernel
set_option maxRecDepth 65536 in
theorem w_heap : heapFits about1 = true := by decide +kernel
set_option maxRecDepth 65536 in
theorem w_runnable : about1.curStatus? = some .runnable := by decide +kernel
set_option maxRecDepth 65536 in
theorem w_alone : about1.alone = true := by decide +kernel
set_option maxRecDepth 65536 in
theorem w_named : about1.methodNamed? x = some theMethod := by decide +kernel
set_option maxRecDepth 65536 in
theorem w_hears : about1.hears theMethod below0 = true := by decide +kernel
set_option maxRecDepth 65536 in
theorem w_ripe : about1.ripe theMethod args0 below0 = true := by decide +kernel
theorem w_running : about1.status = .running := rfl
set_option maxRecDepth 65536 in
theorem w_room : about1.hasRoom e0.platform room_1 = true :=
  launch0.hasRoom_least _ room_1 (by decide +kernel) (by decide +kernel) (by decide +kernel) (by decide +kernel) (by decide +kernel) (by decide +kernel)
theorem allAtoms_all (ts : List Jvm.Cond) (a : Array Jvm.Value) (st : Jvm.State) : (allAtoms ts).before a st = ts.all (fun c => c.before a st) := by
  induction ts with
  | nil => rfl
  | cons c t ih =>
    show (Jvm.Cond.and c (allAtoms t)).before a st = _
    rw [Jvm.Cond.before_and, ih, List.all_cons]
def words1 : List Jvm.Cond := Jvm.Cond.code x code maxLocals ret :: tables_1
/-- a 'code' word, met by the world's own term for the bytes: nothing is compared byte by byte -/
theorem code_word {y : MethodName} {bytes : ByteArray} {mx : Nat} {rt : Option FieldType} {a : Array Value} {s : State} {m : MethodId} {meth : Method} {c : Code} (h1 : s.methodNamed? y = some m) (h2 : s.vm.method? m = some meth) (h3 : meth.code = some c) (h4 : c.code = bytes)
    (h5 : (c.maxLocals == mx && c.exceptionTable.isEmpty && decide (c.maxStack ≤ mostOperands) && decide (meth.sig.returnType = rt) && !meth.locks && decide (parseMethodDescriptor y.desc = some meth.sig)) = true) : (Jvm.Cond.code y bytes mx rt).before a s = true := by
  simp only [Bool.and_eq_true, beq_iff_eq, Bool.not_eq_true', decide_eq_true_eq] at h5
  obtain ⟨⟨⟨⟨⟨g1, g2⟩, g3⟩, g4⟩, g5⟩, g6⟩ := h5
  simp [Cond.before, Cond.holds, Cond.value, h1, h2, h3, h4, g1, g2, g3, g4, g5, g6]
def isCode : Jvm.Cond → Bool
  | .code _ _ _ _ => true
  | _ => false
theorem all_split {L : List Jvm.Cond} {P : Jvm.Cond → Bool} (h1 : L.all (fun c => isCode c || P c) = true) (h2 : ∀ c ∈ L.filter isCode, P c = true) : L.all P = true := by
  refine List.all_eq_true.mpr fun c hc => ?_
  have h := List.all_eq_true.mp h1 c hc
  rcases Bool.eq_false_or_eq_true (isCode c) with hi | hi
  · exact h2 c (List.mem_filter.mpr ⟨hc, hi⟩)
  · simpa [hi] using h
set_option maxRecDepth 65536 in
theorem w_c0 : (Jvm.Cond.code x code maxLocals ret).before args0 about1 = true := code_word (m := ⟨1, 1⟩) (meth := k1m1) (c := k1c1) (by decide +kernel) rfl rfl rfl (by decide +kernel)
set_option maxRecDepth 65536 in
theorem w_c1 : (Jvm.Cond.code ({ cls := "com/example/fiche/fiche/table/ItemKey", name := "partitionBytesLength", desc := "([BI)I" } : Jvm.MethodName) prog_26_method_8_code (2 : Nat) (Option.some Jvm.ClassFile.FieldType.int)).before args0 about1 = true := code_word (m := ⟨3, 0⟩) (meth := k3m0) (c := k3c0) (by decide +kernel) rfl rfl rfl (by decide +kernel)
def codes1 : List Jvm.Cond := [Jvm.Cond.code x code maxLocals ret, Jvm.Cond.code ({ cls := "com/example/fiche/fiche/table/ItemKey", name := "partitionBytesLength", desc := "([BI)I" } : Jvm.MethodName) prog_26_method_8_code (2 : Nat) (Option.some Jvm.ClassFile.FieldType.int)]
set_option maxRecDepth 65536 in
theorem codes_eq : words1.filter isCode = codes1 := rfl
theorem w_codes : ∀ c ∈ words1.filter isCode, c.before args0 about1 = true := by
  rw [codes_eq]
  intro c hc
  simp only [codes1, List.mem_cons, List.not_mem_nil, or_false] at hc
  rcases hc with rfl | rfl
  · exact w_c0
  · exact w_c1
set_option maxRecDepth 65536 in
theorem w_t1 : words1.all (fun c => isCode c || c.before args0 about1) = true := by decide +kernel
theorem w_tables : (allAtoms (Jvm.Cond.code x code maxLocals ret :: tables_1)).before args0 about1 = true := by
  rw [allAtoms_all]
  show words1.all (fun c => c.before args0 about1) = true
  refine all_split ?_ w_codes
  rw [w_t1]
set_option maxRecDepth 65536 in
theorem w_case : (Jvm.Cond.and given_1 narrow_1).before args0 about1 = true := by decide +kernel
theorem w_applies : (headSpec (Jvm.Cond.code x code maxLocals ret :: tables_1) room_1).applies x e0.platform about1 = true :=
  (Spec.applies_iff w_frames).mpr ⟨w_running, w_runnable, w_alone, w_named, w_hears, w_ripe, w_room, w_tables⟩
theorem atStart : AtStart classFile x code maxLocals ret World_1 tables_1 room_1 Calls_1 rest_1 Pre_1 launch0 p0 e0 about1 theMethod args0 below0 :=
  ⟨lists_1, trivial, launch0.admits_env _ _ _, launch0.least_env, fairChoices_fair.cas, fairChoices_fair.clock, w_frames, w_args, w_heap, w_applies, trivial, trivial, w_case⟩
end start1
theorem witness_1 : WitnessClaimed_1 := ⟨start1.p0, start1.e0, start1.about1, start1.theMethod, start1.args0, start1.below0, start1.atStart⟩
end Jvm.Pilot.@@N@@
