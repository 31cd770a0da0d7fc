import JvmDerived
import JvmDerived.Pilot.@@N@@Statement
import JvmDerived.Pilot.@@N@@Code
set_option linter.unusedVariables false
set_option linter.unusedSimpArgs false
namespace Jvm.Pilot.@@N@@
open Jvm Jvm.ClassFile Sem Op Lib Jvm.Free Jvm.Stand Jvm.LawKit Jvm.RoadKit Bundle Jvm.Pilot.@@N@@.Jvm.D
section Own
variable {p : Program} {l : Launch} {e : Env} {R : Room} {s : State} {m : MethodId} {args : Array Value} {below : List Frame} {meth : Method} {c : Code} {T : State} {locs : List Loc} {cells slots : Nat} {Z : State} {a0 : Array Value} {h h' : Heap} {Q : Option Value → Heap → List Loc → Prop} {kc ks n0 : Nat}
/-- from the state st the invocation ends as the contract asks -/
def Gl (p : Program) (e : Env) (below : List Frame) (s : State) (Q : Option Value → Heap → List Loc → Prop) (kc ks : Nat) (st : State) : Prop :=
  ∃ s₂ o, Steps p.tables e below st s₂ ∧ s₂.status = .running ∧ Ended s₂ below o ∧ ∃ v L, o = .returned v ∧ Q v s₂.heap L ∧ FrameEnd s o s₂ L kc ks
theorem Gl.st {a b : State} (h : ∀ t, Steps p.tables e below b t → Steps p.tables e below a t) (H : Gl p e below s Q kc ks b) : Gl p e below s Q kc ks a := by
  obtain ⟨s₂, o, h1, r⟩ := H
  exact ⟨s₂, o, h _ h1, r⟩
theorem Gl.cast {g g' : JFrame} (q : g = g') (H : Gl p e below s Q kc ks (T.setTop g')) : Gl p e below s Q kc ks (T.setTop g) := q ▸ H
theorem Gl.ret (X : Stand p l e R s m args below meth c T locs cells slots) {v : Option Value} (hv : meth.sig.returnType = none → v = none) (hlk : meth.locks = false) {g : State}
    (hst : ∀ fs, (∀ (f : JFrame) (acts : List Action), f.method = m → f.locked = none → f.entered = [] → (doReturn e (T.setTop f) acts v).1 = T.setFrames fs) → Steps p.tables e below g (T.setFrames fs))
    (hQ : Q v T.heap locs) (h1 : cells ≤ kc) (h2 : slots ≤ ks) : Gl p e below s Q kc ks g := by
  obtain ⟨fs, hr, hrun, hended, hW, hsame⟩ := X.leave (v := v) hv hlk
  exact ⟨_, _, hst fs hr, hrun, hended, _, _, rfl, hQ, ⟨_, rfl⟩, hW, hsame.mono h1 h2⟩
theorem Gl.retN (X : Stand p l e R s m args below meth c T locs cells slots) (hx : p.tables.exec = Jvm.exec) {pc : Nat} {Ls : Array Slot} {z : Int32} {t : FieldType} {rest : List Value} (hret : meth.sig.returnType = some t) (ht : t = .boolean ∨ t = .byte ∨ t = .char ∨ t = .short)
    (hd : decode c.code pc = .ok (.ireturn, 1)) (hlk : meth.locks = false) (h1 : cells ≤ kc) (h2 : slots ≤ ks) (hQ : Q (some (.int (nar t z))) T.heap locs) : Gl p e below s Q kc ks (T.setTop (mkF m pc Ls (.int z :: rest))) :=
  Gl.ret X (fun q => by rw [hret] at q; cases q) hlk (fun _ hr => Jvm.RoadKit.retN X hx hret ht hd hr) hQ h1 h2
theorem Gl.retI (X : Stand p l e R s m args below meth c T locs cells slots) (hx : p.tables.exec = Jvm.exec) {pc : Nat} {Ls : Array Slot} {z : Int32} {rest : List Value} (hret : meth.sig.returnType = some .int)
    (hd : decode c.code pc = .ok (.ireturn, 1)) (hlk : meth.locks = false) (h1 : cells ≤ kc) (h2 : slots ≤ ks) (hQ : Q (some (.int z)) T.heap locs) : Gl p e below s Q kc ks (T.setTop (mkF m pc Ls (.int z :: rest))) :=
  Gl.ret X (fun q => by rw [hret] at q; cases q) hlk (fun _ hr => retOut X hx hret rfl (Or.inl ⟨rfl, Or.inl rfl, _, rfl⟩) hd hr) hQ h1 h2
theorem Gl.retJ (X : Stand p l e R s m args below meth c T locs cells slots) (hx : p.tables.exec = Jvm.exec) {pc : Nat} {Ls : Array Slot} {z : Int64} {rest : List Value} (hret : meth.sig.returnType = some .long)
    (hd : decode c.code pc = .ok (.lreturn, 1)) (hlk : meth.locks = false) (h1 : cells ≤ kc) (h2 : slots ≤ ks) (hQ : Q (some (.long z)) T.heap locs) : Gl p e below s Q kc ks (T.setTop (mkF m pc Ls (.long z :: rest))) :=
  Gl.ret X (fun q => by rw [hret] at q; cases q) hlk (fun _ hr => retOut X hx hret rfl (Or.inr (Or.inl ⟨rfl, rfl, _, rfl⟩)) hd hr) hQ h1 h2
theorem Gl.retA (X : Stand p l e R s m args below meth c T locs cells slots) (hx : p.tables.exec = Jvm.exec) {pc : Nat} {Ls : Array Slot} {z : Addr} {t : FieldType} {rest : List Value} (hret : meth.sig.returnType = some (.array t))
    (hd : decode c.code pc = .ok (.areturn, 1)) (hlk : meth.locks = false) (h1 : cells ≤ kc) (h2 : slots ≤ ks) (hQ : Q (some (.ref z)) T.heap locs) : Gl p e below s Q kc ks (T.setTop (mkF m pc Ls (.ref z :: rest))) :=
  Gl.ret X (fun q => by rw [hret] at q; cases q) hlk (fun _ hr => retOut X hx hret rfl (Or.inr (Or.inr (Or.inr (Or.inr ⟨rfl, rfl, rfl⟩)))) hd hr) hQ h1 h2
theorem Gl.retV (X : Stand p l e R s m args below meth c T locs cells slots) (hx : p.tables.exec = Jvm.exec) {pc : Nat} {Ls : Array Slot} (hret : meth.sig.returnType = none)
    (hd : decode c.code pc = .ok (.return_, 1)) (hlk : meth.locks = false) (h1 : cells ≤ kc) (h2 : slots ≤ ks) (hQ : Q none T.heap locs) : Gl p e below s Q kc ks (T.setTop (mkF m pc Ls [])) :=
  Gl.ret X (fun _ => rfl) hlk (fun _ hr => X.returnOut hx hret hd hr) hQ h1 h2
/-- what a body that changes nothing leaves: the value w, the heap as it was -/
def QP (n0 : Nat) (h0 : Heap) (w : Value) (v : Option Value) (h : Heap) (L : List Loc) : Prop := v = some w ∧ Fr n0 L ∧ h = h0
/-- a static call by its contract -/
theorem Gl.callS (X : Stand p l e R s m args below meth c T locs cells slots) (hx : p.tables.exec = Jvm.exec) (hZ : Z.Warmed39 s.vm) {own : String} {index : Nat} {y : MethodName} {bytes : ByteArray} {maxL : Nat} {ret : Option FieldType} {rm : Room} {W : Nat} {as' : Array Value} {Qc : Option Value → Heap → List Loc → Prop}
    (hown : s.vm.findClass own = some m.cls) (w1 : (Cond.methodLink own index y).before a0 Z = true) (w2 : (Cond.static y).before a0 Z = true) (w3 : (Cond.initialized y.cls).before a0 Z = true) (w4 : (Cond.code y bytes maxL ret).before a0 Z = true)
    (hy : y.cls ≠ "java/lang/invoke/MethodHandle" ∧ y.cls ≠ "java/lang/invoke/VarHandle")
    (hM : MetFree l y (head1 [Cond.code y bytes maxL ret] rm) (fun a U => a = as' ∧ Z.Warmed39 U.vm ∧ U.heap = h) (fun _ _ _ _ _ => True) (fun _ U o U' => ∃ v L, o = .returned v ∧ Qc v U'.heap L ∧ FrameEnd U o U' L rm.cells rm.slots))
    (hf : rm.frames + 1 ≤ R.frames) (hl : W + (maxL + 11) + rm.locals ≤ R.locals) (eT : T.heap = h) (hc1 : cells + rm.cells ≤ R.cells) (hs1 : slots + rm.slots ≤ R.slots)
    {pc : Nat} {Ls : Array Slot} {stk argsL rest : List Value} (hsz : Ls.size = c.maxLocals) (hlen : ∀ sig, parseMethodDescriptor y.desc = some sig → argsL.length = sig.parameters.length) (hstk : stk = argsL.reverse ++ rest) (has : argsL.toArray = as')
    (hW : (rest.map fun v => v.category).sum ≤ W) (hd : decode c.code pc = .ok (.invokestatic index, 3))
    (K : ∀ (T' : State) (v : Option Value) (L : List Loc), Stand p l e R s m args below meth c T' (locs ++ L) (cells + rm.cells) (slots + rm.slots) → Qc v T'.heap L → Gl p e below s Q kc ks (T'.setTop (mkF m (pc + 3) Ls (v.toList ++ rest)))) :
    Gl p e below s Q kc ks (T.setTop (mkF m pc Ls stk)) := by
  obtain ⟨v, _, ⟨T', L', k', n'⟩, -, X', ⟨Lc, hQ, l1, y1, z1⟩, st⟩ := Jvm.LawKit.callS X hx (y := y) hown (mvT hZ w1) (mvT hZ w2) (mvT hZ w3) (mvT hZ w4) hy (backOf (W := W) hM hZ w4 w3 hf hl) (g := mkF m pc Ls stk) rfl hsz (argsL := argsL) (rest := rest) hlen hstk
    (by show 2 * 0 + _ ≤ _; rw [Nat.mul_zero, Nat.zero_add]; exact hW) hd (fun _ _ => ⟨has, eT, hc1, hs1⟩)
  dsimp only [Pt.U, Pt.locs, Pt.cells, Pt.slots] at X' l1 y1 z1 st hQ
  subst l1 y1 z1
  exact Gl.st (fun t k => st t k) (K T' v Lc X' hQ)
/-- a static call of a body that changes nothing -/
theorem Gl.callP (X : Stand p l e R s m args below meth c T locs cells slots) (hx : p.tables.exec = Jvm.exec) (hZ : Z.Warmed39 s.vm) {own : String} {index : Nat} {y : MethodName} {bytes : ByteArray} {maxL : Nat} {ret : Option FieldType} {fr lo W : Nat} {as' : Array Value} {w : Value}
    (hown : s.vm.findClass own = some m.cls) (w1 : (Cond.methodLink own index y).before a0 Z = true) (w2 : (Cond.static y).before a0 Z = true) (w3 : (Cond.initialized y.cls).before a0 Z = true) (w4 : (Cond.code y bytes maxL ret).before a0 Z = true)
    (hy : y.cls ≠ "java/lang/invoke/MethodHandle" ∧ y.cls ≠ "java/lang/invoke/VarHandle")
    (hM : MetFree l y (head1 [Cond.code y bytes maxL ret] ⟨fr, 0, 0, lo⟩) (fun a U => a = as' ∧ Z.Warmed39 U.vm ∧ U.heap = h) (fun _ _ _ _ _ => True) (fun _ U o U' => ∃ v L, o = .returned v ∧ QP n0 h w v U'.heap L ∧ FrameEnd U o U' L 0 0))
    (hf : fr + 1 ≤ R.frames) (hl : W + (maxL + 11) + lo ≤ R.locals) (eT : T.heap = h) (N : Fr n0 locs) (hc1 : cells ≤ R.cells) (hs1 : slots ≤ R.slots)
    {pc : Nat} {Ls : Array Slot} {stk argsL rest : List Value} (hsz : Ls.size = c.maxLocals) (hlen : ∀ sig, parseMethodDescriptor y.desc = some sig → argsL.length = sig.parameters.length) (hstk : stk = argsL.reverse ++ rest) (has : argsL.toArray = as')
    (hW : (rest.map fun v => v.category).sum ≤ W) (hd : decode c.code pc = .ok (.invokestatic index, 3))
    (K : ∀ (T' : State) (L : List Loc), Stand p l e R s m args below meth c T' L cells slots → T'.heap = h → Fr n0 L → Gl p e below s Q kc ks (T'.setTop (mkF m (pc + 3) Ls (w :: rest)))) :
    Gl p e below s Q kc ks (T.setTop (mkF m pc Ls stk)) :=
  Gl.callS (rm := ⟨fr, 0, 0, lo⟩) X hx hZ hown w1 w2 w3 w4 hy hM hf hl eT hc1 hs1 hsz hlen hstk has hW hd fun T' v L X' hq => by
    obtain ⟨rfl, N', e'⟩ := hq
    exact K T' _ X' e' (N.app N')
end Own
theorem own_ltI {x y : Int32} : x < y ↔ x.toInt < y.toInt := Int32.lt_iff_toInt_lt
theorem own_eqI {x y : Int32} : x = y ↔ x.toInt = y.toInt := ⟨fun h => h ▸ rfl, fun h => Int32.toInt_inj.mp h⟩
theorem own_ltJ {x y : Int64} : x < y ↔ x.toInt < y.toInt := Int64.lt_iff_toInt_lt
theorem own_eqJ {x y : Int64} : x = y ↔ x.toInt = y.toInt := ⟨fun h => h ▸ rfl, fun h => Int64.toInt_inj.mp h⟩
/-- a truth as the int that a boolean method returns -/
def own_b (b : Bool) : Int32 := if b then 1 else 0
theorem own_b1 {b : Bool} (h : b = true) : some (Value.int (nar .boolean 1)) = some (Value.int (own_b b)) := by subst h; rfl
theorem own_b0 {b : Bool} (h : b = false) : some (Value.int (nar .boolean 0)) = some (Value.int (own_b b)) := by subst h; rfl
theorem own_bn (b : Bool) : nar .boolean (own_b b) = own_b b := by cases b <;> rfl
theorem own_bt {b : Bool} (h : b = true) : ¬ own_b b = 0 := by subst h; decide
theorem own_bf {b : Bool} (h : ¬ b = true) : own_b b = 0 := by cases b with | true => exact absurd rfl h | false => rfl
def QL (n0 : Nat) (v : Option Value) (h : Heap) (L : List Loc) : Prop := v = some (.int 1) ∧ Fr n0 L
theorem own_pn0 : plainName "org/membrana/input/MarkupText" = true := by first | (simp [plainName, overriddenIn]; done) | decide +kernel
theorem own_pn1 : plainName "org/membrana/input/MarkupTextIsWhiteSpacePinLaw" = true := by first | (simp [plainName, overriddenIn]; done) | decide +kernel
theorem own_pd0 : parseMethodDescriptor "(C)Z" = some ⟨[.char], some .boolean⟩ := by decide +kernel
theorem own_pd1 : parseMethodDescriptor "(I)Z" = some ⟨[.int], some .boolean⟩ := by decide +kernel
def own_f (z : Int32) : Bool := decide (z.toInt = 32 ∨ z.toInt = 9 ∨ z.toInt = 10 ∨ z.toInt = 13 ∨ z.toInt = 133 ∨ z.toInt = 8232)
theorem own_key (x : Int32) : own_f ((x &&& (65535 : Int32)).toUInt32.toUInt16.toUInt32.toInt32) = own_f (x &&& (65535 : Int32)) := by
  have hm : (x &&& (65535 : Int32)).toInt = x.toInt % (2 ^ 16 : Nat) := c_mask x 65535 16 (by decide) (by decide)
  have hc := c_i2c (x &&& (65535 : Int32))
  generalize (x &&& (65535 : Int32)) = z at *
  generalize z.toUInt32.toUInt16.toUInt32.toInt32 = y at *
  have e : y.toInt = z.toInt := by omega
  simp only [own_f, e]

theorem d1_0 : decode prog_19_method_7_code 0 = .ok (.iload_n 0, 1) := by decide +kernel
theorem d1_1 : decode prog_19_method_7_code 1 = .ok (.bipush 32, 2) := by decide +kernel
theorem d1_3 : decode prog_19_method_7_code 3 = .ok (.if_icmp .eq 35, 3) := by decide +kernel
theorem d1_6 : decode prog_19_method_7_code 6 = .ok (.iload_n 0, 1) := by decide +kernel
theorem d1_7 : decode prog_19_method_7_code 7 = .ok (.bipush 9, 2) := by decide +kernel
theorem d1_9 : decode prog_19_method_7_code 9 = .ok (.if_icmp .eq 29, 3) := by decide +kernel
theorem d1_12 : decode prog_19_method_7_code 12 = .ok (.iload_n 0, 1) := by decide +kernel
theorem d1_13 : decode prog_19_method_7_code 13 = .ok (.bipush 10, 2) := by decide +kernel
theorem d1_15 : decode prog_19_method_7_code 15 = .ok (.if_icmp .eq 23, 3) := by decide +kernel
theorem d1_18 : decode prog_19_method_7_code 18 = .ok (.iload_n 0, 1) := by decide +kernel
theorem d1_19 : decode prog_19_method_7_code 19 = .ok (.bipush 13, 2) := by decide +kernel
theorem d1_21 : decode prog_19_method_7_code 21 = .ok (.if_icmp .eq 17, 3) := by decide +kernel
theorem d1_24 : decode prog_19_method_7_code 24 = .ok (.iload_n 0, 1) := by decide +kernel
theorem d1_25 : decode prog_19_method_7_code 25 = .ok (.sipush 133, 3) := by decide +kernel
theorem d1_28 : decode prog_19_method_7_code 28 = .ok (.if_icmp .eq 10, 3) := by decide +kernel
theorem d1_31 : decode prog_19_method_7_code 31 = .ok (.iload_n 0, 1) := by decide +kernel
theorem d1_32 : decode prog_19_method_7_code 32 = .ok (.sipush 8232, 3) := by decide +kernel
theorem d1_35 : decode prog_19_method_7_code 35 = .ok (.if_icmp .ne 7, 3) := by decide +kernel
theorem d1_38 : decode prog_19_method_7_code 38 = .ok (.iconst 1, 1) := by decide +kernel
theorem d1_39 : decode prog_19_method_7_code 39 = .ok (.goto 4, 3) := by decide +kernel
theorem d1_42 : decode prog_19_method_7_code 42 = .ok (.iconst 0, 1) := by decide +kernel
theorem d1_43 : decode prog_19_method_7_code 43 = .ok (.ireturn, 1) := by decide +kernel
theorem ef1 (m : MethodId) (z0 : Int32) : entryFrame m #[(.int z0)] 1 = mkF m 0 #[.val (.int z0)] [] := by first | (simp [entryFrame, mkF, argsToLocals, Value.category]; done) | rfl
set_option maxRecDepth 65536 in
set_option maxHeartbeats 40000000 in
theorem rm1 (l : Launch) (Z : State) (a0 : Array Value) (hw : ∀ d ∈ tables_1, d.before a0 Z = true) (ws : List Jvm.Cond) (z0 : Int32)  (h0 : Heap) (n0 : Nat) (Z0 : n0 ≤ h0.size)  :
    MetFree l (⟨"org/membrana/input/MarkupText", "isWhiteSpace", "(C)Z"⟩ : MethodName) (head1 (Jvm.Cond.code (⟨"org/membrana/input/MarkupText", "isWhiteSpace", "(C)Z"⟩ : MethodName) prog_19_method_7_code 1 (some .boolean) :: ws) (⟨0, 0, 0, 0⟩ : Room)) (fun a U => a = #[(.int z0)] ∧ Z.Warmed39 U.vm ∧ U.heap = h0) (fun _ _ _ _ _ => True) (fun _ U o U' => ∃ v L, o = .returned v ∧ QP n0 h0 (.int (own_b (own_f z0))) v U'.heap L ∧ FrameEnd U o U' L 0 0) := by
  refine MetFree.of_bodySF (plainFor_of_name own_pn0) hisR ?_
  intro p e s m args below meth c s₁ Bd hml0 hP hK
  obtain ⟨rfl, hZ, hh⟩ := hP
  have hx := Bd.exec
  have hby := Bd.bytes
  have hml : c.maxLocals = 1 := hml0
  have hown : s.vm.findClass "org/membrana/input/MarkupText" = some m.cls := findClass_of_methodNamed Bd.named
  have hnm := (name_of_methodNamed Bd.named Bd.method).1
  have hlk : meth.locks = false := Bd.notSynchronized
  have hret := Bd.returns
  have X0 : Stand p l e (⟨0, 0, 0, 0⟩ : Room) s m #[(.int z0)] below meth c s₁ [] 0 0 := Stand.of_body Bd
  have e0 : s₁.heap = h0 := by rw [← hh, Bd.state]; rfl
  have N0 := Fr.nil n0
  have GOAL : Gl p e below s (QP n0 h0 (.int (own_b (own_f z0)))) 0 0 (s₁.setTop (entryFrame m #[(.int z0)] 1)) := by
    refine Gl.cast (ef1 m z0) ?_
    refine Gl.st (b := s₁.setTop (mkF m 1 #[.val (.int z0)] [(.int z0)])) (fun t k => XS.iloadN X0.here hx rfl (hb hby d1_0) rfl k) ?_
    refine Gl.st (b := s₁.setTop (mkF m 3 #[.val (.int z0)] [(.int (32 : Int32)), (.int z0)])) (fun t k => XS.bipush X0.here hx rfl (hb hby d1_1) k) ?_
    by_cases hc3 : z0.toInt = 32
    · -- hc3 True
      refine Gl.st (b := s₁.setTop (mkF m 38 #[.val (.int z0)] [])) (fun t k => XS.icmpYes X0.here hx rfl (pc0 := 3) (pc' := 38) rfl (hb hby d1_3) rfl (teq (x := z0) (y := (32 : Int32)) (own_eqI.mpr hc3)).1 (by decide) (by decide) k) ?_
      refine Gl.st (b := s₁.setTop (mkF m 39 #[.val (.int z0)] [(.int (1 : Int32))])) (fun t k => XS.iconst X0.here hx rfl (hb hby d1_38) k) ?_
      refine Gl.st (b := s₁.setTop (mkF m 43 #[.val (.int z0)] [(.int (1 : Int32))])) (fun t k => XS.goto X0.here hx rfl (pc0 := 39) (pc' := 43) rfl (hb hby d1_39) (by decide) (by decide) k) ?_
      exact Gl.retN X0 hx hret (by simp) (hb hby d1_43) hlk (by decide) (by decide) ⟨own_b1 (by simp only [own_f, decide_eq_true_eq]; omega), N0, e0⟩
    · -- hc3 False
      refine Gl.st (b := s₁.setTop (mkF m 6 #[.val (.int z0)] [])) (fun t k => XS.icmpNo X0.here hx rfl (hb hby d1_3) rfl (feq (x := z0) (y := (32 : Int32)) (fun q => hc3 (own_eqI.mp q))).1 k) ?_
      refine Gl.st (b := s₁.setTop (mkF m 7 #[.val (.int z0)] [(.int z0)])) (fun t k => XS.iloadN X0.here hx rfl (hb hby d1_6) rfl k) ?_
      refine Gl.st (b := s₁.setTop (mkF m 9 #[.val (.int z0)] [(.int (9 : Int32)), (.int z0)])) (fun t k => XS.bipush X0.here hx rfl (hb hby d1_7) k) ?_
      by_cases hc9 : z0.toInt = 9
      · -- hc9 True
        refine Gl.st (b := s₁.setTop (mkF m 38 #[.val (.int z0)] [])) (fun t k => XS.icmpYes X0.here hx rfl (pc0 := 9) (pc' := 38) rfl (hb hby d1_9) rfl (teq (x := z0) (y := (9 : Int32)) (own_eqI.mpr hc9)).1 (by decide) (by decide) k) ?_
        refine Gl.st (b := s₁.setTop (mkF m 39 #[.val (.int z0)] [(.int (1 : Int32))])) (fun t k => XS.iconst X0.here hx rfl (hb hby d1_38) k) ?_
        refine Gl.st (b := s₁.setTop (mkF m 43 #[.val (.int z0)] [(.int (1 : Int32))])) (fun t k => XS.goto X0.here hx rfl (pc0 := 39) (pc' := 43) rfl (hb hby d1_39) (by decide) (by decide) k) ?_
        exact Gl.retN X0 hx hret (by simp) (hb hby d1_43) hlk (by decide) (by decide) ⟨own_b1 (by simp only [own_f, decide_eq_true_eq]; omega), N0, e0⟩
      · -- hc9 False
        refine Gl.st (b := s₁.setTop (mkF m 12 #[.val (.int z0)] [])) (fun t k => XS.icmpNo X0.here hx rfl (hb hby d1_9) rfl (feq (x := z0) (y := (9 : Int32)) (fun q => hc9 (own_eqI.mp q))).1 k) ?_
        refine Gl.st (b := s₁.setTop (mkF m 13 #[.val (.int z0)] [(.int z0)])) (fun t k => XS.iloadN X0.here hx rfl (hb hby d1_12) rfl k) ?_
        refine Gl.st (b := s₁.setTop (mkF m 15 #[.val (.int z0)] [(.int (10 : Int32)), (.int z0)])) (fun t k => XS.bipush X0.here hx rfl (hb hby d1_13) k) ?_
        by_cases hc15 : z0.toInt = 10
        · -- hc15 True
          refine Gl.st (b := s₁.setTop (mkF m 38 #[.val (.int z0)] [])) (fun t k => XS.icmpYes X0.here hx rfl (pc0 := 15) (pc' := 38) rfl (hb hby d1_15) rfl (teq (x := z0) (y := (10 : Int32)) (own_eqI.mpr hc15)).1 (by decide) (by decide) k) ?_
          refine Gl.st (b := s₁.setTop (mkF m 39 #[.val (.int z0)] [(.int (1 : Int32))])) (fun t k => XS.iconst X0.here hx rfl (hb hby d1_38) k) ?_
          refine Gl.st (b := s₁.setTop (mkF m 43 #[.val (.int z0)] [(.int (1 : Int32))])) (fun t k => XS.goto X0.here hx rfl (pc0 := 39) (pc' := 43) rfl (hb hby d1_39) (by decide) (by decide) k) ?_
          exact Gl.retN X0 hx hret (by simp) (hb hby d1_43) hlk (by decide) (by decide) ⟨own_b1 (by simp only [own_f, decide_eq_true_eq]; omega), N0, e0⟩
        · -- hc15 False
          refine Gl.st (b := s₁.setTop (mkF m 18 #[.val (.int z0)] [])) (fun t k => XS.icmpNo X0.here hx rfl (hb hby d1_15) rfl (feq (x := z0) (y := (10 : Int32)) (fun q => hc15 (own_eqI.mp q))).1 k) ?_
          refine Gl.st (b := s₁.setTop (mkF m 19 #[.val (.int z0)] [(.int z0)])) (fun t k => XS.iloadN X0.here hx rfl (hb hby d1_18) rfl k) ?_
          refine Gl.st (b := s₁.setTop (mkF m 21 #[.val (.int z0)] [(.int (13 : Int32)), (.int z0)])) (fun t k => XS.bipush X0.here hx rfl (hb hby d1_19) k) ?_
          by_cases hc21 : z0.toInt = 13
          · -- hc21 True
            refine Gl.st (b := s₁.setTop (mkF m 38 #[.val (.int z0)] [])) (fun t k => XS.icmpYes X0.here hx rfl (pc0 := 21) (pc' := 38) rfl (hb hby d1_21) rfl (teq (x := z0) (y := (13 : Int32)) (own_eqI.mpr hc21)).1 (by decide) (by decide) k) ?_
            refine Gl.st (b := s₁.setTop (mkF m 39 #[.val (.int z0)] [(.int (1 : Int32))])) (fun t k => XS.iconst X0.here hx rfl (hb hby d1_38) k) ?_
            refine Gl.st (b := s₁.setTop (mkF m 43 #[.val (.int z0)] [(.int (1 : Int32))])) (fun t k => XS.goto X0.here hx rfl (pc0 := 39) (pc' := 43) rfl (hb hby d1_39) (by decide) (by decide) k) ?_
            exact Gl.retN X0 hx hret (by simp) (hb hby d1_43) hlk (by decide) (by decide) ⟨own_b1 (by simp only [own_f, decide_eq_true_eq]; omega), N0, e0⟩
          · -- hc21 False
            refine Gl.st (b := s₁.setTop (mkF m 24 #[.val (.int z0)] [])) (fun t k => XS.icmpNo X0.here hx rfl (hb hby d1_21) rfl (feq (x := z0) (y := (13 : Int32)) (fun q => hc21 (own_eqI.mp q))).1 k) ?_
            refine Gl.st (b := s₁.setTop (mkF m 25 #[.val (.int z0)] [(.int z0)])) (fun t k => XS.iloadN X0.here hx rfl (hb hby d1_24) rfl k) ?_
            refine Gl.st (b := s₁.setTop (mkF m 28 #[.val (.int z0)] [(.int (133 : Int32)), (.int z0)])) (fun t k => XS.sipush X0.here hx rfl (hb hby d1_25) k) ?_
            by_cases hc28 : z0.toInt = 133
            · -- hc28 True
              refine Gl.st (b := s₁.setTop (mkF m 38 #[.val (.int z0)] [])) (fun t k => XS.icmpYes X0.here hx rfl (pc0 := 28) (pc' := 38) rfl (hb hby d1_28) rfl (teq (x := z0) (y := (133 : Int32)) (own_eqI.mpr hc28)).1 (by decide) (by decide) k) ?_
              refine Gl.st (b := s₁.setTop (mkF m 39 #[.val (.int z0)] [(.int (1 : Int32))])) (fun t k => XS.iconst X0.here hx rfl (hb hby d1_38) k) ?_
              refine Gl.st (b := s₁.setTop (mkF m 43 #[.val (.int z0)] [(.int (1 : Int32))])) (fun t k => XS.goto X0.here hx rfl (pc0 := 39) (pc' := 43) rfl (hb hby d1_39) (by decide) (by decide) k) ?_
              exact Gl.retN X0 hx hret (by simp) (hb hby d1_43) hlk (by decide) (by decide) ⟨own_b1 (by simp only [own_f, decide_eq_true_eq]; omega), N0, e0⟩
            · -- hc28 False
              refine Gl.st (b := s₁.setTop (mkF m 31 #[.val (.int z0)] [])) (fun t k => XS.icmpNo X0.here hx rfl (hb hby d1_28) rfl (feq (x := z0) (y := (133 : Int32)) (fun q => hc28 (own_eqI.mp q))).1 k) ?_
              refine Gl.st (b := s₁.setTop (mkF m 32 #[.val (.int z0)] [(.int z0)])) (fun t k => XS.iloadN X0.here hx rfl (hb hby d1_31) rfl k) ?_
              refine Gl.st (b := s₁.setTop (mkF m 35 #[.val (.int z0)] [(.int (8232 : Int32)), (.int z0)])) (fun t k => XS.sipush X0.here hx rfl (hb hby d1_32) k) ?_
              by_cases hc35 : z0.toInt = 8232
              · -- hc35 True
                refine Gl.st (b := s₁.setTop (mkF m 38 #[.val (.int z0)] [])) (fun t k => XS.icmpNo X0.here hx rfl (hb hby d1_35) rfl (teq (x := z0) (y := (8232 : Int32)) (own_eqI.mpr hc35)).2 k) ?_
                refine Gl.st (b := s₁.setTop (mkF m 39 #[.val (.int z0)] [(.int (1 : Int32))])) (fun t k => XS.iconst X0.here hx rfl (hb hby d1_38) k) ?_
                refine Gl.st (b := s₁.setTop (mkF m 43 #[.val (.int z0)] [(.int (1 : Int32))])) (fun t k => XS.goto X0.here hx rfl (pc0 := 39) (pc' := 43) rfl (hb hby d1_39) (by decide) (by decide) k) ?_
                exact Gl.retN X0 hx hret (by simp) (hb hby d1_43) hlk (by decide) (by decide) ⟨own_b1 (by simp only [own_f, decide_eq_true_eq]; omega), N0, e0⟩
              · -- hc35 False
                refine Gl.st (b := s₁.setTop (mkF m 42 #[.val (.int z0)] [])) (fun t k => XS.icmpYes X0.here hx rfl (pc0 := 35) (pc' := 42) rfl (hb hby d1_35) rfl (feq (x := z0) (y := (8232 : Int32)) (fun q => hc35 (own_eqI.mp q))).2 (by decide) (by decide) k) ?_
                refine Gl.st (b := s₁.setTop (mkF m 43 #[.val (.int z0)] [(.int (0 : Int32))])) (fun t k => XS.iconst X0.here hx rfl (hb hby d1_42) k) ?_
                exact Gl.retN X0 hx hret (by simp) (hb hby d1_43) hlk (by decide) (by decide) ⟨own_b0 (by simp only [own_f, decide_eq_false_iff_not]; omega), N0, e0⟩
  exact GOAL
theorem d2_0 : decode method_2_code 0 = .ok (.iload_n 0, 1) := by decide +kernel
theorem d2_1 : decode method_2_code 1 = .ok (.lookupswitch 61 #[(9, 59), (10, 59), (13, 59), (32, 59), (133, 59), (8232, 59)], 59) := by decide +kernel
theorem d2_60 : decode method_2_code 60 = .ok (.iconst 1, 1) := by decide +kernel
theorem d2_61 : decode method_2_code 61 = .ok (.ireturn, 1) := by decide +kernel
theorem d2_62 : decode method_2_code 62 = .ok (.iconst 0, 1) := by decide +kernel
theorem d2_63 : decode method_2_code 63 = .ok (.ireturn, 1) := by decide +kernel
theorem ef2 (m : MethodId) (z0 : Int32) : entryFrame m #[(.int z0)] 1 = mkF m 0 #[.val (.int z0)] [] := by first | (simp [entryFrame, mkF, argsToLocals, Value.category]; done) | rfl
set_option maxRecDepth 65536 in
set_option maxHeartbeats 40000000 in
theorem rm2 (l : Launch) (Z : State) (a0 : Array Value) (hw : ∀ d ∈ tables_1, d.before a0 Z = true) (ws : List Jvm.Cond) (z0 : Int32)  (h0 : Heap) (n0 : Nat) (Z0 : n0 ≤ h0.size)  :
    MetFree l (⟨"org/membrana/input/MarkupTextIsWhiteSpacePinLaw", "expected", "(I)Z"⟩ : MethodName) (head1 (Jvm.Cond.code (⟨"org/membrana/input/MarkupTextIsWhiteSpacePinLaw", "expected", "(I)Z"⟩ : MethodName) method_2_code 1 (some .boolean) :: ws) (⟨0, 0, 0, 0⟩ : Room)) (fun a U => a = #[(.int z0)] ∧ Z.Warmed39 U.vm ∧ U.heap = h0) (fun _ _ _ _ _ => True) (fun _ U o U' => ∃ v L, o = .returned v ∧ QP n0 h0 (.int (own_b (own_f z0))) v U'.heap L ∧ FrameEnd U o U' L 0 0) := by
  refine MetFree.of_bodySF (plainFor_of_name own_pn1) hisR ?_
  intro p e s m args below meth c s₁ Bd hml0 hP hK
  obtain ⟨rfl, hZ, hh⟩ := hP
  have hx := Bd.exec
  have hby := Bd.bytes
  have hml : c.maxLocals = 1 := hml0
  have hown : s.vm.findClass "org/membrana/input/MarkupTextIsWhiteSpacePinLaw" = some m.cls := findClass_of_methodNamed Bd.named
  have hnm := (name_of_methodNamed Bd.named Bd.method).1
  have hlk : meth.locks = false := Bd.notSynchronized
  have hret := Bd.returns
  have X0 : Stand p l e (⟨0, 0, 0, 0⟩ : Room) s m #[(.int z0)] below meth c s₁ [] 0 0 := Stand.of_body Bd
  have e0 : s₁.heap = h0 := by rw [← hh, Bd.state]; rfl
  have N0 := Fr.nil n0
  have GOAL : Gl p e below s (QP n0 h0 (.int (own_b (own_f z0)))) 0 0 (s₁.setTop (entryFrame m #[(.int z0)] 1)) := by
    refine Gl.cast (ef2 m z0) ?_
    refine Gl.st (b := s₁.setTop (mkF m 1 #[.val (.int z0)] [(.int z0)])) (fun t k => XS.iloadN X0.here hx rfl (hb hby d2_0) rfl k) ?_
    by_cases hs1_9 : z0.toInt = 9
    · -- hs1_9
      refine Gl.st (b := s₁.setTop (mkF m 60 #[.val (.int z0)] [])) (fun t k => X0.lookupswitchHit hx (g := (mkF m 1 #[.val (.int z0)] [(.int z0)])) rfl rfl (hb hby d2_1) (by decide) (a := 9) (off := 59) (by rw [hs1_9]; rfl) (show (0 : Int) ≤ ((1 : Nat) : Int) + 59 by decide) t k) ?_
      refine Gl.st (b := s₁.setTop (mkF m 61 #[.val (.int z0)] [(.int (1 : Int32))])) (fun t k => XS.iconst X0.here hx rfl (hb hby d2_60) k) ?_
      exact Gl.retN X0 hx hret (by simp) (hb hby d2_61) hlk (by decide) (by decide) ⟨own_b1 (by simp only [own_f, decide_eq_true_eq]; omega), N0, e0⟩
    by_cases hs1_10 : z0.toInt = 10
    · -- hs1_10
      refine Gl.st (b := s₁.setTop (mkF m 60 #[.val (.int z0)] [])) (fun t k => X0.lookupswitchHit hx (g := (mkF m 1 #[.val (.int z0)] [(.int z0)])) rfl rfl (hb hby d2_1) (by decide) (a := 10) (off := 59) (by rw [hs1_10]; rfl) (show (0 : Int) ≤ ((1 : Nat) : Int) + 59 by decide) t k) ?_
      refine Gl.st (b := s₁.setTop (mkF m 61 #[.val (.int z0)] [(.int (1 : Int32))])) (fun t k => XS.iconst X0.here hx rfl (hb hby d2_60) k) ?_
      exact Gl.retN X0 hx hret (by simp) (hb hby d2_61) hlk (by decide) (by decide) ⟨own_b1 (by simp only [own_f, decide_eq_true_eq]; omega), N0, e0⟩
    by_cases hs1_13 : z0.toInt = 13
    · -- hs1_13
      refine Gl.st (b := s₁.setTop (mkF m 60 #[.val (.int z0)] [])) (fun t k => X0.lookupswitchHit hx (g := (mkF m 1 #[.val (.int z0)] [(.int z0)])) rfl rfl (hb hby d2_1) (by decide) (a := 13) (off := 59) (by rw [hs1_13]; rfl) (show (0 : Int) ≤ ((1 : Nat) : Int) + 59 by decide) t k) ?_
      refine Gl.st (b := s₁.setTop (mkF m 61 #[.val (.int z0)] [(.int (1 : Int32))])) (fun t k => XS.iconst X0.here hx rfl (hb hby d2_60) k) ?_
      exact Gl.retN X0 hx hret (by simp) (hb hby d2_61) hlk (by decide) (by decide) ⟨own_b1 (by simp only [own_f, decide_eq_true_eq]; omega), N0, e0⟩
    by_cases hs1_32 : z0.toInt = 32
    · -- hs1_32
      refine Gl.st (b := s₁.setTop (mkF m 60 #[.val (.int z0)] [])) (fun t k => X0.lookupswitchHit hx (g := (mkF m 1 #[.val (.int z0)] [(.int z0)])) rfl rfl (hb hby d2_1) (by decide) (a := 32) (off := 59) (by rw [hs1_32]; rfl) (show (0 : Int) ≤ ((1 : Nat) : Int) + 59 by decide) t k) ?_
      refine Gl.st (b := s₁.setTop (mkF m 61 #[.val (.int z0)] [(.int (1 : Int32))])) (fun t k => XS.iconst X0.here hx rfl (hb hby d2_60) k) ?_
      exact Gl.retN X0 hx hret (by simp) (hb hby d2_61) hlk (by decide) (by decide) ⟨own_b1 (by simp only [own_f, decide_eq_true_eq]; omega), N0, e0⟩
    by_cases hs1_133 : z0.toInt = 133
    · -- hs1_133
      refine Gl.st (b := s₁.setTop (mkF m 60 #[.val (.int z0)] [])) (fun t k => X0.lookupswitchHit hx (g := (mkF m 1 #[.val (.int z0)] [(.int z0)])) rfl rfl (hb hby d2_1) (by decide) (a := 133) (off := 59) (by rw [hs1_133]; rfl) (show (0 : Int) ≤ ((1 : Nat) : Int) + 59 by decide) t k) ?_
      refine Gl.st (b := s₁.setTop (mkF m 61 #[.val (.int z0)] [(.int (1 : Int32))])) (fun t k => XS.iconst X0.here hx rfl (hb hby d2_60) k) ?_
      exact Gl.retN X0 hx hret (by simp) (hb hby d2_61) hlk (by decide) (by decide) ⟨own_b1 (by simp only [own_f, decide_eq_true_eq]; omega), N0, e0⟩
    by_cases hs1_8232 : z0.toInt = 8232
    · -- hs1_8232
      refine Gl.st (b := s₁.setTop (mkF m 60 #[.val (.int z0)] [])) (fun t k => X0.lookupswitchHit hx (g := (mkF m 1 #[.val (.int z0)] [(.int z0)])) rfl rfl (hb hby d2_1) (by decide) (a := 8232) (off := 59) (by rw [hs1_8232]; rfl) (show (0 : Int) ≤ ((1 : Nat) : Int) + 59 by decide) t k) ?_
      refine Gl.st (b := s₁.setTop (mkF m 61 #[.val (.int z0)] [(.int (1 : Int32))])) (fun t k => XS.iconst X0.here hx rfl (hb hby d2_60) k) ?_
      exact Gl.retN X0 hx hret (by simp) (hb hby d2_61) hlk (by decide) (by decide) ⟨own_b1 (by simp only [own_f, decide_eq_true_eq]; omega), N0, e0⟩
    refine Gl.st (b := s₁.setTop (mkF m 62 #[.val (.int z0)] [])) (fun t k => X0.lookupswitchMiss hx (g := (mkF m 1 #[.val (.int z0)] [(.int z0)])) rfl rfl (hb hby d2_1) (by decide) (find_miss (by intro q hq; simp only [List.mem_cons, List.not_mem_nil, or_false] at hq; rcases hq with rfl | rfl | rfl | rfl | rfl | rfl <;> (first | exact Ne.symm (by assumption)))) (show (0 : Int) ≤ ((1 : Nat) : Int) + 61 by decide) t k) ?_
    refine Gl.st (b := s₁.setTop (mkF m 63 #[.val (.int z0)] [(.int (0 : Int32))])) (fun t k => XS.iconst X0.here hx rfl (hb hby d2_62) k) ?_
    exact Gl.retN X0 hx hret (by simp) (hb hby d2_63) hlk (by decide) (by decide) ⟨own_b0 (by simp only [own_f, decide_eq_false_iff_not]; omega), N0, e0⟩
  exact GOAL
theorem ef0 (m : MethodId) (z0 : Int32) : entryFrame m #[(.int z0)] maxLocals = mkF m 0 #[.val (.int z0), .unset, .unset] [] := by first | (simp [entryFrame, mkF, argsToLocals, Value.category, maxLocals]; done) | rfl
set_option maxRecDepth 65536 in
set_option maxHeartbeats 40000000 in
theorem rm0 (l : Launch) (Z : State) (a0 : Array Value) (hw : ∀ d ∈ tables_1, d.before a0 Z = true) (ws : List Jvm.Cond) (z0 : Int32)  (h0 : Heap) (n0 : Nat) (Z0 : n0 ≤ h0.size)  :
    MetFree l x (head1 (Jvm.Cond.code x code maxLocals ret :: ws) room_1) (fun a U => a = #[(.int z0)] ∧ Z.Warmed39 U.vm ∧ U.heap = h0) (fun _ _ _ _ _ => True) (fun _ U o U' => ∃ v L, o = .returned v ∧ QL n0 v U'.heap L ∧ FrameEnd U o U' L 0 0) := by
  refine MetFree.of_bodySF (plainFor_of_name own_pn1) hisR ?_
  intro p e s m args below meth c s₁ Bd hml0 hP hK
  obtain ⟨rfl, hZ, hh⟩ := hP
  have hx := Bd.exec
  have hby := Bd.bytes
  have hml : c.maxLocals = 3 := hml0
  have hown : s.vm.findClass "org/membrana/input/MarkupTextIsWhiteSpacePinLaw" = some m.cls := findClass_of_methodNamed Bd.named
  have hnm := (name_of_methodNamed Bd.named Bd.method).1
  have hlk : meth.locks = false := Bd.notSynchronized
  have hret := Bd.returns
  have X0 : Stand p l e room_1 s m #[(.int z0)] below meth c s₁ [] 0 0 := Stand.of_body Bd
  have e0 : s₁.heap = h0 := by rw [← hh, Bd.state]; rfl
  have N0 := Fr.nil n0
  have GOAL : Gl p e below s (QL n0) 0 0 (s₁.setTop (entryFrame m #[(.int z0)] maxLocals)) := by
    refine Gl.cast (ef0 m z0) ?_
    refine Gl.st (b := s₁.setTop (mkF m 1 #[.val (.int z0), .unset, .unset] [(.int z0)])) (fun t k => XS.iloadN X0.here hx rfl (hb hby at_0) rfl k) ?_
    refine Gl.st (b := s₁.setTop (mkF m 3 #[.val (.int z0), .unset, .unset] [(.int (65535 : Int32)), (.int z0)])) (fun t k => X0.ldcInt hx hown (mvT hZ (hw _ (List.mem_of_getElem? (i := 0) rfl))) (g := (mkF m 1 #[.val (.int z0), .unset, .unset] [(.int z0)])) rfl (hb hby at_1) t k) ?_
    refine Gl.st (b := s₁.setTop (mkF m 4 #[.val (.int z0), .unset, .unset] [(.int (z0 &&& (65535 : Int32)))])) (fun t k => XS.iand X0.here hx rfl (hb hby at_3) rfl k) ?_
    refine Gl.st (b := s₁.setTop (mkF m 5 #[.val (.int z0), .val (.int (z0 &&& (65535 : Int32))), .unset] [])) (fun t k => XS.istoreN X0.here hx rfl (hb hby at_4) rfl (l' := #[.val (.int z0), .val (.int (z0 &&& (65535 : Int32))), .unset]) rfl k) ?_
    refine Gl.st (b := s₁.setTop (mkF m 6 #[.val (.int z0), .val (.int (z0 &&& (65535 : Int32))), .unset] [(.int (z0 &&& (65535 : Int32)))])) (fun t k => XS.iloadN X0.here hx rfl (hb hby at_5) rfl k) ?_
    refine Gl.st (b := s₁.setTop (mkF m 7 #[.val (.int z0), .val (.int (z0 &&& (65535 : Int32))), .unset] [(.int ((z0 &&& (65535 : Int32)).toUInt32.toUInt16.toUInt32.toInt32))])) (fun t k => XS.i2c X0.here hx rfl (hb hby at_6) rfl k) ?_
    refine Gl.st (b := s₁.setTop (mkF m 8 #[.val (.int z0), .val (.int (z0 &&& (65535 : Int32))), .val (.int ((z0 &&& (65535 : Int32)).toUInt32.toUInt16.toUInt32.toInt32))] [])) (fun t k => XS.istoreN X0.here hx rfl (hb hby at_7) rfl (l' := #[.val (.int z0), .val (.int (z0 &&& (65535 : Int32))), .val (.int ((z0 &&& (65535 : Int32)).toUInt32.toUInt16.toUInt32.toInt32))]) rfl k) ?_
    refine Gl.st (b := s₁.setTop (mkF m 9 #[.val (.int z0), .val (.int (z0 &&& (65535 : Int32))), .val (.int ((z0 &&& (65535 : Int32)).toUInt32.toUInt16.toUInt32.toInt32))] [(.int ((z0 &&& (65535 : Int32)).toUInt32.toUInt16.toUInt32.toInt32))])) (fun t k => XS.iloadN X0.here hx rfl (hb hby at_8) rfl k) ?_
    refine Gl.callP (W := 0) (argsL := [(.int ((z0 &&& (65535 : Int32)).toUInt32.toUInt16.toUInt32.toInt32))]) (rest := []) (w := (.int (own_b (own_f ((z0 &&& (65535 : Int32)).toUInt32.toUInt16.toUInt32.toInt32))))) X0 hx hZ hown (hw _ (List.mem_of_getElem? (i := 1) rfl)) (hw _ (List.mem_of_getElem? (i := 2) rfl)) (hw _ (List.mem_of_getElem? (i := 3) rfl)) (hw _ (List.mem_of_getElem? (i := 4) rfl)) (by decide) (rm1 l Z a0 hw [] ((z0 &&& (65535 : Int32)).toUInt32.toUInt16.toUInt32.toInt32) h0 n0 Z0) (by decide) (by decide) e0 N0 (by decide) (by decide) (by rw [hml]; rfl) (lenOf own_pd0 rfl) rfl rfl (Nat.le_of_eq rfl) (hb hby at_9) ?_
    intro T1 L1 X1 e1 N1
    show Gl _ _ _ _ _ _ _ (T1.setTop (mkF m 12 #[.val (.int z0), .val (.int (z0 &&& (65535 : Int32))), .val (.int ((z0 &&& (65535 : Int32)).toUInt32.toUInt16.toUInt32.toInt32))] [(.int (own_b (own_f ((z0 &&& (65535 : Int32)).toUInt32.toUInt16.toUInt32.toInt32))))]))
    refine Gl.st (b := T1.setTop (mkF m 13 #[.val (.int z0), .val (.int (z0 &&& (65535 : Int32))), .val (.int ((z0 &&& (65535 : Int32)).toUInt32.toUInt16.toUInt32.toInt32))] [(.int (z0 &&& (65535 : Int32))), (.int (own_b (own_f ((z0 &&& (65535 : Int32)).toUInt32.toUInt16.toUInt32.toInt32))))])) (fun t k => XS.iloadN X1.here hx rfl (hb hby at_12) rfl k) ?_
    refine Gl.callP (W := 1) (argsL := [(.int (z0 &&& (65535 : Int32)))]) (rest := [(.int (own_b (own_f ((z0 &&& (65535 : Int32)).toUInt32.toUInt16.toUInt32.toInt32))))]) (w := (.int (own_b (own_f (z0 &&& (65535 : Int32)))))) X1 hx hZ hown (hw _ (List.mem_of_getElem? (i := 5) rfl)) (hw _ (List.mem_of_getElem? (i := 6) rfl)) (hw _ (List.mem_of_getElem? (i := 7) rfl)) (hw _ (List.mem_of_getElem? (i := 8) rfl)) (by decide) (rm2 l Z a0 hw [] (z0 &&& (65535 : Int32)) h0 n0 Z0) (by decide) (by decide) e1 N1 (by decide) (by decide) (by rw [hml]; rfl) (lenOf own_pd1 rfl) rfl rfl (Nat.le_of_eq rfl) (hb hby at_13) ?_
    intro T2 L2 X2 e2 N2
    show Gl _ _ _ _ _ _ _ (T2.setTop (mkF m 16 #[.val (.int z0), .val (.int (z0 &&& (65535 : Int32))), .val (.int ((z0 &&& (65535 : Int32)).toUInt32.toUInt16.toUInt32.toInt32))] [(.int (own_b (own_f (z0 &&& (65535 : Int32))))), (.int (own_b (own_f ((z0 &&& (65535 : Int32)).toUInt32.toUInt16.toUInt32.toInt32))))]))
    refine Gl.st (b := T2.setTop (mkF m 19 #[.val (.int z0), .val (.int (z0 &&& (65535 : Int32))), .val (.int ((z0 &&& (65535 : Int32)).toUInt32.toUInt16.toUInt32.toInt32))] [])) (fun t k => XS.icmpNo X2.here hx rfl (hb hby at_16) rfl (teq (congrArg own_b (own_key z0))).2 k) ?_
    refine Gl.st (b := T2.setTop (mkF m 20 #[.val (.int z0), .val (.int (z0 &&& (65535 : Int32))), .val (.int ((z0 &&& (65535 : Int32)).toUInt32.toUInt16.toUInt32.toInt32))] [(.int (1 : Int32))])) (fun t k => XS.iconst X2.here hx rfl (hb hby at_19) k) ?_
    refine Gl.st (b := T2.setTop (mkF m 24 #[.val (.int z0), .val (.int (z0 &&& (65535 : Int32))), .val (.int ((z0 &&& (65535 : Int32)).toUInt32.toUInt16.toUInt32.toInt32))] [(.int (1 : Int32))])) (fun t k => XS.goto X2.here hx rfl (pc0 := 20) (pc' := 24) rfl (hb hby at_20) (by decide) (by decide) k) ?_
    exact Gl.retN X2 hx hret (by simp) (hb hby at_24) hlk (by decide) (by decide) ⟨rfl, N2⟩
  exact GOAL
set_option maxRecDepth 65536 in
set_option maxHeartbeats 40000000 in
theorem comes_1 {Post : Tables → Env → Array Value → State → Outcome → State → Prop} (hpost : ∀ tb e args s v u, (limb_1_1.after args s (.returned v) u = true ∧ limb_1_2.after args s (.returned v) u = true ∧ True) → FrameEnd s (.returned v) u (Jvm.fieldLocs frame_1_writes args s ++ Jvm.arrayLocs frame_1_arrays args s ++ Jvm.staticLocs frame_1_statics s) 0 0 → Post tb e args s (.returned v) u) :
    ArmFor flags0 classFile x code maxLocals ret World_1 tables_1 room_1 Calls_1 rest_1 Pre_1 Post := by
  intro l hfl _ _ p e ha hc hk s m args below hf hA hF happ hP
  obtain ⟨hcalls, hrest, hpre⟩ := hP
  obtain ⟨-, -, -, hnamed, -, -, -, hat⟩ := (Spec.applies_iff hf).mp happ
  obtain ⟨hg, hn⟩ := and_e (Cond.before_iff.mp (show (Jvm.Cond.and given_1 narrow_1).before args s = true from hpre))
  obtain ⟨g1, k1⟩ := and_e hg
  obtain ⟨w0, rfl⟩ : ∃ w0 : Value, args = #[w0] := by
    have hs : args.size = 1 := by simpa [Cond.value, given_1] using g1
    obtain ⟨L⟩ := args
    match L, hs with
    | [w0], _ => exact ⟨w0, rfl⟩
  have hw := fun d (hd : d ∈ tables_1) => atoms_spec (ws := Jvm.Cond.code x code maxLocals ret :: tables_1) hat d (List.mem_cons_of_mem _ hd)
  obtain ⟨i0, ei0⟩ := is_v k1
  obtain rfl : w0 = (.int i0) := Option.some.inj ei0
  obtain ⟨n, o, h1, h2, h3, _, L, rfl, ⟨rfl, N⟩, hq⟩ := rm0 l s _ hw tables_1 i0 s.heap s.heap.size (Nat.le_refl _)  p e ha hc hk s m _ below hf ((Spec.applies_iff_loose hf).mp happ).1 ⟨rfl, State.Warmed39.refl s, rfl⟩ trivial
  refine ⟨n, _, h1, h2, h3, hpost _ _ _ _ _ _ ⟨Cond.after_iff.mpr rfl, Cond.after_iff.mpr (eq_i res_at (Term.int_eval (1)) rfl), trivial⟩ ⟨hq.1, hq.2.1, (hq.2.2.sift fun y hy => Or.inr (N y hy)).mono (by decide) (by decide)⟩⟩
theorem main_1_1 : Claimed_1_1 := comes_1 fun _ _ _ _ _ _ h hF => ⟨h.1, hF⟩
theorem main_1_2 : Claimed_1_2 := comes_1 fun _ _ _ _ _ _ h hF => ⟨h.2.1, hF⟩

end Jvm.Pilot.@@N@@
namespace Jvm.Pilot.@@N@@
open Jvm Jvm.ClassFile Sem Op Lib Jvm.Free Jvm.Stand Jvm.Pilot.@@N@@.Jvm.D
/-! MADE BY PROGRAM (witnessworld.py) out of the Statement's table words and the real class files: 9 classes; the members and pool entries that the words name. The judged class is class 1, her method 2. -/
namespace start1
open Jvm.ClassFile
def u (s : String) : CpInfo := .utf8 (stringToUtf16 s)
/-- a pool by its gaps: so many unusable entries, then the entry; so many at the end -/
def gap : Nat → List CpInfo → List CpInfo
  | 0, r => r
  | n + 1, r => .unusable :: gap n r
def poolList (es : List (Nat × CpInfo)) (last : Nat) : List CpInfo := es.foldr (fun e r => gap e.1 (e.2 :: r)) (gap last [])
def pool (es : List (Nat × CpInfo)) (last : Nat) : Array CpInfo := ⟨poolList es last⟩
def fileOf (pool : Array CpInfo) (this : Nat) (attrs : Array Attribute := #[]) (ms : Array MethodInfo := #[]) (fl : Nat := 33) (sup : Nat := 0) (ifs : Array Nat := #[]) (fds : Array FieldInfo := #[]) : ClassFile where
  minorVersion := 0
  majorVersion := 65
  constantPool := pool
  accessFlags := fl
  thisClass := this
  superClass := sup
  interfaces := ifs
  fields := fds
  methods := ms
  attributes := attrs
def plain (name : String) (sup : Option ClassId) : Class where
  name := name
  kind := .ordinary
  loader := none
  accessFlags := 33
  super := sup
  interfaces := #[]
  cf := none
  fields := #[]
  methods := #[]
  instanceTypes := #[]
  staticTypes := #[]
  resolved := #[]
  callSites := []
  init := .initialized
  statics := none
  mirror := none

def pool0 : Array CpInfo := pool [(5, u "<init>"), (0, u "()V"), (1, .class_ 10), (1, u "java/lang/Object")] 113

def k0m0 : Method := { name := "<init>", desc := "()V", sig := { parameters := [], returnType := none }, accessFlags := 1, code := none }
/-- java/lang/Object -/
def k0 : Class := { plain "java/lang/Object" none with
  accessFlags := 33
  interfaces := #[]
  cf := some (fileOf pool0 8 #[] #[{ accessFlags := 1, nameIndex := 5, descriptorIndex := 6, attributes := #[] }] 33 0 #[] #[])
  fields := #[]
  methods := #[k0m0]
  instanceTypes := #[]
  staticTypes := #[]
  resolved := Array.replicate 124 none
  statics := none }

def pool1 : Array CpInfo := pool [(2, .class_ 4), (1, u "java/lang/Object"), (0, u "<init>"), (0, u "()V"), (0, .integer 65535), (0, .methodref 9 10), (0, .class_ 11), (0, .nameAndType 12 13), (0, u "org/membrana/input/MarkupText"), (0, u "isWhiteSpace"), (0, u "(C)Z"), (0, .methodref 15 16), (0, .class_ 17), (0, .nameAndType 18 19), (0, u "org/membrana/input/MarkupTextIsWhiteSpacePinLaw"), (0, u "expected"), (0, u "(I)Z"), (3, u "law")] 2

def k1m0 : Method := { name := "<init>", desc := "()V", sig := { parameters := [], returnType := none }, accessFlags := 2, code := none }
def k1c1 : Code := { maxStack := 1, maxLocals := 1, code := method_2_code, exceptionTable := #[], attributes := #[] }
def k1m1 : Method := { name := "expected", desc := "(I)Z", sig := { parameters := [.int], returnType := some .boolean }, accessFlags := 10, code := some k1c1 }
def k1c2 : Code := { maxStack := 2, maxLocals := 3, code := code, exceptionTable := #[], attributes := #[] }
def k1m2 : Method := { name := "law", desc := "(I)Z", sig := { parameters := [.int], returnType := some .boolean }, accessFlags := 9, code := some k1c2 }
/-- org/membrana/input/MarkupTextIsWhiteSpacePinLaw -/
def k1 : Class := { plain "org/membrana/input/MarkupTextIsWhiteSpacePinLaw" (some 0) with
  accessFlags := 49
  interfaces := #[]
  cf := some (fileOf pool1 15 #[] #[{ accessFlags := 2, nameIndex := 5, descriptorIndex := 6, attributes := #[] }, { accessFlags := 10, nameIndex := 18, descriptorIndex := 19, attributes := #[] }, { accessFlags := 9, nameIndex := 23, descriptorIndex := 19, attributes := #[] }] 49 2 #[] #[])
  fields := #[]
  methods := #[k1m0, k1m1, k1m2]
  instanceTypes := #[]
  staticTypes := #[]
  resolved := Array.replicate 26 none
  statics := none }

def pool2 : Array CpInfo := pool [(2, .class_ 4), (1, u "java/lang/Object"), (0, u "<init>"), (0, u "()V"), (11, .class_ 20), (1, u "org/membrana/input/MarkupText"), (23, u "(C)Z"), (0, u "isWhiteSpace")] 2

def k2m0 : Method := { name := "<init>", desc := "()V", sig := { parameters := [], returnType := none }, accessFlags := 2, code := none }
def k2c1 : Code := { maxStack := 2, maxLocals := 1, code := prog_19_method_7_code, exceptionTable := #[], attributes := #[] }
def k2m1 : Method := { name := "isWhiteSpace", desc := "(C)Z", sig := { parameters := [.char], returnType := some .boolean }, accessFlags := 8, code := some k2c1 }
/-- org/membrana/input/MarkupText -/
def k2 : Class := { plain "org/membrana/input/MarkupText" (some 0) with
  accessFlags := 48
  interfaces := #[]
  cf := some (fileOf pool2 18 #[] #[{ accessFlags := 2, nameIndex := 5, descriptorIndex := 6, attributes := #[] }, { accessFlags := 8, nameIndex := 45, descriptorIndex := 44, attributes := #[] }] 48 2 #[] #[])
  fields := #[]
  methods := #[k2m0, k2m1]
  instanceTypes := #[]
  staticTypes := #[]
  resolved := Array.replicate 48 none
  statics := none }

def pool3 : Array CpInfo := pool [(1, u "java/lang/Cloneable"), (0, .class_ 1), (0, u "java/lang/Object"), (0, .class_ 3)] 3

/-- java/lang/Cloneable -/
def k3 : Class := { plain "java/lang/Cloneable" (some 0) with
  accessFlags := 1537
  interfaces := #[]
  cf := some (fileOf pool3 2 #[] #[] 1537 4 #[] #[])
  fields := #[]
  methods := #[]
  instanceTypes := #[]
  staticTypes := #[]
  resolved := Array.replicate 8 none
  statics := none }

def pool4 : Array CpInfo := pool [(1, u "java/io/Serializable"), (0, .class_ 1), (0, u "java/lang/Object"), (0, .class_ 3)] 3

/-- java/io/Serializable -/
def k4 : Class := { plain "java/io/Serializable" (some 0) with
  accessFlags := 1537
  interfaces := #[]
  cf := some (fileOf pool4 2 #[] #[] 1537 4 #[] #[])
  fields := #[]
  methods := #[]
  instanceTypes := #[]
  staticTypes := #[]
  resolved := Array.replicate 8 none
  statics := none }

/-- the primitive byte -/
def k5 : Class := { plain "byte" none with kind := .primitive 'B', accessFlags := 0x411 }
/-- [B -/
def k6 : Class := { plain "[B" (some 0) with kind := .array 5 .byte, interfaces := #[3, 4], accessFlags := 1041 }

/-- the primitive int -/
def k7 : Class := { plain "int" none with kind := .primitive 'I', accessFlags := 0x411 }
/-- [I -/
def k8 : Class := { plain "[I" (some 0) with kind := .array 7 .int, interfaces := #[3, 4], accessFlags := 1041 }

def heap : Heap := #[]
def classes : Array Class := #[k0, k1, k2, k3, k4, k5, k6, k7, k8]
def interned : List (Array UInt16 × Addr) := []
def slotsUsed : Nat := 0
def theMethod : MethodId := ⟨1, 2⟩
def args0 : Array Value := #[.int 5]
def aboutOver (below : List Frame) : State where
  vm := { classes := classes, interned := interned.toArray }
  heap := heap
  slotsUsed := slotsUsed
  threads := #[{ frames := .invoking theMethod args0 :: below }]
def below0 : List Frame := [.native { method := ⟨0, 0⟩, args := #[] }]
def about1 : State := aboutOver below0
def p0 : Program := .bare "" "" ""
def e0 : Env := launch0.env 0 0 0
theorem w_frames : about1.frames = Frame.invoking theMethod args0 :: below0 := rfl
set_option maxRecDepth 65536 in
theorem w_args : argsFit about1.vm theMethod args0 = true := by decide +kernel
set_option maxRecDepth 65536 in
theorem w_heap : heapFits about1 = true := by decide +kernel
set_option maxRecDepth 65536 in
theorem w_runnable : about1.curStatus? = some .runnable := by decide +kernel
set_option maxRecDepth 65536 in
theorem w_alone : about1.alone = true := by decide +kernel
set_option maxRecDepth 65536 in
theorem w_named : about1.methodNamed? x = some theMethod := by decide +kernel
set_option maxRecDepth 65536 in
theorem w_hears : about1.hears theMethod below0 = true := by decide +kernel
set_option maxRecDepth 65536 in
theorem w_ripe : about1.ripe theMethod args0 below0 = true := by decide +kernel
theorem w_running : about1.status = .running := rfl
set_option maxRecDepth 65536 in
theorem w_room : about1.hasRoom e0.platform room_1 = true :=
  launch0.hasRoom_least _ room_1 (by decide +kernel) (by decide +kernel) (by decide +kernel) (by decide +kernel) (by decide +kernel) (by decide +kernel)
theorem allAtoms_all (ts : List Jvm.Cond) (a : Array Jvm.Value) (st : Jvm.State) : (allAtoms ts).before a st = ts.all (fun c => c.before a st) := by
  induction ts with
  | nil => rfl
  | cons c t ih =>
    show (Jvm.Cond.and c (allAtoms t)).before a st = _
    rw [Jvm.Cond.before_and, ih, List.all_cons]
def words1 : List Jvm.Cond := Jvm.Cond.code x code maxLocals ret :: tables_1
/-- a 'code' word, met by the world's own term for the bytes: nothing is compared byte by byte -/
theorem code_word {y : MethodName} {bytes : ByteArray} {mx : Nat} {rt : Option FieldType} {a : Array Value} {s : State} {m : MethodId} {meth : Method} {c : Code} (h1 : s.methodNamed? y = some m) (h2 : s.vm.method? m = some meth) (h3 : meth.code = some c) (h4 : c.code = bytes)
    (h5 : (c.maxLocals == mx && c.exceptionTable.isEmpty && decide (c.maxStack ≤ mostOperands) && decide (meth.sig.returnType = rt) && !meth.locks && decide (parseMethodDescriptor y.desc = some meth.sig)) = true) : (Jvm.Cond.code y bytes mx rt).before a s = true := by
  simp only [Bool.and_eq_true, beq_iff_eq, Bool.not_eq_true', decide_eq_true_eq] at h5
  obtain ⟨⟨⟨⟨⟨g1, g2⟩, g3⟩, g4⟩, g5⟩, g6⟩ := h5
  simp [Cond.before, Cond.holds, Cond.value, h1, h2, h3, h4, g1, g2, g3, g4, g5, g6]
def isCode : Jvm.Cond → Bool
  | .code _ _ _ _ => true
  | _ => false
theorem all_split {L : List Jvm.Cond} {P : Jvm.Cond → Bool} (h1 : L.all (fun c => isCode c || P c) = true) (h2 : ∀ c ∈ L.filter isCode, P c = true) : L.all P = true := by
  refine List.all_eq_true.mpr fun c hc => ?_
  have h := List.all_eq_true.mp h1 c hc
  rcases Bool.eq_false_or_eq_true (isCode c) with hi | hi
  · exact h2 c (List.mem_filter.mpr ⟨hc, hi⟩)
  · simpa [hi] using h
set_option maxRecDepth 65536 in
theorem w_c0 : (Jvm.Cond.code x code maxLocals ret).before args0 about1 = true := code_word (m := ⟨1, 2⟩) (meth := k1m2) (c := k1c2) (by decide +kernel) rfl rfl rfl (by decide +kernel)
set_option maxRecDepth 65536 in
theorem w_c1 : (Jvm.Cond.code ({ cls := "org/membrana/input/MarkupText", name := "isWhiteSpace", desc := "(C)Z" } : Jvm.MethodName) prog_19_method_7_code (1 : Nat) (Option.some Jvm.ClassFile.FieldType.boolean)).before args0 about1 = true := code_word (m := ⟨2, 1⟩) (meth := k2m1) (c := k2c1) (by decide +kernel) rfl rfl rfl (by decide +kernel)
set_option maxRecDepth 65536 in
theorem w_c2 : (Jvm.Cond.code ({ cls := "org/membrana/input/MarkupTextIsWhiteSpacePinLaw", name := "expected", desc := "(I)Z" } : Jvm.MethodName) method_2_code (1 : Nat) (Option.some Jvm.ClassFile.FieldType.boolean)).before args0 about1 = true := code_word (m := ⟨1, 1⟩) (meth := k1m1) (c := k1c1) (by decide +kernel) rfl rfl rfl (by decide +kernel)
def codes1 : List Jvm.Cond := [Jvm.Cond.code x code maxLocals ret, Jvm.Cond.code ({ cls := "org/membrana/input/MarkupText", name := "isWhiteSpace", desc := "(C)Z" } : Jvm.MethodName) prog_19_method_7_code (1 : Nat) (Option.some Jvm.ClassFile.FieldType.boolean), Jvm.Cond.code ({ cls := "org/membrana/input/MarkupTextIsWhiteSpacePinLaw", name := "expected", desc := "(I)Z" } : Jvm.MethodName) method_2_code (1 : Nat) (Option.some Jvm.ClassFile.FieldType.boolean)]
set_option maxRecDepth 65536 in
theorem codes_eq : words1.filter isCode = codes1 := rfl
theorem w_codes : ∀ c ∈ words1.filter isCode, c.before args0 about1 = true := by
  rw [codes_eq]
  intro c hc
  simp only [codes1, List.mem_cons, List.not_mem_nil, or_false] at hc
  rcases hc with rfl | rfl | rfl
  · exact w_c0
  · exact w_c1
  · exact w_c2
set_option maxRecDepth 65536 in
theorem w_t1 : words1.all (fun c => isCode c || c.before args0 about1) = true := by decide +kernel
theorem w_tables : (allAtoms (Jvm.Cond.code x code maxLocals ret :: tables_1)).before args0 about1 = true := by
  rw [allAtoms_all]
  show words1.all (fun c => c.before args0 about1) = true
  refine all_split ?_ w_codes
  rw [w_t1]
set_option maxRecDepth 65536 in
theorem w_case : (Jvm.Cond.and given_1 narrow_1).before args0 about1 = true := by decide +kernel
theorem w_applies : (headSpec (Jvm.Cond.code x code maxLocals ret :: tables_1) room_1).applies x e0.platform about1 = true :=
  (Spec.applies_iff w_frames).mpr ⟨w_running, w_runnable, w_alone, w_named, w_hears, w_ripe, w_room, w_tables⟩
theorem atStart : AtStart classFile x code maxLocals ret World_1 tables_1 room_1 Calls_1 rest_1 Pre_1 launch0 p0 e0 about1 theMethod args0 below0 :=
  ⟨lists_1, trivial, launch0.admits_env _ _ _, launch0.least_env, fairChoices_fair.cas, fairChoices_fair.clock, w_frames, w_args, w_heap, w_applies, trivial, trivial, w_case⟩
end start1
theorem witness_1 : WitnessClaimed_1 := ⟨start1.p0, start1.e0, start1.about1, start1.theMethod, start1.args0, start1.below0, start1.atStart⟩
end Jvm.Pilot.@@N@@
