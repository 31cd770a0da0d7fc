import JvmDerived
import JvmDerived.Pilot.@@N@@Statement
import JvmDerived.Pilot.@@N@@Code
set_option linter.unusedVariables false
set_option linter.unusedSimpArgs false
namespace Jvm.Pilot.@@N@@
open Jvm Jvm.ClassFile Sem Op Lib Jvm.Free Jvm.Stand Jvm.LawKit Jvm.RoadKit Bundle Jvm.Pilot.@@N@@.Jvm.D
section Own
variable {p : Program} {l : Launch} {e : Env} {R : Room} {s : State} {m : MethodId} {args : Array Value} {below : List Frame} {meth : Method} {c : Code} {T : State} {locs : List Loc} {cells slots : Nat} {Z : State} {a0 : Array Value} {h h' : Heap} {Q : Option Value → Heap → List Loc → Prop} {kc ks n0 : Nat}
/-- from the state st the invocation ends as the contract asks -/
def Gl (p : Program) (e : Env) (below : List Frame) (s : State) (Q : Option Value → Heap → List Loc → Prop) (kc ks : Nat) (st : State) : Prop :=
  ∃ s₂ o, Steps p.tables e below st s₂ ∧ s₂.status = .running ∧ Ended s₂ below o ∧ ∃ v L, o = .returned v ∧ Q v s₂.heap L ∧ FrameEnd s o s₂ L kc ks
theorem Gl.st {a b : State} (h : ∀ t, Steps p.tables e below b t → Steps p.tables e below a t) (H : Gl p e below s Q kc ks b) : Gl p e below s Q kc ks a := by
  obtain ⟨s₂, o, h1, r⟩ := H
  exact ⟨s₂, o, h _ h1, r⟩
theorem Gl.cast {g g' : JFrame} (q : g = g') (H : Gl p e below s Q kc ks (T.setTop g')) : Gl p e below s Q kc ks (T.setTop g) := q ▸ H
theorem Gl.ret (X : Stand p l e R s m args below meth c T locs cells slots) {v : Option Value} (hv : meth.sig.returnType = none → v = none) (hlk : meth.locks = false) {g : State}
    (hst : ∀ fs, (∀ (f : JFrame) (acts : List Action), f.method = m → f.locked = none → f.entered = [] → (doReturn e (T.setTop f) acts v).1 = T.setFrames fs) → Steps p.tables e below g (T.setFrames fs))
    (hQ : Q v T.heap locs) (h1 : cells ≤ kc) (h2 : slots ≤ ks) : Gl p e below s Q kc ks g := by
  obtain ⟨fs, hr, hrun, hended, hW, hsame⟩ := X.leave (v := v) hv hlk
  exact ⟨_, _, hst fs hr, hrun, hended, _, _, rfl, hQ, ⟨_, rfl⟩, hW, hsame.mono h1 h2⟩
theorem Gl.retN (X : Stand p l e R s m args below meth c T locs cells slots) (hx : p.tables.exec = Jvm.exec) {pc : Nat} {Ls : Array Slot} {z : Int32} {t : FieldType} {rest : List Value} (hret : meth.sig.returnType = some t) (ht : t = .boolean ∨ t = .byte ∨ t = .char ∨ t = .short)
    (hd : decode c.code pc = .ok (.ireturn, 1)) (hlk : meth.locks = false) (h1 : cells ≤ kc) (h2 : slots ≤ ks) (hQ : Q (some (.int (nar t z))) T.heap locs) : Gl p e below s Q kc ks (T.setTop (mkF m pc Ls (.int z :: rest))) :=
  Gl.ret X (fun q => by rw [hret] at q; cases q) hlk (fun _ hr => Jvm.RoadKit.retN X hx hret ht hd hr) hQ h1 h2
theorem Gl.retI (X : Stand p l e R s m args below meth c T locs cells slots) (hx : p.tables.exec = Jvm.exec) {pc : Nat} {Ls : Array Slot} {z : Int32} {rest : List Value} (hret : meth.sig.returnType = some .int)
    (hd : decode c.code pc = .ok (.ireturn, 1)) (hlk : meth.locks = false) (h1 : cells ≤ kc) (h2 : slots ≤ ks) (hQ : Q (some (.int z)) T.heap locs) : Gl p e below s Q kc ks (T.setTop (mkF m pc Ls (.int z :: rest))) :=
  Gl.ret X (fun q => by rw [hret] at q; cases q) hlk (fun _ hr => retOut X hx hret rfl (Or.inl ⟨rfl, Or.inl rfl, _, rfl⟩) hd hr) hQ h1 h2
theorem Gl.retJ (X : Stand p l e R s m args below meth c T locs cells slots) (hx : p.tables.exec = Jvm.exec) {pc : Nat} {Ls : Array Slot} {z : Int64} {rest : List Value} (hret : meth.sig.returnType = some .long)
    (hd : decode c.code pc = .ok (.lreturn, 1)) (hlk : meth.locks = false) (h1 : cells ≤ kc) (h2 : slots ≤ ks) (hQ : Q (some (.long z)) T.heap locs) : Gl p e below s Q kc ks (T.setTop (mkF m pc Ls (.long z :: rest))) :=
  Gl.ret X (fun q => by rw [hret] at q; cases q) hlk (fun _ hr => retOut X hx hret rfl (Or.inr (Or.inl ⟨rfl, rfl, _, rfl⟩)) hd hr) hQ h1 h2
theorem Gl.retA (X : Stand p l e R s m args below meth c T locs cells slots) (hx : p.tables.exec = Jvm.exec) {pc : Nat} {Ls : Array Slot} {z : Addr} {t : FieldType} {rest : List Value} (hret : meth.sig.returnType = some (.array t))
    (hd : decode c.code pc = .ok (.areturn, 1)) (hlk : meth.locks = false) (h1 : cells ≤ kc) (h2 : slots ≤ ks) (hQ : Q (some (.ref z)) T.heap locs) : Gl p e below s Q kc ks (T.setTop (mkF m pc Ls (.ref z :: rest))) :=
  Gl.ret X (fun q => by rw [hret] at q; cases q) hlk (fun _ hr => retOut X hx hret rfl (Or.inr (Or.inr (Or.inr (Or.inr ⟨rfl, rfl, rfl⟩)))) hd hr) hQ h1 h2
theorem Gl.retV (X : Stand p l e R s m args below meth c T locs cells slots) (hx : p.tables.exec = Jvm.exec) {pc : Nat} {Ls : Array Slot} (hret : meth.sig.returnType = none)
    (hd : decode c.code pc = .ok (.return_, 1)) (hlk : meth.locks = false) (h1 : cells ≤ kc) (h2 : slots ≤ ks) (hQ : Q none T.heap locs) : Gl p e below s Q kc ks (T.setTop (mkF m pc Ls [])) :=
  Gl.ret X (fun _ => rfl) hlk (fun _ hr => X.returnOut hx hret hd hr) hQ h1 h2
/-- what a body that changes nothing leaves: the value w, the heap as it was -/
def QP (n0 : Nat) (h0 : Heap) (w : Value) (v : Option Value) (h : Heap) (L : List Loc) : Prop := v = some w ∧ Fr n0 L ∧ h = h0
/-- a static call by its contract -/
theorem Gl.callS (X : Stand p l e R s m args below meth c T locs cells slots) (hx : p.tables.exec = Jvm.exec) (hZ : Z.Warmed39 s.vm) {own : String} {index : Nat} {y : MethodName} {bytes : ByteArray} {maxL : Nat} {ret : Option FieldType} {rm : Room} {W : Nat} {as' : Array Value} {Qc : Option Value → Heap → List Loc → Prop}
    (hown : s.vm.findClass own = some m.cls) (w1 : (Cond.methodLink own index y).before a0 Z = true) (w2 : (Cond.static y).before a0 Z = true) (w3 : (Cond.initialized y.cls).before a0 Z = true) (w4 : (Cond.code y bytes maxL ret).before a0 Z = true)
    (hy : y.cls ≠ "java/lang/invoke/MethodHandle" ∧ y.cls ≠ "java/lang/invoke/VarHandle")
    (hM : MetFree l y (head1 [Cond.code y bytes maxL ret] rm) (fun a U => a = as' ∧ Z.Warmed39 U.vm ∧ U.heap = h) (fun _ _ _ _ _ => True) (fun _ U o U' => ∃ v L, o = .returned v ∧ Qc v U'.heap L ∧ FrameEnd U o U' L rm.cells rm.slots))
    (hf : rm.frames + 1 ≤ R.frames) (hl : W + (maxL + 11) + rm.locals ≤ R.locals) (eT : T.heap = h) (hc1 : cells + rm.cells ≤ R.cells) (hs1 : slots + rm.slots ≤ R.slots)
    {pc : Nat} {Ls : Array Slot} {stk argsL rest : List Value} (hsz : Ls.size = c.maxLocals) (hlen : ∀ sig, parseMethodDescriptor y.desc = some sig → argsL.length = sig.parameters.length) (hstk : stk = argsL.reverse ++ rest) (has : argsL.toArray = as')
    (hW : (rest.map fun v => v.category).sum ≤ W) (hd : decode c.code pc = .ok (.invokestatic index, 3))
    (K : ∀ (T' : State) (v : Option Value) (L : List Loc), Stand p l e R s m args below meth c T' (locs ++ L) (cells + rm.cells) (slots + rm.slots) → Qc v T'.heap L → Gl p e below s Q kc ks (T'.setTop (mkF m (pc + 3) Ls (v.toList ++ rest)))) :
    Gl p e below s Q kc ks (T.setTop (mkF m pc Ls stk)) := by
  obtain ⟨v, _, ⟨T', L', k', n'⟩, -, X', ⟨Lc, hQ, l1, y1, z1⟩, st⟩ := Jvm.LawKit.callS X hx (y := y) hown (mvT hZ w1) (mvT hZ w2) (mvT hZ w3) (mvT hZ w4) hy (backOf (W := W) hM hZ w4 w3 hf hl) (g := mkF m pc Ls stk) rfl hsz (argsL := argsL) (rest := rest) hlen hstk
    (by show 2 * 0 + _ ≤ _; rw [Nat.mul_zero, Nat.zero_add]; exact hW) hd (fun _ _ => ⟨has, eT, hc1, hs1⟩)
  dsimp only [Pt.U, Pt.locs, Pt.cells, Pt.slots] at X' l1 y1 z1 st hQ
  subst l1 y1 z1
  exact Gl.st (fun t k => st t k) (K T' v Lc X' hQ)
/-- a static call of a body that changes nothing -/
theorem Gl.callP (X : Stand p l e R s m args below meth c T locs cells slots) (hx : p.tables.exec = Jvm.exec) (hZ : Z.Warmed39 s.vm) {own : String} {index : Nat} {y : MethodName} {bytes : ByteArray} {maxL : Nat} {ret : Option FieldType} {fr lo W : Nat} {as' : Array Value} {w : Value}
    (hown : s.vm.findClass own = some m.cls) (w1 : (Cond.methodLink own index y).before a0 Z = true) (w2 : (Cond.static y).before a0 Z = true) (w3 : (Cond.initialized y.cls).before a0 Z = true) (w4 : (Cond.code y bytes maxL ret).before a0 Z = true)
    (hy : y.cls ≠ "java/lang/invoke/MethodHandle" ∧ y.cls ≠ "java/lang/invoke/VarHandle")
    (hM : MetFree l y (head1 [Cond.code y bytes maxL ret] ⟨fr, 0, 0, lo⟩) (fun a U => a = as' ∧ Z.Warmed39 U.vm ∧ U.heap = h) (fun _ _ _ _ _ => True) (fun _ U o U' => ∃ v L, o = .returned v ∧ QP n0 h w v U'.heap L ∧ FrameEnd U o U' L 0 0))
    (hf : fr + 1 ≤ R.frames) (hl : W + (maxL + 11) + lo ≤ R.locals) (eT : T.heap = h) (N : Fr n0 locs) (hc1 : cells ≤ R.cells) (hs1 : slots ≤ R.slots)
    {pc : Nat} {Ls : Array Slot} {stk argsL rest : List Value} (hsz : Ls.size = c.maxLocals) (hlen : ∀ sig, parseMethodDescriptor y.desc = some sig → argsL.length = sig.parameters.length) (hstk : stk = argsL.reverse ++ rest) (has : argsL.toArray = as')
    (hW : (rest.map fun v => v.category).sum ≤ W) (hd : decode c.code pc = .ok (.invokestatic index, 3))
    (K : ∀ (T' : State) (L : List Loc), Stand p l e R s m args below meth c T' L cells slots → T'.heap = h → Fr n0 L → Gl p e below s Q kc ks (T'.setTop (mkF m (pc + 3) Ls (w :: rest)))) :
    Gl p e below s Q kc ks (T.setTop (mkF m pc Ls stk)) :=
  Gl.callS (rm := ⟨fr, 0, 0, lo⟩) X hx hZ hown w1 w2 w3 w4 hy hM hf hl eT hc1 hs1 hsz hlen hstk has hW hd fun T' v L X' hq => by
    obtain ⟨rfl, N', e'⟩ := hq
    exact K T' _ X' e' (N.app N')
end Own
theorem own_ltI {x y : Int32} : x < y ↔ x.toInt < y.toInt := Int32.lt_iff_toInt_lt
theorem own_eqI {x y : Int32} : x = y ↔ x.toInt = y.toInt := ⟨fun h => h ▸ rfl, fun h => Int32.toInt_inj.mp h⟩
theorem own_ltJ {x y : Int64} : x < y ↔ x.toInt < y.toInt := Int64.lt_iff_toInt_lt
theorem own_eqJ {x y : Int64} : x = y ↔ x.toInt = y.toInt := ⟨fun h => h ▸ rfl, fun h => Int64.toInt_inj.mp h⟩
/-- a truth as the int that a boolean method returns -/
def own_b (b : Bool) : Int32 := if b then 1 else 0
theorem own_b1 {b : Bool} (h : b = true) : some (Value.int (nar .boolean 1)) = some (Value.int (own_b b)) := by subst h; rfl
theorem own_b0 {b : Bool} (h : b = false) : some (Value.int (nar .boolean 0)) = some (Value.int (own_b b)) := by subst h; rfl
theorem own_bn (b : Bool) : nar .boolean (own_b b) = own_b b := by cases b <;> rfl
theorem own_bt {b : Bool} (h : b = true) : ¬ own_b b = 0 := by subst h; decide
theorem own_bf {b : Bool} (h : ¬ b = true) : own_b b = 0 := by cases b with | true => exact absurd rfl h | false => rfl
def QL (n0 : Nat) (v : Option Value) (h : Heap) (L : List Loc) : Prop := v = some (.int 1) ∧ Fr n0 L
theorem own_pn0 : plainName "com/example/geata/geata/Tokens" = true := by first | (simp [plainName, overriddenIn]; done) | decide +kernel
theorem own_pd0 : parseMethodDescriptor "(C)Z" = some ⟨[.char], some .boolean⟩ := by decide +kernel
theorem own_pn1 : plainName "com/example/geata/geata/TokensIsWordPartPinLaw" = true := by first | (simp [plainName, overriddenIn]; done) | decide +kernel
def own_ws (z : Int32) : Bool := decide ((97 ≤ z.toInt ∧ z.toInt ≤ 122) ∨ (65 ≤ z.toInt ∧ z.toInt ≤ 90) ∨ z.toInt = 95 ∨ 128 ≤ z.toInt)
def own_dg (z : Int32) : Bool := decide (48 ≤ z.toInt ∧ z.toInt ≤ 57)
def own_wp (z : Int32) : Bool := own_ws z || own_dg z || decide (z.toInt = 36)
theorem own_tab : ∀ n : Fin 128, ((97 ≤ (Int32.ofNat n.1 ||| (32 : Int32)).toInt ∧ (Int32.ofNat n.1 ||| (32 : Int32)).toInt ≤ 122) ↔ ((97 ≤ n.1 ∧ n.1 ≤ 122) ∨ (65 ≤ n.1 ∧ n.1 ≤ 90))) := by decide +kernel
theorem own_low (z : Int32) (h0 : 0 ≤ z.toInt) (h1 : z.toInt < 128) : ((97 ≤ (z ||| (32 : Int32)).toInt ∧ (z ||| (32 : Int32)).toInt ≤ 122) ↔ ((97 ≤ z.toInt ∧ z.toInt ≤ 122) ∨ (65 ≤ z.toInt ∧ z.toInt ≤ 90))) := by
  have q := own_tab ⟨z.toInt.toNat, by omega⟩
  have e : Int32.ofNat z.toInt.toNat = z := by
    apply Int32.toInt_inj.mp
    rw [Int32.toInt_ofNat_of_lt (by omega)]
    omega
  simp only [e] at q
  rw [q]
  omega
/-- what isWordPart says of a masked char, in the masked int's own terms -/
theorem own_key (x : Int32) : (own_wp ((x &&& (65535 : Int32)).toUInt32.toUInt16.toUInt32.toInt32) = true ↔ (128 ≤ (x &&& (65535 : Int32)).toInt ∨ (x &&& (65535 : Int32)).toInt = 36 ∨ (x &&& (65535 : Int32)).toInt = 95 ∨ (48 ≤ (x &&& (65535 : Int32)).toInt ∧ (x &&& (65535 : Int32)).toInt ≤ 57) ∨ (97 ≤ ((x &&& (65535 : Int32)) ||| (32 : Int32)).toInt ∧ ((x &&& (65535 : Int32)) ||| (32 : Int32)).toInt ≤ 122))) := by
  have hm : (x &&& (65535 : Int32)).toInt = x.toInt % (2 ^ 16 : Nat) := c_mask x 65535 16 (by decide) (by decide)
  have hc := c_i2c (x &&& (65535 : Int32))
  generalize (x &&& (65535 : Int32)) = z at *
  generalize z.toUInt32.toUInt16.toUInt32.toInt32 = y at *
  have e : y.toInt = z.toInt := by omega
  have h0 : 0 ≤ z.toInt := by omega
  simp only [own_wp, own_ws, own_dg, Bool.or_eq_true, decide_eq_true_eq, e]
  by_cases h1 : z.toInt < 128
  · rw [own_low z h0 h1]; omega
  · omega
theorem own_is {b : Bool} (k : Int32) (h : k = 1 ∧ b = true ∨ k = 0 ∧ ¬ b = true) : own_b b = k := by
  rcases h with ⟨rfl, h⟩ | ⟨rfl, h⟩
  · rw [h]; rfl
  · exact own_bf h

theorem d1_0 : decode prog_57_method_23_code 0 = .ok (.iload_n 0, 1) := by decide +kernel
theorem d1_1 : decode prog_57_method_23_code 1 = .ok (.bipush 97, 2) := by decide +kernel
theorem d1_3 : decode prog_57_method_23_code 3 = .ok (.if_icmp .lt 9, 3) := by decide +kernel
theorem d1_6 : decode prog_57_method_23_code 6 = .ok (.iload_n 0, 1) := by decide +kernel
theorem d1_7 : decode prog_57_method_23_code 7 = .ok (.bipush 122, 2) := by decide +kernel
theorem d1_9 : decode prog_57_method_23_code 9 = .ok (.if_icmp .le 28, 3) := by decide +kernel
theorem d1_12 : decode prog_57_method_23_code 12 = .ok (.iload_n 0, 1) := by decide +kernel
theorem d1_13 : decode prog_57_method_23_code 13 = .ok (.bipush 65, 2) := by decide +kernel
theorem d1_15 : decode prog_57_method_23_code 15 = .ok (.if_icmp .lt 9, 3) := by decide +kernel
theorem d1_18 : decode prog_57_method_23_code 18 = .ok (.iload_n 0, 1) := by decide +kernel
theorem d1_19 : decode prog_57_method_23_code 19 = .ok (.bipush 90, 2) := by decide +kernel
theorem d1_21 : decode prog_57_method_23_code 21 = .ok (.if_icmp .le 16, 3) := by decide +kernel
theorem d1_24 : decode prog_57_method_23_code 24 = .ok (.iload_n 0, 1) := by decide +kernel
theorem d1_25 : decode prog_57_method_23_code 25 = .ok (.bipush 95, 2) := by decide +kernel
theorem d1_27 : decode prog_57_method_23_code 27 = .ok (.if_icmp .eq 10, 3) := by decide +kernel
theorem d1_30 : decode prog_57_method_23_code 30 = .ok (.iload_n 0, 1) := by decide +kernel
theorem d1_31 : decode prog_57_method_23_code 31 = .ok (.sipush 128, 3) := by decide +kernel
theorem d1_34 : decode prog_57_method_23_code 34 = .ok (.if_icmp .lt 7, 3) := by decide +kernel
theorem d1_37 : decode prog_57_method_23_code 37 = .ok (.iconst 1, 1) := by decide +kernel
theorem d1_38 : decode prog_57_method_23_code 38 = .ok (.goto 4, 3) := by decide +kernel
theorem d1_41 : decode prog_57_method_23_code 41 = .ok (.iconst 0, 1) := by decide +kernel
theorem d1_42 : decode prog_57_method_23_code 42 = .ok (.ireturn, 1) := by decide +kernel
theorem ef1 (m : MethodId) (z0 : Int32) : entryFrame m #[(.int z0)] 1 = mkF m 0 #[.val (.int z0)] [] := by first | (simp [entryFrame, mkF, argsToLocals, Value.category]; done) | rfl
set_option maxRecDepth 65536 in
set_option maxHeartbeats 40000000 in
theorem rm1 (l : Launch) (Z : State) (a0 : Array Value) (hw : ∀ d ∈ tables_1, d.before a0 Z = true) (ws : List Jvm.Cond) (z0 : Int32)  (h0 : Heap) (n0 : Nat) (Z0 : n0 ≤ h0.size)  :
    MetFree l (⟨"com/example/geata/geata/Tokens", "isWordStart", "(C)Z"⟩ : MethodName) (head1 (Jvm.Cond.code (⟨"com/example/geata/geata/Tokens", "isWordStart", "(C)Z"⟩ : MethodName) prog_57_method_23_code 1 (some .boolean) :: ws) (⟨0, 0, 0, 0⟩ : Room)) (fun a U => a = #[(.int z0)] ∧ Z.Warmed39 U.vm ∧ U.heap = h0) (fun _ _ _ _ _ => True) (fun _ U o U' => ∃ v L, o = .returned v ∧ QP n0 h0 (.int (own_b (own_ws z0))) v U'.heap L ∧ FrameEnd U o U' L 0 0) := by
  refine MetFree.of_bodySF (plainFor_of_name own_pn0) hisR ?_
  intro p e s m args below meth c s₁ Bd hml0 hP hK
  obtain ⟨rfl, hZ, hh⟩ := hP
  have hx := Bd.exec
  have hby := Bd.bytes
  have hml : c.maxLocals = 1 := hml0
  have hown : s.vm.findClass "com/example/geata/geata/Tokens" = some m.cls := findClass_of_methodNamed Bd.named
  have hnm := (name_of_methodNamed Bd.named Bd.method).1
  have hlk : meth.locks = false := Bd.notSynchronized
  have hret := Bd.returns
  have X0 : Stand p l e (⟨0, 0, 0, 0⟩ : Room) s m #[(.int z0)] below meth c s₁ [] 0 0 := Stand.of_body Bd
  have e0 : s₁.heap = h0 := by rw [← hh, Bd.state]; rfl
  have N0 := Fr.nil n0
  have GOAL : Gl p e below s (QP n0 h0 (.int (own_b (own_ws z0)))) 0 0 (s₁.setTop (entryFrame m #[(.int z0)] 1)) := by
    refine Gl.cast (ef1 m z0) ?_
    refine Gl.st (b := s₁.setTop (mkF m 1 #[.val (.int z0)] [(.int z0)])) (fun t k => XS.iloadN X0.here hx rfl (hb hby d1_0) rfl k) ?_
    refine Gl.st (b := s₁.setTop (mkF m 3 #[.val (.int z0)] [(.int (97 : Int32)), (.int z0)])) (fun t k => XS.bipush X0.here hx rfl (hb hby d1_1) k) ?_
    by_cases hc3 : z0.toInt < 97
    · -- hc3 True
      refine Gl.st (b := s₁.setTop (mkF m 12 #[.val (.int z0)] [])) (fun t k => XS.icmpYes X0.here hx rfl (pc0 := 3) (pc' := 12) rfl (hb hby d1_3) rfl (tlt (x := z0) (y := (97 : Int32)) (own_ltI.mpr hc3)).1 (by decide) (by decide) k) ?_
      refine Gl.st (b := s₁.setTop (mkF m 13 #[.val (.int z0)] [(.int z0)])) (fun t k => XS.iloadN X0.here hx rfl (hb hby d1_12) rfl k) ?_
      refine Gl.st (b := s₁.setTop (mkF m 15 #[.val (.int z0)] [(.int (65 : Int32)), (.int z0)])) (fun t k => XS.bipush X0.here hx rfl (hb hby d1_13) k) ?_
      by_cases hc15 : z0.toInt < 65
      · -- hc15 True
        refine Gl.st (b := s₁.setTop (mkF m 24 #[.val (.int z0)] [])) (fun t k => XS.icmpYes X0.here hx rfl (pc0 := 15) (pc' := 24) rfl (hb hby d1_15) rfl (tlt (x := z0) (y := (65 : Int32)) (own_ltI.mpr hc15)).1 (by decide) (by decide) k) ?_
        refine Gl.st (b := s₁.setTop (mkF m 25 #[.val (.int z0)] [(.int z0)])) (fun t k => XS.iloadN X0.here hx rfl (hb hby d1_24) rfl k) ?_
        refine Gl.st (b := s₁.setTop (mkF m 27 #[.val (.int z0)] [(.int (95 : Int32)), (.int z0)])) (fun t k => XS.bipush X0.here hx rfl (hb hby d1_25) k) ?_
        by_cases hc27 : z0.toInt = 95
        · -- hc27 True
          refine Gl.st (b := s₁.setTop (mkF m 37 #[.val (.int z0)] [])) (fun t k => XS.icmpYes X0.here hx rfl (pc0 := 27) (pc' := 37) rfl (hb hby d1_27) rfl (teq (x := z0) (y := (95 : Int32)) (own_eqI.mpr hc27)).1 (by decide) (by decide) k) ?_
          refine Gl.st (b := s₁.setTop (mkF m 38 #[.val (.int z0)] [(.int (1 : Int32))])) (fun t k => XS.iconst X0.here hx rfl (hb hby d1_37) k) ?_
          refine Gl.st (b := s₁.setTop (mkF m 42 #[.val (.int z0)] [(.int (1 : Int32))])) (fun t k => XS.goto X0.here hx rfl (pc0 := 38) (pc' := 42) rfl (hb hby d1_38) (by decide) (by decide) k) ?_
          exact Gl.retN X0 hx hret (by simp) (hb hby d1_42) hlk (by decide) (by decide) ⟨own_b1 (by simp only [own_ws, decide_eq_true_eq]; omega), N0, e0⟩
        · -- hc27 False
          refine Gl.st (b := s₁.setTop (mkF m 30 #[.val (.int z0)] [])) (fun t k => XS.icmpNo X0.here hx rfl (hb hby d1_27) rfl (feq (x := z0) (y := (95 : Int32)) (fun q => hc27 (own_eqI.mp q))).1 k) ?_
          refine Gl.st (b := s₁.setTop (mkF m 31 #[.val (.int z0)] [(.int z0)])) (fun t k => XS.iloadN X0.here hx rfl (hb hby d1_30) rfl k) ?_
          refine Gl.st (b := s₁.setTop (mkF m 34 #[.val (.int z0)] [(.int (128 : Int32)), (.int z0)])) (fun t k => XS.sipush X0.here hx rfl (hb hby d1_31) k) ?_
          by_cases hc34 : z0.toInt < 128
          · -- hc34 True
            refine Gl.st (b := s₁.setTop (mkF m 41 #[.val (.int z0)] [])) (fun t k => XS.icmpYes X0.here hx rfl (pc0 := 34) (pc' := 41) rfl (hb hby d1_34) rfl (tlt (x := z0) (y := (128 : Int32)) (own_ltI.mpr hc34)).1 (by decide) (by decide) k) ?_
            refine Gl.st (b := s₁.setTop (mkF m 42 #[.val (.int z0)] [(.int (0 : Int32))])) (fun t k => XS.iconst X0.here hx rfl (hb hby d1_41) k) ?_
            exact Gl.retN X0 hx hret (by simp) (hb hby d1_42) hlk (by decide) (by decide) ⟨own_b0 (by simp only [own_ws, decide_eq_false_iff_not]; omega), N0, e0⟩
          · -- hc34 False
            refine Gl.st (b := s₁.setTop (mkF m 37 #[.val (.int z0)] [])) (fun t k => XS.icmpNo X0.here hx rfl (hb hby d1_34) rfl (flt (x := z0) (y := (128 : Int32)) (fun q => hc34 (own_ltI.mp q))).1 k) ?_
            refine Gl.st (b := s₁.setTop (mkF m 38 #[.val (.int z0)] [(.int (1 : Int32))])) (fun t k => XS.iconst X0.here hx rfl (hb hby d1_37) k) ?_
            refine Gl.st (b := s₁.setTop (mkF m 42 #[.val (.int z0)] [(.int (1 : Int32))])) (fun t k => XS.goto X0.here hx rfl (pc0 := 38) (pc' := 42) rfl (hb hby d1_38) (by decide) (by decide) k) ?_
            exact Gl.retN X0 hx hret (by simp) (hb hby d1_42) hlk (by decide) (by decide) ⟨own_b1 (by simp only [own_ws, decide_eq_true_eq]; omega), N0, e0⟩
      · -- hc15 False
        refine Gl.st (b := s₁.setTop (mkF m 18 #[.val (.int z0)] [])) (fun t k => XS.icmpNo X0.here hx rfl (hb hby d1_15) rfl (flt (x := z0) (y := (65 : Int32)) (fun q => hc15 (own_ltI.mp q))).1 k) ?_
        refine Gl.st (b := s₁.setTop (mkF m 19 #[.val (.int z0)] [(.int z0)])) (fun t k => XS.iloadN X0.here hx rfl (hb hby d1_18) rfl k) ?_
        refine Gl.st (b := s₁.setTop (mkF m 21 #[.val (.int z0)] [(.int (90 : Int32)), (.int z0)])) (fun t k => XS.bipush X0.here hx rfl (hb hby d1_19) k) ?_
        by_cases hc21 : 90 < z0.toInt
        · -- hc21 True
          refine Gl.st (b := s₁.setTop (mkF m 24 #[.val (.int z0)] [])) (fun t k => XS.icmpNo X0.here hx rfl (hb hby d1_21) rfl (tlt (x := (90 : Int32)) (y := z0) (own_ltI.mpr hc21)).2.2.2 k) ?_
          refine Gl.st (b := s₁.setTop (mkF m 25 #[.val (.int z0)] [(.int z0)])) (fun t k => XS.iloadN X0.here hx rfl (hb hby d1_24) rfl k) ?_
          refine Gl.st (b := s₁.setTop (mkF m 27 #[.val (.int z0)] [(.int (95 : Int32)), (.int z0)])) (fun t k => XS.bipush X0.here hx rfl (hb hby d1_25) k) ?_
          by_cases hc27 : z0.toInt = 95
          · -- hc27 True
            refine Gl.st (b := s₁.setTop (mkF m 37 #[.val (.int z0)] [])) (fun t k => XS.icmpYes X0.here hx rfl (pc0 := 27) (pc' := 37) rfl (hb hby d1_27) rfl (teq (x := z0) (y := (95 : Int32)) (own_eqI.mpr hc27)).1 (by decide) (by decide) k) ?_
            refine Gl.st (b := s₁.setTop (mkF m 38 #[.val (.int z0)] [(.int (1 : Int32))])) (fun t k => XS.iconst X0.here hx rfl (hb hby d1_37) k) ?_
            refine Gl.st (b := s₁.setTop (mkF m 42 #[.val (.int z0)] [(.int (1 : Int32))])) (fun t k => XS.goto X0.here hx rfl (pc0 := 38) (pc' := 42) rfl (hb hby d1_38) (by decide) (by decide) k) ?_
            exact Gl.retN X0 hx hret (by simp) (hb hby d1_42) hlk (by decide) (by decide) ⟨own_b1 (by simp only [own_ws, decide_eq_true_eq]; omega), N0, e0⟩
          · -- hc27 False
            refine Gl.st (b := s₁.setTop (mkF m 30 #[.val (.int z0)] [])) (fun t k => XS.icmpNo X0.here hx rfl (hb hby d1_27) rfl (feq (x := z0) (y := (95 : Int32)) (fun q => hc27 (own_eqI.mp q))).1 k) ?_
            refine Gl.st (b := s₁.setTop (mkF m 31 #[.val (.int z0)] [(.int z0)])) (fun t k => XS.iloadN X0.here hx rfl (hb hby d1_30) rfl k) ?_
            refine Gl.st (b := s₁.setTop (mkF m 34 #[.val (.int z0)] [(.int (128 : Int32)), (.int z0)])) (fun t k => XS.sipush X0.here hx rfl (hb hby d1_31) k) ?_
            by_cases hc34 : z0.toInt < 128
            · -- hc34 True
              refine Gl.st (b := s₁.setTop (mkF m 41 #[.val (.int z0)] [])) (fun t k => XS.icmpYes X0.here hx rfl (pc0 := 34) (pc' := 41) rfl (hb hby d1_34) rfl (tlt (x := z0) (y := (128 : Int32)) (own_ltI.mpr hc34)).1 (by decide) (by decide) k) ?_
              refine Gl.st (b := s₁.setTop (mkF m 42 #[.val (.int z0)] [(.int (0 : Int32))])) (fun t k => XS.iconst X0.here hx rfl (hb hby d1_41) k) ?_
              exact Gl.retN X0 hx hret (by simp) (hb hby d1_42) hlk (by decide) (by decide) ⟨own_b0 (by simp only [own_ws, decide_eq_false_iff_not]; omega), N0, e0⟩
            · -- hc34 False
              refine Gl.st (b := s₁.setTop (mkF m 37 #[.val (.int z0)] [])) (fun t k => XS.icmpNo X0.here hx rfl (hb hby d1_34) rfl (flt (x := z0) (y := (128 : Int32)) (fun q => hc34 (own_ltI.mp q))).1 k) ?_
              refine Gl.st (b := s₁.setTop (mkF m 38 #[.val (.int z0)] [(.int (1 : Int32))])) (fun t k => XS.iconst X0.here hx rfl (hb hby d1_37) k) ?_
              refine Gl.st (b := s₁.setTop (mkF m 42 #[.val (.int z0)] [(.int (1 : Int32))])) (fun t k => XS.goto X0.here hx rfl (pc0 := 38) (pc' := 42) rfl (hb hby d1_38) (by decide) (by decide) k) ?_
              exact Gl.retN X0 hx hret (by simp) (hb hby d1_42) hlk (by decide) (by decide) ⟨own_b1 (by simp only [own_ws, decide_eq_true_eq]; omega), N0, e0⟩
        · -- hc21 False
          refine Gl.st (b := s₁.setTop (mkF m 37 #[.val (.int z0)] [])) (fun t k => XS.icmpYes X0.here hx rfl (pc0 := 21) (pc' := 37) rfl (hb hby d1_21) rfl (flt (x := (90 : Int32)) (y := z0) (fun q => hc21 (own_ltI.mp q))).2.2.2 (by decide) (by decide) k) ?_
          refine Gl.st (b := s₁.setTop (mkF m 38 #[.val (.int z0)] [(.int (1 : Int32))])) (fun t k => XS.iconst X0.here hx rfl (hb hby d1_37) k) ?_
          refine Gl.st (b := s₁.setTop (mkF m 42 #[.val (.int z0)] [(.int (1 : Int32))])) (fun t k => XS.goto X0.here hx rfl (pc0 := 38) (pc' := 42) rfl (hb hby d1_38) (by decide) (by decide) k) ?_
          exact Gl.retN X0 hx hret (by simp) (hb hby d1_42) hlk (by decide) (by decide) ⟨own_b1 (by simp only [own_ws, decide_eq_true_eq]; omega), N0, e0⟩
    · -- hc3 False
      refine Gl.st (b := s₁.setTop (mkF m 6 #[.val (.int z0)] [])) (fun t k => XS.icmpNo X0.here hx rfl (hb hby d1_3) rfl (flt (x := z0) (y := (97 : Int32)) (fun q => hc3 (own_ltI.mp q))).1 k) ?_
      refine Gl.st (b := s₁.setTop (mkF m 7 #[.val (.int z0)] [(.int z0)])) (fun t k => XS.iloadN X0.here hx rfl (hb hby d1_6) rfl k) ?_
      refine Gl.st (b := s₁.setTop (mkF m 9 #[.val (.int z0)] [(.int (122 : Int32)), (.int z0)])) (fun t k => XS.bipush X0.here hx rfl (hb hby d1_7) k) ?_
      by_cases hc9 : 122 < z0.toInt
      · -- hc9 True
        refine Gl.st (b := s₁.setTop (mkF m 12 #[.val (.int z0)] [])) (fun t k => XS.icmpNo X0.here hx rfl (hb hby d1_9) rfl (tlt (x := (122 : Int32)) (y := z0) (own_ltI.mpr hc9)).2.2.2 k) ?_
        refine Gl.st (b := s₁.setTop (mkF m 13 #[.val (.int z0)] [(.int z0)])) (fun t k => XS.iloadN X0.here hx rfl (hb hby d1_12) rfl k) ?_
        refine Gl.st (b := s₁.setTop (mkF m 15 #[.val (.int z0)] [(.int (65 : Int32)), (.int z0)])) (fun t k => XS.bipush X0.here hx rfl (hb hby d1_13) k) ?_
        by_cases hc15 : z0.toInt < 65
        · -- hc15 True
          refine Gl.st (b := s₁.setTop (mkF m 24 #[.val (.int z0)] [])) (fun t k => XS.icmpYes X0.here hx rfl (pc0 := 15) (pc' := 24) rfl (hb hby d1_15) rfl (tlt (x := z0) (y := (65 : Int32)) (own_ltI.mpr hc15)).1 (by decide) (by decide) k) ?_
          refine Gl.st (b := s₁.setTop (mkF m 25 #[.val (.int z0)] [(.int z0)])) (fun t k => XS.iloadN X0.here hx rfl (hb hby d1_24) rfl k) ?_
          refine Gl.st (b := s₁.setTop (mkF m 27 #[.val (.int z0)] [(.int (95 : Int32)), (.int z0)])) (fun t k => XS.bipush X0.here hx rfl (hb hby d1_25) k) ?_
          by_cases hc27 : z0.toInt = 95
          · -- hc27 True
            refine Gl.st (b := s₁.setTop (mkF m 37 #[.val (.int z0)] [])) (fun t k => XS.icmpYes X0.here hx rfl (pc0 := 27) (pc' := 37) rfl (hb hby d1_27) rfl (teq (x := z0) (y := (95 : Int32)) (own_eqI.mpr hc27)).1 (by decide) (by decide) k) ?_
            refine Gl.st (b := s₁.setTop (mkF m 38 #[.val (.int z0)] [(.int (1 : Int32))])) (fun t k => XS.iconst X0.here hx rfl (hb hby d1_37) k) ?_
            refine Gl.st (b := s₁.setTop (mkF m 42 #[.val (.int z0)] [(.int (1 : Int32))])) (fun t k => XS.goto X0.here hx rfl (pc0 := 38) (pc' := 42) rfl (hb hby d1_38) (by decide) (by decide) k) ?_
            exact Gl.retN X0 hx hret (by simp) (hb hby d1_42) hlk (by decide) (by decide) ⟨own_b1 (by simp only [own_ws, decide_eq_true_eq]; omega), N0, e0⟩
          · -- hc27 False
            refine Gl.st (b := s₁.setTop (mkF m 30 #[.val (.int z0)] [])) (fun t k => XS.icmpNo X0.here hx rfl (hb hby d1_27) rfl (feq (x := z0) (y := (95 : Int32)) (fun q => hc27 (own_eqI.mp q))).1 k) ?_
            refine Gl.st (b := s₁.setTop (mkF m 31 #[.val (.int z0)] [(.int z0)])) (fun t k => XS.iloadN X0.here hx rfl (hb hby d1_30) rfl k) ?_
            refine Gl.st (b := s₁.setTop (mkF m 34 #[.val (.int z0)] [(.int (128 : Int32)), (.int z0)])) (fun t k => XS.sipush X0.here hx rfl (hb hby d1_31) k) ?_
            by_cases hc34 : z0.toInt < 128
            · -- hc34 True
              refine Gl.st (b := s₁.setTop (mkF m 41 #[.val (.int z0)] [])) (fun t k => XS.icmpYes X0.here hx rfl (pc0 := 34) (pc' := 41) rfl (hb hby d1_34) rfl (tlt (x := z0) (y := (128 : Int32)) (own_ltI.mpr hc34)).1 (by decide) (by decide) k) ?_
              refine Gl.st (b := s₁.setTop (mkF m 42 #[.val (.int z0)] [(.int (0 : Int32))])) (fun t k => XS.iconst X0.here hx rfl (hb hby d1_41) k) ?_
              exact Gl.retN X0 hx hret (by simp) (hb hby d1_42) hlk (by decide) (by decide) ⟨own_b0 (by simp only [own_ws, decide_eq_false_iff_not]; omega), N0, e0⟩
            · -- hc34 False
              refine Gl.st (b := s₁.setTop (mkF m 37 #[.val (.int z0)] [])) (fun t k => XS.icmpNo X0.here hx rfl (hb hby d1_34) rfl (flt (x := z0) (y := (128 : Int32)) (fun q => hc34 (own_ltI.mp q))).1 k) ?_
              refine Gl.st (b := s₁.setTop (mkF m 38 #[.val (.int z0)] [(.int (1 : Int32))])) (fun t k => XS.iconst X0.here hx rfl (hb hby d1_37) k) ?_
              refine Gl.st (b := s₁.setTop (mkF m 42 #[.val (.int z0)] [(.int (1 : Int32))])) (fun t k => XS.goto X0.here hx rfl (pc0 := 38) (pc' := 42) rfl (hb hby d1_38) (by decide) (by decide) k) ?_
              exact Gl.retN X0 hx hret (by simp) (hb hby d1_42) hlk (by decide) (by decide) ⟨own_b1 (by simp only [own_ws, decide_eq_true_eq]; omega), N0, e0⟩
        · -- hc15 False
          refine Gl.st (b := s₁.setTop (mkF m 18 #[.val (.int z0)] [])) (fun t k => XS.icmpNo X0.here hx rfl (hb hby d1_15) rfl (flt (x := z0) (y := (65 : Int32)) (fun q => hc15 (own_ltI.mp q))).1 k) ?_
          refine Gl.st (b := s₁.setTop (mkF m 19 #[.val (.int z0)] [(.int z0)])) (fun t k => XS.iloadN X0.here hx rfl (hb hby d1_18) rfl k) ?_
          refine Gl.st (b := s₁.setTop (mkF m 21 #[.val (.int z0)] [(.int (90 : Int32)), (.int z0)])) (fun t k => XS.bipush X0.here hx rfl (hb hby d1_19) k) ?_
          by_cases hc21 : 90 < z0.toInt
          · -- hc21 True
            refine Gl.st (b := s₁.setTop (mkF m 24 #[.val (.int z0)] [])) (fun t k => XS.icmpNo X0.here hx rfl (hb hby d1_21) rfl (tlt (x := (90 : Int32)) (y := z0) (own_ltI.mpr hc21)).2.2.2 k) ?_
            refine Gl.st (b := s₁.setTop (mkF m 25 #[.val (.int z0)] [(.int z0)])) (fun t k => XS.iloadN X0.here hx rfl (hb hby d1_24) rfl k) ?_
            refine Gl.st (b := s₁.setTop (mkF m 27 #[.val (.int z0)] [(.int (95 : Int32)), (.int z0)])) (fun t k => XS.bipush X0.here hx rfl (hb hby d1_25) k) ?_
            by_cases hc27 : z0.toInt = 95
            · -- hc27 True
              refine Gl.st (b := s₁.setTop (mkF m 37 #[.val (.int z0)] [])) (fun t k => XS.icmpYes X0.here hx rfl (pc0 := 27) (pc' := 37) rfl (hb hby d1_27) rfl (teq (x := z0) (y := (95 : Int32)) (own_eqI.mpr hc27)).1 (by decide) (by decide) k) ?_
              refine Gl.st (b := s₁.setTop (mkF m 38 #[.val (.int z0)] [(.int (1 : Int32))])) (fun t k => XS.iconst X0.here hx rfl (hb hby d1_37) k) ?_
              refine Gl.st (b := s₁.setTop (mkF m 42 #[.val (.int z0)] [(.int (1 : Int32))])) (fun t k => XS.goto X0.here hx rfl (pc0 := 38) (pc' := 42) rfl (hb hby d1_38) (by decide) (by decide) k) ?_
              exact Gl.retN X0 hx hret (by simp) (hb hby d1_42) hlk (by decide) (by decide) ⟨own_b1 (by simp only [own_ws, decide_eq_true_eq]; omega), N0, e0⟩
            · -- hc27 False
              refine Gl.st (b := s₁.setTop (mkF m 30 #[.val (.int z0)] [])) (fun t k => XS.icmpNo X0.here hx rfl (hb hby d1_27) rfl (feq (x := z0) (y := (95 : Int32)) (fun q => hc27 (own_eqI.mp q))).1 k) ?_
              refine Gl.st (b := s₁.setTop (mkF m 31 #[.val (.int z0)] [(.int z0)])) (fun t k => XS.iloadN X0.here hx rfl (hb hby d1_30) rfl k) ?_
              refine Gl.st (b := s₁.setTop (mkF m 34 #[.val (.int z0)] [(.int (128 : Int32)), (.int z0)])) (fun t k => XS.sipush X0.here hx rfl (hb hby d1_31) k) ?_
              by_cases hc34 : z0.toInt < 128
              · -- hc34 True
                refine Gl.st (b := s₁.setTop (mkF m 41 #[.val (.int z0)] [])) (fun t k => XS.icmpYes X0.here hx rfl (pc0 := 34) (pc' := 41) rfl (hb hby d1_34) rfl (tlt (x := z0) (y := (128 : Int32)) (own_ltI.mpr hc34)).1 (by decide) (by decide) k) ?_
                refine Gl.st (b := s₁.setTop (mkF m 42 #[.val (.int z0)] [(.int (0 : Int32))])) (fun t k => XS.iconst X0.here hx rfl (hb hby d1_41) k) ?_
                exact Gl.retN X0 hx hret (by simp) (hb hby d1_42) hlk (by decide) (by decide) ⟨own_b0 (by simp only [own_ws, decide_eq_false_iff_not]; omega), N0, e0⟩
              · -- hc34 False
                refine Gl.st (b := s₁.setTop (mkF m 37 #[.val (.int z0)] [])) (fun t k => XS.icmpNo X0.here hx rfl (hb hby d1_34) rfl (flt (x := z0) (y := (128 : Int32)) (fun q => hc34 (own_ltI.mp q))).1 k) ?_
                refine Gl.st (b := s₁.setTop (mkF m 38 #[.val (.int z0)] [(.int (1 : Int32))])) (fun t k => XS.iconst X0.here hx rfl (hb hby d1_37) k) ?_
                refine Gl.st (b := s₁.setTop (mkF m 42 #[.val (.int z0)] [(.int (1 : Int32))])) (fun t k => XS.goto X0.here hx rfl (pc0 := 38) (pc' := 42) rfl (hb hby d1_38) (by decide) (by decide) k) ?_
                exact Gl.retN X0 hx hret (by simp) (hb hby d1_42) hlk (by decide) (by decide) ⟨own_b1 (by simp only [own_ws, decide_eq_true_eq]; omega), N0, e0⟩
          · -- hc21 False
            refine Gl.st (b := s₁.setTop (mkF m 37 #[.val (.int z0)] [])) (fun t k => XS.icmpYes X0.here hx rfl (pc0 := 21) (pc' := 37) rfl (hb hby d1_21) rfl (flt (x := (90 : Int32)) (y := z0) (fun q => hc21 (own_ltI.mp q))).2.2.2 (by decide) (by decide) k) ?_
            refine Gl.st (b := s₁.setTop (mkF m 38 #[.val (.int z0)] [(.int (1 : Int32))])) (fun t k => XS.iconst X0.here hx rfl (hb hby d1_37) k) ?_
            refine Gl.st (b := s₁.setTop (mkF m 42 #[.val (.int z0)] [(.int (1 : Int32))])) (fun t k => XS.goto X0.here hx rfl (pc0 := 38) (pc' := 42) rfl (hb hby d1_38) (by decide) (by decide) k) ?_
            exact Gl.retN X0 hx hret (by simp) (hb hby d1_42) hlk (by decide) (by decide) ⟨own_b1 (by simp only [own_ws, decide_eq_true_eq]; omega), N0, e0⟩
      · -- hc9 False
        refine Gl.st (b := s₁.setTop (mkF m 37 #[.val (.int z0)] [])) (fun t k => XS.icmpYes X0.here hx rfl (pc0 := 9) (pc' := 37) rfl (hb hby d1_9) rfl (flt (x := (122 : Int32)) (y := z0) (fun q => hc9 (own_ltI.mp q))).2.2.2 (by decide) (by decide) k) ?_
        refine Gl.st (b := s₁.setTop (mkF m 38 #[.val (.int z0)] [(.int (1 : Int32))])) (fun t k => XS.iconst X0.here hx rfl (hb hby d1_37) k) ?_
        refine Gl.st (b := s₁.setTop (mkF m 42 #[.val (.int z0)] [(.int (1 : Int32))])) (fun t k => XS.goto X0.here hx rfl (pc0 := 38) (pc' := 42) rfl (hb hby d1_38) (by decide) (by decide) k) ?_
        exact Gl.retN X0 hx hret (by simp) (hb hby d1_42) hlk (by decide) (by decide) ⟨own_b1 (by simp only [own_ws, decide_eq_true_eq]; omega), N0, e0⟩
  exact GOAL
theorem d2_0 : decode prog_57_method_25_code 0 = .ok (.iload_n 0, 1) := by decide +kernel
theorem d2_1 : decode prog_57_method_25_code 1 = .ok (.bipush 48, 2) := by decide +kernel
theorem d2_3 : decode prog_57_method_25_code 3 = .ok (.if_icmp .lt 13, 3) := by decide +kernel
theorem d2_6 : decode prog_57_method_25_code 6 = .ok (.iload_n 0, 1) := by decide +kernel
theorem d2_7 : decode prog_57_method_25_code 7 = .ok (.bipush 57, 2) := by decide +kernel
theorem d2_9 : decode prog_57_method_25_code 9 = .ok (.if_icmp .gt 7, 3) := by decide +kernel
theorem d2_12 : decode prog_57_method_25_code 12 = .ok (.iconst 1, 1) := by decide +kernel
theorem d2_13 : decode prog_57_method_25_code 13 = .ok (.goto 4, 3) := by decide +kernel
theorem d2_16 : decode prog_57_method_25_code 16 = .ok (.iconst 0, 1) := by decide +kernel
theorem d2_17 : decode prog_57_method_25_code 17 = .ok (.ireturn, 1) := by decide +kernel
theorem ef2 (m : MethodId) (z0 : Int32) : entryFrame m #[(.int z0)] 1 = mkF m 0 #[.val (.int z0)] [] := by first | (simp [entryFrame, mkF, argsToLocals, Value.category]; done) | rfl
set_option maxRecDepth 65536 in
set_option maxHeartbeats 40000000 in
theorem rm2 (l : Launch) (Z : State) (a0 : Array Value) (hw : ∀ d ∈ tables_1, d.before a0 Z = true) (ws : List Jvm.Cond) (z0 : Int32)  (h0 : Heap) (n0 : Nat) (Z0 : n0 ≤ h0.size)  :
    MetFree l (⟨"com/example/geata/geata/Tokens", "isDigit", "(C)Z"⟩ : MethodName) (head1 (Jvm.Cond.code (⟨"com/example/geata/geata/Tokens", "isDigit", "(C)Z"⟩ : MethodName) prog_57_method_25_code 1 (some .boolean) :: ws) (⟨0, 0, 0, 0⟩ : Room)) (fun a U => a = #[(.int z0)] ∧ Z.Warmed39 U.vm ∧ U.heap = h0) (fun _ _ _ _ _ => True) (fun _ U o U' => ∃ v L, o = .returned v ∧ QP n0 h0 (.int (own_b (own_dg z0))) v U'.heap L ∧ FrameEnd U o U' L 0 0) := by
  refine MetFree.of_bodySF (plainFor_of_name own_pn0) hisR ?_
  intro p e s m args below meth c s₁ Bd hml0 hP hK
  obtain ⟨rfl, hZ, hh⟩ := hP
  have hx := Bd.exec
  have hby := Bd.bytes
  have hml : c.maxLocals = 1 := hml0
  have hown : s.vm.findClass "com/example/geata/geata/Tokens" = some m.cls := findClass_of_methodNamed Bd.named
  have hnm := (name_of_methodNamed Bd.named Bd.method).1
  have hlk : meth.locks = false := Bd.notSynchronized
  have hret := Bd.returns
  have X0 : Stand p l e (⟨0, 0, 0, 0⟩ : Room) s m #[(.int z0)] below meth c s₁ [] 0 0 := Stand.of_body Bd
  have e0 : s₁.heap = h0 := by rw [← hh, Bd.state]; rfl
  have N0 := Fr.nil n0
  have GOAL : Gl p e below s (QP n0 h0 (.int (own_b (own_dg z0)))) 0 0 (s₁.setTop (entryFrame m #[(.int z0)] 1)) := by
    refine Gl.cast (ef2 m z0) ?_
    refine Gl.st (b := s₁.setTop (mkF m 1 #[.val (.int z0)] [(.int z0)])) (fun t k => XS.iloadN X0.here hx rfl (hb hby d2_0) rfl k) ?_
    refine Gl.st (b := s₁.setTop (mkF m 3 #[.val (.int z0)] [(.int (48 : Int32)), (.int z0)])) (fun t k => XS.bipush X0.here hx rfl (hb hby d2_1) k) ?_
    by_cases hc3 : z0.toInt < 48
    · -- hc3 True
      refine Gl.st (b := s₁.setTop (mkF m 16 #[.val (.int z0)] [])) (fun t k => XS.icmpYes X0.here hx rfl (pc0 := 3) (pc' := 16) rfl (hb hby d2_3) rfl (tlt (x := z0) (y := (48 : Int32)) (own_ltI.mpr hc3)).1 (by decide) (by decide) k) ?_
      refine Gl.st (b := s₁.setTop (mkF m 17 #[.val (.int z0)] [(.int (0 : Int32))])) (fun t k => XS.iconst X0.here hx rfl (hb hby d2_16) k) ?_
      exact Gl.retN X0 hx hret (by simp) (hb hby d2_17) hlk (by decide) (by decide) ⟨own_b0 (by simp only [own_dg, decide_eq_false_iff_not]; omega), N0, e0⟩
    · -- hc3 False
      refine Gl.st (b := s₁.setTop (mkF m 6 #[.val (.int z0)] [])) (fun t k => XS.icmpNo X0.here hx rfl (hb hby d2_3) rfl (flt (x := z0) (y := (48 : Int32)) (fun q => hc3 (own_ltI.mp q))).1 k) ?_
      refine Gl.st (b := s₁.setTop (mkF m 7 #[.val (.int z0)] [(.int z0)])) (fun t k => XS.iloadN X0.here hx rfl (hb hby d2_6) rfl k) ?_
      refine Gl.st (b := s₁.setTop (mkF m 9 #[.val (.int z0)] [(.int (57 : Int32)), (.int z0)])) (fun t k => XS.bipush X0.here hx rfl (hb hby d2_7) k) ?_
      by_cases hc9 : 57 < z0.toInt
      · -- hc9 True
        refine Gl.st (b := s₁.setTop (mkF m 16 #[.val (.int z0)] [])) (fun t k => XS.icmpYes X0.here hx rfl (pc0 := 9) (pc' := 16) rfl (hb hby d2_9) rfl (tlt (x := (57 : Int32)) (y := z0) (own_ltI.mpr hc9)).2.2.1 (by decide) (by decide) k) ?_
        refine Gl.st (b := s₁.setTop (mkF m 17 #[.val (.int z0)] [(.int (0 : Int32))])) (fun t k => XS.iconst X0.here hx rfl (hb hby d2_16) k) ?_
        exact Gl.retN X0 hx hret (by simp) (hb hby d2_17) hlk (by decide) (by decide) ⟨own_b0 (by simp only [own_dg, decide_eq_false_iff_not]; omega), N0, e0⟩
      · -- hc9 False
        refine Gl.st (b := s₁.setTop (mkF m 12 #[.val (.int z0)] [])) (fun t k => XS.icmpNo X0.here hx rfl (hb hby d2_9) rfl (flt (x := (57 : Int32)) (y := z0) (fun q => hc9 (own_ltI.mp q))).2.2.1 k) ?_
        refine Gl.st (b := s₁.setTop (mkF m 13 #[.val (.int z0)] [(.int (1 : Int32))])) (fun t k => XS.iconst X0.here hx rfl (hb hby d2_12) k) ?_
        refine Gl.st (b := s₁.setTop (mkF m 17 #[.val (.int z0)] [(.int (1 : Int32))])) (fun t k => XS.goto X0.here hx rfl (pc0 := 13) (pc' := 17) rfl (hb hby d2_13) (by decide) (by decide) k) ?_
        exact Gl.retN X0 hx hret (by simp) (hb hby d2_17) hlk (by decide) (by decide) ⟨own_b1 (by simp only [own_dg, decide_eq_true_eq]; omega), N0, e0⟩
  exact GOAL
theorem d3_0 : decode prog_57_method_24_code 0 = .ok (.iload_n 0, 1) := by decide +kernel
theorem d3_1 : decode prog_57_method_24_code 1 = .ok (.invokestatic 154, 3) := by decide +kernel
theorem d3_4 : decode prog_57_method_24_code 4 = .ok (.ifCond .ne 16, 3) := by decide +kernel
theorem d3_7 : decode prog_57_method_24_code 7 = .ok (.iload_n 0, 1) := by decide +kernel
theorem d3_8 : decode prog_57_method_24_code 8 = .ok (.invokestatic 163, 3) := by decide +kernel
theorem d3_11 : decode prog_57_method_24_code 11 = .ok (.ifCond .ne 9, 3) := by decide +kernel
theorem d3_14 : decode prog_57_method_24_code 14 = .ok (.iload_n 0, 1) := by decide +kernel
theorem d3_15 : decode prog_57_method_24_code 15 = .ok (.bipush 36, 2) := by decide +kernel
theorem d3_17 : decode prog_57_method_24_code 17 = .ok (.if_icmp .ne 7, 3) := by decide +kernel
theorem d3_20 : decode prog_57_method_24_code 20 = .ok (.iconst 1, 1) := by decide +kernel
theorem d3_21 : decode prog_57_method_24_code 21 = .ok (.goto 4, 3) := by decide +kernel
theorem d3_24 : decode prog_57_method_24_code 24 = .ok (.iconst 0, 1) := by decide +kernel
theorem d3_25 : decode prog_57_method_24_code 25 = .ok (.ireturn, 1) := by decide +kernel
theorem ef3 (m : MethodId) (z0 : Int32) : entryFrame m #[(.int z0)] 1 = mkF m 0 #[.val (.int z0)] [] := by first | (simp [entryFrame, mkF, argsToLocals, Value.category]; done) | rfl
set_option maxRecDepth 65536 in
set_option maxHeartbeats 40000000 in
theorem rm3 (l : Launch) (Z : State) (a0 : Array Value) (hw : ∀ d ∈ tables_1, d.before a0 Z = true) (ws : List Jvm.Cond) (z0 : Int32)  (h0 : Heap) (n0 : Nat) (Z0 : n0 ≤ h0.size)  :
    MetFree l (⟨"com/example/geata/geata/Tokens", "isWordPart", "(C)Z"⟩ : MethodName) (head1 (Jvm.Cond.code (⟨"com/example/geata/geata/Tokens", "isWordPart", "(C)Z"⟩ : MethodName) prog_57_method_24_code 1 (some .boolean) :: ws) (⟨1, 0, 0, 12⟩ : Room)) (fun a U => a = #[(.int z0)] ∧ Z.Warmed39 U.vm ∧ U.heap = h0) (fun _ _ _ _ _ => True) (fun _ U o U' => ∃ v L, o = .returned v ∧ QP n0 h0 (.int (own_b (own_wp z0))) v U'.heap L ∧ FrameEnd U o U' L 0 0) := by
  refine MetFree.of_bodySF (plainFor_of_name own_pn0) hisR ?_
  intro p e s m args below meth c s₁ Bd hml0 hP hK
  obtain ⟨rfl, hZ, hh⟩ := hP
  have hx := Bd.exec
  have hby := Bd.bytes
  have hml : c.maxLocals = 1 := hml0
  have hown : s.vm.findClass "com/example/geata/geata/Tokens" = some m.cls := findClass_of_methodNamed Bd.named
  have hnm := (name_of_methodNamed Bd.named Bd.method).1
  have hlk : meth.locks = false := Bd.notSynchronized
  have hret := Bd.returns
  have X0 : Stand p l e (⟨1, 0, 0, 12⟩ : Room) s m #[(.int z0)] below meth c s₁ [] 0 0 := Stand.of_body Bd
  have e0 : s₁.heap = h0 := by rw [← hh, Bd.state]; rfl
  have N0 := Fr.nil n0
  have GOAL : Gl p e below s (QP n0 h0 (.int (own_b (own_wp z0)))) 0 0 (s₁.setTop (entryFrame m #[(.int z0)] 1)) := by
    refine Gl.cast (ef3 m z0) ?_
    refine Gl.st (b := s₁.setTop (mkF m 1 #[.val (.int z0)] [(.int z0)])) (fun t k => XS.iloadN X0.here hx rfl (hb hby d3_0) rfl k) ?_
    refine Gl.callP (W := 0) (argsL := [(.int z0)]) (rest := []) (w := (.int (own_b (own_ws z0)))) X0 hx hZ hown (hw _ (List.mem_of_getElem? (i := 5) rfl)) (hw _ (List.mem_of_getElem? (i := 6) rfl)) (hw _ (List.mem_of_getElem? (i := 3) rfl)) (hw _ (List.mem_of_getElem? (i := 7) rfl)) (by decide) (rm1 l Z a0 hw [] z0 h0 n0 Z0) (by decide) (by decide) e0 N0 (by decide) (by decide) (by rw [hml]; rfl) (lenOf own_pd0 rfl) rfl rfl (Nat.le_of_eq rfl) (hb hby d3_1) ?_
    intro T1 L1 X1 e1 N1
    show Gl _ _ _ _ _ _ _ (T1.setTop (mkF m 4 #[.val (.int z0)] [(.int (own_b (own_ws z0)))]))
    by_cases hb4_2 : (own_ws z0) = true
    ·
      refine Gl.st (b := T1.setTop (mkF m 20 #[.val (.int z0)] [])) (fun t k => XS.ifYes X1.here hx rfl (pc0 := 4) (pc' := 20) rfl (hb hby d3_4) rfl ((if0 _ _).trans (feq (x := own_b (own_ws z0)) (y := (0 : Int32)) (own_bt hb4_2)).2) (by decide) (by decide) k) ?_
      refine Gl.st (b := T1.setTop (mkF m 21 #[.val (.int z0)] [(.int (1 : Int32))])) (fun t k => XS.iconst X1.here hx rfl (hb hby d3_20) k) ?_
      refine Gl.st (b := T1.setTop (mkF m 25 #[.val (.int z0)] [(.int (1 : Int32))])) (fun t k => XS.goto X1.here hx rfl (pc0 := 21) (pc' := 25) rfl (hb hby d3_21) (by decide) (by decide) k) ?_
      exact Gl.retN X1 hx hret (by simp) (hb hby d3_25) hlk (by decide) (by decide) ⟨own_b1 (by simp [own_wp, hb4_2]), N1, e1⟩
    ·
      refine Gl.st (b := T1.setTop (mkF m 7 #[.val (.int z0)] [])) (fun t k => XS.ifNo X1.here hx rfl (hb hby d3_4) rfl ((if0 _ _).trans (teq (x := own_b (own_ws z0)) (y := (0 : Int32)) (own_bf hb4_2)).2) k) ?_
      refine Gl.st (b := T1.setTop (mkF m 8 #[.val (.int z0)] [(.int z0)])) (fun t k => XS.iloadN X1.here hx rfl (hb hby d3_7) rfl k) ?_
      refine Gl.callP (W := 0) (argsL := [(.int z0)]) (rest := []) (w := (.int (own_b (own_dg z0)))) X1 hx hZ hown (hw _ (List.mem_of_getElem? (i := 8) rfl)) (hw _ (List.mem_of_getElem? (i := 9) rfl)) (hw _ (List.mem_of_getElem? (i := 3) rfl)) (hw _ (List.mem_of_getElem? (i := 10) rfl)) (by decide) (rm2 l Z a0 hw [] z0 h0 n0 Z0) (by decide) (by decide) e1 N1 (by decide) (by decide) (by rw [hml]; rfl) (lenOf own_pd0 rfl) rfl rfl (Nat.le_of_eq rfl) (hb hby d3_8) ?_
      intro T3 L3 X3 e3 N3
      show Gl _ _ _ _ _ _ _ (T3.setTop (mkF m 11 #[.val (.int z0)] [(.int (own_b (own_dg z0)))]))
      by_cases hb11_4 : (own_dg z0) = true
      ·
        refine Gl.st (b := T3.setTop (mkF m 20 #[.val (.int z0)] [])) (fun t k => XS.ifYes X3.here hx rfl (pc0 := 11) (pc' := 20) rfl (hb hby d3_11) rfl ((if0 _ _).trans (feq (x := own_b (own_dg z0)) (y := (0 : Int32)) (own_bt hb11_4)).2) (by decide) (by decide) k) ?_
        refine Gl.st (b := T3.setTop (mkF m 21 #[.val (.int z0)] [(.int (1 : Int32))])) (fun t k => XS.iconst X3.here hx rfl (hb hby d3_20) k) ?_
        refine Gl.st (b := T3.setTop (mkF m 25 #[.val (.int z0)] [(.int (1 : Int32))])) (fun t k => XS.goto X3.here hx rfl (pc0 := 21) (pc' := 25) rfl (hb hby d3_21) (by decide) (by decide) k) ?_
        exact Gl.retN X3 hx hret (by simp) (hb hby d3_25) hlk (by decide) (by decide) ⟨own_b1 (by simp [own_wp, hb4_2, hb11_4]), N3, e3⟩
      ·
        refine Gl.st (b := T3.setTop (mkF m 14 #[.val (.int z0)] [])) (fun t k => XS.ifNo X3.here hx rfl (hb hby d3_11) rfl ((if0 _ _).trans (teq (x := own_b (own_dg z0)) (y := (0 : Int32)) (own_bf hb11_4)).2) k) ?_
        refine Gl.st (b := T3.setTop (mkF m 15 #[.val (.int z0)] [(.int z0)])) (fun t k => XS.iloadN X3.here hx rfl (hb hby d3_14) rfl k) ?_
        refine Gl.st (b := T3.setTop (mkF m 17 #[.val (.int z0)] [(.int (36 : Int32)), (.int z0)])) (fun t k => XS.bipush X3.here hx rfl (hb hby d3_15) k) ?_
        by_cases hc17 : z0.toInt = 36
        · -- hc17 True
          refine Gl.st (b := T3.setTop (mkF m 20 #[.val (.int z0)] [])) (fun t k => XS.icmpNo X3.here hx rfl (hb hby d3_17) rfl (teq (x := z0) (y := (36 : Int32)) (own_eqI.mpr hc17)).2 k) ?_
          refine Gl.st (b := T3.setTop (mkF m 21 #[.val (.int z0)] [(.int (1 : Int32))])) (fun t k => XS.iconst X3.here hx rfl (hb hby d3_20) k) ?_
          refine Gl.st (b := T3.setTop (mkF m 25 #[.val (.int z0)] [(.int (1 : Int32))])) (fun t k => XS.goto X3.here hx rfl (pc0 := 21) (pc' := 25) rfl (hb hby d3_21) (by decide) (by decide) k) ?_
          exact Gl.retN X3 hx hret (by simp) (hb hby d3_25) hlk (by decide) (by decide) ⟨own_b1 (by simp [own_wp, hb4_2, hb11_4, hc17]), N3, e3⟩
        · -- hc17 False
          refine Gl.st (b := T3.setTop (mkF m 24 #[.val (.int z0)] [])) (fun t k => XS.icmpYes X3.here hx rfl (pc0 := 17) (pc' := 24) rfl (hb hby d3_17) rfl (feq (x := z0) (y := (36 : Int32)) (fun q => hc17 (own_eqI.mp q))).2 (by decide) (by decide) k) ?_
          refine Gl.st (b := T3.setTop (mkF m 25 #[.val (.int z0)] [(.int (0 : Int32))])) (fun t k => XS.iconst X3.here hx rfl (hb hby d3_24) k) ?_
          exact Gl.retN X3 hx hret (by simp) (hb hby d3_25) hlk (by decide) (by decide) ⟨own_b0 (by simp [own_wp, hb4_2, hb11_4, hc17]), N3, e3⟩
  exact GOAL
theorem ef0 (m : MethodId) (z0 : Int32) : entryFrame m #[(.int z0)] maxLocals = mkF m 0 #[.val (.int z0), .unset, .unset, .unset, .unset] [] := by first | (simp [entryFrame, mkF, argsToLocals, Value.category, maxLocals]; done) | rfl
set_option maxRecDepth 65536 in
set_option maxHeartbeats 40000000 in
theorem rm0 (l : Launch) (Z : State) (a0 : Array Value) (hw : ∀ d ∈ tables_1, d.before a0 Z = true) (ws : List Jvm.Cond) (z0 : Int32)  (h0 : Heap) (n0 : Nat) (Z0 : n0 ≤ h0.size)  :
    MetFree l x (head1 (Jvm.Cond.code x code maxLocals ret :: ws) room_1) (fun a U => a = #[(.int z0)] ∧ Z.Warmed39 U.vm ∧ U.heap = h0) (fun _ _ _ _ _ => True) (fun _ U o U' => ∃ v L, o = .returned v ∧ QL n0 v U'.heap L ∧ FrameEnd U o U' L 0 0) := by
  refine MetFree.of_bodySF (plainFor_of_name own_pn1) hisR ?_
  intro p e s m args below meth c s₁ Bd hml0 hP hK
  obtain ⟨rfl, hZ, hh⟩ := hP
  have hx := Bd.exec
  have hby := Bd.bytes
  have hml : c.maxLocals = 5 := hml0
  have hown : s.vm.findClass "com/example/geata/geata/TokensIsWordPartPinLaw" = some m.cls := findClass_of_methodNamed Bd.named
  have hnm := (name_of_methodNamed Bd.named Bd.method).1
  have hlk : meth.locks = false := Bd.notSynchronized
  have hret := Bd.returns
  have X0 : Stand p l e room_1 s m #[(.int z0)] below meth c s₁ [] 0 0 := Stand.of_body Bd
  have e0 : s₁.heap = h0 := by rw [← hh, Bd.state]; rfl
  have N0 := Fr.nil n0
  have GOAL : Gl p e below s (QL n0) 0 0 (s₁.setTop (entryFrame m #[(.int z0)] maxLocals)) := by
    refine Gl.cast (ef0 m z0) ?_
    refine Gl.st (b := s₁.setTop (mkF m 1 #[.val (.int z0), .unset, .unset, .unset, .unset] [(.int z0)])) (fun t k => XS.iloadN X0.here hx rfl (hb hby at_0) rfl k) ?_
    refine Gl.st (b := s₁.setTop (mkF m 3 #[.val (.int z0), .unset, .unset, .unset, .unset] [(.int (65535 : Int32)), (.int z0)])) (fun t k => X0.ldcInt hx hown (mvT hZ (hw _ (List.mem_of_getElem? (i := 0) rfl))) (g := (mkF m 1 #[.val (.int z0), .unset, .unset, .unset, .unset] [(.int z0)])) rfl (hb hby at_1) t k) ?_
    refine Gl.st (b := s₁.setTop (mkF m 4 #[.val (.int z0), .unset, .unset, .unset, .unset] [(.int (z0 &&& (65535 : Int32)))])) (fun t k => XS.iand X0.here hx rfl (hb hby at_3) rfl k) ?_
    refine Gl.st (b := s₁.setTop (mkF m 5 #[.val (.int z0), .val (.int (z0 &&& (65535 : Int32))), .unset, .unset, .unset] [])) (fun t k => XS.istoreN X0.here hx rfl (hb hby at_4) rfl (l' := #[.val (.int z0), .val (.int (z0 &&& (65535 : Int32))), .unset, .unset, .unset]) rfl k) ?_
    refine Gl.st (b := s₁.setTop (mkF m 6 #[.val (.int z0), .val (.int (z0 &&& (65535 : Int32))), .unset, .unset, .unset] [(.int (z0 &&& (65535 : Int32)))])) (fun t k => XS.iloadN X0.here hx rfl (hb hby at_5) rfl k) ?_
    refine Gl.st (b := s₁.setTop (mkF m 7 #[.val (.int z0), .val (.int (z0 &&& (65535 : Int32))), .unset, .unset, .unset] [(.int ((z0 &&& (65535 : Int32)).toUInt32.toUInt16.toUInt32.toInt32))])) (fun t k => XS.i2c X0.here hx rfl (hb hby at_6) rfl k) ?_
    refine Gl.st (b := s₁.setTop (mkF m 8 #[.val (.int z0), .val (.int (z0 &&& (65535 : Int32))), .val (.int ((z0 &&& (65535 : Int32)).toUInt32.toUInt16.toUInt32.toInt32)), .unset, .unset] [])) (fun t k => XS.istoreN X0.here hx rfl (hb hby at_7) rfl (l' := #[.val (.int z0), .val (.int (z0 &&& (65535 : Int32))), .val (.int ((z0 &&& (65535 : Int32)).toUInt32.toUInt16.toUInt32.toInt32)), .unset, .unset]) rfl k) ?_
    refine Gl.st (b := s₁.setTop (mkF m 9 #[.val (.int z0), .val (.int (z0 &&& (65535 : Int32))), .val (.int ((z0 &&& (65535 : Int32)).toUInt32.toUInt16.toUInt32.toInt32)), .unset, .unset] [(.int (z0 &&& (65535 : Int32)))])) (fun t k => XS.iloadN X0.here hx rfl (hb hby at_8) rfl k) ?_
    refine Gl.st (b := s₁.setTop (mkF m 12 #[.val (.int z0), .val (.int (z0 &&& (65535 : Int32))), .val (.int ((z0 &&& (65535 : Int32)).toUInt32.toUInt16.toUInt32.toInt32)), .unset, .unset] [(.int (128 : Int32)), (.int (z0 &&& (65535 : Int32)))])) (fun t k => XS.sipush X0.here hx rfl (hb hby at_9) k) ?_
    by_cases hc12 : (z0 &&& (65535 : Int32)).toInt < 128
    · -- hc12 True
      refine Gl.st (b := s₁.setTop (mkF m 20 #[.val (.int z0), .val (.int (z0 &&& (65535 : Int32))), .val (.int ((z0 &&& (65535 : Int32)).toUInt32.toUInt16.toUInt32.toInt32)), .unset, .unset] [])) (fun t k => XS.icmpYes X0.here hx rfl (pc0 := 12) (pc' := 20) rfl (hb hby at_12) rfl (tlt (x := (z0 &&& (65535 : Int32))) (y := (128 : Int32)) (own_ltI.mpr hc12)).1 (by decide) (by decide) k) ?_
      refine Gl.st (b := s₁.setTop (mkF m 21 #[.val (.int z0), .val (.int (z0 &&& (65535 : Int32))), .val (.int ((z0 &&& (65535 : Int32)).toUInt32.toUInt16.toUInt32.toInt32)), .unset, .unset] [(.int (z0 &&& (65535 : Int32)))])) (fun t k => XS.iloadN X0.here hx rfl (hb hby at_20) rfl k) ?_
      refine Gl.st (b := s₁.setTop (mkF m 23 #[.val (.int z0), .val (.int (z0 &&& (65535 : Int32))), .val (.int ((z0 &&& (65535 : Int32)).toUInt32.toUInt16.toUInt32.toInt32)), .unset, .unset] [(.int (36 : Int32)), (.int (z0 &&& (65535 : Int32)))])) (fun t k => XS.bipush X0.here hx rfl (hb hby at_21) k) ?_
      by_cases hc23 : (z0 &&& (65535 : Int32)).toInt = 36
      · -- hc23 True
        refine Gl.st (b := s₁.setTop (mkF m 32 #[.val (.int z0), .val (.int (z0 &&& (65535 : Int32))), .val (.int ((z0 &&& (65535 : Int32)).toUInt32.toUInt16.toUInt32.toInt32)), .unset, .unset] [])) (fun t k => XS.icmpYes X0.here hx rfl (pc0 := 23) (pc' := 32) rfl (hb hby at_23) rfl (teq (x := (z0 &&& (65535 : Int32))) (y := (36 : Int32)) (own_eqI.mpr hc23)).1 (by decide) (by decide) k) ?_
        refine Gl.st (b := s₁.setTop (mkF m 33 #[.val (.int z0), .val (.int (z0 &&& (65535 : Int32))), .val (.int ((z0 &&& (65535 : Int32)).toUInt32.toUInt16.toUInt32.toInt32)), .unset, .unset] [(.int (1 : Int32))])) (fun t k => XS.iconst X0.here hx rfl (hb hby at_32) k) ?_
        refine Gl.st (b := s₁.setTop (mkF m 34 #[.val (.int z0), .val (.int (z0 &&& (65535 : Int32))), .val (.int ((z0 &&& (65535 : Int32)).toUInt32.toUInt16.toUInt32.toInt32)), .val (.int (1 : Int32)), .unset] [])) (fun t k => XS.istoreN X0.here hx rfl (hb hby at_33) rfl (l' := #[.val (.int z0), .val (.int (z0 &&& (65535 : Int32))), .val (.int ((z0 &&& (65535 : Int32)).toUInt32.toUInt16.toUInt32.toInt32)), .val (.int (1 : Int32)), .unset]) rfl k) ?_
        refine Gl.st (b := s₁.setTop (mkF m 80 #[.val (.int z0), .val (.int (z0 &&& (65535 : Int32))), .val (.int ((z0 &&& (65535 : Int32)).toUInt32.toUInt16.toUInt32.toInt32)), .val (.int (1 : Int32)), .unset] [])) (fun t k => XS.goto X0.here hx rfl (pc0 := 34) (pc' := 80) rfl (hb hby at_34) (by decide) (by decide) k) ?_
        refine Gl.st (b := s₁.setTop (mkF m 81 #[.val (.int z0), .val (.int (z0 &&& (65535 : Int32))), .val (.int ((z0 &&& (65535 : Int32)).toUInt32.toUInt16.toUInt32.toInt32)), .val (.int (1 : Int32)), .unset] [(.int ((z0 &&& (65535 : Int32)).toUInt32.toUInt16.toUInt32.toInt32))])) (fun t k => XS.iloadN X0.here hx rfl (hb hby at_80) rfl k) ?_
        refine Gl.callP (W := 0) (argsL := [(.int ((z0 &&& (65535 : Int32)).toUInt32.toUInt16.toUInt32.toInt32))]) (rest := []) (w := (.int (own_b (own_wp ((z0 &&& (65535 : Int32)).toUInt32.toUInt16.toUInt32.toInt32))))) X0 hx hZ hown (hw _ (List.mem_of_getElem? (i := 1) rfl)) (hw _ (List.mem_of_getElem? (i := 2) rfl)) (hw _ (List.mem_of_getElem? (i := 3) rfl)) (hw _ (List.mem_of_getElem? (i := 4) rfl)) (by decide) (rm3 l Z a0 hw [] ((z0 &&& (65535 : Int32)).toUInt32.toUInt16.toUInt32.toInt32) h0 n0 Z0) (by decide) (by decide) e0 N0 (by decide) (by decide) (by rw [hml]; rfl) (lenOf own_pd0 rfl) rfl rfl (Nat.le_of_eq rfl) (hb hby at_81) ?_
        intro T1 L1 X1 e1 N1
        show Gl _ _ _ _ _ _ _ (T1.setTop (mkF m 84 #[.val (.int z0), .val (.int (z0 &&& (65535 : Int32))), .val (.int ((z0 &&& (65535 : Int32)).toUInt32.toUInt16.toUInt32.toInt32)), .val (.int (1 : Int32)), .unset] [(.int (own_b (own_wp ((z0 &&& (65535 : Int32)).toUInt32.toUInt16.toUInt32.toInt32))))]))
        refine Gl.st (b := T1.setTop (mkF m 85 #[.val (.int z0), .val (.int (z0 &&& (65535 : Int32))), .val (.int ((z0 &&& (65535 : Int32)).toUInt32.toUInt16.toUInt32.toInt32)), .val (.int (1 : Int32)), .unset] [(.int (1 : Int32)), (.int (own_b (own_wp ((z0 &&& (65535 : Int32)).toUInt32.toUInt16.toUInt32.toInt32))))])) (fun t k => XS.iloadN X1.here hx rfl (hb hby at_84) rfl k) ?_
        refine Gl.st (b := T1.setTop (mkF m 88 #[.val (.int z0), .val (.int (z0 &&& (65535 : Int32))), .val (.int ((z0 &&& (65535 : Int32)).toUInt32.toUInt16.toUInt32.toInt32)), .val (.int (1 : Int32)), .unset] [])) (fun t k => XS.icmpNo X1.here hx rfl (hb hby at_85) rfl (teq (own_is (1 : Int32) (by first | exact Or.inl ⟨rfl, (own_key z0).mpr (by omega)⟩ | exact Or.inr ⟨rfl, fun q => by have := (own_key z0).mp q; omega⟩))).2 k) ?_
        refine Gl.st (b := T1.setTop (mkF m 89 #[.val (.int z0), .val (.int (z0 &&& (65535 : Int32))), .val (.int ((z0 &&& (65535 : Int32)).toUInt32.toUInt16.toUInt32.toInt32)), .val (.int (1 : Int32)), .unset] [(.int (1 : Int32))])) (fun t k => XS.iconst X1.here hx rfl (hb hby at_88) k) ?_
        refine Gl.st (b := T1.setTop (mkF m 93 #[.val (.int z0), .val (.int (z0 &&& (65535 : Int32))), .val (.int ((z0 &&& (65535 : Int32)).toUInt32.toUInt16.toUInt32.toInt32)), .val (.int (1 : Int32)), .unset] [(.int (1 : Int32))])) (fun t k => XS.goto X1.here hx rfl (pc0 := 89) (pc' := 93) rfl (hb hby at_89) (by decide) (by decide) k) ?_
        exact Gl.retN X1 hx hret (by simp) (hb hby at_93) hlk (by decide) (by decide) ⟨rfl, N1⟩
      · -- hc23 False
        refine Gl.st (b := s₁.setTop (mkF m 26 #[.val (.int z0), .val (.int (z0 &&& (65535 : Int32))), .val (.int ((z0 &&& (65535 : Int32)).toUInt32.toUInt16.toUInt32.toInt32)), .unset, .unset] [])) (fun t k => XS.icmpNo X0.here hx rfl (hb hby at_23) rfl (feq (x := (z0 &&& (65535 : Int32))) (y := (36 : Int32)) (fun q => hc23 (own_eqI.mp q))).1 k) ?_
        refine Gl.st (b := s₁.setTop (mkF m 27 #[.val (.int z0), .val (.int (z0 &&& (65535 : Int32))), .val (.int ((z0 &&& (65535 : Int32)).toUInt32.toUInt16.toUInt32.toInt32)), .unset, .unset] [(.int (z0 &&& (65535 : Int32)))])) (fun t k => XS.iloadN X0.here hx rfl (hb hby at_26) rfl k) ?_
        refine Gl.st (b := s₁.setTop (mkF m 29 #[.val (.int z0), .val (.int (z0 &&& (65535 : Int32))), .val (.int ((z0 &&& (65535 : Int32)).toUInt32.toUInt16.toUInt32.toInt32)), .unset, .unset] [(.int (95 : Int32)), (.int (z0 &&& (65535 : Int32)))])) (fun t k => XS.bipush X0.here hx rfl (hb hby at_27) k) ?_
        by_cases hc29 : (z0 &&& (65535 : Int32)).toInt = 95
        · -- hc29 True
          refine Gl.st (b := s₁.setTop (mkF m 32 #[.val (.int z0), .val (.int (z0 &&& (65535 : Int32))), .val (.int ((z0 &&& (65535 : Int32)).toUInt32.toUInt16.toUInt32.toInt32)), .unset, .unset] [])) (fun t k => XS.icmpNo X0.here hx rfl (hb hby at_29) rfl (teq (x := (z0 &&& (65535 : Int32))) (y := (95 : Int32)) (own_eqI.mpr hc29)).2 k) ?_
          refine Gl.st (b := s₁.setTop (mkF m 33 #[.val (.int z0), .val (.int (z0 &&& (65535 : Int32))), .val (.int ((z0 &&& (65535 : Int32)).toUInt32.toUInt16.toUInt32.toInt32)), .unset, .unset] [(.int (1 : Int32))])) (fun t k => XS.iconst X0.here hx rfl (hb hby at_32) k) ?_
          refine Gl.st (b := s₁.setTop (mkF m 34 #[.val (.int z0), .val (.int (z0 &&& (65535 : Int32))), .val (.int ((z0 &&& (65535 : Int32)).toUInt32.toUInt16.toUInt32.toInt32)), .val (.int (1 : Int32)), .unset] [])) (fun t k => XS.istoreN X0.here hx rfl (hb hby at_33) rfl (l' := #[.val (.int z0), .val (.int (z0 &&& (65535 : Int32))), .val (.int ((z0 &&& (65535 : Int32)).toUInt32.toUInt16.toUInt32.toInt32)), .val (.int (1 : Int32)), .unset]) rfl k) ?_
          refine Gl.st (b := s₁.setTop (mkF m 80 #[.val (.int z0), .val (.int (z0 &&& (65535 : Int32))), .val (.int ((z0 &&& (65535 : Int32)).toUInt32.toUInt16.toUInt32.toInt32)), .val (.int (1 : Int32)), .unset] [])) (fun t k => XS.goto X0.here hx rfl (pc0 := 34) (pc' := 80) rfl (hb hby at_34) (by decide) (by decide) k) ?_
          refine Gl.st (b := s₁.setTop (mkF m 81 #[.val (.int z0), .val (.int (z0 &&& (65535 : Int32))), .val (.int ((z0 &&& (65535 : Int32)).toUInt32.toUInt16.toUInt32.toInt32)), .val (.int (1 : Int32)), .unset] [(.int ((z0 &&& (65535 : Int32)).toUInt32.toUInt16.toUInt32.toInt32))])) (fun t k => XS.iloadN X0.here hx rfl (hb hby at_80) rfl k) ?_
          refine Gl.callP (W := 0) (argsL := [(.int ((z0 &&& (65535 : Int32)).toUInt32.toUInt16.toUInt32.toInt32))]) (rest := []) (w := (.int (own_b (own_wp ((z0 &&& (65535 : Int32)).toUInt32.toUInt16.toUInt32.toInt32))))) X0 hx hZ hown (hw _ (List.mem_of_getElem? (i := 1) rfl)) (hw _ (List.mem_of_getElem? (i := 2) rfl)) (hw _ (List.mem_of_getElem? (i := 3) rfl)) (hw _ (List.mem_of_getElem? (i := 4) rfl)) (by decide) (rm3 l Z a0 hw [] ((z0 &&& (65535 : Int32)).toUInt32.toUInt16.toUInt32.toInt32) h0 n0 Z0) (by decide) (by decide) e0 N0 (by decide) (by decide) (by rw [hml]; rfl) (lenOf own_pd0 rfl) rfl rfl (Nat.le_of_eq rfl) (hb hby at_81) ?_
          intro T2 L2 X2 e2 N2
          show Gl _ _ _ _ _ _ _ (T2.setTop (mkF m 84 #[.val (.int z0), .val (.int (z0 &&& (65535 : Int32))), .val (.int ((z0 &&& (65535 : Int32)).toUInt32.toUInt16.toUInt32.toInt32)), .val (.int (1 : Int32)), .unset] [(.int (own_b (own_wp ((z0 &&& (65535 : Int32)).toUInt32.toUInt16.toUInt32.toInt32))))]))
          refine Gl.st (b := T2.setTop (mkF m 85 #[.val (.int z0), .val (.int (z0 &&& (65535 : Int32))), .val (.int ((z0 &&& (65535 : Int32)).toUInt32.toUInt16.toUInt32.toInt32)), .val (.int (1 : Int32)), .unset] [(.int (1 : Int32)), (.int (own_b (own_wp ((z0 &&& (65535 : Int32)).toUInt32.toUInt16.toUInt32.toInt32))))])) (fun t k => XS.iloadN X2.here hx rfl (hb hby at_84) rfl k) ?_
          refine Gl.st (b := T2.setTop (mkF m 88 #[.val (.int z0), .val (.int (z0 &&& (65535 : Int32))), .val (.int ((z0 &&& (65535 : Int32)).toUInt32.toUInt16.toUInt32.toInt32)), .val (.int (1 : Int32)), .unset] [])) (fun t k => XS.icmpNo X2.here hx rfl (hb hby at_85) rfl (teq (own_is (1 : Int32) (by first | exact Or.inl ⟨rfl, (own_key z0).mpr (by omega)⟩ | exact Or.inr ⟨rfl, fun q => by have := (own_key z0).mp q; omega⟩))).2 k) ?_
          refine Gl.st (b := T2.setTop (mkF m 89 #[.val (.int z0), .val (.int (z0 &&& (65535 : Int32))), .val (.int ((z0 &&& (65535 : Int32)).toUInt32.toUInt16.toUInt32.toInt32)), .val (.int (1 : Int32)), .unset] [(.int (1 : Int32))])) (fun t k => XS.iconst X2.here hx rfl (hb hby at_88) k) ?_
          refine Gl.st (b := T2.setTop (mkF m 93 #[.val (.int z0), .val (.int (z0 &&& (65535 : Int32))), .val (.int ((z0 &&& (65535 : Int32)).toUInt32.toUInt16.toUInt32.toInt32)), .val (.int (1 : Int32)), .unset] [(.int (1 : Int32))])) (fun t k => XS.goto X2.here hx rfl (pc0 := 89) (pc' := 93) rfl (hb hby at_89) (by decide) (by decide) k) ?_
          exact Gl.retN X2 hx hret (by simp) (hb hby at_93) hlk (by decide) (by decide) ⟨rfl, N2⟩
        · -- hc29 False
          refine Gl.st (b := s₁.setTop (mkF m 37 #[.val (.int z0), .val (.int (z0 &&& (65535 : Int32))), .val (.int ((z0 &&& (65535 : Int32)).toUInt32.toUInt16.toUInt32.toInt32)), .unset, .unset] [])) (fun t k => XS.icmpYes X0.here hx rfl (pc0 := 29) (pc' := 37) rfl (hb hby at_29) rfl (feq (x := (z0 &&& (65535 : Int32))) (y := (95 : Int32)) (fun q => hc29 (own_eqI.mp q))).2 (by decide) (by decide) k) ?_
          refine Gl.st (b := s₁.setTop (mkF m 38 #[.val (.int z0), .val (.int (z0 &&& (65535 : Int32))), .val (.int ((z0 &&& (65535 : Int32)).toUInt32.toUInt16.toUInt32.toInt32)), .unset, .unset] [(.int (z0 &&& (65535 : Int32)))])) (fun t k => XS.iloadN X0.here hx rfl (hb hby at_37) rfl k) ?_
          refine Gl.st (b := s₁.setTop (mkF m 40 #[.val (.int z0), .val (.int (z0 &&& (65535 : Int32))), .val (.int ((z0 &&& (65535 : Int32)).toUInt32.toUInt16.toUInt32.toInt32)), .unset, .unset] [(.int (48 : Int32)), (.int (z0 &&& (65535 : Int32)))])) (fun t k => XS.bipush X0.here hx rfl (hb hby at_38) k) ?_
          by_cases hc40 : (z0 &&& (65535 : Int32)).toInt < 48
          · -- hc40 True
            refine Gl.st (b := s₁.setTop (mkF m 54 #[.val (.int z0), .val (.int (z0 &&& (65535 : Int32))), .val (.int ((z0 &&& (65535 : Int32)).toUInt32.toUInt16.toUInt32.toInt32)), .unset, .unset] [])) (fun t k => XS.icmpYes X0.here hx rfl (pc0 := 40) (pc' := 54) rfl (hb hby at_40) rfl (tlt (x := (z0 &&& (65535 : Int32))) (y := (48 : Int32)) (own_ltI.mpr hc40)).1 (by decide) (by decide) k) ?_
            refine Gl.st (b := s₁.setTop (mkF m 55 #[.val (.int z0), .val (.int (z0 &&& (65535 : Int32))), .val (.int ((z0 &&& (65535 : Int32)).toUInt32.toUInt16.toUInt32.toInt32)), .unset, .unset] [(.int (z0 &&& (65535 : Int32)))])) (fun t k => XS.iloadN X0.here hx rfl (hb hby at_54) rfl k) ?_
            refine Gl.st (b := s₁.setTop (mkF m 57 #[.val (.int z0), .val (.int (z0 &&& (65535 : Int32))), .val (.int ((z0 &&& (65535 : Int32)).toUInt32.toUInt16.toUInt32.toInt32)), .unset, .unset] [(.int (32 : Int32)), (.int (z0 &&& (65535 : Int32)))])) (fun t k => XS.bipush X0.here hx rfl (hb hby at_55) k) ?_
            refine Gl.st (b := s₁.setTop (mkF m 58 #[.val (.int z0), .val (.int (z0 &&& (65535 : Int32))), .val (.int ((z0 &&& (65535 : Int32)).toUInt32.toUInt16.toUInt32.toInt32)), .unset, .unset] [(.int ((z0 &&& (65535 : Int32)) ||| (32 : Int32)))])) (fun t k => XS.ior X0.here hx rfl (hb hby at_57) rfl k) ?_
            refine Gl.st (b := s₁.setTop (mkF m 60 #[.val (.int z0), .val (.int (z0 &&& (65535 : Int32))), .val (.int ((z0 &&& (65535 : Int32)).toUInt32.toUInt16.toUInt32.toInt32)), .unset, .val (.int ((z0 &&& (65535 : Int32)) ||| (32 : Int32)))] [])) (fun t k => XS.istore X0.here hx rfl (hb hby at_58) rfl (l' := #[.val (.int z0), .val (.int (z0 &&& (65535 : Int32))), .val (.int ((z0 &&& (65535 : Int32)).toUInt32.toUInt16.toUInt32.toInt32)), .unset, .val (.int ((z0 &&& (65535 : Int32)) ||| (32 : Int32)))]) rfl k) ?_
            refine Gl.st (b := s₁.setTop (mkF m 62 #[.val (.int z0), .val (.int (z0 &&& (65535 : Int32))), .val (.int ((z0 &&& (65535 : Int32)).toUInt32.toUInt16.toUInt32.toInt32)), .unset, .val (.int ((z0 &&& (65535 : Int32)) ||| (32 : Int32)))] [(.int ((z0 &&& (65535 : Int32)) ||| (32 : Int32)))])) (fun t k => XS.iload X0.here hx rfl (hb hby at_60) rfl k) ?_
            refine Gl.st (b := s₁.setTop (mkF m 64 #[.val (.int z0), .val (.int (z0 &&& (65535 : Int32))), .val (.int ((z0 &&& (65535 : Int32)).toUInt32.toUInt16.toUInt32.toInt32)), .unset, .val (.int ((z0 &&& (65535 : Int32)) ||| (32 : Int32)))] [(.int (97 : Int32)), (.int ((z0 &&& (65535 : Int32)) ||| (32 : Int32)))])) (fun t k => XS.bipush X0.here hx rfl (hb hby at_62) k) ?_
            by_cases hc64 : ((z0 &&& (65535 : Int32)) ||| (32 : Int32)).toInt < 97
            · -- hc64 True
              refine Gl.st (b := s₁.setTop (mkF m 78 #[.val (.int z0), .val (.int (z0 &&& (65535 : Int32))), .val (.int ((z0 &&& (65535 : Int32)).toUInt32.toUInt16.toUInt32.toInt32)), .unset, .val (.int ((z0 &&& (65535 : Int32)) ||| (32 : Int32)))] [])) (fun t k => XS.icmpYes X0.here hx rfl (pc0 := 64) (pc' := 78) rfl (hb hby at_64) rfl (tlt (x := ((z0 &&& (65535 : Int32)) ||| (32 : Int32))) (y := (97 : Int32)) (own_ltI.mpr hc64)).1 (by decide) (by decide) k) ?_
              refine Gl.st (b := s₁.setTop (mkF m 79 #[.val (.int z0), .val (.int (z0 &&& (65535 : Int32))), .val (.int ((z0 &&& (65535 : Int32)).toUInt32.toUInt16.toUInt32.toInt32)), .unset, .val (.int ((z0 &&& (65535 : Int32)) ||| (32 : Int32)))] [(.int (0 : Int32))])) (fun t k => XS.iconst X0.here hx rfl (hb hby at_78) k) ?_
              refine Gl.st (b := s₁.setTop (mkF m 80 #[.val (.int z0), .val (.int (z0 &&& (65535 : Int32))), .val (.int ((z0 &&& (65535 : Int32)).toUInt32.toUInt16.toUInt32.toInt32)), .val (.int (0 : Int32)), .val (.int ((z0 &&& (65535 : Int32)) ||| (32 : Int32)))] [])) (fun t k => XS.istoreN X0.here hx rfl (hb hby at_79) rfl (l' := #[.val (.int z0), .val (.int (z0 &&& (65535 : Int32))), .val (.int ((z0 &&& (65535 : Int32)).toUInt32.toUInt16.toUInt32.toInt32)), .val (.int (0 : Int32)), .val (.int ((z0 &&& (65535 : Int32)) ||| (32 : Int32)))]) rfl k) ?_
              refine Gl.st (b := s₁.setTop (mkF m 81 #[.val (.int z0), .val (.int (z0 &&& (65535 : Int32))), .val (.int ((z0 &&& (65535 : Int32)).toUInt32.toUInt16.toUInt32.toInt32)), .val (.int (0 : Int32)), .val (.int ((z0 &&& (65535 : Int32)) ||| (32 : Int32)))] [(.int ((z0 &&& (65535 : Int32)).toUInt32.toUInt16.toUInt32.toInt32))])) (fun t k => XS.iloadN X0.here hx rfl (hb hby at_80) rfl k) ?_
              refine Gl.callP (W := 0) (argsL := [(.int ((z0 &&& (65535 : Int32)).toUInt32.toUInt16.toUInt32.toInt32))]) (rest := []) (w := (.int (own_b (own_wp ((z0 &&& (65535 : Int32)).toUInt32.toUInt16.toUInt32.toInt32))))) X0 hx hZ hown (hw _ (List.mem_of_getElem? (i := 1) rfl)) (hw _ (List.mem_of_getElem? (i := 2) rfl)) (hw _ (List.mem_of_getElem? (i := 3) rfl)) (hw _ (List.mem_of_getElem? (i := 4) rfl)) (by decide) (rm3 l Z a0 hw [] ((z0 &&& (65535 : Int32)).toUInt32.toUInt16.toUInt32.toInt32) h0 n0 Z0) (by decide) (by decide) e0 N0 (by decide) (by decide) (by rw [hml]; rfl) (lenOf own_pd0 rfl) rfl rfl (Nat.le_of_eq rfl) (hb hby at_81) ?_
              intro T3 L3 X3 e3 N3
              show Gl _ _ _ _ _ _ _ (T3.setTop (mkF m 84 #[.val (.int z0), .val (.int (z0 &&& (65535 : Int32))), .val (.int ((z0 &&& (65535 : Int32)).toUInt32.toUInt16.toUInt32.toInt32)), .val (.int (0 : Int32)), .val (.int ((z0 &&& (65535 : Int32)) ||| (32 : Int32)))] [(.int (own_b (own_wp ((z0 &&& (65535 : Int32)).toUInt32.toUInt16.toUInt32.toInt32))))]))
              refine Gl.st (b := T3.setTop (mkF m 85 #[.val (.int z0), .val (.int (z0 &&& (65535 : Int32))), .val (.int ((z0 &&& (65535 : Int32)).toUInt32.toUInt16.toUInt32.toInt32)), .val (.int (0 : Int32)), .val (.int ((z0 &&& (65535 : Int32)) ||| (32 : Int32)))] [(.int (0 : Int32)), (.int (own_b (own_wp ((z0 &&& (65535 : Int32)).toUInt32.toUInt16.toUInt32.toInt32))))])) (fun t k => XS.iloadN X3.here hx rfl (hb hby at_84) rfl k) ?_
              refine Gl.st (b := T3.setTop (mkF m 88 #[.val (.int z0), .val (.int (z0 &&& (65535 : Int32))), .val (.int ((z0 &&& (65535 : Int32)).toUInt32.toUInt16.toUInt32.toInt32)), .val (.int (0 : Int32)), .val (.int ((z0 &&& (65535 : Int32)) ||| (32 : Int32)))] [])) (fun t k => XS.icmpNo X3.here hx rfl (hb hby at_85) rfl (teq (own_is (0 : Int32) (by first | exact Or.inl ⟨rfl, (own_key z0).mpr (by omega)⟩ | exact Or.inr ⟨rfl, fun q => by have := (own_key z0).mp q; omega⟩))).2 k) ?_
              refine Gl.st (b := T3.setTop (mkF m 89 #[.val (.int z0), .val (.int (z0 &&& (65535 : Int32))), .val (.int ((z0 &&& (65535 : Int32)).toUInt32.toUInt16.toUInt32.toInt32)), .val (.int (0 : Int32)), .val (.int ((z0 &&& (65535 : Int32)) ||| (32 : Int32)))] [(.int (1 : Int32))])) (fun t k => XS.iconst X3.here hx rfl (hb hby at_88) k) ?_
              refine Gl.st (b := T3.setTop (mkF m 93 #[.val (.int z0), .val (.int (z0 &&& (65535 : Int32))), .val (.int ((z0 &&& (65535 : Int32)).toUInt32.toUInt16.toUInt32.toInt32)), .val (.int (0 : Int32)), .val (.int ((z0 &&& (65535 : Int32)) ||| (32 : Int32)))] [(.int (1 : Int32))])) (fun t k => XS.goto X3.here hx rfl (pc0 := 89) (pc' := 93) rfl (hb hby at_89) (by decide) (by decide) k) ?_
              exact Gl.retN X3 hx hret (by simp) (hb hby at_93) hlk (by decide) (by decide) ⟨rfl, N3⟩
            · -- hc64 False
              refine Gl.st (b := s₁.setTop (mkF m 67 #[.val (.int z0), .val (.int (z0 &&& (65535 : Int32))), .val (.int ((z0 &&& (65535 : Int32)).toUInt32.toUInt16.toUInt32.toInt32)), .unset, .val (.int ((z0 &&& (65535 : Int32)) ||| (32 : Int32)))] [])) (fun t k => XS.icmpNo X0.here hx rfl (hb hby at_64) rfl (flt (x := ((z0 &&& (65535 : Int32)) ||| (32 : Int32))) (y := (97 : Int32)) (fun q => hc64 (own_ltI.mp q))).1 k) ?_
              refine Gl.st (b := s₁.setTop (mkF m 69 #[.val (.int z0), .val (.int (z0 &&& (65535 : Int32))), .val (.int ((z0 &&& (65535 : Int32)).toUInt32.toUInt16.toUInt32.toInt32)), .unset, .val (.int ((z0 &&& (65535 : Int32)) ||| (32 : Int32)))] [(.int ((z0 &&& (65535 : Int32)) ||| (32 : Int32)))])) (fun t k => XS.iload X0.here hx rfl (hb hby at_67) rfl k) ?_
              refine Gl.st (b := s₁.setTop (mkF m 71 #[.val (.int z0), .val (.int (z0 &&& (65535 : Int32))), .val (.int ((z0 &&& (65535 : Int32)).toUInt32.toUInt16.toUInt32.toInt32)), .unset, .val (.int ((z0 &&& (65535 : Int32)) ||| (32 : Int32)))] [(.int (122 : Int32)), (.int ((z0 &&& (65535 : Int32)) ||| (32 : Int32)))])) (fun t k => XS.bipush X0.here hx rfl (hb hby at_69) k) ?_
              by_cases hc71 : 122 < ((z0 &&& (65535 : Int32)) ||| (32 : Int32)).toInt
              · -- hc71 True
                refine Gl.st (b := s₁.setTop (mkF m 78 #[.val (.int z0), .val (.int (z0 &&& (65535 : Int32))), .val (.int ((z0 &&& (65535 : Int32)).toUInt32.toUInt16.toUInt32.toInt32)), .unset, .val (.int ((z0 &&& (65535 : Int32)) ||| (32 : Int32)))] [])) (fun t k => XS.icmpYes X0.here hx rfl (pc0 := 71) (pc' := 78) rfl (hb hby at_71) rfl (tlt (x := (122 : Int32)) (y := ((z0 &&& (65535 : Int32)) ||| (32 : Int32))) (own_ltI.mpr hc71)).2.2.1 (by decide) (by decide) k) ?_
                refine Gl.st (b := s₁.setTop (mkF m 79 #[.val (.int z0), .val (.int (z0 &&& (65535 : Int32))), .val (.int ((z0 &&& (65535 : Int32)).toUInt32.toUInt16.toUInt32.toInt32)), .unset, .val (.int ((z0 &&& (65535 : Int32)) ||| (32 : Int32)))] [(.int (0 : Int32))])) (fun t k => XS.iconst X0.here hx rfl (hb hby at_78) k) ?_
                refine Gl.st (b := s₁.setTop (mkF m 80 #[.val (.int z0), .val (.int (z0 &&& (65535 : Int32))), .val (.int ((z0 &&& (65535 : Int32)).toUInt32.toUInt16.toUInt32.toInt32)), .val (.int (0 : Int32)), .val (.int ((z0 &&& (65535 : Int32)) ||| (32 : Int32)))] [])) (fun t k => XS.istoreN X0.here hx rfl (hb hby at_79) rfl (l' := #[.val (.int z0), .val (.int (z0 &&& (65535 : Int32))), .val (.int ((z0 &&& (65535 : Int32)).toUInt32.toUInt16.toUInt32.toInt32)), .val (.int (0 : Int32)), .val (.int ((z0 &&& (65535 : Int32)) ||| (32 : Int32)))]) rfl k) ?_
                refine Gl.st (b := s₁.setTop (mkF m 81 #[.val (.int z0), .val (.int (z0 &&& (65535 : Int32))), .val (.int ((z0 &&& (65535 : Int32)).toUInt32.toUInt16.toUInt32.toInt32)), .val (.int (0 : Int32)), .val (.int ((z0 &&& (65535 : Int32)) ||| (32 : Int32)))] [(.int ((z0 &&& (65535 : Int32)).toUInt32.toUInt16.toUInt32.toInt32))])) (fun t k => XS.iloadN X0.here hx rfl (hb hby at_80) rfl k) ?_
                refine Gl.callP (W := 0) (argsL := [(.int ((z0 &&& (65535 : Int32)).toUInt32.toUInt16.toUInt32.toInt32))]) (rest := []) (w := (.int (own_b (own_wp ((z0 &&& (65535 : Int32)).toUInt32.toUInt16.toUInt32.toInt32))))) X0 hx hZ hown (hw _ (List.mem_of_getElem? (i := 1) rfl)) (hw _ (List.mem_of_getElem? (i := 2) rfl)) (hw _ (List.mem_of_getElem? (i := 3) rfl)) (hw _ (List.mem_of_getElem? (i := 4) rfl)) (by decide) (rm3 l Z a0 hw [] ((z0 &&& (65535 : Int32)).toUInt32.toUInt16.toUInt32.toInt32) h0 n0 Z0) (by decide) (by decide) e0 N0 (by decide) (by decide) (by rw [hml]; rfl) (lenOf own_pd0 rfl) rfl rfl (Nat.le_of_eq rfl) (hb hby at_81) ?_
                intro T4 L4 X4 e4 N4
                show Gl _ _ _ _ _ _ _ (T4.setTop (mkF m 84 #[.val (.int z0), .val (.int (z0 &&& (65535 : Int32))), .val (.int ((z0 &&& (65535 : Int32)).toUInt32.toUInt16.toUInt32.toInt32)), .val (.int (0 : Int32)), .val (.int ((z0 &&& (65535 : Int32)) ||| (32 : Int32)))] [(.int (own_b (own_wp ((z0 &&& (65535 : Int32)).toUInt32.toUInt16.toUInt32.toInt32))))]))
                refine Gl.st (b := T4.setTop (mkF m 85 #[.val (.int z0), .val (.int (z0 &&& (65535 : Int32))), .val (.int ((z0 &&& (65535 : Int32)).toUInt32.toUInt16.toUInt32.toInt32)), .val (.int (0 : Int32)), .val (.int ((z0 &&& (65535 : Int32)) ||| (32 : Int32)))] [(.int (0 : Int32)), (.int (own_b (own_wp ((z0 &&& (65535 : Int32)).toUInt32.toUInt16.toUInt32.toInt32))))])) (fun t k => XS.iloadN X4.here hx rfl (hb hby at_84) rfl k) ?_
                refine Gl.st (b := T4.setTop (mkF m 88 #[.val (.int z0), .val (.int (z0 &&& (65535 : Int32))), .val (.int ((z0 &&& (65535 : Int32)).toUInt32.toUInt16.toUInt32.toInt32)), .val (.int (0 : Int32)), .val (.int ((z0 &&& (65535 : Int32)) ||| (32 : Int32)))] [])) (fun t k => XS.icmpNo X4.here hx rfl (hb hby at_85) rfl (teq (own_is (0 : Int32) (by first | exact Or.inl ⟨rfl, (own_key z0).mpr (by omega)⟩ | exact Or.inr ⟨rfl, fun q => by have := (own_key z0).mp q; omega⟩))).2 k) ?_
                refine Gl.st (b := T4.setTop (mkF m 89 #[.val (.int z0), .val (.int (z0 &&& (65535 : Int32))), .val (.int ((z0 &&& (65535 : Int32)).toUInt32.toUInt16.toUInt32.toInt32)), .val (.int (0 : Int32)), .val (.int ((z0 &&& (65535 : Int32)) ||| (32 : Int32)))] [(.int (1 : Int32))])) (fun t k => XS.iconst X4.here hx rfl (hb hby at_88) k) ?_
                refine Gl.st (b := T4.setTop (mkF m 93 #[.val (.int z0), .val (.int (z0 &&& (65535 : Int32))), .val (.int ((z0 &&& (65535 : Int32)).toUInt32.toUInt16.toUInt32.toInt32)), .val (.int (0 : Int32)), .val (.int ((z0 &&& (65535 : Int32)) ||| (32 : Int32)))] [(.int (1 : Int32))])) (fun t k => XS.goto X4.here hx rfl (pc0 := 89) (pc' := 93) rfl (hb hby at_89) (by decide) (by decide) k) ?_
                exact Gl.retN X4 hx hret (by simp) (hb hby at_93) hlk (by decide) (by decide) ⟨rfl, N4⟩
              · -- hc71 False
                refine Gl.st (b := s₁.setTop (mkF m 74 #[.val (.int z0), .val (.int (z0 &&& (65535 : Int32))), .val (.int ((z0 &&& (65535 : Int32)).toUInt32.toUInt16.toUInt32.toInt32)), .unset, .val (.int ((z0 &&& (65535 : Int32)) ||| (32 : Int32)))] [])) (fun t k => XS.icmpNo X0.here hx rfl (hb hby at_71) rfl (flt (x := (122 : Int32)) (y := ((z0 &&& (65535 : Int32)) ||| (32 : Int32))) (fun q => hc71 (own_ltI.mp q))).2.2.1 k) ?_
                refine Gl.st (b := s₁.setTop (mkF m 75 #[.val (.int z0), .val (.int (z0 &&& (65535 : Int32))), .val (.int ((z0 &&& (65535 : Int32)).toUInt32.toUInt16.toUInt32.toInt32)), .unset, .val (.int ((z0 &&& (65535 : Int32)) ||| (32 : Int32)))] [(.int (1 : Int32))])) (fun t k => XS.iconst X0.here hx rfl (hb hby at_74) k) ?_
                refine Gl.st (b := s₁.setTop (mkF m 79 #[.val (.int z0), .val (.int (z0 &&& (65535 : Int32))), .val (.int ((z0 &&& (65535 : Int32)).toUInt32.toUInt16.toUInt32.toInt32)), .unset, .val (.int ((z0 &&& (65535 : Int32)) ||| (32 : Int32)))] [(.int (1 : Int32))])) (fun t k => XS.goto X0.here hx rfl (pc0 := 75) (pc' := 79) rfl (hb hby at_75) (by decide) (by decide) k) ?_
                refine Gl.st (b := s₁.setTop (mkF m 80 #[.val (.int z0), .val (.int (z0 &&& (65535 : Int32))), .val (.int ((z0 &&& (65535 : Int32)).toUInt32.toUInt16.toUInt32.toInt32)), .val (.int (1 : Int32)), .val (.int ((z0 &&& (65535 : Int32)) ||| (32 : Int32)))] [])) (fun t k => XS.istoreN X0.here hx rfl (hb hby at_79) rfl (l' := #[.val (.int z0), .val (.int (z0 &&& (65535 : Int32))), .val (.int ((z0 &&& (65535 : Int32)).toUInt32.toUInt16.toUInt32.toInt32)), .val (.int (1 : Int32)), .val (.int ((z0 &&& (65535 : Int32)) ||| (32 : Int32)))]) rfl k) ?_
                refine Gl.st (b := s₁.setTop (mkF m 81 #[.val (.int z0), .val (.int (z0 &&& (65535 : Int32))), .val (.int ((z0 &&& (65535 : Int32)).toUInt32.toUInt16.toUInt32.toInt32)), .val (.int (1 : Int32)), .val (.int ((z0 &&& (65535 : Int32)) ||| (32 : Int32)))] [(.int ((z0 &&& (65535 : Int32)).toUInt32.toUInt16.toUInt32.toInt32))])) (fun t k => XS.iloadN X0.here hx rfl (hb hby at_80) rfl k) ?_
                refine Gl.callP (W := 0) (argsL := [(.int ((z0 &&& (65535 : Int32)).toUInt32.toUInt16.toUInt32.toInt32))]) (rest := []) (w := (.int (own_b (own_wp ((z0 &&& (65535 : Int32)).toUInt32.toUInt16.toUInt32.toInt32))))) X0 hx hZ hown (hw _ (List.mem_of_getElem? (i := 1) rfl)) (hw _ (List.mem_of_getElem? (i := 2) rfl)) (hw _ (List.mem_of_getElem? (i := 3) rfl)) (hw _ (List.mem_of_getElem? (i := 4) rfl)) (by decide) (rm3 l Z a0 hw [] ((z0 &&& (65535 : Int32)).toUInt32.toUInt16.toUInt32.toInt32) h0 n0 Z0) (by decide) (by decide) e0 N0 (by decide) (by decide) (by rw [hml]; rfl) (lenOf own_pd0 rfl) rfl rfl (Nat.le_of_eq rfl) (hb hby at_81) ?_
                intro T5 L5 X5 e5 N5
                show Gl _ _ _ _ _ _ _ (T5.setTop (mkF m 84 #[.val (.int z0), .val (.int (z0 &&& (65535 : Int32))), .val (.int ((z0 &&& (65535 : Int32)).toUInt32.toUInt16.toUInt32.toInt32)), .val (.int (1 : Int32)), .val (.int ((z0 &&& (65535 : Int32)) ||| (32 : Int32)))] [(.int (own_b (own_wp ((z0 &&& (65535 : Int32)).toUInt32.toUInt16.toUInt32.toInt32))))]))
                refine Gl.st (b := T5.setTop (mkF m 85 #[.val (.int z0), .val (.int (z0 &&& (65535 : Int32))), .val (.int ((z0 &&& (65535 : Int32)).toUInt32.toUInt16.toUInt32.toInt32)), .val (.int (1 : Int32)), .val (.int ((z0 &&& (65535 : Int32)) ||| (32 : Int32)))] [(.int (1 : Int32)), (.int (own_b (own_wp ((z0 &&& (65535 : Int32)).toUInt32.toUInt16.toUInt32.toInt32))))])) (fun t k => XS.iloadN X5.here hx rfl (hb hby at_84) rfl k) ?_
                refine Gl.st (b := T5.setTop (mkF m 88 #[.val (.int z0), .val (.int (z0 &&& (65535 : Int32))), .val (.int ((z0 &&& (65535 : Int32)).toUInt32.toUInt16.toUInt32.toInt32)), .val (.int (1 : Int32)), .val (.int ((z0 &&& (65535 : Int32)) ||| (32 : Int32)))] [])) (fun t k => XS.icmpNo X5.here hx rfl (hb hby at_85) rfl (teq (own_is (1 : Int32) (by first | exact Or.inl ⟨rfl, (own_key z0).mpr (by omega)⟩ | exact Or.inr ⟨rfl, fun q => by have := (own_key z0).mp q; omega⟩))).2 k) ?_
                refine Gl.st (b := T5.setTop (mkF m 89 #[.val (.int z0), .val (.int (z0 &&& (65535 : Int32))), .val (.int ((z0 &&& (65535 : Int32)).toUInt32.toUInt16.toUInt32.toInt32)), .val (.int (1 : Int32)), .val (.int ((z0 &&& (65535 : Int32)) ||| (32 : Int32)))] [(.int (1 : Int32))])) (fun t k => XS.iconst X5.here hx rfl (hb hby at_88) k) ?_
                refine Gl.st (b := T5.setTop (mkF m 93 #[.val (.int z0), .val (.int (z0 &&& (65535 : Int32))), .val (.int ((z0 &&& (65535 : Int32)).toUInt32.toUInt16.toUInt32.toInt32)), .val (.int (1 : Int32)), .val (.int ((z0 &&& (65535 : Int32)) ||| (32 : Int32)))] [(.int (1 : Int32))])) (fun t k => XS.goto X5.here hx rfl (pc0 := 89) (pc' := 93) rfl (hb hby at_89) (by decide) (by decide) k) ?_
                exact Gl.retN X5 hx hret (by simp) (hb hby at_93) hlk (by decide) (by decide) ⟨rfl, N5⟩
          · -- hc40 False
            refine Gl.st (b := s₁.setTop (mkF m 43 #[.val (.int z0), .val (.int (z0 &&& (65535 : Int32))), .val (.int ((z0 &&& (65535 : Int32)).toUInt32.toUInt16.toUInt32.toInt32)), .unset, .unset] [])) (fun t k => XS.icmpNo X0.here hx rfl (hb hby at_40) rfl (flt (x := (z0 &&& (65535 : Int32))) (y := (48 : Int32)) (fun q => hc40 (own_ltI.mp q))).1 k) ?_
            refine Gl.st (b := s₁.setTop (mkF m 44 #[.val (.int z0), .val (.int (z0 &&& (65535 : Int32))), .val (.int ((z0 &&& (65535 : Int32)).toUInt32.toUInt16.toUInt32.toInt32)), .unset, .unset] [(.int (z0 &&& (65535 : Int32)))])) (fun t k => XS.iloadN X0.here hx rfl (hb hby at_43) rfl k) ?_
            refine Gl.st (b := s₁.setTop (mkF m 46 #[.val (.int z0), .val (.int (z0 &&& (65535 : Int32))), .val (.int ((z0 &&& (65535 : Int32)).toUInt32.toUInt16.toUInt32.toInt32)), .unset, .unset] [(.int (57 : Int32)), (.int (z0 &&& (65535 : Int32)))])) (fun t k => XS.bipush X0.here hx rfl (hb hby at_44) k) ?_
            by_cases hc46 : 57 < (z0 &&& (65535 : Int32)).toInt
            · -- hc46 True
              refine Gl.st (b := s₁.setTop (mkF m 54 #[.val (.int z0), .val (.int (z0 &&& (65535 : Int32))), .val (.int ((z0 &&& (65535 : Int32)).toUInt32.toUInt16.toUInt32.toInt32)), .unset, .unset] [])) (fun t k => XS.icmpYes X0.here hx rfl (pc0 := 46) (pc' := 54) rfl (hb hby at_46) rfl (tlt (x := (57 : Int32)) (y := (z0 &&& (65535 : Int32))) (own_ltI.mpr hc46)).2.2.1 (by decide) (by decide) k) ?_
              refine Gl.st (b := s₁.setTop (mkF m 55 #[.val (.int z0), .val (.int (z0 &&& (65535 : Int32))), .val (.int ((z0 &&& (65535 : Int32)).toUInt32.toUInt16.toUInt32.toInt32)), .unset, .unset] [(.int (z0 &&& (65535 : Int32)))])) (fun t k => XS.iloadN X0.here hx rfl (hb hby at_54) rfl k) ?_
              refine Gl.st (b := s₁.setTop (mkF m 57 #[.val (.int z0), .val (.int (z0 &&& (65535 : Int32))), .val (.int ((z0 &&& (65535 : Int32)).toUInt32.toUInt16.toUInt32.toInt32)), .unset, .unset] [(.int (32 : Int32)), (.int (z0 &&& (65535 : Int32)))])) (fun t k => XS.bipush X0.here hx rfl (hb hby at_55) k) ?_
              refine Gl.st (b := s₁.setTop (mkF m 58 #[.val (.int z0), .val (.int (z0 &&& (65535 : Int32))), .val (.int ((z0 &&& (65535 : Int32)).toUInt32.toUInt16.toUInt32.toInt32)), .unset, .unset] [(.int ((z0 &&& (65535 : Int32)) ||| (32 : Int32)))])) (fun t k => XS.ior X0.here hx rfl (hb hby at_57) rfl k) ?_
              refine Gl.st (b := s₁.setTop (mkF m 60 #[.val (.int z0), .val (.int (z0 &&& (65535 : Int32))), .val (.int ((z0 &&& (65535 : Int32)).toUInt32.toUInt16.toUInt32.toInt32)), .unset, .val (.int ((z0 &&& (65535 : Int32)) ||| (32 : Int32)))] [])) (fun t k => XS.istore X0.here hx rfl (hb hby at_58) rfl (l' := #[.val (.int z0), .val (.int (z0 &&& (65535 : Int32))), .val (.int ((z0 &&& (65535 : Int32)).toUInt32.toUInt16.toUInt32.toInt32)), .unset, .val (.int ((z0 &&& (65535 : Int32)) ||| (32 : Int32)))]) rfl k) ?_
              refine Gl.st (b := s₁.setTop (mkF m 62 #[.val (.int z0), .val (.int (z0 &&& (65535 : Int32))), .val (.int ((z0 &&& (65535 : Int32)).toUInt32.toUInt16.toUInt32.toInt32)), .unset, .val (.int ((z0 &&& (65535 : Int32)) ||| (32 : Int32)))] [(.int ((z0 &&& (65535 : Int32)) ||| (32 : Int32)))])) (fun t k => XS.iload X0.here hx rfl (hb hby at_60) rfl k) ?_
              refine Gl.st (b := s₁.setTop (mkF m 64 #[.val (.int z0), .val (.int (z0 &&& (65535 : Int32))), .val (.int ((z0 &&& (65535 : Int32)).toUInt32.toUInt16.toUInt32.toInt32)), .unset, .val (.int ((z0 &&& (65535 : Int32)) ||| (32 : Int32)))] [(.int (97 : Int32)), (.int ((z0 &&& (65535 : Int32)) ||| (32 : Int32)))])) (fun t k => XS.bipush X0.here hx rfl (hb hby at_62) k) ?_
              by_cases hc64 : ((z0 &&& (65535 : Int32)) ||| (32 : Int32)).toInt < 97
              · -- hc64 True
                refine Gl.st (b := s₁.setTop (mkF m 78 #[.val (.int z0), .val (.int (z0 &&& (65535 : Int32))), .val (.int ((z0 &&& (65535 : Int32)).toUInt32.toUInt16.toUInt32.toInt32)), .unset, .val (.int ((z0 &&& (65535 : Int32)) ||| (32 : Int32)))] [])) (fun t k => XS.icmpYes X0.here hx rfl (pc0 := 64) (pc' := 78) rfl (hb hby at_64) rfl (tlt (x := ((z0 &&& (65535 : Int32)) ||| (32 : Int32))) (y := (97 : Int32)) (own_ltI.mpr hc64)).1 (by decide) (by decide) k) ?_
                refine Gl.st (b := s₁.setTop (mkF m 79 #[.val (.int z0), .val (.int (z0 &&& (65535 : Int32))), .val (.int ((z0 &&& (65535 : Int32)).toUInt32.toUInt16.toUInt32.toInt32)), .unset, .val (.int ((z0 &&& (65535 : Int32)) ||| (32 : Int32)))] [(.int (0 : Int32))])) (fun t k => XS.iconst X0.here hx rfl (hb hby at_78) k) ?_
                refine Gl.st (b := s₁.setTop (mkF m 80 #[.val (.int z0), .val (.int (z0 &&& (65535 : Int32))), .val (.int ((z0 &&& (65535 : Int32)).toUInt32.toUInt16.toUInt32.toInt32)), .val (.int (0 : Int32)), .val (.int ((z0 &&& (65535 : Int32)) ||| (32 : Int32)))] [])) (fun t k => XS.istoreN X0.here hx rfl (hb hby at_79) rfl (l' := #[.val (.int z0), .val (.int (z0 &&& (65535 : Int32))), .val (.int ((z0 &&& (65535 : Int32)).toUInt32.toUInt16.toUInt32.toInt32)), .val (.int (0 : Int32)), .val (.int ((z0 &&& (65535 : Int32)) ||| (32 : Int32)))]) rfl k) ?_
                refine Gl.st (b := s₁.setTop (mkF m 81 #[.val (.int z0), .val (.int (z0 &&& (65535 : Int32))), .val (.int ((z0 &&& (65535 : Int32)).toUInt32.toUInt16.toUInt32.toInt32)), .val (.int (0 : Int32)), .val (.int ((z0 &&& (65535 : Int32)) ||| (32 : Int32)))] [(.int ((z0 &&& (65535 : Int32)).toUInt32.toUInt16.toUInt32.toInt32))])) (fun t k => XS.iloadN X0.here hx rfl (hb hby at_80) rfl k) ?_
                refine Gl.callP (W := 0) (argsL := [(.int ((z0 &&& (65535 : Int32)).toUInt32.toUInt16.toUInt32.toInt32))]) (rest := []) (w := (.int (own_b (own_wp ((z0 &&& (65535 : Int32)).toUInt32.toUInt16.toUInt32.toInt32))))) X0 hx hZ hown (hw _ (List.mem_of_getElem? (i := 1) rfl)) (hw _ (List.mem_of_getElem? (i := 2) rfl)) (hw _ (List.mem_of_getElem? (i := 3) rfl)) (hw _ (List.mem_of_getElem? (i := 4) rfl)) (by decide) (rm3 l Z a0 hw [] ((z0 &&& (65535 : Int32)).toUInt32.toUInt16.toUInt32.toInt32) h0 n0 Z0) (by decide) (by decide) e0 N0 (by decide) (by decide) (by rw [hml]; rfl) (lenOf own_pd0 rfl) rfl rfl (Nat.le_of_eq rfl) (hb hby at_81) ?_
                intro T6 L6 X6 e6 N6
                show Gl _ _ _ _ _ _ _ (T6.setTop (mkF m 84 #[.val (.int z0), .val (.int (z0 &&& (65535 : Int32))), .val (.int ((z0 &&& (65535 : Int32)).toUInt32.toUInt16.toUInt32.toInt32)), .val (.int (0 : Int32)), .val (.int ((z0 &&& (65535 : Int32)) ||| (32 : Int32)))] [(.int (own_b (own_wp ((z0 &&& (65535 : Int32)).toUInt32.toUInt16.toUInt32.toInt32))))]))
                refine Gl.st (b := T6.setTop (mkF m 85 #[.val (.int z0), .val (.int (z0 &&& (65535 : Int32))), .val (.int ((z0 &&& (65535 : Int32)).toUInt32.toUInt16.toUInt32.toInt32)), .val (.int (0 : Int32)), .val (.int ((z0 &&& (65535 : Int32)) ||| (32 : Int32)))] [(.int (0 : Int32)), (.int (own_b (own_wp ((z0 &&& (65535 : Int32)).toUInt32.toUInt16.toUInt32.toInt32))))])) (fun t k => XS.iloadN X6.here hx rfl (hb hby at_84) rfl k) ?_
                refine Gl.st (b := T6.setTop (mkF m 88 #[.val (.int z0), .val (.int (z0 &&& (65535 : Int32))), .val (.int ((z0 &&& (65535 : Int32)).toUInt32.toUInt16.toUInt32.toInt32)), .val (.int (0 : Int32)), .val (.int ((z0 &&& (65535 : Int32)) ||| (32 : Int32)))] [])) (fun t k => XS.icmpNo X6.here hx rfl (hb hby at_85) rfl (teq (own_is (0 : Int32) (by first | exact Or.inl ⟨rfl, (own_key z0).mpr (by omega)⟩ | exact Or.inr ⟨rfl, fun q => by have := (own_key z0).mp q; omega⟩))).2 k) ?_
                refine Gl.st (b := T6.setTop (mkF m 89 #[.val (.int z0), .val (.int (z0 &&& (65535 : Int32))), .val (.int ((z0 &&& (65535 : Int32)).toUInt32.toUInt16.toUInt32.toInt32)), .val (.int (0 : Int32)), .val (.int ((z0 &&& (65535 : Int32)) ||| (32 : Int32)))] [(.int (1 : Int32))])) (fun t k => XS.iconst X6.here hx rfl (hb hby at_88) k) ?_
                refine Gl.st (b := T6.setTop (mkF m 93 #[.val (.int z0), .val (.int (z0 &&& (65535 : Int32))), .val (.int ((z0 &&& (65535 : Int32)).toUInt32.toUInt16.toUInt32.toInt32)), .val (.int (0 : Int32)), .val (.int ((z0 &&& (65535 : Int32)) ||| (32 : Int32)))] [(.int (1 : Int32))])) (fun t k => XS.goto X6.here hx rfl (pc0 := 89) (pc' := 93) rfl (hb hby at_89) (by decide) (by decide) k) ?_
                exact Gl.retN X6 hx hret (by simp) (hb hby at_93) hlk (by decide) (by decide) ⟨rfl, N6⟩
              · -- hc64 False
                refine Gl.st (b := s₁.setTop (mkF m 67 #[.val (.int z0), .val (.int (z0 &&& (65535 : Int32))), .val (.int ((z0 &&& (65535 : Int32)).toUInt32.toUInt16.toUInt32.toInt32)), .unset, .val (.int ((z0 &&& (65535 : Int32)) ||| (32 : Int32)))] [])) (fun t k => XS.icmpNo X0.here hx rfl (hb hby at_64) rfl (flt (x := ((z0 &&& (65535 : Int32)) ||| (32 : Int32))) (y := (97 : Int32)) (fun q => hc64 (own_ltI.mp q))).1 k) ?_
                refine Gl.st (b := s₁.setTop (mkF m 69 #[.val (.int z0), .val (.int (z0 &&& (65535 : Int32))), .val (.int ((z0 &&& (65535 : Int32)).toUInt32.toUInt16.toUInt32.toInt32)), .unset, .val (.int ((z0 &&& (65535 : Int32)) ||| (32 : Int32)))] [(.int ((z0 &&& (65535 : Int32)) ||| (32 : Int32)))])) (fun t k => XS.iload X0.here hx rfl (hb hby at_67) rfl k) ?_
                refine Gl.st (b := s₁.setTop (mkF m 71 #[.val (.int z0), .val (.int (z0 &&& (65535 : Int32))), .val (.int ((z0 &&& (65535 : Int32)).toUInt32.toUInt16.toUInt32.toInt32)), .unset, .val (.int ((z0 &&& (65535 : Int32)) ||| (32 : Int32)))] [(.int (122 : Int32)), (.int ((z0 &&& (65535 : Int32)) ||| (32 : Int32)))])) (fun t k => XS.bipush X0.here hx rfl (hb hby at_69) k) ?_
                by_cases hc71 : 122 < ((z0 &&& (65535 : Int32)) ||| (32 : Int32)).toInt
                · -- hc71 True
                  refine Gl.st (b := s₁.setTop (mkF m 78 #[.val (.int z0), .val (.int (z0 &&& (65535 : Int32))), .val (.int ((z0 &&& (65535 : Int32)).toUInt32.toUInt16.toUInt32.toInt32)), .unset, .val (.int ((z0 &&& (65535 : Int32)) ||| (32 : Int32)))] [])) (fun t k => XS.icmpYes X0.here hx rfl (pc0 := 71) (pc' := 78) rfl (hb hby at_71) rfl (tlt (x := (122 : Int32)) (y := ((z0 &&& (65535 : Int32)) ||| (32 : Int32))) (own_ltI.mpr hc71)).2.2.1 (by decide) (by decide) k) ?_
                  refine Gl.st (b := s₁.setTop (mkF m 79 #[.val (.int z0), .val (.int (z0 &&& (65535 : Int32))), .val (.int ((z0 &&& (65535 : Int32)).toUInt32.toUInt16.toUInt32.toInt32)), .unset, .val (.int ((z0 &&& (65535 : Int32)) ||| (32 : Int32)))] [(.int (0 : Int32))])) (fun t k => XS.iconst X0.here hx rfl (hb hby at_78) k) ?_
                  refine Gl.st (b := s₁.setTop (mkF m 80 #[.val (.int z0), .val (.int (z0 &&& (65535 : Int32))), .val (.int ((z0 &&& (65535 : Int32)).toUInt32.toUInt16.toUInt32.toInt32)), .val (.int (0 : Int32)), .val (.int ((z0 &&& (65535 : Int32)) ||| (32 : Int32)))] [])) (fun t k => XS.istoreN X0.here hx rfl (hb hby at_79) rfl (l' := #[.val (.int z0), .val (.int (z0 &&& (65535 : Int32))), .val (.int ((z0 &&& (65535 : Int32)).toUInt32.toUInt16.toUInt32.toInt32)), .val (.int (0 : Int32)), .val (.int ((z0 &&& (65535 : Int32)) ||| (32 : Int32)))]) rfl k) ?_
                  refine Gl.st (b := s₁.setTop (mkF m 81 #[.val (.int z0), .val (.int (z0 &&& (65535 : Int32))), .val (.int ((z0 &&& (65535 : Int32)).toUInt32.toUInt16.toUInt32.toInt32)), .val (.int (0 : Int32)), .val (.int ((z0 &&& (65535 : Int32)) ||| (32 : Int32)))] [(.int ((z0 &&& (65535 : Int32)).toUInt32.toUInt16.toUInt32.toInt32))])) (fun t k => XS.iloadN X0.here hx rfl (hb hby at_80) rfl k) ?_
                  refine Gl.callP (W := 0) (argsL := [(.int ((z0 &&& (65535 : Int32)).toUInt32.toUInt16.toUInt32.toInt32))]) (rest := []) (w := (.int (own_b (own_wp ((z0 &&& (65535 : Int32)).toUInt32.toUInt16.toUInt32.toInt32))))) X0 hx hZ hown (hw _ (List.mem_of_getElem? (i := 1) rfl)) (hw _ (List.mem_of_getElem? (i := 2) rfl)) (hw _ (List.mem_of_getElem? (i := 3) rfl)) (hw _ (List.mem_of_getElem? (i := 4) rfl)) (by decide) (rm3 l Z a0 hw [] ((z0 &&& (65535 : Int32)).toUInt32.toUInt16.toUInt32.toInt32) h0 n0 Z0) (by decide) (by decide) e0 N0 (by decide) (by decide) (by rw [hml]; rfl) (lenOf own_pd0 rfl) rfl rfl (Nat.le_of_eq rfl) (hb hby at_81) ?_
                  intro T7 L7 X7 e7 N7
                  show Gl _ _ _ _ _ _ _ (T7.setTop (mkF m 84 #[.val (.int z0), .val (.int (z0 &&& (65535 : Int32))), .val (.int ((z0 &&& (65535 : Int32)).toUInt32.toUInt16.toUInt32.toInt32)), .val (.int (0 : Int32)), .val (.int ((z0 &&& (65535 : Int32)) ||| (32 : Int32)))] [(.int (own_b (own_wp ((z0 &&& (65535 : Int32)).toUInt32.toUInt16.toUInt32.toInt32))))]))
                  refine Gl.st (b := T7.setTop (mkF m 85 #[.val (.int z0), .val (.int (z0 &&& (65535 : Int32))), .val (.int ((z0 &&& (65535 : Int32)).toUInt32.toUInt16.toUInt32.toInt32)), .val (.int (0 : Int32)), .val (.int ((z0 &&& (65535 : Int32)) ||| (32 : Int32)))] [(.int (0 : Int32)), (.int (own_b (own_wp ((z0 &&& (65535 : Int32)).toUInt32.toUInt16.toUInt32.toInt32))))])) (fun t k => XS.iloadN X7.here hx rfl (hb hby at_84) rfl k) ?_
                  refine Gl.st (b := T7.setTop (mkF m 88 #[.val (.int z0), .val (.int (z0 &&& (65535 : Int32))), .val (.int ((z0 &&& (65535 : Int32)).toUInt32.toUInt16.toUInt32.toInt32)), .val (.int (0 : Int32)), .val (.int ((z0 &&& (65535 : Int32)) ||| (32 : Int32)))] [])) (fun t k => XS.icmpNo X7.here hx rfl (hb hby at_85) rfl (teq (own_is (0 : Int32) (by first | exact Or.inl ⟨rfl, (own_key z0).mpr (by omega)⟩ | exact Or.inr ⟨rfl, fun q => by have := (own_key z0).mp q; omega⟩))).2 k) ?_
                  refine Gl.st (b := T7.setTop (mkF m 89 #[.val (.int z0), .val (.int (z0 &&& (65535 : Int32))), .val (.int ((z0 &&& (65535 : Int32)).toUInt32.toUInt16.toUInt32.toInt32)), .val (.int (0 : Int32)), .val (.int ((z0 &&& (65535 : Int32)) ||| (32 : Int32)))] [(.int (1 : Int32))])) (fun t k => XS.iconst X7.here hx rfl (hb hby at_88) k) ?_
                  refine Gl.st (b := T7.setTop (mkF m 93 #[.val (.int z0), .val (.int (z0 &&& (65535 : Int32))), .val (.int ((z0 &&& (65535 : Int32)).toUInt32.toUInt16.toUInt32.toInt32)), .val (.int (0 : Int32)), .val (.int ((z0 &&& (65535 : Int32)) ||| (32 : Int32)))] [(.int (1 : Int32))])) (fun t k => XS.goto X7.here hx rfl (pc0 := 89) (pc' := 93) rfl (hb hby at_89) (by decide) (by decide) k) ?_
                  exact Gl.retN X7 hx hret (by simp) (hb hby at_93) hlk (by decide) (by decide) ⟨rfl, N7⟩
                · -- hc71 False
                  refine Gl.st (b := s₁.setTop (mkF m 74 #[.val (.int z0), .val (.int (z0 &&& (65535 : Int32))), .val (.int ((z0 &&& (65535 : Int32)).toUInt32.toUInt16.toUInt32.toInt32)), .unset, .val (.int ((z0 &&& (65535 : Int32)) ||| (32 : Int32)))] [])) (fun t k => XS.icmpNo X0.here hx rfl (hb hby at_71) rfl (flt (x := (122 : Int32)) (y := ((z0 &&& (65535 : Int32)) ||| (32 : Int32))) (fun q => hc71 (own_ltI.mp q))).2.2.1 k) ?_
                  refine Gl.st (b := s₁.setTop (mkF m 75 #[.val (.int z0), .val (.int (z0 &&& (65535 : Int32))), .val (.int ((z0 &&& (65535 : Int32)).toUInt32.toUInt16.toUInt32.toInt32)), .unset, .val (.int ((z0 &&& (65535 : Int32)) ||| (32 : Int32)))] [(.int (1 : Int32))])) (fun t k => XS.iconst X0.here hx rfl (hb hby at_74) k) ?_
                  refine Gl.st (b := s₁.setTop (mkF m 79 #[.val (.int z0), .val (.int (z0 &&& (65535 : Int32))), .val (.int ((z0 &&& (65535 : Int32)).toUInt32.toUInt16.toUInt32.toInt32)), .unset, .val (.int ((z0 &&& (65535 : Int32)) ||| (32 : Int32)))] [(.int (1 : Int32))])) (fun t k => XS.goto X0.here hx rfl (pc0 := 75) (pc' := 79) rfl (hb hby at_75) (by decide) (by decide) k) ?_
                  refine Gl.st (b := s₁.setTop (mkF m 80 #[.val (.int z0), .val (.int (z0 &&& (65535 : Int32))), .val (.int ((z0 &&& (65535 : Int32)).toUInt32.toUInt16.toUInt32.toInt32)), .val (.int (1 : Int32)), .val (.int ((z0 &&& (65535 : Int32)) ||| (32 : Int32)))] [])) (fun t k => XS.istoreN X0.here hx rfl (hb hby at_79) rfl (l' := #[.val (.int z0), .val (.int (z0 &&& (65535 : Int32))), .val (.int ((z0 &&& (65535 : Int32)).toUInt32.toUInt16.toUInt32.toInt32)), .val (.int (1 : Int32)), .val (.int ((z0 &&& (65535 : Int32)) ||| (32 : Int32)))]) rfl k) ?_
                  refine Gl.st (b := s₁.setTop (mkF m 81 #[.val (.int z0), .val (.int (z0 &&& (65535 : Int32))), .val (.int ((z0 &&& (65535 : Int32)).toUInt32.toUInt16.toUInt32.toInt32)), .val (.int (1 : Int32)), .val (.int ((z0 &&& (65535 : Int32)) ||| (32 : Int32)))] [(.int ((z0 &&& (65535 : Int32)).toUInt32.toUInt16.toUInt32.toInt32))])) (fun t k => XS.iloadN X0.here hx rfl (hb hby at_80) rfl k) ?_
                  refine Gl.callP (W := 0) (argsL := [(.int ((z0 &&& (65535 : Int32)).toUInt32.toUInt16.toUInt32.toInt32))]) (rest := []) (w := (.int (own_b (own_wp ((z0 &&& (65535 : Int32)).toUInt32.toUInt16.toUInt32.toInt32))))) X0 hx hZ hown (hw _ (List.mem_of_getElem? (i := 1) rfl)) (hw _ (List.mem_of_getElem? (i := 2) rfl)) (hw _ (List.mem_of_getElem? (i := 3) rfl)) (hw _ (List.mem_of_getElem? (i := 4) rfl)) (by decide) (rm3 l Z a0 hw [] ((z0 &&& (65535 : Int32)).toUInt32.toUInt16.toUInt32.toInt32) h0 n0 Z0) (by decide) (by decide) e0 N0 (by decide) (by decide) (by rw [hml]; rfl) (lenOf own_pd0 rfl) rfl rfl (Nat.le_of_eq rfl) (hb hby at_81) ?_
                  intro T8 L8 X8 e8 N8
                  show Gl _ _ _ _ _ _ _ (T8.setTop (mkF m 84 #[.val (.int z0), .val (.int (z0 &&& (65535 : Int32))), .val (.int ((z0 &&& (65535 : Int32)).toUInt32.toUInt16.toUInt32.toInt32)), .val (.int (1 : Int32)), .val (.int ((z0 &&& (65535 : Int32)) ||| (32 : Int32)))] [(.int (own_b (own_wp ((z0 &&& (65535 : Int32)).toUInt32.toUInt16.toUInt32.toInt32))))]))
                  refine Gl.st (b := T8.setTop (mkF m 85 #[.val (.int z0), .val (.int (z0 &&& (65535 : Int32))), .val (.int ((z0 &&& (65535 : Int32)).toUInt32.toUInt16.toUInt32.toInt32)), .val (.int (1 : Int32)), .val (.int ((z0 &&& (65535 : Int32)) ||| (32 : Int32)))] [(.int (1 : Int32)), (.int (own_b (own_wp ((z0 &&& (65535 : Int32)).toUInt32.toUInt16.toUInt32.toInt32))))])) (fun t k => XS.iloadN X8.here hx rfl (hb hby at_84) rfl k) ?_
                  refine Gl.st (b := T8.setTop (mkF m 88 #[.val (.int z0), .val (.int (z0 &&& (65535 : Int32))), .val (.int ((z0 &&& (65535 : Int32)).toUInt32.toUInt16.toUInt32.toInt32)), .val (.int (1 : Int32)), .val (.int ((z0 &&& (65535 : Int32)) ||| (32 : Int32)))] [])) (fun t k => XS.icmpNo X8.here hx rfl (hb hby at_85) rfl (teq (own_is (1 : Int32) (by first | exact Or.inl ⟨rfl, (own_key z0).mpr (by omega)⟩ | exact Or.inr ⟨rfl, fun q => by have := (own_key z0).mp q; omega⟩))).2 k) ?_
                  refine Gl.st (b := T8.setTop (mkF m 89 #[.val (.int z0), .val (.int (z0 &&& (65535 : Int32))), .val (.int ((z0 &&& (65535 : Int32)).toUInt32.toUInt16.toUInt32.toInt32)), .val (.int (1 : Int32)), .val (.int ((z0 &&& (65535 : Int32)) ||| (32 : Int32)))] [(.int (1 : Int32))])) (fun t k => XS.iconst X8.here hx rfl (hb hby at_88) k) ?_
                  refine Gl.st (b := T8.setTop (mkF m 93 #[.val (.int z0), .val (.int (z0 &&& (65535 : Int32))), .val (.int ((z0 &&& (65535 : Int32)).toUInt32.toUInt16.toUInt32.toInt32)), .val (.int (1 : Int32)), .val (.int ((z0 &&& (65535 : Int32)) ||| (32 : Int32)))] [(.int (1 : Int32))])) (fun t k => XS.goto X8.here hx rfl (pc0 := 89) (pc' := 93) rfl (hb hby at_89) (by decide) (by decide) k) ?_
                  exact Gl.retN X8 hx hret (by simp) (hb hby at_93) hlk (by decide) (by decide) ⟨rfl, N8⟩
            · -- hc46 False
              refine Gl.st (b := s₁.setTop (mkF m 49 #[.val (.int z0), .val (.int (z0 &&& (65535 : Int32))), .val (.int ((z0 &&& (65535 : Int32)).toUInt32.toUInt16.toUInt32.toInt32)), .unset, .unset] [])) (fun t k => XS.icmpNo X0.here hx rfl (hb hby at_46) rfl (flt (x := (57 : Int32)) (y := (z0 &&& (65535 : Int32))) (fun q => hc46 (own_ltI.mp q))).2.2.1 k) ?_
              refine Gl.st (b := s₁.setTop (mkF m 50 #[.val (.int z0), .val (.int (z0 &&& (65535 : Int32))), .val (.int ((z0 &&& (65535 : Int32)).toUInt32.toUInt16.toUInt32.toInt32)), .unset, .unset] [(.int (1 : Int32))])) (fun t k => XS.iconst X0.here hx rfl (hb hby at_49) k) ?_
              refine Gl.st (b := s₁.setTop (mkF m 51 #[.val (.int z0), .val (.int (z0 &&& (65535 : Int32))), .val (.int ((z0 &&& (65535 : Int32)).toUInt32.toUInt16.toUInt32.toInt32)), .val (.int (1 : Int32)), .unset] [])) (fun t k => XS.istoreN X0.here hx rfl (hb hby at_50) rfl (l' := #[.val (.int z0), .val (.int (z0 &&& (65535 : Int32))), .val (.int ((z0 &&& (65535 : Int32)).toUInt32.toUInt16.toUInt32.toInt32)), .val (.int (1 : Int32)), .unset]) rfl k) ?_
              refine Gl.st (b := s₁.setTop (mkF m 80 #[.val (.int z0), .val (.int (z0 &&& (65535 : Int32))), .val (.int ((z0 &&& (65535 : Int32)).toUInt32.toUInt16.toUInt32.toInt32)), .val (.int (1 : Int32)), .unset] [])) (fun t k => XS.goto X0.here hx rfl (pc0 := 51) (pc' := 80) rfl (hb hby at_51) (by decide) (by decide) k) ?_
              refine Gl.st (b := s₁.setTop (mkF m 81 #[.val (.int z0), .val (.int (z0 &&& (65535 : Int32))), .val (.int ((z0 &&& (65535 : Int32)).toUInt32.toUInt16.toUInt32.toInt32)), .val (.int (1 : Int32)), .unset] [(.int ((z0 &&& (65535 : Int32)).toUInt32.toUInt16.toUInt32.toInt32))])) (fun t k => XS.iloadN X0.here hx rfl (hb hby at_80) rfl k) ?_
              refine Gl.callP (W := 0) (argsL := [(.int ((z0 &&& (65535 : Int32)).toUInt32.toUInt16.toUInt32.toInt32))]) (rest := []) (w := (.int (own_b (own_wp ((z0 &&& (65535 : Int32)).toUInt32.toUInt16.toUInt32.toInt32))))) X0 hx hZ hown (hw _ (List.mem_of_getElem? (i := 1) rfl)) (hw _ (List.mem_of_getElem? (i := 2) rfl)) (hw _ (List.mem_of_getElem? (i := 3) rfl)) (hw _ (List.mem_of_getElem? (i := 4) rfl)) (by decide) (rm3 l Z a0 hw [] ((z0 &&& (65535 : Int32)).toUInt32.toUInt16.toUInt32.toInt32) h0 n0 Z0) (by decide) (by decide) e0 N0 (by decide) (by decide) (by rw [hml]; rfl) (lenOf own_pd0 rfl) rfl rfl (Nat.le_of_eq rfl) (hb hby at_81) ?_
              intro T9 L9 X9 e9 N9
              show Gl _ _ _ _ _ _ _ (T9.setTop (mkF m 84 #[.val (.int z0), .val (.int (z0 &&& (65535 : Int32))), .val (.int ((z0 &&& (65535 : Int32)).toUInt32.toUInt16.toUInt32.toInt32)), .val (.int (1 : Int32)), .unset] [(.int (own_b (own_wp ((z0 &&& (65535 : Int32)).toUInt32.toUInt16.toUInt32.toInt32))))]))
              refine Gl.st (b := T9.setTop (mkF m 85 #[.val (.int z0), .val (.int (z0 &&& (65535 : Int32))), .val (.int ((z0 &&& (65535 : Int32)).toUInt32.toUInt16.toUInt32.toInt32)), .val (.int (1 : Int32)), .unset] [(.int (1 : Int32)), (.int (own_b (own_wp ((z0 &&& (65535 : Int32)).toUInt32.toUInt16.toUInt32.toInt32))))])) (fun t k => XS.iloadN X9.here hx rfl (hb hby at_84) rfl k) ?_
              refine Gl.st (b := T9.setTop (mkF m 88 #[.val (.int z0), .val (.int (z0 &&& (65535 : Int32))), .val (.int ((z0 &&& (65535 : Int32)).toUInt32.toUInt16.toUInt32.toInt32)), .val (.int (1 : Int32)), .unset] [])) (fun t k => XS.icmpNo X9.here hx rfl (hb hby at_85) rfl (teq (own_is (1 : Int32) (by first | exact Or.inl ⟨rfl, (own_key z0).mpr (by omega)⟩ | exact Or.inr ⟨rfl, fun q => by have := (own_key z0).mp q; omega⟩))).2 k) ?_
              refine Gl.st (b := T9.setTop (mkF m 89 #[.val (.int z0), .val (.int (z0 &&& (65535 : Int32))), .val (.int ((z0 &&& (65535 : Int32)).toUInt32.toUInt16.toUInt32.toInt32)), .val (.int (1 : Int32)), .unset] [(.int (1 : Int32))])) (fun t k => XS.iconst X9.here hx rfl (hb hby at_88) k) ?_
              refine Gl.st (b := T9.setTop (mkF m 93 #[.val (.int z0), .val (.int (z0 &&& (65535 : Int32))), .val (.int ((z0 &&& (65535 : Int32)).toUInt32.toUInt16.toUInt32.toInt32)), .val (.int (1 : Int32)), .unset] [(.int (1 : Int32))])) (fun t k => XS.goto X9.here hx rfl (pc0 := 89) (pc' := 93) rfl (hb hby at_89) (by decide) (by decide) k) ?_
              exact Gl.retN X9 hx hret (by simp) (hb hby at_93) hlk (by decide) (by decide) ⟨rfl, N9⟩
    · -- hc12 False
      refine Gl.st (b := s₁.setTop (mkF m 15 #[.val (.int z0), .val (.int (z0 &&& (65535 : Int32))), .val (.int ((z0 &&& (65535 : Int32)).toUInt32.toUInt16.toUInt32.toInt32)), .unset, .unset] [])) (fun t k => XS.icmpNo X0.here hx rfl (hb hby at_12) rfl (flt (x := (z0 &&& (65535 : Int32))) (y := (128 : Int32)) (fun q => hc12 (own_ltI.mp q))).1 k) ?_
      refine Gl.st (b := s₁.setTop (mkF m 16 #[.val (.int z0), .val (.int (z0 &&& (65535 : Int32))), .val (.int ((z0 &&& (65535 : Int32)).toUInt32.toUInt16.toUInt32.toInt32)), .unset, .unset] [(.int (1 : Int32))])) (fun t k => XS.iconst X0.here hx rfl (hb hby at_15) k) ?_
      refine Gl.st (b := s₁.setTop (mkF m 17 #[.val (.int z0), .val (.int (z0 &&& (65535 : Int32))), .val (.int ((z0 &&& (65535 : Int32)).toUInt32.toUInt16.toUInt32.toInt32)), .val (.int (1 : Int32)), .unset] [])) (fun t k => XS.istoreN X0.here hx rfl (hb hby at_16) rfl (l' := #[.val (.int z0), .val (.int (z0 &&& (65535 : Int32))), .val (.int ((z0 &&& (65535 : Int32)).toUInt32.toUInt16.toUInt32.toInt32)), .val (.int (1 : Int32)), .unset]) rfl k) ?_
      refine Gl.st (b := s₁.setTop (mkF m 80 #[.val (.int z0), .val (.int (z0 &&& (65535 : Int32))), .val (.int ((z0 &&& (65535 : Int32)).toUInt32.toUInt16.toUInt32.toInt32)), .val (.int (1 : Int32)), .unset] [])) (fun t k => XS.goto X0.here hx rfl (pc0 := 17) (pc' := 80) rfl (hb hby at_17) (by decide) (by decide) k) ?_
      refine Gl.st (b := s₁.setTop (mkF m 81 #[.val (.int z0), .val (.int (z0 &&& (65535 : Int32))), .val (.int ((z0 &&& (65535 : Int32)).toUInt32.toUInt16.toUInt32.toInt32)), .val (.int (1 : Int32)), .unset] [(.int ((z0 &&& (65535 : Int32)).toUInt32.toUInt16.toUInt32.toInt32))])) (fun t k => XS.iloadN X0.here hx rfl (hb hby at_80) rfl k) ?_
      refine Gl.callP (W := 0) (argsL := [(.int ((z0 &&& (65535 : Int32)).toUInt32.toUInt16.toUInt32.toInt32))]) (rest := []) (w := (.int (own_b (own_wp ((z0 &&& (65535 : Int32)).toUInt32.toUInt16.toUInt32.toInt32))))) X0 hx hZ hown (hw _ (List.mem_of_getElem? (i := 1) rfl)) (hw _ (List.mem_of_getElem? (i := 2) rfl)) (hw _ (List.mem_of_getElem? (i := 3) rfl)) (hw _ (List.mem_of_getElem? (i := 4) rfl)) (by decide) (rm3 l Z a0 hw [] ((z0 &&& (65535 : Int32)).toUInt32.toUInt16.toUInt32.toInt32) h0 n0 Z0) (by decide) (by decide) e0 N0 (by decide) (by decide) (by rw [hml]; rfl) (lenOf own_pd0 rfl) rfl rfl (Nat.le_of_eq rfl) (hb hby at_81) ?_
      intro T10 L10 X10 e10 N10
      show Gl _ _ _ _ _ _ _ (T10.setTop (mkF m 84 #[.val (.int z0), .val (.int (z0 &&& (65535 : Int32))), .val (.int ((z0 &&& (65535 : Int32)).toUInt32.toUInt16.toUInt32.toInt32)), .val (.int (1 : Int32)), .unset] [(.int (own_b (own_wp ((z0 &&& (65535 : Int32)).toUInt32.toUInt16.toUInt32.toInt32))))]))
      refine Gl.st (b := T10.setTop (mkF m 85 #[.val (.int z0), .val (.int (z0 &&& (65535 : Int32))), .val (.int ((z0 &&& (65535 : Int32)).toUInt32.toUInt16.toUInt32.toInt32)), .val (.int (1 : Int32)), .unset] [(.int (1 : Int32)), (.int (own_b (own_wp ((z0 &&& (65535 : Int32)).toUInt32.toUInt16.toUInt32.toInt32))))])) (fun t k => XS.iloadN X10.here hx rfl (hb hby at_84) rfl k) ?_
      refine Gl.st (b := T10.setTop (mkF m 88 #[.val (.int z0), .val (.int (z0 &&& (65535 : Int32))), .val (.int ((z0 &&& (65535 : Int32)).toUInt32.toUInt16.toUInt32.toInt32)), .val (.int (1 : Int32)), .unset] [])) (fun t k => XS.icmpNo X10.here hx rfl (hb hby at_85) rfl (teq (own_is (1 : Int32) (by first | exact Or.inl ⟨rfl, (own_key z0).mpr (by omega)⟩ | exact Or.inr ⟨rfl, fun q => by have := (own_key z0).mp q; omega⟩))).2 k) ?_
      refine Gl.st (b := T10.setTop (mkF m 89 #[.val (.int z0), .val (.int (z0 &&& (65535 : Int32))), .val (.int ((z0 &&& (65535 : Int32)).toUInt32.toUInt16.toUInt32.toInt32)), .val (.int (1 : Int32)), .unset] [(.int (1 : Int32))])) (fun t k => XS.iconst X10.here hx rfl (hb hby at_88) k) ?_
      refine Gl.st (b := T10.setTop (mkF m 93 #[.val (.int z0), .val (.int (z0 &&& (65535 : Int32))), .val (.int ((z0 &&& (65535 : Int32)).toUInt32.toUInt16.toUInt32.toInt32)), .val (.int (1 : Int32)), .unset] [(.int (1 : Int32))])) (fun t k => XS.goto X10.here hx rfl (pc0 := 89) (pc' := 93) rfl (hb hby at_89) (by decide) (by decide) k) ?_
      exact Gl.retN X10 hx hret (by simp) (hb hby at_93) hlk (by decide) (by decide) ⟨rfl, N10⟩
  exact GOAL
set_option maxRecDepth 65536 in
set_option maxHeartbeats 40000000 in
theorem comes_1 {Post : Tables → Env → Array Value → State → Outcome → State → Prop} (hpost : ∀ tb e args s v u, (limb_1_1.after args s (.returned v) u = true ∧ limb_1_2.after args s (.returned v) u = true ∧ True) → FrameEnd s (.returned v) u (Jvm.fieldLocs frame_1_writes args s ++ Jvm.arrayLocs frame_1_arrays args s ++ Jvm.staticLocs frame_1_statics s) 0 0 → Post tb e args s (.returned v) u) :
    ArmFor flags0 classFile x code maxLocals ret World_1 tables_1 room_1 Calls_1 rest_1 Pre_1 Post := by
  intro l hfl _ _ p e ha hc hk s m args below hf hA hF happ hP
  obtain ⟨hcalls, hrest, hpre⟩ := hP
  obtain ⟨-, -, -, hnamed, -, -, -, hat⟩ := (Spec.applies_iff hf).mp happ
  obtain ⟨hg, hn⟩ := and_e (Cond.before_iff.mp (show (Jvm.Cond.and given_1 narrow_1).before args s = true from hpre))
  obtain ⟨g1, k1⟩ := and_e hg
  obtain ⟨w0, rfl⟩ : ∃ w0 : Value, args = #[w0] := by
    have hs : args.size = 1 := by simpa [Cond.value, given_1] using g1
    obtain ⟨L⟩ := args
    match L, hs with
    | [w0], _ => exact ⟨w0, rfl⟩
  have hw := fun d (hd : d ∈ tables_1) => atoms_spec (ws := Jvm.Cond.code x code maxLocals ret :: tables_1) hat d (List.mem_cons_of_mem _ hd)
  obtain ⟨i0, ei0⟩ := is_v k1
  obtain rfl : w0 = (.int i0) := Option.some.inj ei0
  obtain ⟨n, o, h1, h2, h3, _, L, rfl, ⟨rfl, N⟩, hq⟩ := rm0 l s _ hw tables_1 i0 s.heap s.heap.size (Nat.le_refl _)  p e ha hc hk s m _ below hf ((Spec.applies_iff_loose hf).mp happ).1 ⟨rfl, State.Warmed39.refl s, rfl⟩ trivial
  refine ⟨n, _, h1, h2, h3, hpost _ _ _ _ _ _ ⟨Cond.after_iff.mpr rfl, Cond.after_iff.mpr (eq_i res_at (Term.int_eval (1)) rfl), trivial⟩ ⟨hq.1, hq.2.1, (hq.2.2.sift fun y hy => Or.inr (N y hy)).mono (by decide) (by decide)⟩⟩
theorem main_1_1 : Claimed_1_1 := comes_1 fun _ _ _ _ _ _ h hF => ⟨h.1, hF⟩
theorem main_1_2 : Claimed_1_2 := comes_1 fun _ _ _ _ _ _ h hF => ⟨h.2.1, hF⟩

end Jvm.Pilot.@@N@@
namespace Jvm.Pilot.@@N@@
open Jvm Jvm.ClassFile Sem Op Lib Jvm.Free Jvm.Stand Jvm.Pilot.@@N@@.Jvm.D
/-! MADE BY PROGRAM (witnessworld.py) out of the Statement's table words and the real class files: 9 classes; the members and pool entries that the words name. The judged class is class 1, her method 1. -/
namespace start1
open Jvm.ClassFile
def u (s : String) : CpInfo := .utf8 (stringToUtf16 s)
/-- a pool by its gaps: so many unusable entries, then the entry; so many at the end -/
def gap : Nat → List CpInfo → List CpInfo
  | 0, r => r
  | n + 1, r => .unusable :: gap n r
def poolList (es : List (Nat × CpInfo)) (last : Nat) : List CpInfo := es.foldr (fun e r => gap e.1 (e.2 :: r)) (gap last [])
def pool (es : List (Nat × CpInfo)) (last : Nat) : Array CpInfo := ⟨poolList es last⟩
def fileOf (pool : Array CpInfo) (this : Nat) (attrs : Array Attribute := #[]) (ms : Array MethodInfo := #[]) (fl : Nat := 33) (sup : Nat := 0) (ifs : Array Nat := #[]) (fds : Array FieldInfo := #[]) : ClassFile where
  minorVersion := 0
  majorVersion := 65
  constantPool := pool
  accessFlags := fl
  thisClass := this
  superClass := sup
  interfaces := ifs
  fields := fds
  methods := ms
  attributes := attrs
def plain (name : String) (sup : Option ClassId) : Class where
  name := name
  kind := .ordinary
  loader := none
  accessFlags := 33
  super := sup
  interfaces := #[]
  cf := none
  fields := #[]
  methods := #[]
  instanceTypes := #[]
  staticTypes := #[]
  resolved := #[]
  callSites := []
  init := .initialized
  statics := none
  mirror := none

def pool0 : Array CpInfo := pool [(5, u "<init>"), (0, u "()V"), (1, .class_ 10), (1, u "java/lang/Object")] 113

def k0m0 : Method := { name := "<init>", desc := "()V", sig := { parameters := [], returnType := none }, accessFlags := 1, code := none }
/-- java/lang/Object -/
def k0 : Class := { plain "java/lang/Object" none with
  accessFlags := 33
  interfaces := #[]
  cf := some (fileOf pool0 8 #[] #[{ accessFlags := 1, nameIndex := 5, descriptorIndex := 6, attributes := #[] }] 33 0 #[] #[])
  fields := #[]
  methods := #[k0m0]
  instanceTypes := #[]
  staticTypes := #[]
  resolved := Array.replicate 124 none
  statics := none }

def pool1 : Array CpInfo := pool [(2, .class_ 4), (1, u "java/lang/Object"), (0, u "<init>"), (0, u "()V"), (0, .integer 65535), (0, .methodref 9 10), (0, .class_ 11), (0, .nameAndType 12 13), (0, u "com/example/geata/geata/Tokens"), (0, u "isWordPart"), (0, u "(C)Z"), (0, .class_ 15), (0, u "com/example/geata/geata/TokensIsWordPartPinLaw"), (2, u "law"), (0, u "(I)Z")] 3

def k1m0 : Method := { name := "<init>", desc := "()V", sig := { parameters := [], returnType := none }, accessFlags := 2, code := none }
def k1c1 : Code := { maxStack := 2, maxLocals := 5, code := code, exceptionTable := #[], attributes := #[] }
def k1m1 : Method := { name := "law", desc := "(I)Z", sig := { parameters := [.int], returnType := some .boolean }, accessFlags := 9, code := some k1c1 }
/-- com/example/geata/geata/TokensIsWordPartPinLaw -/
def k1 : Class := { plain "com/example/geata/geata/TokensIsWordPartPinLaw" (some 0) with
  accessFlags := 49
  interfaces := #[]
  cf := some (fileOf pool1 14 #[] #[{ accessFlags := 2, nameIndex := 5, descriptorIndex := 6, attributes := #[] }, { accessFlags := 9, nameIndex := 18, descriptorIndex := 19, attributes := #[] }] 49 2 #[] #[])
  fields := #[]
  methods := #[k1m0, k1m1]
  instanceTypes := #[]
  staticTypes := #[]
  resolved := Array.replicate 23 none
  statics := none }

def pool2 : Array CpInfo := pool [(2, .class_ 4), (1, u "java/lang/Object"), (3, .class_ 10), (1, u "com/example/geata/geata/Tokens"), (0, u "line"), (0, u "Ljava/lang/String;"), (5, u "kind"), (0, u "Lcom/example/geata/geata/Tokens$Kind;"), (1, .class_ 23), (1, u "com/example/geata/geata/Tokens$Kind"), (6, u "keyword"), (11, u "PUNCTUATION"), (2, u "text"), (25, u "raw"), (13, u "next"), (0, u "I"), (7, u "(C)Z"), (21, u "written"), (37, .methodref 8 155), (0, .nameAndType 156 94), (0, u "isWordStart"), (2, u "isWordPart"), (3, .methodref 8 164), (0, .nameAndType 165 94), (0, u "isDigit"), (53, u "OPERATORS"), (0, u "Ljava/util/List;"), (47, u "END_OF_LINE")] 47

def k2c0 : Code := { maxStack := 2, maxLocals := 1, code := prog_57_method_23_code, exceptionTable := #[], attributes := #[] }
def k2m0 : Method := { name := "isWordStart", desc := "(C)Z", sig := { parameters := [.char], returnType := some .boolean }, accessFlags := 8, code := some k2c0 }
def k2c1 : Code := { maxStack := 2, maxLocals := 1, code := prog_57_method_24_code, exceptionTable := #[], attributes := #[] }
def k2m1 : Method := { name := "isWordPart", desc := "(C)Z", sig := { parameters := [.char], returnType := some .boolean }, accessFlags := 8, code := some k2c1 }
def k2c2 : Code := { maxStack := 2, maxLocals := 1, code := prog_57_method_25_code, exceptionTable := #[], attributes := #[] }
def k2m2 : Method := { name := "isDigit", desc := "(C)Z", sig := { parameters := [.char], returnType := some .boolean }, accessFlags := 10, code := some k2c2 }
/-- com/example/geata/geata/Tokens -/
def k2 : Class := { plain "com/example/geata/geata/Tokens" (some 0) with
  accessFlags := 48
  interfaces := #[]
  cf := some (fileOf pool2 8 #[.nestMembers #[21]] #[{ accessFlags := 8, nameIndex := 156, descriptorIndex := 94, attributes := #[] }, { accessFlags := 8, nameIndex := 159, descriptorIndex := 94, attributes := #[] }, { accessFlags := 10, nameIndex := 165, descriptorIndex := 94, attributes := #[] }] 48 2 #[] #[{ accessFlags := 26, nameIndex := 268, descriptorIndex := 12, attributes := #[] }, { accessFlags := 26, nameIndex := 219, descriptorIndex := 220, attributes := #[] }, { accessFlags := 26, nameIndex := 42, descriptorIndex := 12, attributes := #[] }, { accessFlags := 18, nameIndex := 11, descriptorIndex := 12, attributes := #[] }, { accessFlags := 2, nameIndex := 85, descriptorIndex := 86, attributes := #[] }, { accessFlags := 2, nameIndex := 18, descriptorIndex := 19, attributes := #[] }, { accessFlags := 2, nameIndex := 45, descriptorIndex := 12, attributes := #[] }, { accessFlags := 2, nameIndex := 30, descriptorIndex := 12, attributes := #[] }, { accessFlags := 2, nameIndex := 71, descriptorIndex := 12, attributes := #[] }, { accessFlags := 2, nameIndex := 116, descriptorIndex := 12, attributes := #[] }])
  fields := #[{ name := "END_OF_LINE", type := (.object "java/lang/String"), accessFlags := 26, slot := 0, constantValue := 0 }, { name := "OPERATORS", type := (.object "java/util/List"), accessFlags := 26, slot := 1, constantValue := 0 }, { name := "PUNCTUATION", type := (.object "java/lang/String"), accessFlags := 26, slot := 2, constantValue := 0 }, { name := "line", type := (.object "java/lang/String"), accessFlags := 18, slot := 0, constantValue := 0 }, { name := "next", type := .int, accessFlags := 2, slot := 1, constantValue := 0 }, { name := "kind", type := (.object "com/example/geata/geata/Tokens$Kind"), accessFlags := 2, slot := 2, constantValue := 0 }, { name := "text", type := (.object "java/lang/String"), accessFlags := 2, slot := 3, constantValue := 0 }, { name := "keyword", type := (.object "java/lang/String"), accessFlags := 2, slot := 4, constantValue := 0 }, { name := "raw", type := (.object "java/lang/String"), accessFlags := 2, slot := 5, constantValue := 0 }, { name := "written", type := (.object "java/lang/String"), accessFlags := 2, slot := 6, constantValue := 0 }]
  methods := #[k2m0, k2m1, k2m2]
  instanceTypes := #[(.object "java/lang/String"), .int, (.object "com/example/geata/geata/Tokens$Kind"), (.object "java/lang/String"), (.object "java/lang/String"), (.object "java/lang/String"), (.object "java/lang/String")]
  staticTypes := #[(.object "java/lang/String"), (.object "java/util/List"), (.object "java/lang/String")]
  resolved := Array.replicate 316 none
  statics := none }

def pool3 : Array CpInfo := pool [(1, u "java/lang/Cloneable"), (0, .class_ 1), (0, u "java/lang/Object"), (0, .class_ 3)] 3

/-- java/lang/Cloneable -/
def k3 : Class := { plain "java/lang/Cloneable" (some 0) with
  accessFlags := 1537
  interfaces := #[]
  cf := some (fileOf pool3 2 #[] #[] 1537 4 #[] #[])
  fields := #[]
  methods := #[]
  instanceTypes := #[]
  staticTypes := #[]
  resolved := Array.replicate 8 none
  statics := none }

def pool4 : Array CpInfo := pool [(1, u "java/io/Serializable"), (0, .class_ 1), (0, u "java/lang/Object"), (0, .class_ 3)] 3

/-- java/io/Serializable -/
def k4 : Class := { plain "java/io/Serializable" (some 0) with
  accessFlags := 1537
  interfaces := #[]
  cf := some (fileOf pool4 2 #[] #[] 1537 4 #[] #[])
  fields := #[]
  methods := #[]
  instanceTypes := #[]
  staticTypes := #[]
  resolved := Array.replicate 8 none
  statics := none }

/-- the primitive byte -/
def k5 : Class := { plain "byte" none with kind := .primitive 'B', accessFlags := 0x411 }
/-- [B -/
def k6 : Class := { plain "[B" (some 0) with kind := .array 5 .byte, interfaces := #[3, 4], accessFlags := 1041 }

/-- the primitive int -/
def k7 : Class := { plain "int" none with kind := .primitive 'I', accessFlags := 0x411 }
/-- [I -/
def k8 : Class := { plain "[I" (some 0) with kind := .array 7 .int, interfaces := #[3, 4], accessFlags := 1041 }

def heap : Heap := #[]
def classes : Array Class := #[k0, k1, k2, k3, k4, k5, k6, k7, k8]
def interned : List (Array UInt16 × Addr) := []
def slotsUsed : Nat := 0
def theMethod : MethodId := ⟨1, 1⟩
def args0 : Array Value := #[.int 5]
def aboutOver (below : List Frame) : State where
  vm := { classes := classes, interned := interned.toArray }
  heap := heap
  slotsUsed := slotsUsed
  threads := #[{ frames := .invoking theMethod args0 :: below }]
def below0 : List Frame := [.native { method := ⟨0, 0⟩, args := #[] }]
def about1 : State := aboutOver below0
def p0 : Program := .bare "" "" ""
def e0 : Env := launch0.env 0 0 0
theorem w_frames : about1.frames = Frame.invoking theMethod args0 :: below0 := rfl
set_option maxRecDepth 65536 in
theorem w_args : argsFit about1.vm theMethod args0 = true := by decide +kernel
set_option maxRecDepth 65536 in
theorem w_heap : heapFits about1 = true := by decide +kernel
set_option maxRecDepth 65536 in
theorem w_runnable : about1.curStatus? = some .runnable := by decide +kernel
set_option maxRecDepth 65536 in
theorem w_alone : about1.alone = true := by decide +kernel
set_option maxRecDepth 65536 in
theorem w_named : about1.methodNamed? x = some theMethod := by decide +kernel
set_option maxRecDepth 65536 in
theorem w_hears : about1.hears theMethod below0 = true := by decide +kernel
set_option maxRecDepth 65536 in
theorem w_ripe : about1.ripe theMethod args0 below0 = true := by decide +kernel
theorem w_running : about1.status = .running := rfl
set_option maxRecDepth 65536 in
theorem w_room : about1.hasRoom e0.platform room_1 = true :=
  launch0.hasRoom_least _ room_1 (by decide +kernel) (by decide +kernel) (by decide +kernel) (by decide +kernel) (by decide +kernel) (by decide +kernel)
theorem allAtoms_all (ts : List Jvm.Cond) (a : Array Jvm.Value) (st : Jvm.State) : (allAtoms ts).before a st = ts.all (fun c => c.before a st) := by
  induction ts with
  | nil => rfl
  | cons c t ih =>
    show (Jvm.Cond.and c (allAtoms t)).before a st = _
    rw [Jvm.Cond.before_and, ih, List.all_cons]
def words1 : List Jvm.Cond := Jvm.Cond.code x code maxLocals ret :: tables_1
/-- a 'code' word, met by the world's own term for the bytes: nothing is compared byte by byte -/
theorem code_word {y : MethodName} {bytes : ByteArray} {mx : Nat} {rt : Option FieldType} {a : Array Value} {s : State} {m : MethodId} {meth : Method} {c : Code} (h1 : s.methodNamed? y = some m) (h2 : s.vm.method? m = some meth) (h3 : meth.code = some c) (h4 : c.code = bytes)
    (h5 : (c.maxLocals == mx && c.exceptionTable.isEmpty && decide (c.maxStack ≤ mostOperands) && decide (meth.sig.returnType = rt) && !meth.locks && decide (parseMethodDescriptor y.desc = some meth.sig)) = true) : (Jvm.Cond.code y bytes mx rt).before a s = true := by
  simp only [Bool.and_eq_true, beq_iff_eq, Bool.not_eq_true', decide_eq_true_eq] at h5
  obtain ⟨⟨⟨⟨⟨g1, g2⟩, g3⟩, g4⟩, g5⟩, g6⟩ := h5
  simp [Cond.before, Cond.holds, Cond.value, h1, h2, h3, h4, g1, g2, g3, g4, g5, g6]
def isCode : Jvm.Cond → Bool
  | .code _ _ _ _ => true
  | _ => false
theorem all_split {L : List Jvm.Cond} {P : Jvm.Cond → Bool} (h1 : L.all (fun c => isCode c || P c) = true) (h2 : ∀ c ∈ L.filter isCode, P c = true) : L.all P = true := by
  refine List.all_eq_true.mpr fun c hc => ?_
  have h := List.all_eq_true.mp h1 c hc
  rcases Bool.eq_false_or_eq_true (isCode c) with hi | hi
  · exact h2 c (List.mem_filter.mpr ⟨hc, hi⟩)
  · simpa [hi] using h
set_option maxRecDepth 65536 in
theorem w_c0 : (Jvm.Cond.code x code maxLocals ret).before args0 about1 = true := code_word (m := ⟨1, 1⟩) (meth := k1m1) (c := k1c1) (by decide +kernel) rfl rfl rfl (by decide +kernel)
set_option maxRecDepth 65536 in
theorem w_c1 : (Jvm.Cond.code ({ cls := "com/example/geata/geata/Tokens", name := "isWordPart", desc := "(C)Z" } : Jvm.MethodName) prog_57_method_24_code (1 : Nat) (Option.some Jvm.ClassFile.FieldType.boolean)).before args0 about1 = true := code_word (m := ⟨2, 1⟩) (meth := k2m1) (c := k2c1) (by decide +kernel) rfl rfl rfl (by decide +kernel)
set_option maxRecDepth 65536 in
theorem w_c2 : (Jvm.Cond.code ({ cls := "com/example/geata/geata/Tokens", name := "isWordStart", desc := "(C)Z" } : Jvm.MethodName) prog_57_method_23_code (1 : Nat) (Option.some Jvm.ClassFile.FieldType.boolean)).before args0 about1 = true := code_word (m := ⟨2, 0⟩) (meth := k2m0) (c := k2c0) (by decide +kernel) rfl rfl rfl (by decide +kernel)
set_option maxRecDepth 65536 in
theorem w_c3 : (Jvm.Cond.code ({ cls := "com/example/geata/geata/Tokens", name := "isDigit", desc := "(C)Z" } : Jvm.MethodName) prog_57_method_25_code (1 : Nat) (Option.some Jvm.ClassFile.FieldType.boolean)).before args0 about1 = true := code_word (m := ⟨2, 2⟩) (meth := k2m2) (c := k2c2) (by decide +kernel) rfl rfl rfl (by decide +kernel)
def codes1 : List Jvm.Cond := [Jvm.Cond.code x code maxLocals ret, Jvm.Cond.code ({ cls := "com/example/geata/geata/Tokens", name := "isWordPart", desc := "(C)Z" } : Jvm.MethodName) prog_57_method_24_code (1 : Nat) (Option.some Jvm.ClassFile.FieldType.boolean), Jvm.Cond.code ({ cls := "com/example/geata/geata/Tokens", name := "isWordStart", desc := "(C)Z" } : Jvm.MethodName) prog_57_method_23_code (1 : Nat) (Option.some Jvm.ClassFile.FieldType.boolean), Jvm.Cond.code ({ cls := "com/example/geata/geata/Tokens", name := "isDigit", desc := "(C)Z" } : Jvm.MethodName) prog_57_method_25_code (1 : Nat) (Option.some Jvm.ClassFile.FieldType.boolean)]
set_option maxRecDepth 65536 in
theorem codes_eq : words1.filter isCode = codes1 := rfl
theorem w_codes : ∀ c ∈ words1.filter isCode, c.before args0 about1 = true := by
  rw [codes_eq]
  intro c hc
  simp only [codes1, List.mem_cons, List.not_mem_nil, or_false] at hc
  rcases hc with rfl | rfl | rfl | rfl
  · exact w_c0
  · exact w_c1
  · exact w_c2
  · exact w_c3
set_option maxRecDepth 65536 in
theorem w_t1 : words1.all (fun c => isCode c || c.before args0 about1) = true := by decide +kernel
theorem w_tables : (allAtoms (Jvm.Cond.code x code maxLocals ret :: tables_1)).before args0 about1 = true := by
  rw [allAtoms_all]
  show words1.all (fun c => c.before args0 about1) = true
  refine all_split ?_ w_codes
  rw [w_t1]
set_option maxRecDepth 65536 in
theorem w_case : (Jvm.Cond.and given_1 narrow_1).before args0 about1 = true := by decide +kernel
theorem w_applies : (headSpec (Jvm.Cond.code x code maxLocals ret :: tables_1) room_1).applies x e0.platform about1 = true :=
  (Spec.applies_iff w_frames).mpr ⟨w_running, w_runnable, w_alone, w_named, w_hears, w_ripe, w_room, w_tables⟩
theorem atStart : AtStart classFile x code maxLocals ret World_1 tables_1 room_1 Calls_1 rest_1 Pre_1 launch0 p0 e0 about1 theMethod args0 below0 :=
  ⟨lists_1, trivial, launch0.admits_env _ _ _, launch0.least_env, fairChoices_fair.cas, fairChoices_fair.clock, w_frames, w_args, w_heap, w_applies, trivial, trivial, w_case⟩
end start1
theorem witness_1 : WitnessClaimed_1 := ⟨start1.p0, start1.e0, start1.about1, start1.theMethod, start1.args0, start1.below0, start1.atStart⟩
end Jvm.Pilot.@@N@@
