import JvmDerived
import JvmDerived.Pilot.@@N@@Statement
import JvmDerived.Pilot.@@N@@Code
set_option linter.unusedVariables false
set_option linter.unusedSimpArgs false
namespace Jvm.Pilot.@@N@@
open Jvm Jvm.ClassFile Sem Op Lib Jvm.Free Jvm.Stand Jvm.LawKit Jvm.RoadKit Bundle Jvm.Pilot.@@N@@.Jvm.D
section Own
variable {p : Program} {l : Launch} {e : Env} {R : Room} {s : State} {m : MethodId} {args : Array Value} {below : List Frame} {meth : Method} {c : Code} {T : State} {locs : List Loc} {cells slots : Nat} {Z : State} {a0 : Array Value} {h h' : Heap} {Q : Option Value → Heap → List Loc → Prop} {kc ks n0 : Nat}
/-- from the state st the invocation ends as the contract asks -/
def Gl (p : Program) (e : Env) (below : List Frame) (s : State) (Q : Option Value → Heap → List Loc → Prop) (kc ks : Nat) (st : State) : Prop :=
  ∃ s₂ o, Steps p.tables e below st s₂ ∧ s₂.status = .running ∧ Ended s₂ below o ∧ ∃ v L, o = .returned v ∧ Q v s₂.heap L ∧ FrameEnd s o s₂ L kc ks
theorem Gl.st {a b : State} (h : ∀ t, Steps p.tables e below b t → Steps p.tables e below a t) (H : Gl p e below s Q kc ks b) : Gl p e below s Q kc ks a := by
  obtain ⟨s₂, o, h1, r⟩ := H
  exact ⟨s₂, o, h _ h1, r⟩
theorem Gl.cast {g g' : JFrame} (q : g = g') (H : Gl p e below s Q kc ks (T.setTop g')) : Gl p e below s Q kc ks (T.setTop g) := q ▸ H
theorem Gl.ret (X : Stand p l e R s m args below meth c T locs cells slots) {v : Option Value} (hv : meth.sig.returnType = none → v = none) (hlk : meth.locks = false) {g : State}
    (hst : ∀ fs, (∀ (f : JFrame) (acts : List Action), f.method = m → f.locked = none → f.entered = [] → (doReturn e (T.setTop f) acts v).1 = T.setFrames fs) → Steps p.tables e below g (T.setFrames fs))
    (hQ : Q v T.heap locs) (h1 : cells ≤ kc) (h2 : slots ≤ ks) : Gl p e below s Q kc ks g := by
  obtain ⟨fs, hr, hrun, hended, hW, hsame⟩ := X.leave (v := v) hv hlk
  exact ⟨_, _, hst fs hr, hrun, hended, _, _, rfl, hQ, ⟨_, rfl⟩, hW, hsame.mono h1 h2⟩
theorem Gl.retN (X : Stand p l e R s m args below meth c T locs cells slots) (hx : p.tables.exec = Jvm.exec) {pc : Nat} {Ls : Array Slot} {z : Int32} {t : FieldType} {rest : List Value} (hret : meth.sig.returnType = some t) (ht : t = .boolean ∨ t = .byte ∨ t = .char ∨ t = .short)
    (hd : decode c.code pc = .ok (.ireturn, 1)) (hlk : meth.locks = false) (h1 : cells ≤ kc) (h2 : slots ≤ ks) (hQ : Q (some (.int (nar t z))) T.heap locs) : Gl p e below s Q kc ks (T.setTop (mkF m pc Ls (.int z :: rest))) :=
  Gl.ret X (fun q => by rw [hret] at q; cases q) hlk (fun _ hr => Jvm.RoadKit.retN X hx hret ht hd hr) hQ h1 h2
theorem Gl.retI (X : Stand p l e R s m args below meth c T locs cells slots) (hx : p.tables.exec = Jvm.exec) {pc : Nat} {Ls : Array Slot} {z : Int32} {rest : List Value} (hret : meth.sig.returnType = some .int)
    (hd : decode c.code pc = .ok (.ireturn, 1)) (hlk : meth.locks = false) (h1 : cells ≤ kc) (h2 : slots ≤ ks) (hQ : Q (some (.int z)) T.heap locs) : Gl p e below s Q kc ks (T.setTop (mkF m pc Ls (.int z :: rest))) :=
  Gl.ret X (fun q => by rw [hret] at q; cases q) hlk (fun _ hr => retOut X hx hret rfl (Or.inl ⟨rfl, Or.inl rfl, _, rfl⟩) hd hr) hQ h1 h2
theorem Gl.retJ (X : Stand p l e R s m args below meth c T locs cells slots) (hx : p.tables.exec = Jvm.exec) {pc : Nat} {Ls : Array Slot} {z : Int64} {rest : List Value} (hret : meth.sig.returnType = some .long)
    (hd : decode c.code pc = .ok (.lreturn, 1)) (hlk : meth.locks = false) (h1 : cells ≤ kc) (h2 : slots ≤ ks) (hQ : Q (some (.long z)) T.heap locs) : Gl p e below s Q kc ks (T.setTop (mkF m pc Ls (.long z :: rest))) :=
  Gl.ret X (fun q => by rw [hret] at q; cases q) hlk (fun _ hr => retOut X hx hret rfl (Or.inr (Or.inl ⟨rfl, rfl, _, rfl⟩)) hd hr) hQ h1 h2
theorem Gl.retA (X : Stand p l e R s m args below meth c T locs cells slots) (hx : p.tables.exec = Jvm.exec) {pc : Nat} {Ls : Array Slot} {z : Addr} {t : FieldType} {rest : List Value} (hret : meth.sig.returnType = some (.array t))
    (hd : decode c.code pc = .ok (.areturn, 1)) (hlk : meth.locks = false) (h1 : cells ≤ kc) (h2 : slots ≤ ks) (hQ : Q (some (.ref z)) T.heap locs) : Gl p e below s Q kc ks (T.setTop (mkF m pc Ls (.ref z :: rest))) :=
  Gl.ret X (fun q => by rw [hret] at q; cases q) hlk (fun _ hr => retOut X hx hret rfl (Or.inr (Or.inr (Or.inr (Or.inr ⟨rfl, rfl, rfl⟩)))) hd hr) hQ h1 h2
theorem Gl.retV (X : Stand p l e R s m args below meth c T locs cells slots) (hx : p.tables.exec = Jvm.exec) {pc : Nat} {Ls : Array Slot} (hret : meth.sig.returnType = none)
    (hd : decode c.code pc = .ok (.return_, 1)) (hlk : meth.locks = false) (h1 : cells ≤ kc) (h2 : slots ≤ ks) (hQ : Q none T.heap locs) : Gl p e below s Q kc ks (T.setTop (mkF m pc Ls [])) :=
  Gl.ret X (fun _ => rfl) hlk (fun _ hr => X.returnOut hx hret hd hr) hQ h1 h2
/-- what a body that changes nothing leaves: the value w, the heap as it was -/
def QP (n0 : Nat) (h0 : Heap) (w : Value) (v : Option Value) (h : Heap) (L : List Loc) : Prop := v = some w ∧ Fr n0 L ∧ h = h0
/-- a static call by its contract -/
theorem Gl.callS (X : Stand p l e R s m args below meth c T locs cells slots) (hx : p.tables.exec = Jvm.exec) (hZ : Z.Warmed39 s.vm) {own : String} {index : Nat} {y : MethodName} {bytes : ByteArray} {maxL : Nat} {ret : Option FieldType} {rm : Room} {W : Nat} {as' : Array Value} {Qc : Option Value → Heap → List Loc → Prop}
    (hown : s.vm.findClass own = some m.cls) (w1 : (Cond.methodLink own index y).before a0 Z = true) (w2 : (Cond.static y).before a0 Z = true) (w3 : (Cond.initialized y.cls).before a0 Z = true) (w4 : (Cond.code y bytes maxL ret).before a0 Z = true)
    (hy : y.cls ≠ "java/lang/invoke/MethodHandle" ∧ y.cls ≠ "java/lang/invoke/VarHandle")
    (hM : MetFree l y (head1 [Cond.code y bytes maxL ret] rm) (fun a U => a = as' ∧ Z.Warmed39 U.vm ∧ U.heap = h) (fun _ _ _ _ _ => True) (fun _ U o U' => ∃ v L, o = .returned v ∧ Qc v U'.heap L ∧ FrameEnd U o U' L rm.cells rm.slots))
    (hf : rm.frames + 1 ≤ R.frames) (hl : W + (maxL + 11) + rm.locals ≤ R.locals) (eT : T.heap = h) (hc1 : cells + rm.cells ≤ R.cells) (hs1 : slots + rm.slots ≤ R.slots)
    {pc : Nat} {Ls : Array Slot} {stk argsL rest : List Value} (hsz : Ls.size = c.maxLocals) (hlen : ∀ sig, parseMethodDescriptor y.desc = some sig → argsL.length = sig.parameters.length) (hstk : stk = argsL.reverse ++ rest) (has : argsL.toArray = as')
    (hW : (rest.map fun v => v.category).sum ≤ W) (hd : decode c.code pc = .ok (.invokestatic index, 3))
    (K : ∀ (T' : State) (v : Option Value) (L : List Loc), Stand p l e R s m args below meth c T' (locs ++ L) (cells + rm.cells) (slots + rm.slots) → Qc v T'.heap L → Gl p e below s Q kc ks (T'.setTop (mkF m (pc + 3) Ls (v.toList ++ rest)))) :
    Gl p e below s Q kc ks (T.setTop (mkF m pc Ls stk)) := by
  obtain ⟨v, _, ⟨T', L', k', n'⟩, -, X', ⟨Lc, hQ, l1, y1, z1⟩, st⟩ := Jvm.LawKit.callS X hx (y := y) hown (mvT hZ w1) (mvT hZ w2) (mvT hZ w3) (mvT hZ w4) hy (backOf (W := W) hM hZ w4 w3 hf hl) (g := mkF m pc Ls stk) rfl hsz (argsL := argsL) (rest := rest) hlen hstk
    (by show 2 * 0 + _ ≤ _; rw [Nat.mul_zero, Nat.zero_add]; exact hW) hd (fun _ _ => ⟨has, eT, hc1, hs1⟩)
  dsimp only [Pt.U, Pt.locs, Pt.cells, Pt.slots] at X' l1 y1 z1 st hQ
  subst l1 y1 z1
  exact Gl.st (fun t k => st t k) (K T' v Lc X' hQ)
/-- a static call of a body that changes nothing -/
theorem Gl.callP (X : Stand p l e R s m args below meth c T locs cells slots) (hx : p.tables.exec = Jvm.exec) (hZ : Z.Warmed39 s.vm) {own : String} {index : Nat} {y : MethodName} {bytes : ByteArray} {maxL : Nat} {ret : Option FieldType} {fr lo W : Nat} {as' : Array Value} {w : Value}
    (hown : s.vm.findClass own = some m.cls) (w1 : (Cond.methodLink own index y).before a0 Z = true) (w2 : (Cond.static y).before a0 Z = true) (w3 : (Cond.initialized y.cls).before a0 Z = true) (w4 : (Cond.code y bytes maxL ret).before a0 Z = true)
    (hy : y.cls ≠ "java/lang/invoke/MethodHandle" ∧ y.cls ≠ "java/lang/invoke/VarHandle")
    (hM : MetFree l y (head1 [Cond.code y bytes maxL ret] ⟨fr, 0, 0, lo⟩) (fun a U => a = as' ∧ Z.Warmed39 U.vm ∧ U.heap = h) (fun _ _ _ _ _ => True) (fun _ U o U' => ∃ v L, o = .returned v ∧ QP n0 h w v U'.heap L ∧ FrameEnd U o U' L 0 0))
    (hf : fr + 1 ≤ R.frames) (hl : W + (maxL + 11) + lo ≤ R.locals) (eT : T.heap = h) (N : Fr n0 locs) (hc1 : cells ≤ R.cells) (hs1 : slots ≤ R.slots)
    {pc : Nat} {Ls : Array Slot} {stk argsL rest : List Value} (hsz : Ls.size = c.maxLocals) (hlen : ∀ sig, parseMethodDescriptor y.desc = some sig → argsL.length = sig.parameters.length) (hstk : stk = argsL.reverse ++ rest) (has : argsL.toArray = as')
    (hW : (rest.map fun v => v.category).sum ≤ W) (hd : decode c.code pc = .ok (.invokestatic index, 3))
    (K : ∀ (T' : State) (L : List Loc), Stand p l e R s m args below meth c T' L cells slots → T'.heap = h → Fr n0 L → Gl p e below s Q kc ks (T'.setTop (mkF m (pc + 3) Ls (w :: rest)))) :
    Gl p e below s Q kc ks (T.setTop (mkF m pc Ls stk)) :=
  Gl.callS (rm := ⟨fr, 0, 0, lo⟩) X hx hZ hown w1 w2 w3 w4 hy hM hf hl eT hc1 hs1 hsz hlen hstk has hW hd fun T' v L X' hq => by
    obtain ⟨rfl, N', e'⟩ := hq
    exact K T' _ X' e' (N.app N')
end Own
theorem own_ltI {x y : Int32} : x < y ↔ x.toInt < y.toInt := Int32.lt_iff_toInt_lt
theorem own_eqI {x y : Int32} : x = y ↔ x.toInt = y.toInt := ⟨fun h => h ▸ rfl, fun h => Int32.toInt_inj.mp h⟩
theorem own_ltJ {x y : Int64} : x < y ↔ x.toInt < y.toInt := Int64.lt_iff_toInt_lt
theorem own_eqJ {x y : Int64} : x = y ↔ x.toInt = y.toInt := ⟨fun h => h ▸ rfl, fun h => Int64.toInt_inj.mp h⟩
/-- a truth as the int that a boolean method returns -/
def own_b (b : Bool) : Int32 := if b then 1 else 0
theorem own_b1 {b : Bool} (h : b = true) : some (Value.int (nar .boolean 1)) = some (Value.int (own_b b)) := by subst h; rfl
theorem own_b0 {b : Bool} (h : b = false) : some (Value.int (nar .boolean 0)) = some (Value.int (own_b b)) := by subst h; rfl
theorem own_bn (b : Bool) : nar .boolean (own_b b) = own_b b := by cases b <;> rfl
theorem own_bt {b : Bool} (h : b = true) : ¬ own_b b = 0 := by subst h; decide
theorem own_bf {b : Bool} (h : ¬ b = true) : own_b b = 0 := by cases b with | true => exact absurd rfl h | false => rfl
def QL (n0 : Nat) (v : Option Value) (h : Heap) (L : List Loc) : Prop := v = some (.int 1) ∧ Fr n0 L
theorem own_pn0 : plainName "com/example/headroom/headroom/relay/Pacer" = true := by first | (simp [plainName, overriddenIn]; done) | decide +kernel
theorem own_pd0 : parseMethodDescriptor "(JJ)J" = some ⟨[.long, .long], some .long⟩ := by decide +kernel
theorem own_pd1 : parseMethodDescriptor "(J)J" = some ⟨[.long], some .long⟩ := by decide +kernel
theorem own_pn1 : plainName "com/example/headroom/headroom/relay/PacerWindowForPinLaw" = true := by first | (simp [plainName, overriddenIn]; done) | decide +kernel
def own_max (a b : Int64) : Int64 := if a.toInt < b.toInt then b else a
def own_min (a b : Int64) : Int64 := if b.toInt < a.toInt then b else a
def own_wf (z0 : Int64) : Int64 := if 16384 < z0.toInt then (if z0.toInt < 65536 then (((((131072 : Int64) * z0) / (16384 : Int64)) * z0) / (16384 : Int64)) else (2097152 : Int64)) else (131072 : Int64)
theorem own_key (b : Int64) : own_wf b = ((own_min (own_max b (16384 : Int64)) (65536 : Int64)) * (own_min (own_max b (16384 : Int64)) (65536 : Int64))) / (2048 : Int64) := by
  have k1 : (16384 : Int64).toInt = 16384 := by decide
  have k2 : (65536 : Int64).toInt = 65536 := by decide
  have k3 : (131072 : Int64).toInt = 131072 := by decide
  have k4 : (2048 : Int64).toInt = 2048 := by decide
  by_cases c1 : 16384 < b.toInt
  · by_cases c2 : b.toInt < 65536
    · have e1 : own_max b 16384 = b := by rw [own_max, if_neg (by omega)]
      have e2 : own_min b 65536 = b := by rw [own_min, if_neg (by omega)]
      rw [own_wf, if_pos c1, if_pos c2, e1, e2]
      apply own_eqJ.mpr
      have hb : b.toInt * b.toInt < 65536 * 65536 := Int.mul_lt_mul c2 (Int.le_of_lt c2) (by omega) (by decide)
      have hb0 : 0 ≤ b.toInt * b.toInt := Int.mul_nonneg (by omega) (by omega)
      have m1 : ((131072 : Int64) * b).toInt = 131072 * b.toInt := by
        have := c_lmul (131072 : Int64) b
        have := rng64 ((131072 : Int64) * b)
        rw [k3] at *
        omega
      have d1 : (((131072 : Int64) * b) / 16384).toInt = 8 * b.toInt := by
        have := (c_ldiv ((131072 : Int64) * b) 16384 16384 k1 (by decide)).1 (by omega)
        omega
      have m2 : ((((131072 : Int64) * b) / 16384) * b).toInt = 8 * (b.toInt * b.toInt) := by
        have q := c_lmul (((131072 : Int64) * b) / 16384) b
        have := rng64 ((((131072 : Int64) * b) / 16384) * b)
        rw [d1, Int.mul_assoc] at q
        omega
      have d2 := (c_ldiv ((((131072 : Int64) * b) / 16384) * b) 16384 16384 k1 (by decide)).1 (by omega)
      have m3 : (b * b).toInt = b.toInt * b.toInt := by
        have := c_lmul b b
        have := rng64 (b * b)
        omega
      have d3 := (c_ldiv (b * b) 2048 2048 k4 (by decide)).1 (by omega)
      rw [d2, d3, m2, m3]
      omega
    · have e1 : own_max b 16384 = b := by rw [own_max, if_neg (by omega)]
      have e2 : own_min b 65536 = 65536 ∨ own_min b 65536 = b ∧ b = 65536 := by
        rw [own_min]
        by_cases q : (65536 : Int64).toInt < b.toInt
        · rw [if_pos q]; exact Or.inl rfl
        · rw [if_neg q]; exact Or.inr ⟨rfl, own_eqJ.mpr (by omega)⟩
      rw [own_wf, if_pos c1, if_neg c2, e1]
      rcases e2 with e2 | ⟨e2, e3⟩
      · rw [e2]; decide
      · rw [e2, e3]; decide
  · have e1 : own_max b 16384 = 16384 := by
      rw [own_max]
      by_cases q : b.toInt < (16384 : Int64).toInt
      · rw [if_pos q]
      · rw [if_neg q]; exact own_eqJ.mpr (by omega)
    rw [own_wf, if_neg c1, e1]
    decide

theorem d1_0 : decode jdk_29_method_66_code 0 = .ok (.lload_n 0, 1) := by decide +kernel
theorem d1_1 : decode jdk_29_method_66_code 1 = .ok (.lload_n 2, 1) := by decide +kernel
theorem d1_2 : decode jdk_29_method_66_code 2 = .ok (.lcmp, 1) := by decide +kernel
theorem d1_3 : decode jdk_29_method_66_code 3 = .ok (.ifCond .lt 7, 3) := by decide +kernel
theorem d1_6 : decode jdk_29_method_66_code 6 = .ok (.lload_n 0, 1) := by decide +kernel
theorem d1_7 : decode jdk_29_method_66_code 7 = .ok (.goto 4, 3) := by decide +kernel
theorem d1_10 : decode jdk_29_method_66_code 10 = .ok (.lload_n 2, 1) := by decide +kernel
theorem d1_11 : decode jdk_29_method_66_code 11 = .ok (.lreturn, 1) := by decide +kernel
theorem ef1 (m : MethodId) (z0 : Int64) (z1 : Int64) : entryFrame m #[(.long z0), (.long z1)] 4 = mkF m 0 #[.val (.long z0), .second, .val (.long z1), .second] [] := by first | (simp [entryFrame, mkF, argsToLocals, Value.category]; done) | rfl
set_option maxRecDepth 65536 in
set_option maxHeartbeats 40000000 in
theorem rm1 (l : Launch) (Z : State) (a0 : Array Value) (hw : ∀ d ∈ tables_1, d.before a0 Z = true) (ws : List Jvm.Cond) (z0 : Int64) (z1 : Int64)  (h0 : Heap) (n0 : Nat) (Z0 : n0 ≤ h0.size)  :
    MetFree l (⟨"java/lang/Math", "max", "(JJ)J"⟩ : MethodName) (head1 (Jvm.Cond.code (⟨"java/lang/Math", "max", "(JJ)J"⟩ : MethodName) jdk_29_method_66_code 4 (some .long) :: ws) (⟨0, 0, 0, 0⟩ : Room)) (fun a U => a = #[(.long z0), (.long z1)] ∧ Z.Warmed39 U.vm ∧ U.heap = h0) (fun _ _ _ _ _ => True) (fun _ U o U' => ∃ v L, o = .returned v ∧ QP n0 h0 (.long (own_max z0 z1)) v U'.heap L ∧ FrameEnd U o U' L 0 0) := by
  refine MetFree.of_bodySF (Jvm.Free.JP.mathPlain rfl (by decide +kernel)) hisR ?_
  intro p e s m args below meth c s₁ Bd hml0 hP hK
  obtain ⟨rfl, hZ, hh⟩ := hP
  have hx := Bd.exec
  have hby := Bd.bytes
  have hml : c.maxLocals = 4 := hml0
  have hown : s.vm.findClass "java/lang/Math" = some m.cls := findClass_of_methodNamed Bd.named
  have hnm := (name_of_methodNamed Bd.named Bd.method).1
  have hlk : meth.locks = false := Bd.notSynchronized
  have hret := Bd.returns
  have X0 : Stand p l e (⟨0, 0, 0, 0⟩ : Room) s m #[(.long z0), (.long z1)] below meth c s₁ [] 0 0 := Stand.of_body Bd
  have e0 : s₁.heap = h0 := by rw [← hh, Bd.state]; rfl
  have N0 := Fr.nil n0
  have GOAL : Gl p e below s (QP n0 h0 (.long (own_max z0 z1))) 0 0 (s₁.setTop (entryFrame m #[(.long z0), (.long z1)] 4)) := by
    refine Gl.cast (ef1 m z0 z1) ?_
    refine Gl.st (b := s₁.setTop (mkF m 1 #[.val (.long z0), .second, .val (.long z1), .second] [(.long z0)])) (fun t k => XS.lloadN X0.here hx rfl (hb hby d1_0) rfl k) ?_
    refine Gl.st (b := s₁.setTop (mkF m 2 #[.val (.long z0), .second, .val (.long z1), .second] [(.long z1), (.long z0)])) (fun t k => XS.lloadN X0.here hx rfl (hb hby d1_1) rfl k) ?_
    refine Gl.st (b := s₁.setTop (mkF m 3 #[.val (.long z0), .second, .val (.long z1), .second] [(.int (lcmpW z0 z1))])) (fun t k => XS.lcmp X0.here hx rfl (hb hby d1_2) rfl k) ?_
    by_cases hc3 : z0.toInt < z1.toInt
    · -- hc3 True
      refine Gl.st (b := s₁.setTop (mkF m 10 #[.val (.long z0), .second, .val (.long z1), .second] [])) (fun t k => XS.ifYes X0.here hx rfl (pc0 := 3) (pc' := 10) rfl (hb hby d1_3) rfl ((if0 _ _).trans (tlt (x := (lcmpW z0 z1)) (y := (0 : Int32)) ((lw_lt z0 z1).mpr (own_ltJ.mpr hc3))).1) (by decide) (by decide) k) ?_
      refine Gl.st (b := s₁.setTop (mkF m 11 #[.val (.long z0), .second, .val (.long z1), .second] [(.long z1)])) (fun t k => XS.lloadN X0.here hx rfl (hb hby d1_10) rfl k) ?_
      exact Gl.retJ X0 hx hret (hb hby d1_11) hlk (by decide) (by decide) ⟨by rw [own_max, if_pos hc3], N0, e0⟩
    · -- hc3 False
      refine Gl.st (b := s₁.setTop (mkF m 6 #[.val (.long z0), .second, .val (.long z1), .second] [])) (fun t k => XS.ifNo X0.here hx rfl (hb hby d1_3) rfl ((if0 _ _).trans (flt (x := (lcmpW z0 z1)) (y := (0 : Int32)) (fun q => hc3 (own_ltJ.mp ((lw_lt z0 z1).mp q)))).1) k) ?_
      refine Gl.st (b := s₁.setTop (mkF m 7 #[.val (.long z0), .second, .val (.long z1), .second] [(.long z0)])) (fun t k => XS.lloadN X0.here hx rfl (hb hby d1_6) rfl k) ?_
      refine Gl.st (b := s₁.setTop (mkF m 11 #[.val (.long z0), .second, .val (.long z1), .second] [(.long z0)])) (fun t k => XS.goto X0.here hx rfl (pc0 := 7) (pc' := 11) rfl (hb hby d1_7) (by decide) (by decide) k) ?_
      exact Gl.retJ X0 hx hret (hb hby d1_11) hlk (by decide) (by decide) ⟨by rw [own_max, if_neg hc3], N0, e0⟩
  exact GOAL
theorem d2_0 : decode jdk_29_method_70_code 0 = .ok (.lload_n 0, 1) := by decide +kernel
theorem d2_1 : decode jdk_29_method_70_code 1 = .ok (.lload_n 2, 1) := by decide +kernel
theorem d2_2 : decode jdk_29_method_70_code 2 = .ok (.lcmp, 1) := by decide +kernel
theorem d2_3 : decode jdk_29_method_70_code 3 = .ok (.ifCond .gt 7, 3) := by decide +kernel
theorem d2_6 : decode jdk_29_method_70_code 6 = .ok (.lload_n 0, 1) := by decide +kernel
theorem d2_7 : decode jdk_29_method_70_code 7 = .ok (.goto 4, 3) := by decide +kernel
theorem d2_10 : decode jdk_29_method_70_code 10 = .ok (.lload_n 2, 1) := by decide +kernel
theorem d2_11 : decode jdk_29_method_70_code 11 = .ok (.lreturn, 1) := by decide +kernel
theorem ef2 (m : MethodId) (z0 : Int64) (z1 : Int64) : entryFrame m #[(.long z0), (.long z1)] 4 = mkF m 0 #[.val (.long z0), .second, .val (.long z1), .second] [] := by first | (simp [entryFrame, mkF, argsToLocals, Value.category]; done) | rfl
set_option maxRecDepth 65536 in
set_option maxHeartbeats 40000000 in
theorem rm2 (l : Launch) (Z : State) (a0 : Array Value) (hw : ∀ d ∈ tables_1, d.before a0 Z = true) (ws : List Jvm.Cond) (z0 : Int64) (z1 : Int64)  (h0 : Heap) (n0 : Nat) (Z0 : n0 ≤ h0.size)  :
    MetFree l (⟨"java/lang/Math", "min", "(JJ)J"⟩ : MethodName) (head1 (Jvm.Cond.code (⟨"java/lang/Math", "min", "(JJ)J"⟩ : MethodName) jdk_29_method_70_code 4 (some .long) :: ws) (⟨0, 0, 0, 0⟩ : Room)) (fun a U => a = #[(.long z0), (.long z1)] ∧ Z.Warmed39 U.vm ∧ U.heap = h0) (fun _ _ _ _ _ => True) (fun _ U o U' => ∃ v L, o = .returned v ∧ QP n0 h0 (.long (own_min z0 z1)) v U'.heap L ∧ FrameEnd U o U' L 0 0) := by
  refine MetFree.of_bodySF (Jvm.Free.JP.mathPlain rfl (by decide +kernel)) hisR ?_
  intro p e s m args below meth c s₁ Bd hml0 hP hK
  obtain ⟨rfl, hZ, hh⟩ := hP
  have hx := Bd.exec
  have hby := Bd.bytes
  have hml : c.maxLocals = 4 := hml0
  have hown : s.vm.findClass "java/lang/Math" = some m.cls := findClass_of_methodNamed Bd.named
  have hnm := (name_of_methodNamed Bd.named Bd.method).1
  have hlk : meth.locks = false := Bd.notSynchronized
  have hret := Bd.returns
  have X0 : Stand p l e (⟨0, 0, 0, 0⟩ : Room) s m #[(.long z0), (.long z1)] below meth c s₁ [] 0 0 := Stand.of_body Bd
  have e0 : s₁.heap = h0 := by rw [← hh, Bd.state]; rfl
  have N0 := Fr.nil n0
  have GOAL : Gl p e below s (QP n0 h0 (.long (own_min z0 z1))) 0 0 (s₁.setTop (entryFrame m #[(.long z0), (.long z1)] 4)) := by
    refine Gl.cast (ef2 m z0 z1) ?_
    refine Gl.st (b := s₁.setTop (mkF m 1 #[.val (.long z0), .second, .val (.long z1), .second] [(.long z0)])) (fun t k => XS.lloadN X0.here hx rfl (hb hby d2_0) rfl k) ?_
    refine Gl.st (b := s₁.setTop (mkF m 2 #[.val (.long z0), .second, .val (.long z1), .second] [(.long z1), (.long z0)])) (fun t k => XS.lloadN X0.here hx rfl (hb hby d2_1) rfl k) ?_
    refine Gl.st (b := s₁.setTop (mkF m 3 #[.val (.long z0), .second, .val (.long z1), .second] [(.int (lcmpW z0 z1))])) (fun t k => XS.lcmp X0.here hx rfl (hb hby d2_2) rfl k) ?_
    by_cases hc3 : z1.toInt < z0.toInt
    · -- hc3 True
      refine Gl.st (b := s₁.setTop (mkF m 10 #[.val (.long z0), .second, .val (.long z1), .second] [])) (fun t k => XS.ifYes X0.here hx rfl (pc0 := 3) (pc' := 10) rfl (hb hby d2_3) rfl ((if0 _ _).trans (tlt (x := (0 : Int32)) (y := (lcmpW z0 z1)) ((lw_gt z0 z1).mpr (own_ltJ.mpr hc3))).2.2.1) (by decide) (by decide) k) ?_
      refine Gl.st (b := s₁.setTop (mkF m 11 #[.val (.long z0), .second, .val (.long z1), .second] [(.long z1)])) (fun t k => XS.lloadN X0.here hx rfl (hb hby d2_10) rfl k) ?_
      exact Gl.retJ X0 hx hret (hb hby d2_11) hlk (by decide) (by decide) ⟨by rw [own_min, if_pos hc3], N0, e0⟩
    · -- hc3 False
      refine Gl.st (b := s₁.setTop (mkF m 6 #[.val (.long z0), .second, .val (.long z1), .second] [])) (fun t k => XS.ifNo X0.here hx rfl (hb hby d2_3) rfl ((if0 _ _).trans (flt (x := (0 : Int32)) (y := (lcmpW z0 z1)) (fun q => hc3 (own_ltJ.mp ((lw_gt z0 z1).mp q)))).2.2.1) k) ?_
      refine Gl.st (b := s₁.setTop (mkF m 7 #[.val (.long z0), .second, .val (.long z1), .second] [(.long z0)])) (fun t k => XS.lloadN X0.here hx rfl (hb hby d2_6) rfl k) ?_
      refine Gl.st (b := s₁.setTop (mkF m 11 #[.val (.long z0), .second, .val (.long z1), .second] [(.long z0)])) (fun t k => XS.goto X0.here hx rfl (pc0 := 7) (pc' := 11) rfl (hb hby d2_7) (by decide) (by decide) k) ?_
      exact Gl.retJ X0 hx hret (hb hby d2_11) hlk (by decide) (by decide) ⟨by rw [own_min, if_neg hc3], N0, e0⟩
  exact GOAL
theorem d3_0 : decode prog_65_method_2_code 0 = .ok (.lload_n 0, 1) := by decide +kernel
theorem d3_1 : decode prog_65_method_2_code 1 = .ok (.ldc2_w 40, 3) := by decide +kernel
theorem d3_4 : decode prog_65_method_2_code 4 = .ok (.lcmp, 1) := by decide +kernel
theorem d3_5 : decode prog_65_method_2_code 5 = .ok (.ifCond .gt 7, 3) := by decide +kernel
theorem d3_8 : decode prog_65_method_2_code 8 = .ok (.ldc2_w 13, 3) := by decide +kernel
theorem d3_11 : decode prog_65_method_2_code 11 = .ok (.lreturn, 1) := by decide +kernel
theorem d3_12 : decode prog_65_method_2_code 12 = .ok (.lload_n 0, 1) := by decide +kernel
theorem d3_13 : decode prog_65_method_2_code 13 = .ok (.ldc2_w 42, 3) := by decide +kernel
theorem d3_16 : decode prog_65_method_2_code 16 = .ok (.lcmp, 1) := by decide +kernel
theorem d3_17 : decode prog_65_method_2_code 17 = .ok (.ifCond .lt 7, 3) := by decide +kernel
theorem d3_20 : decode prog_65_method_2_code 20 = .ok (.ldc2_w 44, 3) := by decide +kernel
theorem d3_23 : decode prog_65_method_2_code 23 = .ok (.lreturn, 1) := by decide +kernel
theorem d3_24 : decode prog_65_method_2_code 24 = .ok (.ldc2_w 13, 3) := by decide +kernel
theorem d3_27 : decode prog_65_method_2_code 27 = .ok (.lload_n 0, 1) := by decide +kernel
theorem d3_28 : decode prog_65_method_2_code 28 = .ok (.lmul, 1) := by decide +kernel
theorem d3_29 : decode prog_65_method_2_code 29 = .ok (.ldc2_w 40, 3) := by decide +kernel
theorem d3_32 : decode prog_65_method_2_code 32 = .ok (.ldiv, 1) := by decide +kernel
theorem d3_33 : decode prog_65_method_2_code 33 = .ok (.lload_n 0, 1) := by decide +kernel
theorem d3_34 : decode prog_65_method_2_code 34 = .ok (.lmul, 1) := by decide +kernel
theorem d3_35 : decode prog_65_method_2_code 35 = .ok (.ldc2_w 40, 3) := by decide +kernel
theorem d3_38 : decode prog_65_method_2_code 38 = .ok (.ldiv, 1) := by decide +kernel
theorem d3_39 : decode prog_65_method_2_code 39 = .ok (.lreturn, 1) := by decide +kernel
theorem ef3 (m : MethodId) (z0 : Int64) : entryFrame m #[(.long z0)] 2 = mkF m 0 #[.val (.long z0), .second] [] := by first | (simp [entryFrame, mkF, argsToLocals, Value.category]; done) | rfl
set_option maxRecDepth 65536 in
set_option maxHeartbeats 40000000 in
theorem rm3 (l : Launch) (Z : State) (a0 : Array Value) (hw : ∀ d ∈ tables_1, d.before a0 Z = true) (ws : List Jvm.Cond) (z0 : Int64)  (h0 : Heap) (n0 : Nat) (Z0 : n0 ≤ h0.size)  :
    MetFree l (⟨"com/example/headroom/headroom/relay/Pacer", "windowFor", "(J)J"⟩ : MethodName) (head1 (Jvm.Cond.code (⟨"com/example/headroom/headroom/relay/Pacer", "windowFor", "(J)J"⟩ : MethodName) prog_65_method_2_code 2 (some .long) :: ws) (⟨0, 0, 0, 0⟩ : Room)) (fun a U => a = #[(.long z0)] ∧ Z.Warmed39 U.vm ∧ U.heap = h0) (fun _ _ _ _ _ => True) (fun _ U o U' => ∃ v L, o = .returned v ∧ QP n0 h0 (.long (own_wf z0)) v U'.heap L ∧ FrameEnd U o U' L 0 0) := by
  refine MetFree.of_bodySF (plainFor_of_name own_pn0) hisR ?_
  intro p e s m args below meth c s₁ Bd hml0 hP hK
  obtain ⟨rfl, hZ, hh⟩ := hP
  have hx := Bd.exec
  have hby := Bd.bytes
  have hml : c.maxLocals = 2 := hml0
  have hown : s.vm.findClass "com/example/headroom/headroom/relay/Pacer" = some m.cls := findClass_of_methodNamed Bd.named
  have hnm := (name_of_methodNamed Bd.named Bd.method).1
  have hlk : meth.locks = false := Bd.notSynchronized
  have hret := Bd.returns
  have X0 : Stand p l e (⟨0, 0, 0, 0⟩ : Room) s m #[(.long z0)] below meth c s₁ [] 0 0 := Stand.of_body Bd
  have e0 : s₁.heap = h0 := by rw [← hh, Bd.state]; rfl
  have N0 := Fr.nil n0
  have GOAL : Gl p e below s (QP n0 h0 (.long (own_wf z0))) 0 0 (s₁.setTop (entryFrame m #[(.long z0)] 2)) := by
    refine Gl.cast (ef3 m z0) ?_
    refine Gl.st (b := s₁.setTop (mkF m 1 #[.val (.long z0), .second] [(.long z0)])) (fun t k => XS.lloadN X0.here hx rfl (hb hby d3_0) rfl k) ?_
    refine Gl.st (b := s₁.setTop (mkF m 4 #[.val (.long z0), .second] [(.long (16384 : Int64)), (.long z0)])) (fun t k => X0.ldc2Long hx hown (mvT hZ (hw _ (List.mem_of_getElem? (i := 14) rfl))) (g := (mkF m 1 #[.val (.long z0), .second] [(.long z0)])) rfl (hb hby d3_1) t k) ?_
    refine Gl.st (b := s₁.setTop (mkF m 5 #[.val (.long z0), .second] [(.int (lcmpW z0 (16384 : Int64)))])) (fun t k => XS.lcmp X0.here hx rfl (hb hby d3_4) rfl k) ?_
    by_cases hc5 : 16384 < z0.toInt
    · -- hc5 True
      refine Gl.st (b := s₁.setTop (mkF m 12 #[.val (.long z0), .second] [])) (fun t k => XS.ifYes X0.here hx rfl (pc0 := 5) (pc' := 12) rfl (hb hby d3_5) rfl ((if0 _ _).trans (tlt (x := (0 : Int32)) (y := (lcmpW z0 (16384 : Int64))) ((lw_gt z0 (16384 : Int64)).mpr (own_ltJ.mpr hc5))).2.2.1) (by decide) (by decide) k) ?_
      refine Gl.st (b := s₁.setTop (mkF m 13 #[.val (.long z0), .second] [(.long z0)])) (fun t k => XS.lloadN X0.here hx rfl (hb hby d3_12) rfl k) ?_
      refine Gl.st (b := s₁.setTop (mkF m 16 #[.val (.long z0), .second] [(.long (65536 : Int64)), (.long z0)])) (fun t k => X0.ldc2Long hx hown (mvT hZ (hw _ (List.mem_of_getElem? (i := 19) rfl))) (g := (mkF m 13 #[.val (.long z0), .second] [(.long z0)])) rfl (hb hby d3_13) t k) ?_
      refine Gl.st (b := s₁.setTop (mkF m 17 #[.val (.long z0), .second] [(.int (lcmpW z0 (65536 : Int64)))])) (fun t k => XS.lcmp X0.here hx rfl (hb hby d3_16) rfl k) ?_
      by_cases hc17 : z0.toInt < 65536
      · -- hc17 True
        refine Gl.st (b := s₁.setTop (mkF m 24 #[.val (.long z0), .second] [])) (fun t k => XS.ifYes X0.here hx rfl (pc0 := 17) (pc' := 24) rfl (hb hby d3_17) rfl ((if0 _ _).trans (tlt (x := (lcmpW z0 (65536 : Int64))) (y := (0 : Int32)) ((lw_lt z0 (65536 : Int64)).mpr (own_ltJ.mpr hc17))).1) (by decide) (by decide) k) ?_
        refine Gl.st (b := s₁.setTop (mkF m 27 #[.val (.long z0), .second] [(.long (131072 : Int64))])) (fun t k => X0.ldc2Long hx hown (mvT hZ (hw _ (List.mem_of_getElem? (i := 15) rfl))) (g := (mkF m 24 #[.val (.long z0), .second] [])) rfl (hb hby d3_24) t k) ?_
        refine Gl.st (b := s₁.setTop (mkF m 28 #[.val (.long z0), .second] [(.long z0), (.long (131072 : Int64))])) (fun t k => XS.lloadN X0.here hx rfl (hb hby d3_27) rfl k) ?_
        refine Gl.st (b := s₁.setTop (mkF m 29 #[.val (.long z0), .second] [(.long ((131072 : Int64) * z0))])) (fun t k => XS.lmul X0.here hx rfl (hb hby d3_28) rfl k) ?_
        refine Gl.st (b := s₁.setTop (mkF m 32 #[.val (.long z0), .second] [(.long (16384 : Int64)), (.long ((131072 : Int64) * z0))])) (fun t k => X0.ldc2Long hx hown (mvT hZ (hw _ (List.mem_of_getElem? (i := 14) rfl))) (g := (mkF m 29 #[.val (.long z0), .second] [(.long ((131072 : Int64) * z0))])) rfl (hb hby d3_29) t k) ?_
        refine Gl.st (b := s₁.setTop (mkF m 33 #[.val (.long z0), .second] [(.long (((131072 : Int64) * z0) / (16384 : Int64)))])) (fun t k => XS.ldiv X0.here hx rfl (hb hby d3_32) rfl (by decide) k) ?_
        refine Gl.st (b := s₁.setTop (mkF m 34 #[.val (.long z0), .second] [(.long z0), (.long (((131072 : Int64) * z0) / (16384 : Int64)))])) (fun t k => XS.lloadN X0.here hx rfl (hb hby d3_33) rfl k) ?_
        refine Gl.st (b := s₁.setTop (mkF m 35 #[.val (.long z0), .second] [(.long ((((131072 : Int64) * z0) / (16384 : Int64)) * z0))])) (fun t k => XS.lmul X0.here hx rfl (hb hby d3_34) rfl k) ?_
        refine Gl.st (b := s₁.setTop (mkF m 38 #[.val (.long z0), .second] [(.long (16384 : Int64)), (.long ((((131072 : Int64) * z0) / (16384 : Int64)) * z0))])) (fun t k => X0.ldc2Long hx hown (mvT hZ (hw _ (List.mem_of_getElem? (i := 14) rfl))) (g := (mkF m 35 #[.val (.long z0), .second] [(.long ((((131072 : Int64) * z0) / (16384 : Int64)) * z0))])) rfl (hb hby d3_35) t k) ?_
        refine Gl.st (b := s₁.setTop (mkF m 39 #[.val (.long z0), .second] [(.long (((((131072 : Int64) * z0) / (16384 : Int64)) * z0) / (16384 : Int64)))])) (fun t k => XS.ldiv X0.here hx rfl (hb hby d3_38) rfl (by decide) k) ?_
        exact Gl.retJ X0 hx hret (hb hby d3_39) hlk (by decide) (by decide) ⟨by rw [own_wf, if_pos hc5, if_pos hc17], N0, e0⟩
      · -- hc17 False
        refine Gl.st (b := s₁.setTop (mkF m 20 #[.val (.long z0), .second] [])) (fun t k => XS.ifNo X0.here hx rfl (hb hby d3_17) rfl ((if0 _ _).trans (flt (x := (lcmpW z0 (65536 : Int64))) (y := (0 : Int32)) (fun q => hc17 (own_ltJ.mp ((lw_lt z0 (65536 : Int64)).mp q)))).1) k) ?_
        refine Gl.st (b := s₁.setTop (mkF m 23 #[.val (.long z0), .second] [(.long (2097152 : Int64))])) (fun t k => X0.ldc2Long hx hown (mvT hZ (hw _ (List.mem_of_getElem? (i := 20) rfl))) (g := (mkF m 20 #[.val (.long z0), .second] [])) rfl (hb hby d3_20) t k) ?_
        exact Gl.retJ X0 hx hret (hb hby d3_23) hlk (by decide) (by decide) ⟨by rw [own_wf, if_pos hc5, if_neg hc17], N0, e0⟩
    · -- hc5 False
      refine Gl.st (b := s₁.setTop (mkF m 8 #[.val (.long z0), .second] [])) (fun t k => XS.ifNo X0.here hx rfl (hb hby d3_5) rfl ((if0 _ _).trans (flt (x := (0 : Int32)) (y := (lcmpW z0 (16384 : Int64))) (fun q => hc5 (own_ltJ.mp ((lw_gt z0 (16384 : Int64)).mp q)))).2.2.1) k) ?_
      refine Gl.st (b := s₁.setTop (mkF m 11 #[.val (.long z0), .second] [(.long (131072 : Int64))])) (fun t k => X0.ldc2Long hx hown (mvT hZ (hw _ (List.mem_of_getElem? (i := 15) rfl))) (g := (mkF m 8 #[.val (.long z0), .second] [])) rfl (hb hby d3_8) t k) ?_
      exact Gl.retJ X0 hx hret (hb hby d3_11) hlk (by decide) (by decide) ⟨by rw [own_wf, if_neg hc5], N0, e0⟩
  exact GOAL
theorem ef0 (m : MethodId) (z0 : Int64) (z1 : Int32) : entryFrame m #[(.long z0), (.int z1)] maxLocals = mkF m 0 #[.val (.long z0), .second, .val (.int z1), .unset, .unset, .unset, .unset, .unset, .unset] [] := by first | (simp [entryFrame, mkF, argsToLocals, Value.category, maxLocals]; done) | rfl
set_option maxRecDepth 65536 in
set_option maxHeartbeats 40000000 in
theorem rm0 (l : Launch) (Z : State) (a0 : Array Value) (hw : ∀ d ∈ tables_1, d.before a0 Z = true) (ws : List Jvm.Cond) (z0 : Int64) (z1 : Int32)  (h0 : Heap) (n0 : Nat) (Z0 : n0 ≤ h0.size)  :
    MetFree l x (head1 (Jvm.Cond.code x code maxLocals ret :: ws) room_1) (fun a U => a = #[(.long z0), (.int z1)] ∧ Z.Warmed39 U.vm ∧ U.heap = h0) (fun _ _ _ _ _ => True) (fun _ U o U' => ∃ v L, o = .returned v ∧ QL n0 v U'.heap L ∧ FrameEnd U o U' L 0 0) := by
  refine MetFree.of_bodySF (plainFor_of_name own_pn1) hisR ?_
  intro p e s m args below meth c s₁ Bd hml0 hP hK
  obtain ⟨rfl, hZ, hh⟩ := hP
  have hx := Bd.exec
  have hby := Bd.bytes
  have hml : c.maxLocals = 9 := hml0
  have hown : s.vm.findClass "com/example/headroom/headroom/relay/PacerWindowForPinLaw" = some m.cls := findClass_of_methodNamed Bd.named
  have hnm := (name_of_methodNamed Bd.named Bd.method).1
  have hlk : meth.locks = false := Bd.notSynchronized
  have hret := Bd.returns
  have X0 : Stand p l e room_1 s m #[(.long z0), (.int z1)] below meth c s₁ [] 0 0 := Stand.of_body Bd
  have e0 : s₁.heap = h0 := by rw [← hh, Bd.state]; rfl
  have N0 := Fr.nil n0
  have GOAL : Gl p e below s (QL n0) 0 0 (s₁.setTop (entryFrame m #[(.long z0), (.int z1)] maxLocals)) := by
    refine Gl.cast (ef0 m z0 z1) ?_
    refine Gl.st (b := s₁.setTop (mkF m 1 #[.val (.long z0), .second, .val (.int z1), .unset, .unset, .unset, .unset, .unset, .unset] [(.int z1)])) (fun t k => XS.iloadN X0.here hx rfl (hb hby at_0) rfl k) ?_
    refine Gl.st (b := s₁.setTop (mkF m 2 #[.val (.long z0), .second, .val (.int z1), .unset, .unset, .unset, .unset, .unset, .unset] [(.int (1 : Int32)), (.int z1)])) (fun t k => XS.iconst X0.here hx rfl (hb hby at_1) k) ?_
    refine Gl.st (b := s₁.setTop (mkF m 3 #[.val (.long z0), .second, .val (.int z1), .unset, .unset, .unset, .unset, .unset, .unset] [(.int (z1 &&& (1 : Int32)))])) (fun t k => XS.iand X0.here hx rfl (hb hby at_2) rfl k) ?_
    by_cases hc3 : (z1 &&& (1 : Int32)).toInt = 0
    · -- hc3 True
      refine Gl.st (b := s₁.setTop (mkF m 6 #[.val (.long z0), .second, .val (.int z1), .unset, .unset, .unset, .unset, .unset, .unset] [])) (fun t k => XS.ifNo X0.here hx rfl (hb hby at_3) rfl ((if0 _ _).trans (teq (x := (z1 &&& (1 : Int32))) (y := (0 : Int32)) (own_eqI.mpr hc3)).2) k) ?_
      refine Gl.st (b := s₁.setTop (mkF m 7 #[.val (.long z0), .second, .val (.int z1), .unset, .unset, .unset, .unset, .unset, .unset] [(.long z0)])) (fun t k => XS.lloadN X0.here hx rfl (hb hby at_6) rfl k) ?_
      refine Gl.st (b := s₁.setTop (mkF m 8 #[.val (.long z0), .second, .val (.int z1), .val (.long z0), .second, .unset, .unset, .unset, .unset] [])) (fun t k => XS.lstoreN X0.here hx rfl (hb hby at_7) rfl (l' := #[.val (.long z0), .second, .val (.int z1), .val (.long z0), .second, .unset, .unset, .unset, .unset]) rfl k) ?_
      refine Gl.st (b := s₁.setTop (mkF m 25 #[.val (.long z0), .second, .val (.int z1), .val (.long z0), .second, .unset, .unset, .unset, .unset] [])) (fun t k => XS.goto X0.here hx rfl (pc0 := 8) (pc' := 25) rfl (hb hby at_8) (by decide) (by decide) k) ?_
      refine Gl.st (b := s₁.setTop (mkF m 26 #[.val (.long z0), .second, .val (.int z1), .val (.long z0), .second, .unset, .unset, .unset, .unset] [(.long z0)])) (fun t k => XS.lloadN X0.here hx rfl (hb hby at_25) rfl k) ?_
      refine Gl.st (b := s₁.setTop (mkF m 29 #[.val (.long z0), .second, .val (.int z1), .val (.long z0), .second, .unset, .unset, .unset, .unset] [(.long (16384 : Int64)), (.long z0)])) (fun t k => X0.ldc2Long hx hown (mvT hZ (hw _ (List.mem_of_getElem? (i := 0) rfl))) (g := (mkF m 26 #[.val (.long z0), .second, .val (.int z1), .val (.long z0), .second, .unset, .unset, .unset, .unset] [(.long z0)])) rfl (hb hby at_26) t k) ?_
      refine Gl.callP (W := 0) (argsL := [(.long z0), (.long (16384 : Int64))]) (rest := []) (w := (.long (own_max z0 (16384 : Int64)))) X0 hx hZ hown (hw _ (List.mem_of_getElem? (i := 1) rfl)) (hw _ (List.mem_of_getElem? (i := 2) rfl)) (hw _ (List.mem_of_getElem? (i := 3) rfl)) (hw _ (List.mem_of_getElem? (i := 4) rfl)) (by decide) (rm1 l Z a0 hw [] z0 (16384 : Int64) h0 n0 Z0) (by decide) (by decide) e0 N0 (by decide) (by decide) (by rw [hml]; rfl) (lenOf own_pd0 rfl) rfl rfl (Nat.le_of_eq rfl) (hb hby at_29) ?_
      intro T1 L1 X1 e1 N1
      show Gl _ _ _ _ _ _ _ (T1.setTop (mkF m 32 #[.val (.long z0), .second, .val (.int z1), .val (.long z0), .second, .unset, .unset, .unset, .unset] [(.long (own_max z0 (16384 : Int64)))]))
      refine Gl.st (b := T1.setTop (mkF m 35 #[.val (.long z0), .second, .val (.int z1), .val (.long z0), .second, .unset, .unset, .unset, .unset] [(.long (65536 : Int64)), (.long (own_max z0 (16384 : Int64)))])) (fun t k => X1.ldc2Long hx hown (mvT hZ (hw _ (List.mem_of_getElem? (i := 5) rfl))) (g := (mkF m 32 #[.val (.long z0), .second, .val (.int z1), .val (.long z0), .second, .unset, .unset, .unset, .unset] [(.long (own_max z0 (16384 : Int64)))])) rfl (hb hby at_32) t k) ?_
      refine Gl.callP (W := 0) (argsL := [(.long (own_max z0 (16384 : Int64))), (.long (65536 : Int64))]) (rest := []) (w := (.long (own_min (own_max z0 (16384 : Int64)) (65536 : Int64)))) X1 hx hZ hown (hw _ (List.mem_of_getElem? (i := 6) rfl)) (hw _ (List.mem_of_getElem? (i := 7) rfl)) (hw _ (List.mem_of_getElem? (i := 3) rfl)) (hw _ (List.mem_of_getElem? (i := 8) rfl)) (by decide) (rm2 l Z a0 hw [] (own_max z0 (16384 : Int64)) (65536 : Int64) h0 n0 Z0) (by decide) (by decide) e1 N1 (by decide) (by decide) (by rw [hml]; rfl) (lenOf own_pd0 rfl) rfl rfl (Nat.le_of_eq rfl) (hb hby at_35) ?_
      intro T2 L2 X2 e2 N2
      show Gl _ _ _ _ _ _ _ (T2.setTop (mkF m 38 #[.val (.long z0), .second, .val (.int z1), .val (.long z0), .second, .unset, .unset, .unset, .unset] [(.long (own_min (own_max z0 (16384 : Int64)) (65536 : Int64)))]))
      refine Gl.st (b := T2.setTop (mkF m 40 #[.val (.long z0), .second, .val (.int z1), .val (.long z0), .second, .val (.long (own_min (own_max z0 (16384 : Int64)) (65536 : Int64))), .second, .unset, .unset] [])) (fun t k => XS.lstore X2.here hx rfl (hb hby at_38) rfl (l' := #[.val (.long z0), .second, .val (.int z1), .val (.long z0), .second, .val (.long (own_min (own_max z0 (16384 : Int64)) (65536 : Int64))), .second, .unset, .unset]) rfl k) ?_
      refine Gl.st (b := T2.setTop (mkF m 42 #[.val (.long z0), .second, .val (.int z1), .val (.long z0), .second, .val (.long (own_min (own_max z0 (16384 : Int64)) (65536 : Int64))), .second, .unset, .unset] [(.long (own_min (own_max z0 (16384 : Int64)) (65536 : Int64)))])) (fun t k => XS.lload X2.here hx rfl (hb hby at_40) rfl k) ?_
      refine Gl.st (b := T2.setTop (mkF m 44 #[.val (.long z0), .second, .val (.int z1), .val (.long z0), .second, .val (.long (own_min (own_max z0 (16384 : Int64)) (65536 : Int64))), .second, .unset, .unset] [(.long (own_min (own_max z0 (16384 : Int64)) (65536 : Int64))), (.long (own_min (own_max z0 (16384 : Int64)) (65536 : Int64)))])) (fun t k => XS.lload X2.here hx rfl (hb hby at_42) rfl k) ?_
      refine Gl.st (b := T2.setTop (mkF m 45 #[.val (.long z0), .second, .val (.int z1), .val (.long z0), .second, .val (.long (own_min (own_max z0 (16384 : Int64)) (65536 : Int64))), .second, .unset, .unset] [(.long ((own_min (own_max z0 (16384 : Int64)) (65536 : Int64)) * (own_min (own_max z0 (16384 : Int64)) (65536 : Int64))))])) (fun t k => XS.lmul X2.here hx rfl (hb hby at_44) rfl k) ?_
      refine Gl.st (b := T2.setTop (mkF m 48 #[.val (.long z0), .second, .val (.int z1), .val (.long z0), .second, .val (.long (own_min (own_max z0 (16384 : Int64)) (65536 : Int64))), .second, .unset, .unset] [(.long (2048 : Int64)), (.long ((own_min (own_max z0 (16384 : Int64)) (65536 : Int64)) * (own_min (own_max z0 (16384 : Int64)) (65536 : Int64))))])) (fun t k => X2.ldc2Long hx hown (mvT hZ (hw _ (List.mem_of_getElem? (i := 9) rfl))) (g := (mkF m 45 #[.val (.long z0), .second, .val (.int z1), .val (.long z0), .second, .val (.long (own_min (own_max z0 (16384 : Int64)) (65536 : Int64))), .second, .unset, .unset] [(.long ((own_min (own_max z0 (16384 : Int64)) (65536 : Int64)) * (own_min (own_max z0 (16384 : Int64)) (65536 : Int64))))])) rfl (hb hby at_45) t k) ?_
      refine Gl.st (b := T2.setTop (mkF m 49 #[.val (.long z0), .second, .val (.int z1), .val (.long z0), .second, .val (.long (own_min (own_max z0 (16384 : Int64)) (65536 : Int64))), .second, .unset, .unset] [(.long (((own_min (own_max z0 (16384 : Int64)) (65536 : Int64)) * (own_min (own_max z0 (16384 : Int64)) (65536 : Int64))) / (2048 : Int64)))])) (fun t k => XS.ldiv X2.here hx rfl (hb hby at_48) rfl (by decide) k) ?_
      refine Gl.st (b := T2.setTop (mkF m 51 #[.val (.long z0), .second, .val (.int z1), .val (.long z0), .second, .val (.long (own_min (own_max z0 (16384 : Int64)) (65536 : Int64))), .second, .val (.long (((own_min (own_max z0 (16384 : Int64)) (65536 : Int64)) * (own_min (own_max z0 (16384 : Int64)) (65536 : Int64))) / (2048 : Int64))), .second] [])) (fun t k => XS.lstore X2.here hx rfl (hb hby at_49) rfl (l' := #[.val (.long z0), .second, .val (.int z1), .val (.long z0), .second, .val (.long (own_min (own_max z0 (16384 : Int64)) (65536 : Int64))), .second, .val (.long (((own_min (own_max z0 (16384 : Int64)) (65536 : Int64)) * (own_min (own_max z0 (16384 : Int64)) (65536 : Int64))) / (2048 : Int64))), .second]) rfl k) ?_
      refine Gl.st (b := T2.setTop (mkF m 52 #[.val (.long z0), .second, .val (.int z1), .val (.long z0), .second, .val (.long (own_min (own_max z0 (16384 : Int64)) (65536 : Int64))), .second, .val (.long (((own_min (own_max z0 (16384 : Int64)) (65536 : Int64)) * (own_min (own_max z0 (16384 : Int64)) (65536 : Int64))) / (2048 : Int64))), .second] [(.long z0)])) (fun t k => XS.lloadN X2.here hx rfl (hb hby at_51) rfl k) ?_
      refine Gl.callP (W := 0) (argsL := [(.long z0)]) (rest := []) (w := (.long (own_wf z0))) X2 hx hZ hown (hw _ (List.mem_of_getElem? (i := 10) rfl)) (hw _ (List.mem_of_getElem? (i := 11) rfl)) (hw _ (List.mem_of_getElem? (i := 12) rfl)) (hw _ (List.mem_of_getElem? (i := 13) rfl)) (by decide) (rm3 l Z a0 hw [] z0 h0 n0 Z0) (by decide) (by decide) e2 N2 (by decide) (by decide) (by rw [hml]; rfl) (lenOf own_pd1 rfl) rfl rfl (Nat.le_of_eq rfl) (hb hby at_52) ?_
      intro T3 L3 X3 e3 N3
      show Gl _ _ _ _ _ _ _ (T3.setTop (mkF m 55 #[.val (.long z0), .second, .val (.int z1), .val (.long z0), .second, .val (.long (own_min (own_max z0 (16384 : Int64)) (65536 : Int64))), .second, .val (.long (((own_min (own_max z0 (16384 : Int64)) (65536 : Int64)) * (own_min (own_max z0 (16384 : Int64)) (65536 : Int64))) / (2048 : Int64))), .second] [(.long (own_wf z0))]))
      refine Gl.st (b := T3.setTop (mkF m 57 #[.val (.long z0), .second, .val (.int z1), .val (.long z0), .second, .val (.long (own_min (own_max z0 (16384 : Int64)) (65536 : Int64))), .second, .val (.long (((own_min (own_max z0 (16384 : Int64)) (65536 : Int64)) * (own_min (own_max z0 (16384 : Int64)) (65536 : Int64))) / (2048 : Int64))), .second] [(.long (((own_min (own_max z0 (16384 : Int64)) (65536 : Int64)) * (own_min (own_max z0 (16384 : Int64)) (65536 : Int64))) / (2048 : Int64))), (.long (own_wf z0))])) (fun t k => XS.lload X3.here hx rfl (hb hby at_55) rfl k) ?_
      refine Gl.st (b := T3.setTop (mkF m 58 #[.val (.long z0), .second, .val (.int z1), .val (.long z0), .second, .val (.long (own_min (own_max z0 (16384 : Int64)) (65536 : Int64))), .second, .val (.long (((own_min (own_max z0 (16384 : Int64)) (65536 : Int64)) * (own_min (own_max z0 (16384 : Int64)) (65536 : Int64))) / (2048 : Int64))), .second] [(.int (lcmpW (own_wf z0) (((own_min (own_max z0 (16384 : Int64)) (65536 : Int64)) * (own_min (own_max z0 (16384 : Int64)) (65536 : Int64))) / (2048 : Int64))))])) (fun t k => XS.lcmp X3.here hx rfl (hb hby at_57) rfl k) ?_
      refine Gl.st (b := T3.setTop (mkF m 61 #[.val (.long z0), .second, .val (.int z1), .val (.long z0), .second, .val (.long (own_min (own_max z0 (16384 : Int64)) (65536 : Int64))), .second, .val (.long (((own_min (own_max z0 (16384 : Int64)) (65536 : Int64)) * (own_min (own_max z0 (16384 : Int64)) (65536 : Int64))) / (2048 : Int64))), .second] [])) (fun t k => XS.ifNo X3.here hx rfl (hb hby at_58) rfl ((if0 _ _).trans (teq ((lw_eq _ _).mpr (own_key _))).2) k) ?_
      refine Gl.st (b := T3.setTop (mkF m 62 #[.val (.long z0), .second, .val (.int z1), .val (.long z0), .second, .val (.long (own_min (own_max z0 (16384 : Int64)) (65536 : Int64))), .second, .val (.long (((own_min (own_max z0 (16384 : Int64)) (65536 : Int64)) * (own_min (own_max z0 (16384 : Int64)) (65536 : Int64))) / (2048 : Int64))), .second] [(.int (1 : Int32))])) (fun t k => XS.iconst X3.here hx rfl (hb hby at_61) k) ?_
      refine Gl.st (b := T3.setTop (mkF m 66 #[.val (.long z0), .second, .val (.int z1), .val (.long z0), .second, .val (.long (own_min (own_max z0 (16384 : Int64)) (65536 : Int64))), .second, .val (.long (((own_min (own_max z0 (16384 : Int64)) (65536 : Int64)) * (own_min (own_max z0 (16384 : Int64)) (65536 : Int64))) / (2048 : Int64))), .second] [(.int (1 : Int32))])) (fun t k => XS.goto X3.here hx rfl (pc0 := 62) (pc' := 66) rfl (hb hby at_62) (by decide) (by decide) k) ?_
      exact Gl.retN X3 hx hret (by simp) (hb hby at_66) hlk (by decide) (by decide) ⟨rfl, N3⟩
    · -- hc3 False
      refine Gl.st (b := s₁.setTop (mkF m 11 #[.val (.long z0), .second, .val (.int z1), .unset, .unset, .unset, .unset, .unset, .unset] [])) (fun t k => XS.ifYes X0.here hx rfl (pc0 := 3) (pc' := 11) rfl (hb hby at_3) rfl ((if0 _ _).trans (feq (x := (z1 &&& (1 : Int32))) (y := (0 : Int32)) (fun q => hc3 (own_eqI.mp q))).2) (by decide) (by decide) k) ?_
      refine Gl.st (b := s₁.setTop (mkF m 14 #[.val (.long z0), .second, .val (.int z1), .unset, .unset, .unset, .unset, .unset, .unset] [(.long (16380 : Int64))])) (fun t k => X0.ldc2Long hx hown (mvT hZ (hw _ (List.mem_of_getElem? (i := 16) rfl))) (g := (mkF m 11 #[.val (.long z0), .second, .val (.int z1), .unset, .unset, .unset, .unset, .unset, .unset] [])) rfl (hb hby at_11) t k) ?_
      refine Gl.st (b := s₁.setTop (mkF m 15 #[.val (.long z0), .second, .val (.int z1), .unset, .unset, .unset, .unset, .unset, .unset] [(.long z0), (.long (16380 : Int64))])) (fun t k => XS.lloadN X0.here hx rfl (hb hby at_14) rfl k) ?_
      refine Gl.st (b := s₁.setTop (mkF m 18 #[.val (.long z0), .second, .val (.int z1), .unset, .unset, .unset, .unset, .unset, .unset] [(.long (65535 : Int64)), (.long z0), (.long (16380 : Int64))])) (fun t k => X0.ldc2Long hx hown (mvT hZ (hw _ (List.mem_of_getElem? (i := 17) rfl))) (g := (mkF m 15 #[.val (.long z0), .second, .val (.int z1), .unset, .unset, .unset, .unset, .unset, .unset] [(.long z0), (.long (16380 : Int64))])) rfl (hb hby at_15) t k) ?_
      refine Gl.st (b := s₁.setTop (mkF m 19 #[.val (.long z0), .second, .val (.int z1), .unset, .unset, .unset, .unset, .unset, .unset] [(.long (z0 &&& (65535 : Int64))), (.long (16380 : Int64))])) (fun t k => XS.land X0.here hx rfl (hb hby at_18) rfl k) ?_
      refine Gl.st (b := s₁.setTop (mkF m 22 #[.val (.long z0), .second, .val (.int z1), .unset, .unset, .unset, .unset, .unset, .unset] [(.long (49162 : Int64)), (.long (z0 &&& (65535 : Int64))), (.long (16380 : Int64))])) (fun t k => X0.ldc2Long hx hown (mvT hZ (hw _ (List.mem_of_getElem? (i := 18) rfl))) (g := (mkF m 19 #[.val (.long z0), .second, .val (.int z1), .unset, .unset, .unset, .unset, .unset, .unset] [(.long (z0 &&& (65535 : Int64))), (.long (16380 : Int64))])) rfl (hb hby at_19) t k) ?_
      refine Gl.st (b := s₁.setTop (mkF m 23 #[.val (.long z0), .second, .val (.int z1), .unset, .unset, .unset, .unset, .unset, .unset] [(.long ((z0 &&& (65535 : Int64)) - ((z0 &&& (65535 : Int64)) / (49162 : Int64)) * (49162 : Int64))), (.long (16380 : Int64))])) (fun t k => XS.lrem X0.here hx rfl (hb hby at_22) rfl (by decide) k) ?_
      refine Gl.st (b := s₁.setTop (mkF m 24 #[.val (.long z0), .second, .val (.int z1), .unset, .unset, .unset, .unset, .unset, .unset] [(.long ((16380 : Int64) + ((z0 &&& (65535 : Int64)) - ((z0 &&& (65535 : Int64)) / (49162 : Int64)) * (49162 : Int64))))])) (fun t k => XS.ladd X0.here hx rfl (hb hby at_23) rfl k) ?_
      refine Gl.st (b := s₁.setTop (mkF m 25 #[.val (.long z0), .second, .val (.int z1), .val (.long ((16380 : Int64) + ((z0 &&& (65535 : Int64)) - ((z0 &&& (65535 : Int64)) / (49162 : Int64)) * (49162 : Int64)))), .second, .unset, .unset, .unset, .unset] [])) (fun t k => XS.lstoreN X0.here hx rfl (hb hby at_24) rfl (l' := #[.val (.long z0), .second, .val (.int z1), .val (.long ((16380 : Int64) + ((z0 &&& (65535 : Int64)) - ((z0 &&& (65535 : Int64)) / (49162 : Int64)) * (49162 : Int64)))), .second, .unset, .unset, .unset, .unset]) rfl k) ?_
      refine Gl.st (b := s₁.setTop (mkF m 26 #[.val (.long z0), .second, .val (.int z1), .val (.long ((16380 : Int64) + ((z0 &&& (65535 : Int64)) - ((z0 &&& (65535 : Int64)) / (49162 : Int64)) * (49162 : Int64)))), .second, .unset, .unset, .unset, .unset] [(.long ((16380 : Int64) + ((z0 &&& (65535 : Int64)) - ((z0 &&& (65535 : Int64)) / (49162 : Int64)) * (49162 : Int64))))])) (fun t k => XS.lloadN X0.here hx rfl (hb hby at_25) rfl k) ?_
      refine Gl.st (b := s₁.setTop (mkF m 29 #[.val (.long z0), .second, .val (.int z1), .val (.long ((16380 : Int64) + ((z0 &&& (65535 : Int64)) - ((z0 &&& (65535 : Int64)) / (49162 : Int64)) * (49162 : Int64)))), .second, .unset, .unset, .unset, .unset] [(.long (16384 : Int64)), (.long ((16380 : Int64) + ((z0 &&& (65535 : Int64)) - ((z0 &&& (65535 : Int64)) / (49162 : Int64)) * (49162 : Int64))))])) (fun t k => X0.ldc2Long hx hown (mvT hZ (hw _ (List.mem_of_getElem? (i := 0) rfl))) (g := (mkF m 26 #[.val (.long z0), .second, .val (.int z1), .val (.long ((16380 : Int64) + ((z0 &&& (65535 : Int64)) - ((z0 &&& (65535 : Int64)) / (49162 : Int64)) * (49162 : Int64)))), .second, .unset, .unset, .unset, .unset] [(.long ((16380 : Int64) + ((z0 &&& (65535 : Int64)) - ((z0 &&& (65535 : Int64)) / (49162 : Int64)) * (49162 : Int64))))])) rfl (hb hby at_26) t k) ?_
      refine Gl.callP (W := 0) (argsL := [(.long ((16380 : Int64) + ((z0 &&& (65535 : Int64)) - ((z0 &&& (65535 : Int64)) / (49162 : Int64)) * (49162 : Int64)))), (.long (16384 : Int64))]) (rest := []) (w := (.long (own_max ((16380 : Int64) + ((z0 &&& (65535 : Int64)) - ((z0 &&& (65535 : Int64)) / (49162 : Int64)) * (49162 : Int64))) (16384 : Int64)))) X0 hx hZ hown (hw _ (List.mem_of_getElem? (i := 1) rfl)) (hw _ (List.mem_of_getElem? (i := 2) rfl)) (hw _ (List.mem_of_getElem? (i := 3) rfl)) (hw _ (List.mem_of_getElem? (i := 4) rfl)) (by decide) (rm1 l Z a0 hw [] ((16380 : Int64) + ((z0 &&& (65535 : Int64)) - ((z0 &&& (65535 : Int64)) / (49162 : Int64)) * (49162 : Int64))) (16384 : Int64) h0 n0 Z0) (by decide) (by decide) e0 N0 (by decide) (by decide) (by rw [hml]; rfl) (lenOf own_pd0 rfl) rfl rfl (Nat.le_of_eq rfl) (hb hby at_29) ?_
      intro T4 L4 X4 e4 N4
      show Gl _ _ _ _ _ _ _ (T4.setTop (mkF m 32 #[.val (.long z0), .second, .val (.int z1), .val (.long ((16380 : Int64) + ((z0 &&& (65535 : Int64)) - ((z0 &&& (65535 : Int64)) / (49162 : Int64)) * (49162 : Int64)))), .second, .unset, .unset, .unset, .unset] [(.long (own_max ((16380 : Int64) + ((z0 &&& (65535 : Int64)) - ((z0 &&& (65535 : Int64)) / (49162 : Int64)) * (49162 : Int64))) (16384 : Int64)))]))
      refine Gl.st (b := T4.setTop (mkF m 35 #[.val (.long z0), .second, .val (.int z1), .val (.long ((16380 : Int64) + ((z0 &&& (65535 : Int64)) - ((z0 &&& (65535 : Int64)) / (49162 : Int64)) * (49162 : Int64)))), .second, .unset, .unset, .unset, .unset] [(.long (65536 : Int64)), (.long (own_max ((16380 : Int64) + ((z0 &&& (65535 : Int64)) - ((z0 &&& (65535 : Int64)) / (49162 : Int64)) * (49162 : Int64))) (16384 : Int64)))])) (fun t k => X4.ldc2Long hx hown (mvT hZ (hw _ (List.mem_of_getElem? (i := 5) rfl))) (g := (mkF m 32 #[.val (.long z0), .second, .val (.int z1), .val (.long ((16380 : Int64) + ((z0 &&& (65535 : Int64)) - ((z0 &&& (65535 : Int64)) / (49162 : Int64)) * (49162 : Int64)))), .second, .unset, .unset, .unset, .unset] [(.long (own_max ((16380 : Int64) + ((z0 &&& (65535 : Int64)) - ((z0 &&& (65535 : Int64)) / (49162 : Int64)) * (49162 : Int64))) (16384 : Int64)))])) rfl (hb hby at_32) t k) ?_
      refine Gl.callP (W := 0) (argsL := [(.long (own_max ((16380 : Int64) + ((z0 &&& (65535 : Int64)) - ((z0 &&& (65535 : Int64)) / (49162 : Int64)) * (49162 : Int64))) (16384 : Int64))), (.long (65536 : Int64))]) (rest := []) (w := (.long (own_min (own_max ((16380 : Int64) + ((z0 &&& (65535 : Int64)) - ((z0 &&& (65535 : Int64)) / (49162 : Int64)) * (49162 : Int64))) (16384 : Int64)) (65536 : Int64)))) X4 hx hZ hown (hw _ (List.mem_of_getElem? (i := 6) rfl)) (hw _ (List.mem_of_getElem? (i := 7) rfl)) (hw _ (List.mem_of_getElem? (i := 3) rfl)) (hw _ (List.mem_of_getElem? (i := 8) rfl)) (by decide) (rm2 l Z a0 hw [] (own_max ((16380 : Int64) + ((z0 &&& (65535 : Int64)) - ((z0 &&& (65535 : Int64)) / (49162 : Int64)) * (49162 : Int64))) (16384 : Int64)) (65536 : Int64) h0 n0 Z0) (by decide) (by decide) e4 N4 (by decide) (by decide) (by rw [hml]; rfl) (lenOf own_pd0 rfl) rfl rfl (Nat.le_of_eq rfl) (hb hby at_35) ?_
      intro T5 L5 X5 e5 N5
      show Gl _ _ _ _ _ _ _ (T5.setTop (mkF m 38 #[.val (.long z0), .second, .val (.int z1), .val (.long ((16380 : Int64) + ((z0 &&& (65535 : Int64)) - ((z0 &&& (65535 : Int64)) / (49162 : Int64)) * (49162 : Int64)))), .second, .unset, .unset, .unset, .unset] [(.long (own_min (own_max ((16380 : Int64) + ((z0 &&& (65535 : Int64)) - ((z0 &&& (65535 : Int64)) / (49162 : Int64)) * (49162 : Int64))) (16384 : Int64)) (65536 : Int64)))]))
      refine Gl.st (b := T5.setTop (mkF m 40 #[.val (.long z0), .second, .val (.int z1), .val (.long ((16380 : Int64) + ((z0 &&& (65535 : Int64)) - ((z0 &&& (65535 : Int64)) / (49162 : Int64)) * (49162 : Int64)))), .second, .val (.long (own_min (own_max ((16380 : Int64) + ((z0 &&& (65535 : Int64)) - ((z0 &&& (65535 : Int64)) / (49162 : Int64)) * (49162 : Int64))) (16384 : Int64)) (65536 : Int64))), .second, .unset, .unset] [])) (fun t k => XS.lstore X5.here hx rfl (hb hby at_38) rfl (l' := #[.val (.long z0), .second, .val (.int z1), .val (.long ((16380 : Int64) + ((z0 &&& (65535 : Int64)) - ((z0 &&& (65535 : Int64)) / (49162 : Int64)) * (49162 : Int64)))), .second, .val (.long (own_min (own_max ((16380 : Int64) + ((z0 &&& (65535 : Int64)) - ((z0 &&& (65535 : Int64)) / (49162 : Int64)) * (49162 : Int64))) (16384 : Int64)) (65536 : Int64))), .second, .unset, .unset]) rfl k) ?_
      refine Gl.st (b := T5.setTop (mkF m 42 #[.val (.long z0), .second, .val (.int z1), .val (.long ((16380 : Int64) + ((z0 &&& (65535 : Int64)) - ((z0 &&& (65535 : Int64)) / (49162 : Int64)) * (49162 : Int64)))), .second, .val (.long (own_min (own_max ((16380 : Int64) + ((z0 &&& (65535 : Int64)) - ((z0 &&& (65535 : Int64)) / (49162 : Int64)) * (49162 : Int64))) (16384 : Int64)) (65536 : Int64))), .second, .unset, .unset] [(.long (own_min (own_max ((16380 : Int64) + ((z0 &&& (65535 : Int64)) - ((z0 &&& (65535 : Int64)) / (49162 : Int64)) * (49162 : Int64))) (16384 : Int64)) (65536 : Int64)))])) (fun t k => XS.lload X5.here hx rfl (hb hby at_40) rfl k) ?_
      refine Gl.st (b := T5.setTop (mkF m 44 #[.val (.long z0), .second, .val (.int z1), .val (.long ((16380 : Int64) + ((z0 &&& (65535 : Int64)) - ((z0 &&& (65535 : Int64)) / (49162 : Int64)) * (49162 : Int64)))), .second, .val (.long (own_min (own_max ((16380 : Int64) + ((z0 &&& (65535 : Int64)) - ((z0 &&& (65535 : Int64)) / (49162 : Int64)) * (49162 : Int64))) (16384 : Int64)) (65536 : Int64))), .second, .unset, .unset] [(.long (own_min (own_max ((16380 : Int64) + ((z0 &&& (65535 : Int64)) - ((z0 &&& (65535 : Int64)) / (49162 : Int64)) * (49162 : Int64))) (16384 : Int64)) (65536 : Int64))), (.long (own_min (own_max ((16380 : Int64) + ((z0 &&& (65535 : Int64)) - ((z0 &&& (65535 : Int64)) / (49162 : Int64)) * (49162 : Int64))) (16384 : Int64)) (65536 : Int64)))])) (fun t k => XS.lload X5.here hx rfl (hb hby at_42) rfl k) ?_
      refine Gl.st (b := T5.setTop (mkF m 45 #[.val (.long z0), .second, .val (.int z1), .val (.long ((16380 : Int64) + ((z0 &&& (65535 : Int64)) - ((z0 &&& (65535 : Int64)) / (49162 : Int64)) * (49162 : Int64)))), .second, .val (.long (own_min (own_max ((16380 : Int64) + ((z0 &&& (65535 : Int64)) - ((z0 &&& (65535 : Int64)) / (49162 : Int64)) * (49162 : Int64))) (16384 : Int64)) (65536 : Int64))), .second, .unset, .unset] [(.long ((own_min (own_max ((16380 : Int64) + ((z0 &&& (65535 : Int64)) - ((z0 &&& (65535 : Int64)) / (49162 : Int64)) * (49162 : Int64))) (16384 : Int64)) (65536 : Int64)) * (own_min (own_max ((16380 : Int64) + ((z0 &&& (65535 : Int64)) - ((z0 &&& (65535 : Int64)) / (49162 : Int64)) * (49162 : Int64))) (16384 : Int64)) (65536 : Int64))))])) (fun t k => XS.lmul X5.here hx rfl (hb hby at_44) rfl k) ?_
      refine Gl.st (b := T5.setTop (mkF m 48 #[.val (.long z0), .second, .val (.int z1), .val (.long ((16380 : Int64) + ((z0 &&& (65535 : Int64)) - ((z0 &&& (65535 : Int64)) / (49162 : Int64)) * (49162 : Int64)))), .second, .val (.long (own_min (own_max ((16380 : Int64) + ((z0 &&& (65535 : Int64)) - ((z0 &&& (65535 : Int64)) / (49162 : Int64)) * (49162 : Int64))) (16384 : Int64)) (65536 : Int64))), .second, .unset, .unset] [(.long (2048 : Int64)), (.long ((own_min (own_max ((16380 : Int64) + ((z0 &&& (65535 : Int64)) - ((z0 &&& (65535 : Int64)) / (49162 : Int64)) * (49162 : Int64))) (16384 : Int64)) (65536 : Int64)) * (own_min (own_max ((16380 : Int64) + ((z0 &&& (65535 : Int64)) - ((z0 &&& (65535 : Int64)) / (49162 : Int64)) * (49162 : Int64))) (16384 : Int64)) (65536 : Int64))))])) (fun t k => X5.ldc2Long hx hown (mvT hZ (hw _ (List.mem_of_getElem? (i := 9) rfl))) (g := (mkF m 45 #[.val (.long z0), .second, .val (.int z1), .val (.long ((16380 : Int64) + ((z0 &&& (65535 : Int64)) - ((z0 &&& (65535 : Int64)) / (49162 : Int64)) * (49162 : Int64)))), .second, .val (.long (own_min (own_max ((16380 : Int64) + ((z0 &&& (65535 : Int64)) - ((z0 &&& (65535 : Int64)) / (49162 : Int64)) * (49162 : Int64))) (16384 : Int64)) (65536 : Int64))), .second, .unset, .unset] [(.long ((own_min (own_max ((16380 : Int64) + ((z0 &&& (65535 : Int64)) - ((z0 &&& (65535 : Int64)) / (49162 : Int64)) * (49162 : Int64))) (16384 : Int64)) (65536 : Int64)) * (own_min (own_max ((16380 : Int64) + ((z0 &&& (65535 : Int64)) - ((z0 &&& (65535 : Int64)) / (49162 : Int64)) * (49162 : Int64))) (16384 : Int64)) (65536 : Int64))))])) rfl (hb hby at_45) t k) ?_
      refine Gl.st (b := T5.setTop (mkF m 49 #[.val (.long z0), .second, .val (.int z1), .val (.long ((16380 : Int64) + ((z0 &&& (65535 : Int64)) - ((z0 &&& (65535 : Int64)) / (49162 : Int64)) * (49162 : Int64)))), .second, .val (.long (own_min (own_max ((16380 : Int64) + ((z0 &&& (65535 : Int64)) - ((z0 &&& (65535 : Int64)) / (49162 : Int64)) * (49162 : Int64))) (16384 : Int64)) (65536 : Int64))), .second, .unset, .unset] [(.long (((own_min (own_max ((16380 : Int64) + ((z0 &&& (65535 : Int64)) - ((z0 &&& (65535 : Int64)) / (49162 : Int64)) * (49162 : Int64))) (16384 : Int64)) (65536 : Int64)) * (own_min (own_max ((16380 : Int64) + ((z0 &&& (65535 : Int64)) - ((z0 &&& (65535 : Int64)) / (49162 : Int64)) * (49162 : Int64))) (16384 : Int64)) (65536 : Int64))) / (2048 : Int64)))])) (fun t k => XS.ldiv X5.here hx rfl (hb hby at_48) rfl (by decide) k) ?_
      refine Gl.st (b := T5.setTop (mkF m 51 #[.val (.long z0), .second, .val (.int z1), .val (.long ((16380 : Int64) + ((z0 &&& (65535 : Int64)) - ((z0 &&& (65535 : Int64)) / (49162 : Int64)) * (49162 : Int64)))), .second, .val (.long (own_min (own_max ((16380 : Int64) + ((z0 &&& (65535 : Int64)) - ((z0 &&& (65535 : Int64)) / (49162 : Int64)) * (49162 : Int64))) (16384 : Int64)) (65536 : Int64))), .second, .val (.long (((own_min (own_max ((16380 : Int64) + ((z0 &&& (65535 : Int64)) - ((z0 &&& (65535 : Int64)) / (49162 : Int64)) * (49162 : Int64))) (16384 : Int64)) (65536 : Int64)) * (own_min (own_max ((16380 : Int64) + ((z0 &&& (65535 : Int64)) - ((z0 &&& (65535 : Int64)) / (49162 : Int64)) * (49162 : Int64))) (16384 : Int64)) (65536 : Int64))) / (2048 : Int64))), .second] [])) (fun t k => XS.lstore X5.here hx rfl (hb hby at_49) rfl (l' := #[.val (.long z0), .second, .val (.int z1), .val (.long ((16380 : Int64) + ((z0 &&& (65535 : Int64)) - ((z0 &&& (65535 : Int64)) / (49162 : Int64)) * (49162 : Int64)))), .second, .val (.long (own_min (own_max ((16380 : Int64) + ((z0 &&& (65535 : Int64)) - ((z0 &&& (65535 : Int64)) / (49162 : Int64)) * (49162 : Int64))) (16384 : Int64)) (65536 : Int64))), .second, .val (.long (((own_min (own_max ((16380 : Int64) + ((z0 &&& (65535 : Int64)) - ((z0 &&& (65535 : Int64)) / (49162 : Int64)) * (49162 : Int64))) (16384 : Int64)) (65536 : Int64)) * (own_min (own_max ((16380 : Int64) + ((z0 &&& (65535 : Int64)) - ((z0 &&& (65535 : Int64)) / (49162 : Int64)) * (49162 : Int64))) (16384 : Int64)) (65536 : Int64))) / (2048 : Int64))), .second]) rfl k) ?_
      refine Gl.st (b := T5.setTop (mkF m 52 #[.val (.long z0), .second, .val (.int z1), .val (.long ((16380 : Int64) + ((z0 &&& (65535 : Int64)) - ((z0 &&& (65535 : Int64)) / (49162 : Int64)) * (49162 : Int64)))), .second, .val (.long (own_min (own_max ((16380 : Int64) + ((z0 &&& (65535 : Int64)) - ((z0 &&& (65535 : Int64)) / (49162 : Int64)) * (49162 : Int64))) (16384 : Int64)) (65536 : Int64))), .second, .val (.long (((own_min (own_max ((16380 : Int64) + ((z0 &&& (65535 : Int64)) - ((z0 &&& (65535 : Int64)) / (49162 : Int64)) * (49162 : Int64))) (16384 : Int64)) (65536 : Int64)) * (own_min (own_max ((16380 : Int64) + ((z0 &&& (65535 : Int64)) - ((z0 &&& (65535 : Int64)) / (49162 : Int64)) * (49162 : Int64))) (16384 : Int64)) (65536 : Int64))) / (2048 : Int64))), .second] [(.long ((16380 : Int64) + ((z0 &&& (65535 : Int64)) - ((z0 &&& (65535 : Int64)) / (49162 : Int64)) * (49162 : Int64))))])) (fun t k => XS.lloadN X5.here hx rfl (hb hby at_51) rfl k) ?_
      refine Gl.callP (W := 0) (argsL := [(.long ((16380 : Int64) + ((z0 &&& (65535 : Int64)) - ((z0 &&& (65535 : Int64)) / (49162 : Int64)) * (49162 : Int64))))]) (rest := []) (w := (.long (own_wf ((16380 : Int64) + ((z0 &&& (65535 : Int64)) - ((z0 &&& (65535 : Int64)) / (49162 : Int64)) * (49162 : Int64)))))) X5 hx hZ hown (hw _ (List.mem_of_getElem? (i := 10) rfl)) (hw _ (List.mem_of_getElem? (i := 11) rfl)) (hw _ (List.mem_of_getElem? (i := 12) rfl)) (hw _ (List.mem_of_getElem? (i := 13) rfl)) (by decide) (rm3 l Z a0 hw [] ((16380 : Int64) + ((z0 &&& (65535 : Int64)) - ((z0 &&& (65535 : Int64)) / (49162 : Int64)) * (49162 : Int64))) h0 n0 Z0) (by decide) (by decide) e5 N5 (by decide) (by decide) (by rw [hml]; rfl) (lenOf own_pd1 rfl) rfl rfl (Nat.le_of_eq rfl) (hb hby at_52) ?_
      intro T6 L6 X6 e6 N6
      show Gl _ _ _ _ _ _ _ (T6.setTop (mkF m 55 #[.val (.long z0), .second, .val (.int z1), .val (.long ((16380 : Int64) + ((z0 &&& (65535 : Int64)) - ((z0 &&& (65535 : Int64)) / (49162 : Int64)) * (49162 : Int64)))), .second, .val (.long (own_min (own_max ((16380 : Int64) + ((z0 &&& (65535 : Int64)) - ((z0 &&& (65535 : Int64)) / (49162 : Int64)) * (49162 : Int64))) (16384 : Int64)) (65536 : Int64))), .second, .val (.long (((own_min (own_max ((16380 : Int64) + ((z0 &&& (65535 : Int64)) - ((z0 &&& (65535 : Int64)) / (49162 : Int64)) * (49162 : Int64))) (16384 : Int64)) (65536 : Int64)) * (own_min (own_max ((16380 : Int64) + ((z0 &&& (65535 : Int64)) - ((z0 &&& (65535 : Int64)) / (49162 : Int64)) * (49162 : Int64))) (16384 : Int64)) (65536 : Int64))) / (2048 : Int64))), .second] [(.long (own_wf ((16380 : Int64) + ((z0 &&& (65535 : Int64)) - ((z0 &&& (65535 : Int64)) / (49162 : Int64)) * (49162 : Int64)))))]))
      refine Gl.st (b := T6.setTop (mkF m 57 #[.val (.long z0), .second, .val (.int z1), .val (.long ((16380 : Int64) + ((z0 &&& (65535 : Int64)) - ((z0 &&& (65535 : Int64)) / (49162 : Int64)) * (49162 : Int64)))), .second, .val (.long (own_min (own_max ((16380 : Int64) + ((z0 &&& (65535 : Int64)) - ((z0 &&& (65535 : Int64)) / (49162 : Int64)) * (49162 : Int64))) (16384 : Int64)) (65536 : Int64))), .second, .val (.long (((own_min (own_max ((16380 : Int64) + ((z0 &&& (65535 : Int64)) - ((z0 &&& (65535 : Int64)) / (49162 : Int64)) * (49162 : Int64))) (16384 : Int64)) (65536 : Int64)) * (own_min (own_max ((16380 : Int64) + ((z0 &&& (65535 : Int64)) - ((z0 &&& (65535 : Int64)) / (49162 : Int64)) * (49162 : Int64))) (16384 : Int64)) (65536 : Int64))) / (2048 : Int64))), .second] [(.long (((own_min (own_max ((16380 : Int64) + ((z0 &&& (65535 : Int64)) - ((z0 &&& (65535 : Int64)) / (49162 : Int64)) * (49162 : Int64))) (16384 : Int64)) (65536 : Int64)) * (own_min (own_max ((16380 : Int64) + ((z0 &&& (65535 : Int64)) - ((z0 &&& (65535 : Int64)) / (49162 : Int64)) * (49162 : Int64))) (16384 : Int64)) (65536 : Int64))) / (2048 : Int64))), (.long (own_wf ((16380 : Int64) + ((z0 &&& (65535 : Int64)) - ((z0 &&& (65535 : Int64)) / (49162 : Int64)) * (49162 : Int64)))))])) (fun t k => XS.lload X6.here hx rfl (hb hby at_55) rfl k) ?_
      refine Gl.st (b := T6.setTop (mkF m 58 #[.val (.long z0), .second, .val (.int z1), .val (.long ((16380 : Int64) + ((z0 &&& (65535 : Int64)) - ((z0 &&& (65535 : Int64)) / (49162 : Int64)) * (49162 : Int64)))), .second, .val (.long (own_min (own_max ((16380 : Int64) + ((z0 &&& (65535 : Int64)) - ((z0 &&& (65535 : Int64)) / (49162 : Int64)) * (49162 : Int64))) (16384 : Int64)) (65536 : Int64))), .second, .val (.long (((own_min (own_max ((16380 : Int64) + ((z0 &&& (65535 : Int64)) - ((z0 &&& (65535 : Int64)) / (49162 : Int64)) * (49162 : Int64))) (16384 : Int64)) (65536 : Int64)) * (own_min (own_max ((16380 : Int64) + ((z0 &&& (65535 : Int64)) - ((z0 &&& (65535 : Int64)) / (49162 : Int64)) * (49162 : Int64))) (16384 : Int64)) (65536 : Int64))) / (2048 : Int64))), .second] [(.int (lcmpW (own_wf ((16380 : Int64) + ((z0 &&& (65535 : Int64)) - ((z0 &&& (65535 : Int64)) / (49162 : Int64)) * (49162 : Int64)))) (((own_min (own_max ((16380 : Int64) + ((z0 &&& (65535 : Int64)) - ((z0 &&& (65535 : Int64)) / (49162 : Int64)) * (49162 : Int64))) (16384 : Int64)) (65536 : Int64)) * (own_min (own_max ((16380 : Int64) + ((z0 &&& (65535 : Int64)) - ((z0 &&& (65535 : Int64)) / (49162 : Int64)) * (49162 : Int64))) (16384 : Int64)) (65536 : Int64))) / (2048 : Int64))))])) (fun t k => XS.lcmp X6.here hx rfl (hb hby at_57) rfl k) ?_
      refine Gl.st (b := T6.setTop (mkF m 61 #[.val (.long z0), .second, .val (.int z1), .val (.long ((16380 : Int64) + ((z0 &&& (65535 : Int64)) - ((z0 &&& (65535 : Int64)) / (49162 : Int64)) * (49162 : Int64)))), .second, .val (.long (own_min (own_max ((16380 : Int64) + ((z0 &&& (65535 : Int64)) - ((z0 &&& (65535 : Int64)) / (49162 : Int64)) * (49162 : Int64))) (16384 : Int64)) (65536 : Int64))), .second, .val (.long (((own_min (own_max ((16380 : Int64) + ((z0 &&& (65535 : Int64)) - ((z0 &&& (65535 : Int64)) / (49162 : Int64)) * (49162 : Int64))) (16384 : Int64)) (65536 : Int64)) * (own_min (own_max ((16380 : Int64) + ((z0 &&& (65535 : Int64)) - ((z0 &&& (65535 : Int64)) / (49162 : Int64)) * (49162 : Int64))) (16384 : Int64)) (65536 : Int64))) / (2048 : Int64))), .second] [])) (fun t k => XS.ifNo X6.here hx rfl (hb hby at_58) rfl ((if0 _ _).trans (teq ((lw_eq _ _).mpr (own_key _))).2) k) ?_
      refine Gl.st (b := T6.setTop (mkF m 62 #[.val (.long z0), .second, .val (.int z1), .val (.long ((16380 : Int64) + ((z0 &&& (65535 : Int64)) - ((z0 &&& (65535 : Int64)) / (49162 : Int64)) * (49162 : Int64)))), .second, .val (.long (own_min (own_max ((16380 : Int64) + ((z0 &&& (65535 : Int64)) - ((z0 &&& (65535 : Int64)) / (49162 : Int64)) * (49162 : Int64))) (16384 : Int64)) (65536 : Int64))), .second, .val (.long (((own_min (own_max ((16380 : Int64) + ((z0 &&& (65535 : Int64)) - ((z0 &&& (65535 : Int64)) / (49162 : Int64)) * (49162 : Int64))) (16384 : Int64)) (65536 : Int64)) * (own_min (own_max ((16380 : Int64) + ((z0 &&& (65535 : Int64)) - ((z0 &&& (65535 : Int64)) / (49162 : Int64)) * (49162 : Int64))) (16384 : Int64)) (65536 : Int64))) / (2048 : Int64))), .second] [(.int (1 : Int32))])) (fun t k => XS.iconst X6.here hx rfl (hb hby at_61) k) ?_
      refine Gl.st (b := T6.setTop (mkF m 66 #[.val (.long z0), .second, .val (.int z1), .val (.long ((16380 : Int64) + ((z0 &&& (65535 : Int64)) - ((z0 &&& (65535 : Int64)) / (49162 : Int64)) * (49162 : Int64)))), .second, .val (.long (own_min (own_max ((16380 : Int64) + ((z0 &&& (65535 : Int64)) - ((z0 &&& (65535 : Int64)) / (49162 : Int64)) * (49162 : Int64))) (16384 : Int64)) (65536 : Int64))), .second, .val (.long (((own_min (own_max ((16380 : Int64) + ((z0 &&& (65535 : Int64)) - ((z0 &&& (65535 : Int64)) / (49162 : Int64)) * (49162 : Int64))) (16384 : Int64)) (65536 : Int64)) * (own_min (own_max ((16380 : Int64) + ((z0 &&& (65535 : Int64)) - ((z0 &&& (65535 : Int64)) / (49162 : Int64)) * (49162 : Int64))) (16384 : Int64)) (65536 : Int64))) / (2048 : Int64))), .second] [(.int (1 : Int32))])) (fun t k => XS.goto X6.here hx rfl (pc0 := 62) (pc' := 66) rfl (hb hby at_62) (by decide) (by decide) k) ?_
      exact Gl.retN X6 hx hret (by simp) (hb hby at_66) hlk (by decide) (by decide) ⟨rfl, N6⟩
  exact GOAL
set_option maxRecDepth 65536 in
set_option maxHeartbeats 40000000 in
theorem comes_1 {Post : Tables → Env → Array Value → State → Outcome → State → Prop} (hpost : ∀ tb e args s v u, (limb_1_1.after args s (.returned v) u = true ∧ limb_1_2.after args s (.returned v) u = true ∧ True) → FrameEnd s (.returned v) u (Jvm.fieldLocs frame_1_writes args s ++ Jvm.arrayLocs frame_1_arrays args s ++ Jvm.staticLocs frame_1_statics s) 0 0 → Post tb e args s (.returned v) u) :
    ArmFor flags0 classFile x code maxLocals ret World_1 tables_1 room_1 Calls_1 rest_1 Pre_1 Post := by
  intro l hfl _ _ p e ha hc hk s m args below hf hA hF happ hP
  obtain ⟨hcalls, hrest, hpre⟩ := hP
  obtain ⟨-, -, -, hnamed, -, -, -, hat⟩ := (Spec.applies_iff hf).mp happ
  obtain ⟨hg, hn⟩ := and_e (Cond.before_iff.mp (show (Jvm.Cond.and given_1 narrow_1).before args s = true from hpre))
  obtain ⟨g1, k1⟩ := and_e hg
  obtain ⟨g2, k2⟩ := and_e k1
  obtain ⟨w0, w1, rfl⟩ : ∃ w0 w1 : Value, args = #[w0, w1] := by
    have hs : args.size = 2 := by simpa [Cond.value, given_1] using g1
    obtain ⟨L⟩ := args
    match L, hs with
    | [w0, w1], _ => exact ⟨w0, w1, rfl⟩
  have hw := fun d (hd : d ∈ tables_1) => atoms_spec (ws := Jvm.Cond.code x code maxLocals ret :: tables_1) hat d (List.mem_cons_of_mem _ hd)
  obtain ⟨i0, ei0⟩ := isL_v g2
  obtain rfl : w0 = (.long i0) := Option.some.inj ei0
  obtain ⟨i1, ei1⟩ := is_v k2
  obtain rfl : w1 = (.int i1) := Option.some.inj ei1
  obtain ⟨n, o, h1, h2, h3, _, L, rfl, ⟨rfl, N⟩, hq⟩ := rm0 l s _ hw tables_1 i0 i1 s.heap s.heap.size (Nat.le_refl _)  p e ha hc hk s m _ below hf ((Spec.applies_iff_loose hf).mp happ).1 ⟨rfl, State.Warmed39.refl s, rfl⟩ trivial
  refine ⟨n, _, h1, h2, h3, hpost _ _ _ _ _ _ ⟨Cond.after_iff.mpr rfl, Cond.after_iff.mpr (eq_i res_at (Term.int_eval (1)) rfl), trivial⟩ ⟨hq.1, hq.2.1, (hq.2.2.sift fun y hy => Or.inr (N y hy)).mono (by decide) (by decide)⟩⟩
theorem main_1_1 : Claimed_1_1 := comes_1 fun _ _ _ _ _ _ h hF => ⟨h.1, hF⟩
theorem main_1_2 : Claimed_1_2 := comes_1 fun _ _ _ _ _ _ h hF => ⟨h.2.1, hF⟩

end Jvm.Pilot.@@N@@
namespace Jvm.Pilot.@@N@@
open Jvm Jvm.ClassFile Sem Op Lib Jvm.Free Jvm.Stand Jvm.Pilot.@@N@@.Jvm.D
/-! MADE BY PROGRAM (witnessworld.py) out of the Statement's table words and the real class files: 10 classes; the members and pool entries that the words name. The judged class is class 1, her method 1. -/
namespace start1
open Jvm.ClassFile
def u (s : String) : CpInfo := .utf8 (stringToUtf16 s)
/-- a pool by its gaps: so many unusable entries, then the entry; so many at the end -/
def gap : Nat → List CpInfo → List CpInfo
  | 0, r => r
  | n + 1, r => .unusable :: gap n r
def poolList (es : List (Nat × CpInfo)) (last : Nat) : List CpInfo := es.foldr (fun e r => gap e.1 (e.2 :: r)) (gap last [])
def pool (es : List (Nat × CpInfo)) (last : Nat) : Array CpInfo := ⟨poolList es last⟩
def fileOf (pool : Array CpInfo) (this : Nat) (attrs : Array Attribute := #[]) (ms : Array MethodInfo := #[]) (fl : Nat := 33) (sup : Nat := 0) (ifs : Array Nat := #[]) (fds : Array FieldInfo := #[]) : ClassFile where
  minorVersion := 0
  majorVersion := 65
  constantPool := pool
  accessFlags := fl
  thisClass := this
  superClass := sup
  interfaces := ifs
  fields := fds
  methods := ms
  attributes := attrs
def plain (name : String) (sup : Option ClassId) : Class where
  name := name
  kind := .ordinary
  loader := none
  accessFlags := 33
  super := sup
  interfaces := #[]
  cf := none
  fields := #[]
  methods := #[]
  instanceTypes := #[]
  staticTypes := #[]
  resolved := #[]
  callSites := []
  init := .initialized
  statics := none
  mirror := none

def pool0 : Array CpInfo := pool [(5, u "<init>"), (0, u "()V"), (1, .class_ 10), (1, u "java/lang/Object")] 113

def k0m0 : Method := { name := "<init>", desc := "()V", sig := { parameters := [], returnType := none }, accessFlags := 1, code := none }
/-- java/lang/Object -/
def k0 : Class := { plain "java/lang/Object" none with
  accessFlags := 33
  interfaces := #[]
  cf := some (fileOf pool0 8 #[] #[{ accessFlags := 1, nameIndex := 5, descriptorIndex := 6, attributes := #[] }] 33 0 #[] #[])
  fields := #[]
  methods := #[k0m0]
  instanceTypes := #[]
  staticTypes := #[]
  resolved := Array.replicate 124 none
  statics := none }

def pool1 : Array CpInfo := pool [(2, .class_ 4), (1, u "java/lang/Object"), (0, u "<init>"), (0, u "()V"), (0, .long 16380), (1, .long 65535), (1, .long 49162), (1, .long 16384), (1, .methodref 16 17), (0, .class_ 18), (0, .nameAndType 19 20), (0, u "java/lang/Math"), (0, u "max"), (0, u "(JJ)J"), (0, .long 65536), (1, .methodref 16 24), (0, .nameAndType 25 20), (0, u "min"), (0, .long 2048), (1, .methodref 29 30), (0, .class_ 31), (0, .nameAndType 32 33), (0, u "com/example/headroom/headroom/relay/Pacer"), (0, u "windowFor"), (0, u "(J)J"), (0, .class_ 35), (0, u "com/example/headroom/headroom/relay/PacerWindowForPinLaw"), (2, u "law"), (0, u "(JI)Z")] 3

def k1m0 : Method := { name := "<init>", desc := "()V", sig := { parameters := [], returnType := none }, accessFlags := 1, code := none }
def k1c1 : Code := { maxStack := 6, maxLocals := 9, code := code, exceptionTable := #[], attributes := #[] }
def k1m1 : Method := { name := "law", desc := "(JI)Z", sig := { parameters := [.long, .int], returnType := some .boolean }, accessFlags := 9, code := some k1c1 }
/-- com/example/headroom/headroom/relay/PacerWindowForPinLaw -/
def k1 : Class := { plain "com/example/headroom/headroom/relay/PacerWindowForPinLaw" (some 0) with
  accessFlags := 49
  interfaces := #[]
  cf := some (fileOf pool1 34 #[] #[{ accessFlags := 1, nameIndex := 5, descriptorIndex := 6, attributes := #[] }, { accessFlags := 9, nameIndex := 38, descriptorIndex := 39, attributes := #[] }] 49 2 #[] #[])
  fields := #[]
  methods := #[k1m0, k1m1]
  instanceTypes := #[]
  staticTypes := #[]
  resolved := Array.replicate 43 none
  statics := none }

def pool2 : Array CpInfo := pool [(1, .class_ 2), (0, u "java/lang/Math"), (1, .class_ 6), (1, u "java/lang/Object"), (0, u "<init>"), (0, u "()V"), (89, .class_ 100), (1, u "java/lang/Math$RandomNumberGeneratorHolder"), (20, u "(JJ)J"), (50, u "negativeZeroFloatBits"), (0, u "J"), (2, u "negativeZeroDoubleBits"), (21, u "max"), (2, u "min"), (43, u "$assertionsDisabled"), (0, u "Z"), (91, u "twoToTheDoubleScaleDown"), (0, u "D"), (4, u "twoToTheDoubleScaleUp"), (9, u "E"), (3, u "PI"), (2, u "TAU"), (2, u "DEGREES_TO_RADIANS"), (0, u "RADIANS_TO_DEGREES")] 94

def k2m0 : Method := { name := "<init>", desc := "()V", sig := { parameters := [], returnType := none }, accessFlags := 2, code := none }
def k2c1 : Code := { maxStack := 4, maxLocals := 4, code := jdk_29_method_66_code, exceptionTable := #[], attributes := #[] }
def k2m1 : Method := { name := "max", desc := "(JJ)J", sig := { parameters := [.long, .long], returnType := some .long }, accessFlags := 9, code := some k2c1 }
def k2c2 : Code := { maxStack := 4, maxLocals := 4, code := jdk_29_method_70_code, exceptionTable := #[], attributes := #[] }
def k2m2 : Method := { name := "min", desc := "(JJ)J", sig := { parameters := [.long, .long], returnType := some .long }, accessFlags := 9, code := some k2c2 }
/-- java/lang/Math -/
def k2 : Class := { plain "java/lang/Math" (some 0) with
  accessFlags := 49
  interfaces := #[]
  cf := some (fileOf pool2 1 #[.nestMembers #[98]] #[{ accessFlags := 2, nameIndex := 7, descriptorIndex := 8, attributes := #[] }, { accessFlags := 9, nameIndex := 198, descriptorIndex := 121, attributes := #[] }, { accessFlags := 9, nameIndex := 201, descriptorIndex := 121, attributes := #[] }] 49 4 #[] #[{ accessFlags := 25, nameIndex := 354, descriptorIndex := 339, attributes := #[] }, { accessFlags := 25, nameIndex := 358, descriptorIndex := 339, attributes := #[] }, { accessFlags := 25, nameIndex := 361, descriptorIndex := 339, attributes := #[] }, { accessFlags := 26, nameIndex := 364, descriptorIndex := 339, attributes := #[] }, { accessFlags := 26, nameIndex := 365, descriptorIndex := 339, attributes := #[] }, { accessFlags := 26, nameIndex := 172, descriptorIndex := 173, attributes := #[] }, { accessFlags := 26, nameIndex := 176, descriptorIndex := 173, attributes := #[] }, { accessFlags := 8, nameIndex := 344, descriptorIndex := 339, attributes := #[] }, { accessFlags := 8, nameIndex := 338, descriptorIndex := 339, attributes := #[] }, { accessFlags := 4120, nameIndex := 245, descriptorIndex := 246, attributes := #[] }])
  fields := #[{ name := "E", type := .double, accessFlags := 25, slot := 0, constantValue := 0 }, { name := "PI", type := .double, accessFlags := 25, slot := 1, constantValue := 0 }, { name := "TAU", type := .double, accessFlags := 25, slot := 2, constantValue := 0 }, { name := "DEGREES_TO_RADIANS", type := .double, accessFlags := 26, slot := 3, constantValue := 0 }, { name := "RADIANS_TO_DEGREES", type := .double, accessFlags := 26, slot := 4, constantValue := 0 }, { name := "negativeZeroFloatBits", type := .long, accessFlags := 26, slot := 5, constantValue := 0 }, { name := "negativeZeroDoubleBits", type := .long, accessFlags := 26, slot := 6, constantValue := 0 }, { name := "twoToTheDoubleScaleUp", type := .double, accessFlags := 8, slot := 7, constantValue := 0 }, { name := "twoToTheDoubleScaleDown", type := .double, accessFlags := 8, slot := 8, constantValue := 0 }, { name := "$assertionsDisabled", type := .boolean, accessFlags := 4120, slot := 9, constantValue := 0 }]
  methods := #[k2m0, k2m1, k2m2]
  instanceTypes := #[]
  staticTypes := #[.double, .double, .double, .double, .double, .long, .long, .double, .double, .boolean]
  resolved := Array.replicate 460 none
  statics := none }

def pool3 : Array CpInfo := pool [(2, .class_ 4), (1, u "java/lang/Object"), (2, .class_ 8), (0, u "com/example/headroom/headroom/relay/Pacer"), (2, u "bodies"), (0, u "[J"), (0, .long 131072), (3, u "window"), (0, u "J"), (5, u "open"), (0, u "Ljava/util/BitSet;"), (2, u "paused"), (5, u "unanswered"), (0, u "Ljava/util/Map;"), (2, u "sent"), (0, u "Ljava/util/function/LongSupplier;"), (0, .long 16384), (1, .long 65536), (1, .long 2097152), (3, u "over"), (0, u "Z"), (2, u "probesUnanswered"), (0, u "I"), (8, u "read"), (8, u "lastProbe"), (8, u "nextBody"), (2, u "largest"), (2, u "windowFor"), (0, u "(J)J"), (122, u "LEAST_WINDOW"), (1, u "SMALL_BODY"), (0, u "MOST_WINDOW"), (0, u "LARGE_BODY"), (0, u "SIZING_PUBLISHES"), (1, u "PROBES_PER_WINDOW"), (0, u "CLIENT_FLOW")] 40

def k3c0 : Code := { maxStack := 4, maxLocals := 2, code := prog_65_method_2_code, exceptionTable := #[], attributes := #[] }
def k3m0 : Method := { name := "windowFor", desc := "(J)J", sig := { parameters := [.long], returnType := some .long }, accessFlags := 8, code := some k3c0 }
/-- com/example/headroom/headroom/relay/Pacer -/
def k3 : Class := { plain "com/example/headroom/headroom/relay/Pacer" (some 0) with
  accessFlags := 32
  interfaces := #[]
  cf := some (fileOf pool3 7 #[] #[{ accessFlags := 8, nameIndex := 86, descriptorIndex := 87, attributes := #[] }] 32 2 #[] #[{ accessFlags := 24, nameIndex := 210, descriptorIndex := 18, attributes := #[] }, { accessFlags := 24, nameIndex := 212, descriptorIndex := 18, attributes := #[] }, { accessFlags := 24, nameIndex := 213, descriptorIndex := 18, attributes := #[] }, { accessFlags := 24, nameIndex := 214, descriptorIndex := 18, attributes := #[] }, { accessFlags := 24, nameIndex := 215, descriptorIndex := 53, attributes := #[] }, { accessFlags := 24, nameIndex := 217, descriptorIndex := 18, attributes := #[] }, { accessFlags := 26, nameIndex := 218, descriptorIndex := 18, attributes := #[] }, { accessFlags := 18, nameIndex := 38, descriptorIndex := 39, attributes := #[] }, { accessFlags := 18, nameIndex := 11, descriptorIndex := 12, attributes := #[] }, { accessFlags := 2, nameIndex := 80, descriptorIndex := 53, attributes := #[] }, { accessFlags := 2, nameIndex := 83, descriptorIndex := 18, attributes := #[] }, { accessFlags := 2, nameIndex := 17, descriptorIndex := 18, attributes := #[] }, { accessFlags := 18, nameIndex := 24, descriptorIndex := 25, attributes := #[] }, { accessFlags := 18, nameIndex := 28, descriptorIndex := 25, attributes := #[] }, { accessFlags := 18, nameIndex := 34, descriptorIndex := 35, attributes := #[] }, { accessFlags := 2, nameIndex := 52, descriptorIndex := 53, attributes := #[] }, { accessFlags := 2, nameIndex := 62, descriptorIndex := 18, attributes := #[] }, { accessFlags := 2, nameIndex := 71, descriptorIndex := 18, attributes := #[] }, { accessFlags := 2, nameIndex := 48, descriptorIndex := 49, attributes := #[] }])
  fields := #[{ name := "LEAST_WINDOW", type := .long, accessFlags := 24, slot := 0, constantValue := 0 }, { name := "SMALL_BODY", type := .long, accessFlags := 24, slot := 1, constantValue := 0 }, { name := "MOST_WINDOW", type := .long, accessFlags := 24, slot := 2, constantValue := 0 }, { name := "LARGE_BODY", type := .long, accessFlags := 24, slot := 3, constantValue := 0 }, { name := "SIZING_PUBLISHES", type := .int, accessFlags := 24, slot := 4, constantValue := 0 }, { name := "PROBES_PER_WINDOW", type := .long, accessFlags := 24, slot := 5, constantValue := 0 }, { name := "CLIENT_FLOW", type := .long, accessFlags := 26, slot := 6, constantValue := 0 }, { name := "sent", type := (.object "java/util/function/LongSupplier"), accessFlags := 18, slot := 0, constantValue := 0 }, { name := "bodies", type := (.array .long), accessFlags := 18, slot := 1, constantValue := 0 }, { name := "nextBody", type := .int, accessFlags := 2, slot := 2, constantValue := 0 }, { name := "largest", type := .long, accessFlags := 2, slot := 3, constantValue := 0 }, { name := "window", type := .long, accessFlags := 2, slot := 4, constantValue := 0 }, { name := "open", type := (.object "java/util/BitSet"), accessFlags := 18, slot := 5, constantValue := 0 }, { name := "paused", type := (.object "java/util/BitSet"), accessFlags := 18, slot := 6, constantValue := 0 }, { name := "unanswered", type := (.object "java/util/Map"), accessFlags := 18, slot := 7, constantValue := 0 }, { name := "probesUnanswered", type := .int, accessFlags := 2, slot := 8, constantValue := 0 }, { name := "read", type := .long, accessFlags := 2, slot := 9, constantValue := 0 }, { name := "lastProbe", type := .long, accessFlags := 2, slot := 10, constantValue := 0 }, { name := "over", type := .boolean, accessFlags := 2, slot := 11, constantValue := 0 }]
  methods := #[k3m0]
  instanceTypes := #[(.object "java/util/function/LongSupplier"), (.array .long), .int, .long, .long, (.object "java/util/BitSet"), (.object "java/util/BitSet"), (.object "java/util/Map"), .int, .long, .long, .boolean]
  staticTypes := #[.long, .long, .long, .long, .int, .long, .long]
  resolved := Array.replicate 259 none
  statics := none }

def pool4 : Array CpInfo := pool [(1, u "java/lang/Cloneable"), (0, .class_ 1), (0, u "java/lang/Object"), (0, .class_ 3)] 3

/-- java/lang/Cloneable -/
def k4 : Class := { plain "java/lang/Cloneable" (some 0) with
  accessFlags := 1537
  interfaces := #[]
  cf := some (fileOf pool4 2 #[] #[] 1537 4 #[] #[])
  fields := #[]
  methods := #[]
  instanceTypes := #[]
  staticTypes := #[]
  resolved := Array.replicate 8 none
  statics := none }

def pool5 : Array CpInfo := pool [(1, u "java/io/Serializable"), (0, .class_ 1), (0, u "java/lang/Object"), (0, .class_ 3)] 3

/-- java/io/Serializable -/
def k5 : Class := { plain "java/io/Serializable" (some 0) with
  accessFlags := 1537
  interfaces := #[]
  cf := some (fileOf pool5 2 #[] #[] 1537 4 #[] #[])
  fields := #[]
  methods := #[]
  instanceTypes := #[]
  staticTypes := #[]
  resolved := Array.replicate 8 none
  statics := none }

/-- the primitive byte -/
def k6 : Class := { plain "byte" none with kind := .primitive 'B', accessFlags := 0x411 }
/-- [B -/
def k7 : Class := { plain "[B" (some 0) with kind := .array 6 .byte, interfaces := #[4, 5], accessFlags := 1041 }

/-- the primitive int -/
def k8 : Class := { plain "int" none with kind := .primitive 'I', accessFlags := 0x411 }
/-- [I -/
def k9 : Class := { plain "[I" (some 0) with kind := .array 8 .int, interfaces := #[4, 5], accessFlags := 1041 }

def heap : Heap := #[]
def classes : Array Class := #[k0, k1, k2, k3, k4, k5, k6, k7, k8, k9]
def interned : List (Array UInt16 × Addr) := []
def slotsUsed : Nat := 0
def theMethod : MethodId := ⟨1, 1⟩
def args0 : Array Value := #[.long 5, .int 3]
def aboutOver (below : List Frame) : State where
  vm := { classes := classes, interned := interned.toArray }
  heap := heap
  slotsUsed := slotsUsed
  threads := #[{ frames := .invoking theMethod args0 :: below }]
def below0 : List Frame := [.native { method := ⟨0, 0⟩, args := #[] }]
def about1 : State := aboutOver below0
def p0 : Program := .bare "" "" ""
def e0 : Env := launch0.env 0 0 0
theorem w_frames : about1.frames = Frame.invoking theMethod args0 :: below0 := rfl
set_option maxRecDepth 65536 in
theorem w_args : argsFit about1.vm theMethod args0 = true := by decide +kernel
set_option maxRecDepth 65536 in
theorem w_heap : heapFits about1 = true := by decide +kernel
set_option maxRecDepth 65536 in
theorem w_runnable : about1.curStatus? = some .runnable := by decide +kernel
set_option maxRecDepth 65536 in
theorem w_alone : about1.alone = true := by decide +kernel
set_option maxRecDepth 65536 in
theorem w_named : about1.methodNamed? x = some theMethod := by decide +kernel
set_option maxRecDepth 65536 in
theorem w_hears : about1.hears theMethod below0 = true := by decide +kernel
set_option maxRecDepth 65536 in
theorem w_ripe : about1.ripe theMethod args0 below0 = true := by decide +kernel
theorem w_running : about1.status = .running := rfl
set_option maxRecDepth 65536 in
theorem w_room : about1.hasRoom e0.platform room_1 = true :=
  launch0.hasRoom_least _ room_1 (by decide +kernel) (by decide +kernel) (by decide +kernel) (by decide +kernel) (by decide +kernel) (by decide +kernel)
theorem allAtoms_all (ts : List Jvm.Cond) (a : Array Jvm.Value) (st : Jvm.State) : (allAtoms ts).before a st = ts.all (fun c => c.before a st) := by
  induction ts with
  | nil => rfl
  | cons c t ih =>
    show (Jvm.Cond.and c (allAtoms t)).before a st = _
    rw [Jvm.Cond.before_and, ih, List.all_cons]
def words1 : List Jvm.Cond := Jvm.Cond.code x code maxLocals ret :: tables_1
/-- a 'code' word, met by the world's own term for the bytes: nothing is compared byte by byte -/
theorem code_word {y : MethodName} {bytes : ByteArray} {mx : Nat} {rt : Option FieldType} {a : Array Value} {s : State} {m : MethodId} {meth : Method} {c : Code} (h1 : s.methodNamed? y = some m) (h2 : s.vm.method? m = some meth) (h3 : meth.code = some c) (h4 : c.code = bytes)
    (h5 : (c.maxLocals == mx && c.exceptionTable.isEmpty && decide (c.maxStack ≤ mostOperands) && decide (meth.sig.returnType = rt) && !meth.locks && decide (parseMethodDescriptor y.desc = some meth.sig)) = true) : (Jvm.Cond.code y bytes mx rt).before a s = true := by
  simp only [Bool.and_eq_true, beq_iff_eq, Bool.not_eq_true', decide_eq_true_eq] at h5
  obtain ⟨⟨⟨⟨⟨g1, g2⟩, g3⟩, g4⟩, g5⟩, g6⟩ := h5
  simp [Cond.before, Cond.holds, Cond.value, h1, h2, h3, h4, g1, g2, g3, g4, g5, g6]
def isCode : Jvm.Cond → Bool
  | .code _ _ _ _ => true
  | _ => false
theorem all_split {L : List Jvm.Cond} {P : Jvm.Cond → Bool} (h1 : L.all (fun c => isCode c || P c) = true) (h2 : ∀ c ∈ L.filter isCode, P c = true) : L.all P = true := by
  refine List.all_eq_true.mpr fun c hc => ?_
  have h := List.all_eq_true.mp h1 c hc
  rcases Bool.eq_false_or_eq_true (isCode c) with hi | hi
  · exact h2 c (List.mem_filter.mpr ⟨hc, hi⟩)
  · simpa [hi] using h
set_option maxRecDepth 65536 in
theorem w_c0 : (Jvm.Cond.code x code maxLocals ret).before args0 about1 = true := code_word (m := ⟨1, 1⟩) (meth := k1m1) (c := k1c1) (by decide +kernel) rfl rfl rfl (by decide +kernel)
set_option maxRecDepth 65536 in
theorem w_c1 : (Jvm.Cond.code ({ cls := "java/lang/Math", name := "max", desc := "(JJ)J" } : Jvm.MethodName) jdk_29_method_66_code (4 : Nat) (Option.some Jvm.ClassFile.FieldType.long)).before args0 about1 = true := code_word (m := ⟨2, 1⟩) (meth := k2m1) (c := k2c1) (by decide +kernel) rfl rfl rfl (by decide +kernel)
set_option maxRecDepth 65536 in
theorem w_c2 : (Jvm.Cond.code ({ cls := "java/lang/Math", name := "min", desc := "(JJ)J" } : Jvm.MethodName) jdk_29_method_70_code (4 : Nat) (Option.some Jvm.ClassFile.FieldType.long)).before args0 about1 = true := code_word (m := ⟨2, 2⟩) (meth := k2m2) (c := k2c2) (by decide +kernel) rfl rfl rfl (by decide +kernel)
set_option maxRecDepth 65536 in
theorem w_c3 : (Jvm.Cond.code ({ cls := "com/example/headroom/headroom/relay/Pacer", name := "windowFor", desc := "(J)J" } : Jvm.MethodName) prog_65_method_2_code (2 : Nat) (Option.some Jvm.ClassFile.FieldType.long)).before args0 about1 = true := code_word (m := ⟨3, 0⟩) (meth := k3m0) (c := k3c0) (by decide +kernel) rfl rfl rfl (by decide +kernel)
def codes1 : List Jvm.Cond := [Jvm.Cond.code x code maxLocals ret, Jvm.Cond.code ({ cls := "java/lang/Math", name := "max", desc := "(JJ)J" } : Jvm.MethodName) jdk_29_method_66_code (4 : Nat) (Option.some Jvm.ClassFile.FieldType.long), Jvm.Cond.code ({ cls := "java/lang/Math", name := "min", desc := "(JJ)J" } : Jvm.MethodName) jdk_29_method_70_code (4 : Nat) (Option.some Jvm.ClassFile.FieldType.long), Jvm.Cond.code ({ cls := "com/example/headroom/headroom/relay/Pacer", name := "windowFor", desc := "(J)J" } : Jvm.MethodName) prog_65_method_2_code (2 : Nat) (Option.some Jvm.ClassFile.FieldType.long)]
set_option maxRecDepth 65536 in
theorem codes_eq : words1.filter isCode = codes1 := rfl
theorem w_codes : ∀ c ∈ words1.filter isCode, c.before args0 about1 = true := by
  rw [codes_eq]
  intro c hc
  simp only [codes1, List.mem_cons, List.not_mem_nil, or_false] at hc
  rcases hc with rfl | rfl | rfl | rfl
  · exact w_c0
  · exact w_c1
  · exact w_c2
  · exact w_c3
set_option maxRecDepth 65536 in
theorem w_t1 : words1.all (fun c => isCode c || c.before args0 about1) = true := by decide +kernel
theorem w_tables : (allAtoms (Jvm.Cond.code x code maxLocals ret :: tables_1)).before args0 about1 = true := by
  rw [allAtoms_all]
  show words1.all (fun c => c.before args0 about1) = true
  refine all_split ?_ w_codes
  rw [w_t1]
set_option maxRecDepth 65536 in
theorem w_case : (Jvm.Cond.and given_1 narrow_1).before args0 about1 = true := by decide +kernel
theorem w_applies : (headSpec (Jvm.Cond.code x code maxLocals ret :: tables_1) room_1).applies x e0.platform about1 = true :=
  (Spec.applies_iff w_frames).mpr ⟨w_running, w_runnable, w_alone, w_named, w_hears, w_ripe, w_room, w_tables⟩
theorem atStart : AtStart classFile x code maxLocals ret World_1 tables_1 room_1 Calls_1 rest_1 Pre_1 launch0 p0 e0 about1 theMethod args0 below0 :=
  ⟨lists_1, trivial, launch0.admits_env _ _ _, launch0.least_env, fairChoices_fair.cas, fairChoices_fair.clock, w_frames, w_args, w_heap, w_applies, trivial, trivial, w_case⟩
end start1
theorem witness_1 : WitnessClaimed_1 := ⟨start1.p0, start1.e0, start1.about1, start1.theMethod, start1.args0, start1.below0, start1.atStart⟩
end Jvm.Pilot.@@N@@
