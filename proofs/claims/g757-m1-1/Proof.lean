import JvmDerived
import JvmDerived.Pilot.@@N@@Statement
import JvmDerived.Pilot.@@N@@Code
set_option linter.unusedVariables false
set_option linter.unusedSimpArgs false
namespace Jvm.Pilot.@@N@@
open Jvm Jvm.ClassFile Sem Op Lib Jvm.Free Jvm.Stand Jvm.LawKit Jvm.RoadKit Bundle Jvm.Pilot.@@N@@.Jvm.D
section Own
variable {p : Program} {l : Launch} {e : Env} {R : Room} {s : State} {m : MethodId} {args : Array Value} {below : List Frame} {meth : Method} {c : Code} {T : State} {locs : List Loc} {cells slots : Nat} {Z : State} {a0 : Array Value} {h h' : Heap} {Q : Option Value → Heap → List Loc → Prop} {kc ks n0 : Nat}
/-- from the state st the invocation ends as the contract asks -/
def Gl (p : Program) (e : Env) (below : List Frame) (s : State) (Q : Option Value → Heap → List Loc → Prop) (kc ks : Nat) (st : State) : Prop :=
  ∃ s₂ o, Steps p.tables e below st s₂ ∧ s₂.status = .running ∧ Ended s₂ below o ∧ ∃ v L, o = .returned v ∧ Q v s₂.heap L ∧ FrameEnd s o s₂ L kc ks
theorem Gl.st {a b : State} (h : ∀ t, Steps p.tables e below b t → Steps p.tables e below a t) (H : Gl p e below s Q kc ks b) : Gl p e below s Q kc ks a := by
  obtain ⟨s₂, o, h1, r⟩ := H
  exact ⟨s₂, o, h _ h1, r⟩
theorem Gl.cast {g g' : JFrame} (q : g = g') (H : Gl p e below s Q kc ks (T.setTop g')) : Gl p e below s Q kc ks (T.setTop g) := q ▸ H
theorem Gl.ret (X : Stand p l e R s m args below meth c T locs cells slots) {v : Option Value} (hv : meth.sig.returnType = none → v = none) (hlk : meth.locks = false) {g : State}
    (hst : ∀ fs, (∀ (f : JFrame) (acts : List Action), f.method = m → f.locked = none → f.entered = [] → (doReturn e (T.setTop f) acts v).1 = T.setFrames fs) → Steps p.tables e below g (T.setFrames fs))
    (hQ : Q v T.heap locs) (h1 : cells ≤ kc) (h2 : slots ≤ ks) : Gl p e below s Q kc ks g := by
  obtain ⟨fs, hr, hrun, hended, hW, hsame⟩ := X.leave (v := v) hv hlk
  exact ⟨_, _, hst fs hr, hrun, hended, _, _, rfl, hQ, ⟨_, rfl⟩, hW, hsame.mono h1 h2⟩
theorem Gl.retN (X : Stand p l e R s m args below meth c T locs cells slots) (hx : p.tables.exec = Jvm.exec) {pc : Nat} {Ls : Array Slot} {z : Int32} {t : FieldType} {rest : List Value} (hret : meth.sig.returnType = some t) (ht : t = .boolean ∨ t = .byte ∨ t = .char ∨ t = .short)
    (hd : decode c.code pc = .ok (.ireturn, 1)) (hlk : meth.locks = false) (h1 : cells ≤ kc) (h2 : slots ≤ ks) (hQ : Q (some (.int (nar t z))) T.heap locs) : Gl p e below s Q kc ks (T.setTop (mkF m pc Ls (.int z :: rest))) :=
  Gl.ret X (fun q => by rw [hret] at q; cases q) hlk (fun _ hr => Jvm.RoadKit.retN X hx hret ht hd hr) hQ h1 h2
theorem Gl.retI (X : Stand p l e R s m args below meth c T locs cells slots) (hx : p.tables.exec = Jvm.exec) {pc : Nat} {Ls : Array Slot} {z : Int32} {rest : List Value} (hret : meth.sig.returnType = some .int)
    (hd : decode c.code pc = .ok (.ireturn, 1)) (hlk : meth.locks = false) (h1 : cells ≤ kc) (h2 : slots ≤ ks) (hQ : Q (some (.int z)) T.heap locs) : Gl p e below s Q kc ks (T.setTop (mkF m pc Ls (.int z :: rest))) :=
  Gl.ret X (fun q => by rw [hret] at q; cases q) hlk (fun _ hr => retOut X hx hret rfl (Or.inl ⟨rfl, Or.inl rfl, _, rfl⟩) hd hr) hQ h1 h2
theorem Gl.retJ (X : Stand p l e R s m args below meth c T locs cells slots) (hx : p.tables.exec = Jvm.exec) {pc : Nat} {Ls : Array Slot} {z : Int64} {rest : List Value} (hret : meth.sig.returnType = some .long)
    (hd : decode c.code pc = .ok (.lreturn, 1)) (hlk : meth.locks = false) (h1 : cells ≤ kc) (h2 : slots ≤ ks) (hQ : Q (some (.long z)) T.heap locs) : Gl p e below s Q kc ks (T.setTop (mkF m pc Ls (.long z :: rest))) :=
  Gl.ret X (fun q => by rw [hret] at q; cases q) hlk (fun _ hr => retOut X hx hret rfl (Or.inr (Or.inl ⟨rfl, rfl, _, rfl⟩)) hd hr) hQ h1 h2
theorem Gl.retA (X : Stand p l e R s m args below meth c T locs cells slots) (hx : p.tables.exec = Jvm.exec) {pc : Nat} {Ls : Array Slot} {z : Addr} {t : FieldType} {rest : List Value} (hret : meth.sig.returnType = some (.array t))
    (hd : decode c.code pc = .ok (.areturn, 1)) (hlk : meth.locks = false) (h1 : cells ≤ kc) (h2 : slots ≤ ks) (hQ : Q (some (.ref z)) T.heap locs) : Gl p e below s Q kc ks (T.setTop (mkF m pc Ls (.ref z :: rest))) :=
  Gl.ret X (fun q => by rw [hret] at q; cases q) hlk (fun _ hr => retOut X hx hret rfl (Or.inr (Or.inr (Or.inr (Or.inr ⟨rfl, rfl, rfl⟩)))) hd hr) hQ h1 h2
theorem Gl.retV (X : Stand p l e R s m args below meth c T locs cells slots) (hx : p.tables.exec = Jvm.exec) {pc : Nat} {Ls : Array Slot} (hret : meth.sig.returnType = none)
    (hd : decode c.code pc = .ok (.return_, 1)) (hlk : meth.locks = false) (h1 : cells ≤ kc) (h2 : slots ≤ ks) (hQ : Q none T.heap locs) : Gl p e below s Q kc ks (T.setTop (mkF m pc Ls [])) :=
  Gl.ret X (fun _ => rfl) hlk (fun _ hr => X.returnOut hx hret hd hr) hQ h1 h2
/-- what a body that changes nothing leaves: the value w, the heap as it was -/
def QP (n0 : Nat) (h0 : Heap) (w : Value) (v : Option Value) (h : Heap) (L : List Loc) : Prop := v = some w ∧ Fr n0 L ∧ h = h0
/-- a static call by its contract -/
theorem Gl.callS (X : Stand p l e R s m args below meth c T locs cells slots) (hx : p.tables.exec = Jvm.exec) (hZ : Z.Warmed39 s.vm) {own : String} {index : Nat} {y : MethodName} {bytes : ByteArray} {maxL : Nat} {ret : Option FieldType} {rm : Room} {W : Nat} {as' : Array Value} {Qc : Option Value → Heap → List Loc → Prop}
    (hown : s.vm.findClass own = some m.cls) (w1 : (Cond.methodLink own index y).before a0 Z = true) (w2 : (Cond.static y).before a0 Z = true) (w3 : (Cond.initialized y.cls).before a0 Z = true) (w4 : (Cond.code y bytes maxL ret).before a0 Z = true)
    (hy : y.cls ≠ "java/lang/invoke/MethodHandle" ∧ y.cls ≠ "java/lang/invoke/VarHandle")
    (hM : MetFree l y (head1 [Cond.code y bytes maxL ret] rm) (fun a U => a = as' ∧ Z.Warmed39 U.vm ∧ U.heap = h) (fun _ _ _ _ _ => True) (fun _ U o U' => ∃ v L, o = .returned v ∧ Qc v U'.heap L ∧ FrameEnd U o U' L rm.cells rm.slots))
    (hf : rm.frames + 1 ≤ R.frames) (hl : W + (maxL + 11) + rm.locals ≤ R.locals) (eT : T.heap = h) (hc1 : cells + rm.cells ≤ R.cells) (hs1 : slots + rm.slots ≤ R.slots)
    {pc : Nat} {Ls : Array Slot} {stk argsL rest : List Value} (hsz : Ls.size = c.maxLocals) (hlen : ∀ sig, parseMethodDescriptor y.desc = some sig → argsL.length = sig.parameters.length) (hstk : stk = argsL.reverse ++ rest) (has : argsL.toArray = as')
    (hW : (rest.map fun v => v.category).sum ≤ W) (hd : decode c.code pc = .ok (.invokestatic index, 3))
    (K : ∀ (T' : State) (v : Option Value) (L : List Loc), Stand p l e R s m args below meth c T' (locs ++ L) (cells + rm.cells) (slots + rm.slots) → Qc v T'.heap L → Gl p e below s Q kc ks (T'.setTop (mkF m (pc + 3) Ls (v.toList ++ rest)))) :
    Gl p e below s Q kc ks (T.setTop (mkF m pc Ls stk)) := by
  obtain ⟨v, _, ⟨T', L', k', n'⟩, -, X', ⟨Lc, hQ, l1, y1, z1⟩, st⟩ := Jvm.LawKit.callS X hx (y := y) hown (mvT hZ w1) (mvT hZ w2) (mvT hZ w3) (mvT hZ w4) hy (backOf (W := W) hM hZ w4 w3 hf hl) (g := mkF m pc Ls stk) rfl hsz (argsL := argsL) (rest := rest) hlen hstk
    (by show 2 * 0 + _ ≤ _; rw [Nat.mul_zero, Nat.zero_add]; exact hW) hd (fun _ _ => ⟨has, eT, hc1, hs1⟩)
  dsimp only [Pt.U, Pt.locs, Pt.cells, Pt.slots] at X' l1 y1 z1 st hQ
  subst l1 y1 z1
  exact Gl.st (fun t k => st t k) (K T' v Lc X' hQ)
/-- a static call of a body that changes nothing -/
theorem Gl.callP (X : Stand p l e R s m args below meth c T locs cells slots) (hx : p.tables.exec = Jvm.exec) (hZ : Z.Warmed39 s.vm) {own : String} {index : Nat} {y : MethodName} {bytes : ByteArray} {maxL : Nat} {ret : Option FieldType} {fr lo W : Nat} {as' : Array Value} {w : Value}
    (hown : s.vm.findClass own = some m.cls) (w1 : (Cond.methodLink own index y).before a0 Z = true) (w2 : (Cond.static y).before a0 Z = true) (w3 : (Cond.initialized y.cls).before a0 Z = true) (w4 : (Cond.code y bytes maxL ret).before a0 Z = true)
    (hy : y.cls ≠ "java/lang/invoke/MethodHandle" ∧ y.cls ≠ "java/lang/invoke/VarHandle")
    (hM : MetFree l y (head1 [Cond.code y bytes maxL ret] ⟨fr, 0, 0, lo⟩) (fun a U => a = as' ∧ Z.Warmed39 U.vm ∧ U.heap = h) (fun _ _ _ _ _ => True) (fun _ U o U' => ∃ v L, o = .returned v ∧ QP n0 h w v U'.heap L ∧ FrameEnd U o U' L 0 0))
    (hf : fr + 1 ≤ R.frames) (hl : W + (maxL + 11) + lo ≤ R.locals) (eT : T.heap = h) (N : Fr n0 locs) (hc1 : cells ≤ R.cells) (hs1 : slots ≤ R.slots)
    {pc : Nat} {Ls : Array Slot} {stk argsL rest : List Value} (hsz : Ls.size = c.maxLocals) (hlen : ∀ sig, parseMethodDescriptor y.desc = some sig → argsL.length = sig.parameters.length) (hstk : stk = argsL.reverse ++ rest) (has : argsL.toArray = as')
    (hW : (rest.map fun v => v.category).sum ≤ W) (hd : decode c.code pc = .ok (.invokestatic index, 3))
    (K : ∀ (T' : State) (L : List Loc), Stand p l e R s m args below meth c T' L cells slots → T'.heap = h → Fr n0 L → Gl p e below s Q kc ks (T'.setTop (mkF m (pc + 3) Ls (w :: rest)))) :
    Gl p e below s Q kc ks (T.setTop (mkF m pc Ls stk)) :=
  Gl.callS (rm := ⟨fr, 0, 0, lo⟩) X hx hZ hown w1 w2 w3 w4 hy hM hf hl eT hc1 hs1 hsz hlen hstk has hW hd fun T' v L X' hq => by
    obtain ⟨rfl, N', e'⟩ := hq
    exact K T' _ X' e' (N.app N')
end Own
theorem own_ltI {x y : Int32} : x < y ↔ x.toInt < y.toInt := Int32.lt_iff_toInt_lt
theorem own_eqI {x y : Int32} : x = y ↔ x.toInt = y.toInt := ⟨fun h => h ▸ rfl, fun h => Int32.toInt_inj.mp h⟩
theorem own_ltJ {x y : Int64} : x < y ↔ x.toInt < y.toInt := Int64.lt_iff_toInt_lt
theorem own_eqJ {x y : Int64} : x = y ↔ x.toInt = y.toInt := ⟨fun h => h ▸ rfl, fun h => Int64.toInt_inj.mp h⟩
/-- a truth as the int that a boolean method returns -/
def own_b (b : Bool) : Int32 := if b then 1 else 0
theorem own_b1 {b : Bool} (h : b = true) : some (Value.int (nar .boolean 1)) = some (Value.int (own_b b)) := by subst h; rfl
theorem own_b0 {b : Bool} (h : b = false) : some (Value.int (nar .boolean 0)) = some (Value.int (own_b b)) := by subst h; rfl
theorem own_bn (b : Bool) : nar .boolean (own_b b) = own_b b := by cases b <;> rfl
theorem own_bt {b : Bool} (h : b = true) : ¬ own_b b = 0 := by subst h; decide
theorem own_bf {b : Bool} (h : ¬ b = true) : own_b b = 0 := by cases b with | true => exact absurd rfl h | false => rfl
def QL (n0 : Nat) (v : Option Value) (h : Heap) (L : List Loc) : Prop := v = some (.int 1) ∧ Fr n0 L
theorem own_pn0 : plainName "com/example/nottingham/nottingham/RuntimeClock" = true := by first | (simp [plainName, overriddenIn]; done) | decide +kernel
theorem own_pn1 : plainName "com/example/nottingham/nottingham/RuntimeClockAfterPinLaw" = true := by first | (simp [plainName, overriddenIn]; done) | decide +kernel
theorem own_pd0 : parseMethodDescriptor "(JJ)J" = some ⟨[.long, .long], some .long⟩ := by decide +kernel
def own_after (a b : Int64) : Int64 := if b.toInt < ((9223372036854775807 : Int64) - a).toInt then a + b else 9223372036854775807
def own_exp (a b : Int64) : Int64 := if 0 < b.toInt then (if (a + b).toInt < 0 then 9223372036854775807 else a + b) else a + b
theorem own_key (t n : Int64) : own_after (t &&& (9223372036854775807 : Int64)) n = own_exp (t &&& (9223372036854775807 : Int64)) n := by
  have hm : (t &&& (9223372036854775807 : Int64)).toInt = t.toInt % (2 ^ 63 : Nat) := c_maskL t 9223372036854775807 63 (by decide) (by decide)
  generalize (t &&& (9223372036854775807 : Int64)) = a at *
  have h1 := c_ladd a n
  have h2 := c_lsub (9223372036854775807 : Int64) a
  have h3 : (9223372036854775807 : Int64).toInt = 9223372036854775807 := by decide
  have r1 := rng64 (a + n)
  have r2 := rng64 ((9223372036854775807 : Int64) - a)
  have r3 := rng64 n
  have r4 := rng64 a
  have e : (a + n).toInt = 9223372036854775807 → a + n = (9223372036854775807 : Int64) := fun q => own_eqJ.mpr (q.trans h3.symm)
  unfold own_after own_exp
  by_cases c1 : n.toInt < ((9223372036854775807 : Int64) - a).toInt
  · rw [if_pos c1]
    by_cases c2 : 0 < n.toInt
    · rw [if_pos c2, if_neg (by omega)]
    · rw [if_neg c2]
  · rw [if_neg c1]
    by_cases c2 : 0 < n.toInt
    · rw [if_pos c2]
      by_cases c3 : (a + n).toInt < 0
      · rw [if_pos c3]
      · rw [if_neg c3, e (by omega)]
    · rw [if_neg c2, e (by omega)]

theorem d1_0 : decode prog_30_method_6_code 0 = .ok (.lload_n 2, 1) := by decide +kernel
theorem d1_1 : decode prog_30_method_6_code 1 = .ok (.ldc2_w 33, 3) := by decide +kernel
theorem d1_4 : decode prog_30_method_6_code 4 = .ok (.lload_n 0, 1) := by decide +kernel
theorem d1_5 : decode prog_30_method_6_code 5 = .ok (.lsub, 1) := by decide +kernel
theorem d1_6 : decode prog_30_method_6_code 6 = .ok (.lcmp, 1) := by decide +kernel
theorem d1_7 : decode prog_30_method_6_code 7 = .ok (.ifCond .lt 9, 3) := by decide +kernel
theorem d1_10 : decode prog_30_method_6_code 10 = .ok (.ldc2_w 33, 3) := by decide +kernel
theorem d1_13 : decode prog_30_method_6_code 13 = .ok (.goto 6, 3) := by decide +kernel
theorem d1_16 : decode prog_30_method_6_code 16 = .ok (.lload_n 0, 1) := by decide +kernel
theorem d1_17 : decode prog_30_method_6_code 17 = .ok (.lload_n 2, 1) := by decide +kernel
theorem d1_18 : decode prog_30_method_6_code 18 = .ok (.ladd, 1) := by decide +kernel
theorem d1_19 : decode prog_30_method_6_code 19 = .ok (.lreturn, 1) := by decide +kernel
theorem ef1 (m : MethodId) (z0 : Int64) (z1 : Int64) : entryFrame m #[(.long z0), (.long z1)] 4 = mkF m 0 #[.val (.long z0), .second, .val (.long z1), .second] [] := by first | (simp [entryFrame, mkF, argsToLocals, Value.category]; done) | rfl
set_option maxRecDepth 65536 in
set_option maxHeartbeats 40000000 in
theorem rm1 (l : Launch) (Z : State) (a0 : Array Value) (hw : ∀ d ∈ tables_1, d.before a0 Z = true) (ws : List Jvm.Cond) (z0 : Int64) (z1 : Int64)  (h0 : Heap) (n0 : Nat) (Z0 : n0 ≤ h0.size)  :
    MetFree l (⟨"com/example/nottingham/nottingham/RuntimeClock", "after", "(JJ)J"⟩ : MethodName) (head1 (Jvm.Cond.code (⟨"com/example/nottingham/nottingham/RuntimeClock", "after", "(JJ)J"⟩ : MethodName) prog_30_method_6_code 4 (some .long) :: ws) (⟨0, 0, 0, 0⟩ : Room)) (fun a U => a = #[(.long z0), (.long z1)] ∧ Z.Warmed39 U.vm ∧ U.heap = h0) (fun _ _ _ _ _ => True) (fun _ U o U' => ∃ v L, o = .returned v ∧ QP n0 h0 (.long (own_after z0 z1)) v U'.heap L ∧ FrameEnd U o U' L 0 0) := by
  refine MetFree.of_bodySF (plainFor_of_name own_pn0) hisR ?_
  intro p e s m args below meth c s₁ Bd hml0 hP hK
  obtain ⟨rfl, hZ, hh⟩ := hP
  have hx := Bd.exec
  have hby := Bd.bytes
  have hml : c.maxLocals = 4 := hml0
  have hown : s.vm.findClass "com/example/nottingham/nottingham/RuntimeClock" = some m.cls := findClass_of_methodNamed Bd.named
  have hnm := (name_of_methodNamed Bd.named Bd.method).1
  have hlk : meth.locks = false := Bd.notSynchronized
  have hret := Bd.returns
  have X0 : Stand p l e (⟨0, 0, 0, 0⟩ : Room) s m #[(.long z0), (.long z1)] below meth c s₁ [] 0 0 := Stand.of_body Bd
  have e0 : s₁.heap = h0 := by rw [← hh, Bd.state]; rfl
  have N0 := Fr.nil n0
  have GOAL : Gl p e below s (QP n0 h0 (.long (own_after z0 z1))) 0 0 (s₁.setTop (entryFrame m #[(.long z0), (.long z1)] 4)) := by
    refine Gl.cast (ef1 m z0 z1) ?_
    refine Gl.st (b := s₁.setTop (mkF m 1 #[.val (.long z0), .second, .val (.long z1), .second] [(.long z1)])) (fun t k => XS.lloadN X0.here hx rfl (hb hby d1_0) rfl k) ?_
    refine Gl.st (b := s₁.setTop (mkF m 4 #[.val (.long z0), .second, .val (.long z1), .second] [(.long (9223372036854775807 : Int64)), (.long z1)])) (fun t k => X0.ldc2Long hx hown (mvT hZ (hw _ (List.mem_of_getElem? (i := 5) rfl))) (g := (mkF m 1 #[.val (.long z0), .second, .val (.long z1), .second] [(.long z1)])) rfl (hb hby d1_1) t k) ?_
    refine Gl.st (b := s₁.setTop (mkF m 5 #[.val (.long z0), .second, .val (.long z1), .second] [(.long z0), (.long (9223372036854775807 : Int64)), (.long z1)])) (fun t k => XS.lloadN X0.here hx rfl (hb hby d1_4) rfl k) ?_
    refine Gl.st (b := s₁.setTop (mkF m 6 #[.val (.long z0), .second, .val (.long z1), .second] [(.long ((9223372036854775807 : Int64) - z0)), (.long z1)])) (fun t k => XS.lsub X0.here hx rfl (hb hby d1_5) rfl k) ?_
    refine Gl.st (b := s₁.setTop (mkF m 7 #[.val (.long z0), .second, .val (.long z1), .second] [(.int (lcmpW z1 ((9223372036854775807 : Int64) - z0)))])) (fun t k => XS.lcmp X0.here hx rfl (hb hby d1_6) rfl k) ?_
    by_cases hc7 : z1.toInt < ((9223372036854775807 : Int64) - z0).toInt
    · -- hc7 True
      refine Gl.st (b := s₁.setTop (mkF m 16 #[.val (.long z0), .second, .val (.long z1), .second] [])) (fun t k => XS.ifYes X0.here hx rfl (pc0 := 7) (pc' := 16) rfl (hb hby d1_7) rfl ((if0 _ _).trans (tlt (x := (lcmpW z1 ((9223372036854775807 : Int64) - z0))) (y := (0 : Int32)) ((lw_lt z1 ((9223372036854775807 : Int64) - z0)).mpr (own_ltJ.mpr hc7))).1) (by decide) (by decide) k) ?_
      refine Gl.st (b := s₁.setTop (mkF m 17 #[.val (.long z0), .second, .val (.long z1), .second] [(.long z0)])) (fun t k => XS.lloadN X0.here hx rfl (hb hby d1_16) rfl k) ?_
      refine Gl.st (b := s₁.setTop (mkF m 18 #[.val (.long z0), .second, .val (.long z1), .second] [(.long z1), (.long z0)])) (fun t k => XS.lloadN X0.here hx rfl (hb hby d1_17) rfl k) ?_
      refine Gl.st (b := s₁.setTop (mkF m 19 #[.val (.long z0), .second, .val (.long z1), .second] [(.long (z0 + z1))])) (fun t k => XS.ladd X0.here hx rfl (hb hby d1_18) rfl k) ?_
      exact Gl.retJ X0 hx hret (hb hby d1_19) hlk (by decide) (by decide) ⟨by rw [own_after, if_pos hc7], N0, e0⟩
    · -- hc7 False
      refine Gl.st (b := s₁.setTop (mkF m 10 #[.val (.long z0), .second, .val (.long z1), .second] [])) (fun t k => XS.ifNo X0.here hx rfl (hb hby d1_7) rfl ((if0 _ _).trans (flt (x := (lcmpW z1 ((9223372036854775807 : Int64) - z0))) (y := (0 : Int32)) (fun q => hc7 (own_ltJ.mp ((lw_lt z1 ((9223372036854775807 : Int64) - z0)).mp q)))).1) k) ?_
      refine Gl.st (b := s₁.setTop (mkF m 13 #[.val (.long z0), .second, .val (.long z1), .second] [(.long (9223372036854775807 : Int64))])) (fun t k => X0.ldc2Long hx hown (mvT hZ (hw _ (List.mem_of_getElem? (i := 5) rfl))) (g := (mkF m 10 #[.val (.long z0), .second, .val (.long z1), .second] [])) rfl (hb hby d1_10) t k) ?_
      refine Gl.st (b := s₁.setTop (mkF m 19 #[.val (.long z0), .second, .val (.long z1), .second] [(.long (9223372036854775807 : Int64))])) (fun t k => XS.goto X0.here hx rfl (pc0 := 13) (pc' := 19) rfl (hb hby d1_13) (by decide) (by decide) k) ?_
      exact Gl.retJ X0 hx hret (hb hby d1_19) hlk (by decide) (by decide) ⟨by rw [own_after, if_neg hc7], N0, e0⟩
  exact GOAL
theorem d2_0 : decode method_3_code 0 = .ok (.lload_n 0, 1) := by decide +kernel
theorem d2_1 : decode method_3_code 1 = .ok (.lload_n 2, 1) := by decide +kernel
theorem d2_2 : decode method_3_code 2 = .ok (.ladd, 1) := by decide +kernel
theorem d2_3 : decode method_3_code 3 = .ok (.lstore 4, 2) := by decide +kernel
theorem d2_5 : decode method_3_code 5 = .ok (.lload_n 2, 1) := by decide +kernel
theorem d2_6 : decode method_3_code 6 = .ok (.lconst 0, 1) := by decide +kernel
theorem d2_7 : decode method_3_code 7 = .ok (.lcmp, 1) := by decide +kernel
theorem d2_8 : decode method_3_code 8 = .ok (.ifCond .le 14, 3) := by decide +kernel
theorem d2_11 : decode method_3_code 11 = .ok (.lload 4, 2) := by decide +kernel
theorem d2_13 : decode method_3_code 13 = .ok (.lconst 0, 1) := by decide +kernel
theorem d2_14 : decode method_3_code 14 = .ok (.lcmp, 1) := by decide +kernel
theorem d2_15 : decode method_3_code 15 = .ok (.ifCond .ge 7, 3) := by decide +kernel
theorem d2_18 : decode method_3_code 18 = .ok (.ldc2_w 9, 3) := by decide +kernel
theorem d2_21 : decode method_3_code 21 = .ok (.lreturn, 1) := by decide +kernel
theorem d2_22 : decode method_3_code 22 = .ok (.lload 4, 2) := by decide +kernel
theorem d2_24 : decode method_3_code 24 = .ok (.lreturn, 1) := by decide +kernel
theorem ef2 (m : MethodId) (z0 : Int64) (z1 : Int64) : entryFrame m #[(.long z0), (.long z1)] 6 = mkF m 0 #[.val (.long z0), .second, .val (.long z1), .second, .unset, .unset] [] := by first | (simp [entryFrame, mkF, argsToLocals, Value.category]; done) | rfl
set_option maxRecDepth 65536 in
set_option maxHeartbeats 40000000 in
theorem rm2 (l : Launch) (Z : State) (a0 : Array Value) (hw : ∀ d ∈ tables_1, d.before a0 Z = true) (ws : List Jvm.Cond) (z0 : Int64) (z1 : Int64)  (h0 : Heap) (n0 : Nat) (Z0 : n0 ≤ h0.size)  :
    MetFree l (⟨"com/example/nottingham/nottingham/RuntimeClockAfterPinLaw", "expected", "(JJ)J"⟩ : MethodName) (head1 (Jvm.Cond.code (⟨"com/example/nottingham/nottingham/RuntimeClockAfterPinLaw", "expected", "(JJ)J"⟩ : MethodName) method_3_code 6 (some .long) :: ws) (⟨0, 0, 0, 0⟩ : Room)) (fun a U => a = #[(.long z0), (.long z1)] ∧ Z.Warmed39 U.vm ∧ U.heap = h0) (fun _ _ _ _ _ => True) (fun _ U o U' => ∃ v L, o = .returned v ∧ QP n0 h0 (.long (own_exp z0 z1)) v U'.heap L ∧ FrameEnd U o U' L 0 0) := by
  refine MetFree.of_bodySF (plainFor_of_name own_pn1) hisR ?_
  intro p e s m args below meth c s₁ Bd hml0 hP hK
  obtain ⟨rfl, hZ, hh⟩ := hP
  have hx := Bd.exec
  have hby := Bd.bytes
  have hml : c.maxLocals = 6 := hml0
  have hown : s.vm.findClass "com/example/nottingham/nottingham/RuntimeClockAfterPinLaw" = some m.cls := findClass_of_methodNamed Bd.named
  have hnm := (name_of_methodNamed Bd.named Bd.method).1
  have hlk : meth.locks = false := Bd.notSynchronized
  have hret := Bd.returns
  have X0 : Stand p l e (⟨0, 0, 0, 0⟩ : Room) s m #[(.long z0), (.long z1)] below meth c s₁ [] 0 0 := Stand.of_body Bd
  have e0 : s₁.heap = h0 := by rw [← hh, Bd.state]; rfl
  have N0 := Fr.nil n0
  have GOAL : Gl p e below s (QP n0 h0 (.long (own_exp z0 z1))) 0 0 (s₁.setTop (entryFrame m #[(.long z0), (.long z1)] 6)) := by
    refine Gl.cast (ef2 m z0 z1) ?_
    refine Gl.st (b := s₁.setTop (mkF m 1 #[.val (.long z0), .second, .val (.long z1), .second, .unset, .unset] [(.long z0)])) (fun t k => XS.lloadN X0.here hx rfl (hb hby d2_0) rfl k) ?_
    refine Gl.st (b := s₁.setTop (mkF m 2 #[.val (.long z0), .second, .val (.long z1), .second, .unset, .unset] [(.long z1), (.long z0)])) (fun t k => XS.lloadN X0.here hx rfl (hb hby d2_1) rfl k) ?_
    refine Gl.st (b := s₁.setTop (mkF m 3 #[.val (.long z0), .second, .val (.long z1), .second, .unset, .unset] [(.long (z0 + z1))])) (fun t k => XS.ladd X0.here hx rfl (hb hby d2_2) rfl k) ?_
    refine Gl.st (b := s₁.setTop (mkF m 5 #[.val (.long z0), .second, .val (.long z1), .second, .val (.long (z0 + z1)), .second] [])) (fun t k => XS.lstore X0.here hx rfl (hb hby d2_3) rfl (l' := #[.val (.long z0), .second, .val (.long z1), .second, .val (.long (z0 + z1)), .second]) rfl k) ?_
    refine Gl.st (b := s₁.setTop (mkF m 6 #[.val (.long z0), .second, .val (.long z1), .second, .val (.long (z0 + z1)), .second] [(.long z1)])) (fun t k => XS.lloadN X0.here hx rfl (hb hby d2_5) rfl k) ?_
    refine Gl.st (b := s₁.setTop (mkF m 7 #[.val (.long z0), .second, .val (.long z1), .second, .val (.long (z0 + z1)), .second] [(.long (0 : Int64)), (.long z1)])) (fun t k => XS.lconst X0.here hx rfl (hb hby d2_6) k) ?_
    refine Gl.st (b := s₁.setTop (mkF m 8 #[.val (.long z0), .second, .val (.long z1), .second, .val (.long (z0 + z1)), .second] [(.int (lcmpW z1 (0 : Int64)))])) (fun t k => XS.lcmp X0.here hx rfl (hb hby d2_7) rfl k) ?_
    by_cases hc8 : 0 < z1.toInt
    · -- hc8 True
      refine Gl.st (b := s₁.setTop (mkF m 11 #[.val (.long z0), .second, .val (.long z1), .second, .val (.long (z0 + z1)), .second] [])) (fun t k => XS.ifNo X0.here hx rfl (hb hby d2_8) rfl ((if0 _ _).trans (tlt (x := (0 : Int32)) (y := (lcmpW z1 (0 : Int64))) ((lw_gt z1 (0 : Int64)).mpr (own_ltJ.mpr hc8))).2.2.2) k) ?_
      refine Gl.st (b := s₁.setTop (mkF m 13 #[.val (.long z0), .second, .val (.long z1), .second, .val (.long (z0 + z1)), .second] [(.long (z0 + z1))])) (fun t k => XS.lload X0.here hx rfl (hb hby d2_11) rfl k) ?_
      refine Gl.st (b := s₁.setTop (mkF m 14 #[.val (.long z0), .second, .val (.long z1), .second, .val (.long (z0 + z1)), .second] [(.long (0 : Int64)), (.long (z0 + z1))])) (fun t k => XS.lconst X0.here hx rfl (hb hby d2_13) k) ?_
      refine Gl.st (b := s₁.setTop (mkF m 15 #[.val (.long z0), .second, .val (.long z1), .second, .val (.long (z0 + z1)), .second] [(.int (lcmpW (z0 + z1) (0 : Int64)))])) (fun t k => XS.lcmp X0.here hx rfl (hb hby d2_14) rfl k) ?_
      by_cases hc15 : (z0 + z1).toInt < 0
      · -- hc15 True
        refine Gl.st (b := s₁.setTop (mkF m 18 #[.val (.long z0), .second, .val (.long z1), .second, .val (.long (z0 + z1)), .second] [])) (fun t k => XS.ifNo X0.here hx rfl (hb hby d2_15) rfl ((if0 _ _).trans (tlt (x := (lcmpW (z0 + z1) (0 : Int64))) (y := (0 : Int32)) ((lw_lt (z0 + z1) (0 : Int64)).mpr (own_ltJ.mpr hc15))).2.1) k) ?_
        refine Gl.st (b := s₁.setTop (mkF m 21 #[.val (.long z0), .second, .val (.long z1), .second, .val (.long (z0 + z1)), .second] [(.long (9223372036854775807 : Int64))])) (fun t k => X0.ldc2Long hx hown (mvT hZ (hw _ (List.mem_of_getElem? (i := 0) rfl))) (g := (mkF m 18 #[.val (.long z0), .second, .val (.long z1), .second, .val (.long (z0 + z1)), .second] [])) rfl (hb hby d2_18) t k) ?_
        exact Gl.retJ X0 hx hret (hb hby d2_21) hlk (by decide) (by decide) ⟨by rw [own_exp, if_pos hc8, if_pos hc15], N0, e0⟩
      · -- hc15 False
        refine Gl.st (b := s₁.setTop (mkF m 22 #[.val (.long z0), .second, .val (.long z1), .second, .val (.long (z0 + z1)), .second] [])) (fun t k => XS.ifYes X0.here hx rfl (pc0 := 15) (pc' := 22) rfl (hb hby d2_15) rfl ((if0 _ _).trans (flt (x := (lcmpW (z0 + z1) (0 : Int64))) (y := (0 : Int32)) (fun q => hc15 (own_ltJ.mp ((lw_lt (z0 + z1) (0 : Int64)).mp q)))).2.1) (by decide) (by decide) k) ?_
        refine Gl.st (b := s₁.setTop (mkF m 24 #[.val (.long z0), .second, .val (.long z1), .second, .val (.long (z0 + z1)), .second] [(.long (z0 + z1))])) (fun t k => XS.lload X0.here hx rfl (hb hby d2_22) rfl k) ?_
        exact Gl.retJ X0 hx hret (hb hby d2_24) hlk (by decide) (by decide) ⟨by rw [own_exp, if_pos hc8, if_neg hc15], N0, e0⟩
    · -- hc8 False
      refine Gl.st (b := s₁.setTop (mkF m 22 #[.val (.long z0), .second, .val (.long z1), .second, .val (.long (z0 + z1)), .second] [])) (fun t k => XS.ifYes X0.here hx rfl (pc0 := 8) (pc' := 22) rfl (hb hby d2_8) rfl ((if0 _ _).trans (flt (x := (0 : Int32)) (y := (lcmpW z1 (0 : Int64))) (fun q => hc8 (own_ltJ.mp ((lw_gt z1 (0 : Int64)).mp q)))).2.2.2) (by decide) (by decide) k) ?_
      refine Gl.st (b := s₁.setTop (mkF m 24 #[.val (.long z0), .second, .val (.long z1), .second, .val (.long (z0 + z1)), .second] [(.long (z0 + z1))])) (fun t k => XS.lload X0.here hx rfl (hb hby d2_22) rfl k) ?_
      exact Gl.retJ X0 hx hret (hb hby d2_24) hlk (by decide) (by decide) ⟨by rw [own_exp, if_neg hc8], N0, e0⟩
  exact GOAL
theorem ef0 (m : MethodId) (z0 : Int64) (z1 : Int64) : entryFrame m #[(.long z0), (.long z1)] maxLocals = mkF m 0 #[.val (.long z0), .second, .val (.long z1), .second, .unset, .unset, .unset, .unset, .unset, .unset] [] := by first | (simp [entryFrame, mkF, argsToLocals, Value.category, maxLocals]; done) | rfl
set_option maxRecDepth 65536 in
set_option maxHeartbeats 40000000 in
theorem rm0 (l : Launch) (Z : State) (a0 : Array Value) (hw : ∀ d ∈ tables_1, d.before a0 Z = true) (ws : List Jvm.Cond) (z0 : Int64) (z1 : Int64)  (h0 : Heap) (n0 : Nat) (Z0 : n0 ≤ h0.size)  :
    MetFree l x (head1 (Jvm.Cond.code x code maxLocals ret :: ws) room_1) (fun a U => a = #[(.long z0), (.long z1)] ∧ Z.Warmed39 U.vm ∧ U.heap = h0) (fun _ _ _ _ _ => True) (fun _ U o U' => ∃ v L, o = .returned v ∧ QL n0 v U'.heap L ∧ FrameEnd U o U' L 0 0) := by
  refine MetFree.of_bodySF (plainFor_of_name own_pn1) hisR ?_
  intro p e s m args below meth c s₁ Bd hml0 hP hK
  obtain ⟨rfl, hZ, hh⟩ := hP
  have hx := Bd.exec
  have hby := Bd.bytes
  have hml : c.maxLocals = 10 := hml0
  have hown : s.vm.findClass "com/example/nottingham/nottingham/RuntimeClockAfterPinLaw" = some m.cls := findClass_of_methodNamed Bd.named
  have hnm := (name_of_methodNamed Bd.named Bd.method).1
  have hlk : meth.locks = false := Bd.notSynchronized
  have hret := Bd.returns
  have X0 : Stand p l e room_1 s m #[(.long z0), (.long z1)] below meth c s₁ [] 0 0 := Stand.of_body Bd
  have e0 : s₁.heap = h0 := by rw [← hh, Bd.state]; rfl
  have N0 := Fr.nil n0
  have GOAL : Gl p e below s (QL n0) 0 0 (s₁.setTop (entryFrame m #[(.long z0), (.long z1)] maxLocals)) := by
    refine Gl.cast (ef0 m z0 z1) ?_
    refine Gl.st (b := s₁.setTop (mkF m 1 #[.val (.long z0), .second, .val (.long z1), .second, .unset, .unset, .unset, .unset, .unset, .unset] [(.long z0)])) (fun t k => XS.lloadN X0.here hx rfl (hb hby at_0) rfl k) ?_
    refine Gl.st (b := s₁.setTop (mkF m 4 #[.val (.long z0), .second, .val (.long z1), .second, .unset, .unset, .unset, .unset, .unset, .unset] [(.long (9223372036854775807 : Int64)), (.long z0)])) (fun t k => X0.ldc2Long hx hown (mvT hZ (hw _ (List.mem_of_getElem? (i := 0) rfl))) (g := (mkF m 1 #[.val (.long z0), .second, .val (.long z1), .second, .unset, .unset, .unset, .unset, .unset, .unset] [(.long z0)])) rfl (hb hby at_1) t k) ?_
    refine Gl.st (b := s₁.setTop (mkF m 5 #[.val (.long z0), .second, .val (.long z1), .second, .unset, .unset, .unset, .unset, .unset, .unset] [(.long (z0 &&& (9223372036854775807 : Int64)))])) (fun t k => XS.land X0.here hx rfl (hb hby at_4) rfl k) ?_
    refine Gl.st (b := s₁.setTop (mkF m 7 #[.val (.long z0), .second, .val (.long z1), .second, .val (.long (z0 &&& (9223372036854775807 : Int64))), .second, .unset, .unset, .unset, .unset] [])) (fun t k => XS.lstore X0.here hx rfl (hb hby at_5) rfl (l' := #[.val (.long z0), .second, .val (.long z1), .second, .val (.long (z0 &&& (9223372036854775807 : Int64))), .second, .unset, .unset, .unset, .unset]) rfl k) ?_
    refine Gl.st (b := s₁.setTop (mkF m 8 #[.val (.long z0), .second, .val (.long z1), .second, .val (.long (z0 &&& (9223372036854775807 : Int64))), .second, .unset, .unset, .unset, .unset] [(.long z1)])) (fun t k => XS.lloadN X0.here hx rfl (hb hby at_7) rfl k) ?_
    refine Gl.st (b := s₁.setTop (mkF m 10 #[.val (.long z0), .second, .val (.long z1), .second, .val (.long (z0 &&& (9223372036854775807 : Int64))), .second, .val (.long z1), .second, .unset, .unset] [])) (fun t k => XS.lstore X0.here hx rfl (hb hby at_8) rfl (l' := #[.val (.long z0), .second, .val (.long z1), .second, .val (.long (z0 &&& (9223372036854775807 : Int64))), .second, .val (.long z1), .second, .unset, .unset]) rfl k) ?_
    refine Gl.st (b := s₁.setTop (mkF m 12 #[.val (.long z0), .second, .val (.long z1), .second, .val (.long (z0 &&& (9223372036854775807 : Int64))), .second, .val (.long z1), .second, .unset, .unset] [(.long (z0 &&& (9223372036854775807 : Int64)))])) (fun t k => XS.lload X0.here hx rfl (hb hby at_10) rfl k) ?_
    refine Gl.st (b := s₁.setTop (mkF m 14 #[.val (.long z0), .second, .val (.long z1), .second, .val (.long (z0 &&& (9223372036854775807 : Int64))), .second, .val (.long z1), .second, .unset, .unset] [(.long z1), (.long (z0 &&& (9223372036854775807 : Int64)))])) (fun t k => XS.lload X0.here hx rfl (hb hby at_12) rfl k) ?_
    refine Gl.callP (W := 0) (argsL := [(.long (z0 &&& (9223372036854775807 : Int64))), (.long z1)]) (rest := []) (w := (.long (own_after (z0 &&& (9223372036854775807 : Int64)) z1))) X0 hx hZ hown (hw _ (List.mem_of_getElem? (i := 1) rfl)) (hw _ (List.mem_of_getElem? (i := 2) rfl)) (hw _ (List.mem_of_getElem? (i := 3) rfl)) (hw _ (List.mem_of_getElem? (i := 4) rfl)) (by decide) (rm1 l Z a0 hw [] (z0 &&& (9223372036854775807 : Int64)) z1 h0 n0 Z0) (by decide) (by decide) e0 N0 (by decide) (by decide) (by rw [hml]; rfl) (lenOf own_pd0 rfl) rfl rfl (Nat.le_of_eq rfl) (hb hby at_14) ?_
    intro T1 L1 X1 e1 N1
    show Gl _ _ _ _ _ _ _ (T1.setTop (mkF m 17 #[.val (.long z0), .second, .val (.long z1), .second, .val (.long (z0 &&& (9223372036854775807 : Int64))), .second, .val (.long z1), .second, .unset, .unset] [(.long (own_after (z0 &&& (9223372036854775807 : Int64)) z1))]))
    refine Gl.st (b := T1.setTop (mkF m 19 #[.val (.long z0), .second, .val (.long z1), .second, .val (.long (z0 &&& (9223372036854775807 : Int64))), .second, .val (.long z1), .second, .val (.long (own_after (z0 &&& (9223372036854775807 : Int64)) z1)), .second] [])) (fun t k => XS.lstore X1.here hx rfl (hb hby at_17) rfl (l' := #[.val (.long z0), .second, .val (.long z1), .second, .val (.long (z0 &&& (9223372036854775807 : Int64))), .second, .val (.long z1), .second, .val (.long (own_after (z0 &&& (9223372036854775807 : Int64)) z1)), .second]) rfl k) ?_
    refine Gl.st (b := T1.setTop (mkF m 21 #[.val (.long z0), .second, .val (.long z1), .second, .val (.long (z0 &&& (9223372036854775807 : Int64))), .second, .val (.long z1), .second, .val (.long (own_after (z0 &&& (9223372036854775807 : Int64)) z1)), .second] [(.long (own_after (z0 &&& (9223372036854775807 : Int64)) z1))])) (fun t k => XS.lload X1.here hx rfl (hb hby at_19) rfl k) ?_
    refine Gl.st (b := T1.setTop (mkF m 23 #[.val (.long z0), .second, .val (.long z1), .second, .val (.long (z0 &&& (9223372036854775807 : Int64))), .second, .val (.long z1), .second, .val (.long (own_after (z0 &&& (9223372036854775807 : Int64)) z1)), .second] [(.long (z0 &&& (9223372036854775807 : Int64))), (.long (own_after (z0 &&& (9223372036854775807 : Int64)) z1))])) (fun t k => XS.lload X1.here hx rfl (hb hby at_21) rfl k) ?_
    refine Gl.st (b := T1.setTop (mkF m 25 #[.val (.long z0), .second, .val (.long z1), .second, .val (.long (z0 &&& (9223372036854775807 : Int64))), .second, .val (.long z1), .second, .val (.long (own_after (z0 &&& (9223372036854775807 : Int64)) z1)), .second] [(.long z1), (.long (z0 &&& (9223372036854775807 : Int64))), (.long (own_after (z0 &&& (9223372036854775807 : Int64)) z1))])) (fun t k => XS.lload X1.here hx rfl (hb hby at_23) rfl k) ?_
    refine Gl.callP (W := 2) (argsL := [(.long (z0 &&& (9223372036854775807 : Int64))), (.long z1)]) (rest := [(.long (own_after (z0 &&& (9223372036854775807 : Int64)) z1))]) (w := (.long (own_exp (z0 &&& (9223372036854775807 : Int64)) z1))) X1 hx hZ hown (hw _ (List.mem_of_getElem? (i := 6) rfl)) (hw _ (List.mem_of_getElem? (i := 7) rfl)) (hw _ (List.mem_of_getElem? (i := 8) rfl)) (hw _ (List.mem_of_getElem? (i := 9) rfl)) (by decide) (rm2 l Z a0 hw [] (z0 &&& (9223372036854775807 : Int64)) z1 h0 n0 Z0) (by decide) (by decide) e1 N1 (by decide) (by decide) (by rw [hml]; rfl) (lenOf own_pd0 rfl) rfl rfl (Nat.le_of_eq rfl) (hb hby at_25) ?_
    intro T2 L2 X2 e2 N2
    show Gl _ _ _ _ _ _ _ (T2.setTop (mkF m 28 #[.val (.long z0), .second, .val (.long z1), .second, .val (.long (z0 &&& (9223372036854775807 : Int64))), .second, .val (.long z1), .second, .val (.long (own_after (z0 &&& (9223372036854775807 : Int64)) z1)), .second] [(.long (own_exp (z0 &&& (9223372036854775807 : Int64)) z1)), (.long (own_after (z0 &&& (9223372036854775807 : Int64)) z1))]))
    refine Gl.st (b := T2.setTop (mkF m 29 #[.val (.long z0), .second, .val (.long z1), .second, .val (.long (z0 &&& (9223372036854775807 : Int64))), .second, .val (.long z1), .second, .val (.long (own_after (z0 &&& (9223372036854775807 : Int64)) z1)), .second] [(.int (lcmpW (own_after (z0 &&& (9223372036854775807 : Int64)) z1) (own_exp (z0 &&& (9223372036854775807 : Int64)) z1)))])) (fun t k => XS.lcmp X2.here hx rfl (hb hby at_28) rfl k) ?_
    refine Gl.st (b := T2.setTop (mkF m 32 #[.val (.long z0), .second, .val (.long z1), .second, .val (.long (z0 &&& (9223372036854775807 : Int64))), .second, .val (.long z1), .second, .val (.long (own_after (z0 &&& (9223372036854775807 : Int64)) z1)), .second] [])) (fun t k => XS.ifNo X2.here hx rfl (hb hby at_29) rfl ((if0 _ _).trans (teq ((lw_eq _ _).mpr (own_key z0 z1))).2) k) ?_
    refine Gl.st (b := T2.setTop (mkF m 33 #[.val (.long z0), .second, .val (.long z1), .second, .val (.long (z0 &&& (9223372036854775807 : Int64))), .second, .val (.long z1), .second, .val (.long (own_after (z0 &&& (9223372036854775807 : Int64)) z1)), .second] [(.int (1 : Int32))])) (fun t k => XS.iconst X2.here hx rfl (hb hby at_32) k) ?_
    refine Gl.st (b := T2.setTop (mkF m 37 #[.val (.long z0), .second, .val (.long z1), .second, .val (.long (z0 &&& (9223372036854775807 : Int64))), .second, .val (.long z1), .second, .val (.long (own_after (z0 &&& (9223372036854775807 : Int64)) z1)), .second] [(.int (1 : Int32))])) (fun t k => XS.goto X2.here hx rfl (pc0 := 33) (pc' := 37) rfl (hb hby at_33) (by decide) (by decide) k) ?_
    exact Gl.retN X2 hx hret (by simp) (hb hby at_37) hlk (by decide) (by decide) ⟨rfl, N2⟩
  exact GOAL
set_option maxRecDepth 65536 in
set_option maxHeartbeats 40000000 in
theorem comes_1 {Post : Tables → Env → Array Value → State → Outcome → State → Prop} (hpost : ∀ tb e args s v u, (limb_1_1.after args s (.returned v) u = true ∧ limb_1_2.after args s (.returned v) u = true ∧ True) → FrameEnd s (.returned v) u (Jvm.fieldLocs frame_1_writes args s ++ Jvm.arrayLocs frame_1_arrays args s ++ Jvm.staticLocs frame_1_statics s) 0 0 → Post tb e args s (.returned v) u) :
    ArmFor flags0 classFile x code maxLocals ret World_1 tables_1 room_1 Calls_1 rest_1 Pre_1 Post := by
  intro l hfl _ _ p e ha hc hk s m args below hf hA hF happ hP
  obtain ⟨hcalls, hrest, hpre⟩ := hP
  obtain ⟨-, -, -, hnamed, -, -, -, hat⟩ := (Spec.applies_iff hf).mp happ
  obtain ⟨hg, hn⟩ := and_e (Cond.before_iff.mp (show (Jvm.Cond.and given_1 narrow_1).before args s = true from hpre))
  obtain ⟨g1, k1⟩ := and_e hg
  obtain ⟨g2, k2⟩ := and_e k1
  obtain ⟨w0, w1, rfl⟩ : ∃ w0 w1 : Value, args = #[w0, w1] := by
    have hs : args.size = 2 := by simpa [Cond.value, given_1] using g1
    obtain ⟨L⟩ := args
    match L, hs with
    | [w0, w1], _ => exact ⟨w0, w1, rfl⟩
  have hw := fun d (hd : d ∈ tables_1) => atoms_spec (ws := Jvm.Cond.code x code maxLocals ret :: tables_1) hat d (List.mem_cons_of_mem _ hd)
  obtain ⟨i0, ei0⟩ := isL_v g2
  obtain rfl : w0 = (.long i0) := Option.some.inj ei0
  obtain ⟨i1, ei1⟩ := isL_v k2
  obtain rfl : w1 = (.long i1) := Option.some.inj ei1
  obtain ⟨n, o, h1, h2, h3, _, L, rfl, ⟨rfl, N⟩, hq⟩ := rm0 l s _ hw tables_1 i0 i1 s.heap s.heap.size (Nat.le_refl _)  p e ha hc hk s m _ below hf ((Spec.applies_iff_loose hf).mp happ).1 ⟨rfl, State.Warmed39.refl s, rfl⟩ trivial
  refine ⟨n, _, h1, h2, h3, hpost _ _ _ _ _ _ ⟨Cond.after_iff.mpr rfl, Cond.after_iff.mpr (eq_i res_at (Term.int_eval (1)) rfl), trivial⟩ ⟨hq.1, hq.2.1, (hq.2.2.sift fun y hy => Or.inr (N y hy)).mono (by decide) (by decide)⟩⟩
theorem main_1_1 : Claimed_1_1 := comes_1 fun _ _ _ _ _ _ h hF => ⟨h.1, hF⟩
theorem main_1_2 : Claimed_1_2 := comes_1 fun _ _ _ _ _ _ h hF => ⟨h.2.1, hF⟩

end Jvm.Pilot.@@N@@
namespace Jvm.Pilot.@@N@@
open Jvm Jvm.ClassFile Sem Op Lib Jvm.Free Jvm.Stand Jvm.Pilot.@@N@@.Jvm.D
/-! MADE BY PROGRAM (witnessworld.py) out of the Statement's table words and the real class files: 9 classes; the members and pool entries that the words name. The judged class is class 1, her method 1. -/
namespace start1
open Jvm.ClassFile
def u (s : String) : CpInfo := .utf8 (stringToUtf16 s)
/-- a pool by its gaps: so many unusable entries, then the entry; so many at the end -/
def gap : Nat → List CpInfo → List CpInfo
  | 0, r => r
  | n + 1, r => .unusable :: gap n r
def poolList (es : List (Nat × CpInfo)) (last : Nat) : List CpInfo := es.foldr (fun e r => gap e.1 (e.2 :: r)) (gap last [])
def pool (es : List (Nat × CpInfo)) (last : Nat) : Array CpInfo := ⟨poolList es last⟩
def fileOf (pool : Array CpInfo) (this : Nat) (attrs : Array Attribute := #[]) (ms : Array MethodInfo := #[]) (fl : Nat := 33) (sup : Nat := 0) (ifs : Array Nat := #[]) (fds : Array FieldInfo := #[]) : ClassFile where
  minorVersion := 0
  majorVersion := 65
  constantPool := pool
  accessFlags := fl
  thisClass := this
  superClass := sup
  interfaces := ifs
  fields := fds
  methods := ms
  attributes := attrs
def plain (name : String) (sup : Option ClassId) : Class where
  name := name
  kind := .ordinary
  loader := none
  accessFlags := 33
  super := sup
  interfaces := #[]
  cf := none
  fields := #[]
  methods := #[]
  instanceTypes := #[]
  staticTypes := #[]
  resolved := #[]
  callSites := []
  init := .initialized
  statics := none
  mirror := none

def pool0 : Array CpInfo := pool [(5, u "<init>"), (0, u "()V"), (1, .class_ 10), (1, u "java/lang/Object")] 113

def k0m0 : Method := { name := "<init>", desc := "()V", sig := { parameters := [], returnType := none }, accessFlags := 1, code := none }
/-- java/lang/Object -/
def k0 : Class := { plain "java/lang/Object" none with
  accessFlags := 33
  interfaces := #[]
  cf := some (fileOf pool0 8 #[] #[{ accessFlags := 1, nameIndex := 5, descriptorIndex := 6, attributes := #[] }] 33 0 #[] #[])
  fields := #[]
  methods := #[k0m0]
  instanceTypes := #[]
  staticTypes := #[]
  resolved := Array.replicate 124 none
  statics := none }

def pool1 : Array CpInfo := pool [(2, .class_ 4), (1, u "java/lang/Object"), (0, u "<init>"), (0, u "()V"), (2, .long 9223372036854775807), (1, .methodref 12 13), (0, .class_ 14), (0, .nameAndType 15 16), (0, u "com/example/nottingham/nottingham/RuntimeClock"), (0, u "after"), (0, u "(JJ)J"), (0, .methodref 18 19), (0, .class_ 20), (0, .nameAndType 21 16), (0, u "com/example/nottingham/nottingham/RuntimeClockAfterPinLaw"), (0, u "expected"), (2, u "law"), (0, u "(JJ)Z")] 3

def k1m0 : Method := { name := "<init>", desc := "()V", sig := { parameters := [], returnType := none }, accessFlags := 1, code := none }
def k1c1 : Code := { maxStack := 6, maxLocals := 10, code := code, exceptionTable := #[], attributes := #[] }
def k1m1 : Method := { name := "law", desc := "(JJ)Z", sig := { parameters := [.long, .long], returnType := some .boolean }, accessFlags := 9, code := some k1c1 }
def k1c2 : Code := { maxStack := 4, maxLocals := 6, code := method_3_code, exceptionTable := #[], attributes := #[] }
def k1m2 : Method := { name := "expected", desc := "(JJ)J", sig := { parameters := [.long, .long], returnType := some .long }, accessFlags := 10, code := some k1c2 }
/-- com/example/nottingham/nottingham/RuntimeClockAfterPinLaw -/
def k1 : Class := { plain "com/example/nottingham/nottingham/RuntimeClockAfterPinLaw" (some 0) with
  accessFlags := 49
  interfaces := #[]
  cf := some (fileOf pool1 18 #[] #[{ accessFlags := 1, nameIndex := 5, descriptorIndex := 6, attributes := #[] }, { accessFlags := 9, nameIndex := 24, descriptorIndex := 25, attributes := #[] }, { accessFlags := 10, nameIndex := 21, descriptorIndex := 16, attributes := #[] }] 49 2 #[] #[])
  fields := #[]
  methods := #[k1m0, k1m1, k1m2]
  instanceTypes := #[]
  staticTypes := #[]
  resolved := Array.replicate 29 none
  statics := none }

def pool2 : Array CpInfo := pool [(2, .class_ 4), (1, u "java/lang/Object"), (0, u "<init>"), (0, u "()V"), (1, .class_ 10), (1, u "com/example/nottingham/nottingham/RuntimeClock"), (0, u "SYSTEM"), (0, u "Lcom/example/nottingham/nottingham/RuntimeClock;"), (16, u "after"), (0, u "(JJ)J"), (2, .long 9223372036854775807), (1, .class_ 36), (0, u "com/example/nottingham/nottingham/RuntimeClock$SystemClock")] 17

def k2m0 : Method := { name := "<init>", desc := "()V", sig := { parameters := [], returnType := none }, accessFlags := 0, code := none }
def k2c1 : Code := { maxStack := 6, maxLocals := 4, code := prog_30_method_6_code, exceptionTable := #[], attributes := #[] }
def k2m1 : Method := { name := "after", desc := "(JJ)J", sig := { parameters := [.long, .long], returnType := some .long }, accessFlags := 8, code := some k2c1 }
/-- com/example/nottingham/nottingham/RuntimeClock -/
def k2 : Class := { plain "com/example/nottingham/nottingham/RuntimeClock" (some 0) with
  accessFlags := 1056
  interfaces := #[]
  cf := some (fileOf pool2 8 #[.nestMembers #[35]] #[{ accessFlags := 0, nameIndex := 5, descriptorIndex := 6, attributes := #[] }, { accessFlags := 8, nameIndex := 29, descriptorIndex := 30, attributes := #[] }] 1056 2 #[] #[{ accessFlags := 26, nameIndex := 11, descriptorIndex := 12, attributes := #[] }])
  fields := #[{ name := "SYSTEM", type := (.object "com/example/nottingham/nottingham/RuntimeClock"), accessFlags := 26, slot := 0, constantValue := 0 }]
  methods := #[k2m0, k2m1]
  instanceTypes := #[]
  staticTypes := #[(.object "com/example/nottingham/nottingham/RuntimeClock")]
  resolved := Array.replicate 54 none
  statics := none }

def pool3 : Array CpInfo := pool [(1, u "java/lang/Cloneable"), (0, .class_ 1), (0, u "java/lang/Object"), (0, .class_ 3)] 3

/-- java/lang/Cloneable -/
def k3 : Class := { plain "java/lang/Cloneable" (some 0) with
  accessFlags := 1537
  interfaces := #[]
  cf := some (fileOf pool3 2 #[] #[] 1537 4 #[] #[])
  fields := #[]
  methods := #[]
  instanceTypes := #[]
  staticTypes := #[]
  resolved := Array.replicate 8 none
  statics := none }

def pool4 : Array CpInfo := pool [(1, u "java/io/Serializable"), (0, .class_ 1), (0, u "java/lang/Object"), (0, .class_ 3)] 3

/-- java/io/Serializable -/
def k4 : Class := { plain "java/io/Serializable" (some 0) with
  accessFlags := 1537
  interfaces := #[]
  cf := some (fileOf pool4 2 #[] #[] 1537 4 #[] #[])
  fields := #[]
  methods := #[]
  instanceTypes := #[]
  staticTypes := #[]
  resolved := Array.replicate 8 none
  statics := none }

/-- the primitive byte -/
def k5 : Class := { plain "byte" none with kind := .primitive 'B', accessFlags := 0x411 }
/-- [B -/
def k6 : Class := { plain "[B" (some 0) with kind := .array 5 .byte, interfaces := #[3, 4], accessFlags := 1041 }

/-- the primitive int -/
def k7 : Class := { plain "int" none with kind := .primitive 'I', accessFlags := 0x411 }
/-- [I -/
def k8 : Class := { plain "[I" (some 0) with kind := .array 7 .int, interfaces := #[3, 4], accessFlags := 1041 }

def heap : Heap := #[]
def classes : Array Class := #[k0, k1, k2, k3, k4, k5, k6, k7, k8]
def interned : List (Array UInt16 × Addr) := []
def slotsUsed : Nat := 0
def theMethod : MethodId := ⟨1, 1⟩
def args0 : Array Value := #[.long 5, .long 7]
def aboutOver (below : List Frame) : State where
  vm := { classes := classes, interned := interned.toArray }
  heap := heap
  slotsUsed := slotsUsed
  threads := #[{ frames := .invoking theMethod args0 :: below }]
def below0 : List Frame := [.native { method := ⟨0, 0⟩, args := #[] }]
def about1 : State := aboutOver below0
def p0 : Program := .bare "" "" ""
def e0 : Env := launch0.env 0 0 0
theorem w_frames : about1.frames = Frame.invoking theMethod args0 :: below0 := rfl
set_option maxRecDepth 65536 in
theorem w_args : argsFit about1.vm theMethod args0 = true := by decide +kernel
set_option maxRecDepth 65536 in
theorem w_heap : heapFits about1 = true := by decide +kernel
set_option maxRecDepth 65536 in
theorem w_runnable : about1.curStatus? = some .runnable := by decide +kernel
set_option maxRecDepth 65536 in
theorem w_alone : about1.alone = true := by decide +kernel
set_option maxRecDepth 65536 in
theorem w_named : about1.methodNamed? x = some theMethod := by decide +kernel
set_option maxRecDepth 65536 in
theorem w_hears : about1.hears theMethod below0 = true := by decide +kernel
set_option maxRecDepth 65536 in
theorem w_ripe : about1.ripe theMethod args0 below0 = true := by decide +kernel
theorem w_running : about1.status = .running := rfl
set_option maxRecDepth 65536 in
theorem w_room : about1.hasRoom e0.platform room_1 = true :=
  launch0.hasRoom_least _ room_1 (by decide +kernel) (by decide +kernel) (by decide +kernel) (by decide +kernel) (by decide +kernel) (by decide +kernel)
theorem allAtoms_all (ts : List Jvm.Cond) (a : Array Jvm.Value) (st : Jvm.State) : (allAtoms ts).before a st = ts.all (fun c => c.before a st) := by
  induction ts with
  | nil => rfl
  | cons c t ih =>
    show (Jvm.Cond.and c (allAtoms t)).before a st = _
    rw [Jvm.Cond.before_and, ih, List.all_cons]
def words1 : List Jvm.Cond := Jvm.Cond.code x code maxLocals ret :: tables_1
/-- a 'code' word, met by the world's own term for the bytes: nothing is compared byte by byte -/
theorem code_word {y : MethodName} {bytes : ByteArray} {mx : Nat} {rt : Option FieldType} {a : Array Value} {s : State} {m : MethodId} {meth : Method} {c : Code} (h1 : s.methodNamed? y = some m) (h2 : s.vm.method? m = some meth) (h3 : meth.code = some c) (h4 : c.code = bytes)
    (h5 : (c.maxLocals == mx && c.exceptionTable.isEmpty && decide (c.maxStack ≤ mostOperands) && decide (meth.sig.returnType = rt) && !meth.locks && decide (parseMethodDescriptor y.desc = some meth.sig)) = true) : (Jvm.Cond.code y bytes mx rt).before a s = true := by
  simp only [Bool.and_eq_true, beq_iff_eq, Bool.not_eq_true', decide_eq_true_eq] at h5
  obtain ⟨⟨⟨⟨⟨g1, g2⟩, g3⟩, g4⟩, g5⟩, g6⟩ := h5
  simp [Cond.before, Cond.holds, Cond.value, h1, h2, h3, h4, g1, g2, g3, g4, g5, g6]
def isCode : Jvm.Cond → Bool
  | .code _ _ _ _ => true
  | _ => false
theorem all_split {L : List Jvm.Cond} {P : Jvm.Cond → Bool} (h1 : L.all (fun c => isCode c || P c) = true) (h2 : ∀ c ∈ L.filter isCode, P c = true) : L.all P = true := by
  refine List.all_eq_true.mpr fun c hc => ?_
  have h := List.all_eq_true.mp h1 c hc
  rcases Bool.eq_false_or_eq_true (isCode c) with hi | hi
  · exact h2 c (List.mem_filter.mpr ⟨hc, hi⟩)
  · simpa [hi] using h
set_option maxRecDepth 65536 in
theorem w_c0 : (Jvm.Cond.code x code maxLocals ret).before args0 about1 = true := code_word (m := ⟨1, 1⟩) (meth := k1m1) (c := k1c1) (by decide +kernel) rfl rfl rfl (by decide +kernel)
set_option maxRecDepth 65536 in
theorem w_c1 : (Jvm.Cond.code ({ cls := "com/example/nottingham/nottingham/RuntimeClock", name := "after", desc := "(JJ)J" } : Jvm.MethodName) prog_30_method_6_code (4 : Nat) (Option.some Jvm.ClassFile.FieldType.long)).before args0 about1 = true := code_word (m := ⟨2, 1⟩) (meth := k2m1) (c := k2c1) (by decide +kernel) rfl rfl rfl (by decide +kernel)
set_option maxRecDepth 65536 in
theorem w_c2 : (Jvm.Cond.code ({ cls := "com/example/nottingham/nottingham/RuntimeClockAfterPinLaw", name := "expected", desc := "(JJ)J" } : Jvm.MethodName) method_3_code (6 : Nat) (Option.some Jvm.ClassFile.FieldType.long)).before args0 about1 = true := code_word (m := ⟨1, 2⟩) (meth := k1m2) (c := k1c2) (by decide +kernel) rfl rfl rfl (by decide +kernel)
def codes1 : List Jvm.Cond := [Jvm.Cond.code x code maxLocals ret, Jvm.Cond.code ({ cls := "com/example/nottingham/nottingham/RuntimeClock", name := "after", desc := "(JJ)J" } : Jvm.MethodName) prog_30_method_6_code (4 : Nat) (Option.some Jvm.ClassFile.FieldType.long), Jvm.Cond.code ({ cls := "com/example/nottingham/nottingham/RuntimeClockAfterPinLaw", name := "expected", desc := "(JJ)J" } : Jvm.MethodName) method_3_code (6 : Nat) (Option.some Jvm.ClassFile.FieldType.long)]
set_option maxRecDepth 65536 in
theorem codes_eq : words1.filter isCode = codes1 := rfl
theorem w_codes : ∀ c ∈ words1.filter isCode, c.before args0 about1 = true := by
  rw [codes_eq]
  intro c hc
  simp only [codes1, List.mem_cons, List.not_mem_nil, or_false] at hc
  rcases hc with rfl | rfl | rfl
  · exact w_c0
  · exact w_c1
  · exact w_c2
set_option maxRecDepth 65536 in
theorem w_t1 : words1.all (fun c => isCode c || c.before args0 about1) = true := by decide +kernel
theorem w_tables : (allAtoms (Jvm.Cond.code x code maxLocals ret :: tables_1)).before args0 about1 = true := by
  rw [allAtoms_all]
  show words1.all (fun c => c.before args0 about1) = true
  refine all_split ?_ w_codes
  rw [w_t1]
set_option maxRecDepth 65536 in
theorem w_case : (Jvm.Cond.and given_1 narrow_1).before args0 about1 = true := by decide +kernel
theorem w_applies : (headSpec (Jvm.Cond.code x code maxLocals ret :: tables_1) room_1).applies x e0.platform about1 = true :=
  (Spec.applies_iff w_frames).mpr ⟨w_running, w_runnable, w_alone, w_named, w_hears, w_ripe, w_room, w_tables⟩
theorem atStart : AtStart classFile x code maxLocals ret World_1 tables_1 room_1 Calls_1 rest_1 Pre_1 launch0 p0 e0 about1 theMethod args0 below0 :=
  ⟨lists_1, trivial, launch0.admits_env _ _ _, launch0.least_env, fairChoices_fair.cas, fairChoices_fair.clock, w_frames, w_args, w_heap, w_applies, trivial, trivial, w_case⟩
end start1
theorem witness_1 : WitnessClaimed_1 := ⟨start1.p0, start1.e0, start1.about1, start1.theMethod, start1.args0, start1.below0, start1.atStart⟩
end Jvm.Pilot.@@N@@
