import JvmDerived
import JvmDerived.Pilot.@@N@@Statement
import JvmDerived.Pilot.@@N@@Code
set_option linter.unusedVariables false
set_option linter.unusedSimpArgs false
namespace Jvm.Pilot.@@N@@
open Jvm Jvm.ClassFile Sem Op Lib Jvm.Free Jvm.Stand Jvm.LawKit Jvm.RoadKit Bundle Jvm.Pilot.@@N@@.Jvm.D
/-! A walk as one goal: from the state U the run comes to an end that answers Q. -/
section Kit
def Go (p : Program) (e : Env) (below : List Frame) (s : State) (Q : Option Value → Heap → List Loc → Prop) (C N : Nat) (U : State) : Prop :=
  ∃ s₂ o, Steps p.tables e below U s₂ ∧ s₂.status = .running ∧ Ended s₂ below o ∧ ∃ v L, o = .returned v ∧ Q v s₂.heap L ∧ FrameEnd s o s₂ L C N
variable {p : Program} {l : Launch} {e : Env} {R : Room} {s : State} {m : MethodId} {args : Array Value} {below : List Frame} {meth : Method} {c : Code} {T : State} {locs : List Loc} {cells slots : Nat} {Q : Option Value → Heap → List Loc → Prop} {C N : Nat}
theorem gob {U U' : State} (h : ∀ t, Steps p.tables e below U' t → Steps p.tables e below U t) (k : Go p e below s Q C N U') : Go p e below s Q C N U := by
  obtain ⟨s₂, o, h1, r⟩ := k
  exact ⟨s₂, o, h _ h1, r⟩
theorem goZ (X : Stand p l e R s m args below meth c T locs cells slots) (hx : p.tables.exec = Jvm.exec) (hlk : meth.locks = false) {t : FieldType} {pc : Nat} {Ls : Array Slot} {z z' : Int32} {rest : List Value} (hret : meth.sig.returnType = some t) (ht : t = .boolean ∨ t = .byte ∨ t = .char ∨ t = .short) (hd : decode c.code pc = .ok (.ireturn, 1)) (hz : nar t z = z') (hq : Q (some (.int z')) T.heap locs) (hc : cells ≤ C) (hn : slots ≤ N) :
    Go p e below s Q C N (T.setTop (mkF m pc Ls (.int z :: rest))) := by
  subst hz
  obtain ⟨fs, hr, hrun, hended, hW, hsame⟩ := X.leave (v := some (.int (nar t z))) (fun h => by rw [hret] at h; cases h) hlk
  exact ⟨_, _, retN X hx hret ht hd hr, hrun, hended, _, _, rfl, hq, ⟨_, rfl⟩, hW, hsame.mono hc hn⟩
theorem goI (X : Stand p l e R s m args below meth c T locs cells slots) (hx : p.tables.exec = Jvm.exec) (hlk : meth.locks = false) {pc : Nat} {Ls : Array Slot} {z : Int32} {rest : List Value} (hret : meth.sig.returnType = some .int) (hd : decode c.code pc = .ok (.ireturn, 1)) (hq : Q (some (.int z)) T.heap locs) (hc : cells ≤ C) (hn : slots ≤ N) :
    Go p e below s Q C N (T.setTop (mkF m pc Ls (.int z :: rest))) := by
  obtain ⟨fs, hr, hrun, hended, hW, hsame⟩ := X.leave (v := some (.int z)) (fun h => by rw [hret] at h; cases h) hlk
  exact ⟨_, _, retOut X hx hret rfl (Or.inl ⟨rfl, Or.inl rfl, z, rfl⟩) hd hr, hrun, hended, _, _, rfl, hq, ⟨_, rfl⟩, hW, hsame.mono hc hn⟩
theorem goJ (X : Stand p l e R s m args below meth c T locs cells slots) (hx : p.tables.exec = Jvm.exec) (hlk : meth.locks = false) {pc : Nat} {Ls : Array Slot} {z : Int64} {rest : List Value} (hret : meth.sig.returnType = some .long) (hd : decode c.code pc = .ok (.lreturn, 1)) (hq : Q (some (.long z)) T.heap locs) (hc : cells ≤ C) (hn : slots ≤ N) :
    Go p e below s Q C N (T.setTop (mkF m pc Ls (.long z :: rest))) := by
  obtain ⟨fs, hr, hrun, hended, hW, hsame⟩ := X.leave (v := some (.long z)) (fun h => by rw [hret] at h; cases h) hlk
  exact ⟨_, _, retOut X hx hret rfl (Or.inr (Or.inl ⟨rfl, rfl, z, rfl⟩)) hd hr, hrun, hended, _, _, rfl, hq, ⟨_, rfl⟩, hW, hsame.mono hc hn⟩
theorem goD (X : Stand p l e R s m args below meth c T locs cells slots) (hx : p.tables.exec = Jvm.exec) (hlk : meth.locks = false) {pc : Nat} {Ls : Array Slot} {z : UInt64} {rest : List Value} (hret : meth.sig.returnType = some .double) (hd : decode c.code pc = .ok (.dreturn, 1)) (hq : Q (some (.double z)) T.heap locs) (hc : cells ≤ C) (hn : slots ≤ N) :
    Go p e below s Q C N (T.setTop (mkF m pc Ls (.double z :: rest))) := by
  obtain ⟨fs, hr, hrun, hended, hW, hsame⟩ := X.leave (v := some (.double z)) (fun h => by rw [hret] at h; cases h) hlk
  exact ⟨_, _, retOut X hx hret rfl (Or.inr (Or.inr (Or.inl ⟨rfl, rfl, z, rfl⟩))) hd hr, hrun, hended, _, _, rfl, hq, ⟨_, rfl⟩, hW, hsame.mono hc hn⟩
theorem goA (X : Stand p l e R s m args below meth c T locs cells slots) (hx : p.tables.exec = Jvm.exec) (hlk : meth.locks = false) {t : FieldType} {pc : Nat} {Ls : Array Slot} {z : Value} {rest : List Value} (hret : meth.sig.returnType = some t) (ht : t.isReference = true) (hv : z.isRef = true) (hd : decode c.code pc = .ok (.areturn, 1)) (hq : Q (some z) T.heap locs) (hc : cells ≤ C) (hn : slots ≤ N) :
    Go p e below s Q C N (T.setTop (mkF m pc Ls (z :: rest))) := by
  obtain ⟨fs, hr, hrun, hended, hW, hsame⟩ := X.leave (v := some z) (fun h => by rw [hret] at h; cases h) hlk
  have hnw : narrow t z = z := by cases z <;> cases t <;> first | rfl | (simp [Value.isRef] at hv) | (simp [FieldType.isReference] at ht)
  exact ⟨_, _, retOut X hx hret hnw (Or.inr (Or.inr (Or.inr (Or.inr ⟨rfl, ht, hv⟩)))) hd hr, hrun, hended, _, _, rfl, hq, ⟨_, rfl⟩, hW, hsame.mono hc hn⟩
theorem goV (X : Stand p l e R s m args below meth c T locs cells slots) (hx : p.tables.exec = Jvm.exec) (hlk : meth.locks = false) {pc : Nat} {Ls : Array Slot} (hret : meth.sig.returnType = none) (hd : decode c.code pc = .ok (.return_, 1)) (hq : Q none T.heap locs) (hc : cells ≤ C) (hn : slots ≤ N) :
    Go p e below s Q C N (T.setTop (mkF m pc Ls [])) := by
  obtain ⟨fs, hr, hrun, hended, hW, hsame⟩ := X.leave (v := none) (fun _ => rfl) hlk
  exact ⟨_, _, X.returnOut hx hret hd hr, hrun, hended, _, _, rfl, hq, ⟨_, rfl⟩, hW, hsame.mono hc hn⟩
theorem lremM {g : JFrame} {target : State} (X : Stand p l e R s m args below meth c T locs cells slots) (hx : p.tables.exec = Jvm.exec) (hg : g.method = m) {x y : Int64} {rest : List Value} (hd : decode c.code g.pc = .ok (.lrem, 1)) (hs : g.stack = .long y :: .long x :: rest) (hy : y ≠ 0)
    (hr : Steps p.tables e below (T.setTop { g with pc := g.pc + 1, stack := .long (x % y) :: rest }) target) : Steps p.tables e below (T.setTop g) target :=
  XS.lrem X.here hx hg hd hs hy (by rw [lrem_mod x y]; exact hr)
theorem own_lrem (x y : Int64) (d : Int) (hy : y.toInt = d) : (0 ≤ x.toInt → (x % y).toInt = x.toInt % d) ∧ (x.toInt < 0 → (x % y).toInt = -((-x.toInt) % d)) := by rw [Int64.toInt_mod, hy]; exact tr _ _
theorem own_lxor (x y : Int64) (hy : 0 ≤ y.toInt) : ((x ^^^ y).toInt < 0 ↔ x.toInt < 0) := by
  have h1 : (x ^^^ y).toBitVec.msb = (x.toBitVec.msb ^^ y.toBitVec.msb) := by rw [Int64.toBitVec_xor, BitVec.msb_xor]
  have h2 := BitVec.msb_eq_toInt (x := (x ^^^ y).toBitVec)
  have h3 := BitVec.msb_eq_toInt (x := x.toBitVec)
  have h4 := BitVec.msb_eq_toInt (x := y.toBitVec)
  have e1 : (x ^^^ y).toBitVec.toInt = (x ^^^ y).toInt := rfl
  have e2 : x.toBitVec.toInt = x.toInt := rfl
  have e3 : y.toBitVec.toInt = y.toInt := rfl
  rw [e1] at h2
  rw [e2] at h3
  rw [e3] at h4
  have h5 : ¬ y.toInt < 0 := by omega
  rw [h2, h3, h4, decide_eq_false h5, Bool.xor_false] at h1
  simpa using h1
theorem pop2L {g : JFrame} {target : State} (X : Stand p l e R s m args below meth c T locs cells slots) (hx : p.tables.exec = Jvm.exec) (hg : g.method = m) {x : Int64} {rest : List Value} (hd : decode c.code g.pc = .ok (.pop2, 1)) (hs : g.stack = .long x :: rest)
    (hr : Steps p.tables e below (T.setTop { g with pc := g.pc + 1, stack := rest }) target) : Steps p.tables e below (T.setTop g) target := by
  subst hg
  jvm_step X.here [X.here.top, hx, hd, hs, Value.category]
  exact hr
theorem own_staKeep {Z : State} {h h' : Heap} {C n d : String} {v : Value} {ws : List Addr} (F : Sta Z h C n d v) (K : Keep h h' ws) (hn : ∀ x ∈ ws, ∀ cell : Cell, h[x]? = some cell → cell.vm.isStatics = false) : Sta Z h' C n d v := by
  obtain ⟨cf, i, k, f, st, cell, h1, h2, h3, h4, h5, h6, h7⟩ := F
  exact ⟨cf, i, k, f, st, cell, h1, h2, h3, h4, K.2.1 _ _ h5 (fun q => by have q2 := hn _ q _ h5; rw [h6] at q2; cases q2), h6, h7⟩
theorem own_lmulR (x y : Int64) (d : Int) (hy : y.toInt = d) : ((x * y).toInt - x.toInt * d) % 18446744073709551616 = 0 := by rw [← hy]; exact c_lmul x y
theorem own_lmulL (x y : Int64) (d : Int) (hx : x.toInt = d) : ((x * y).toInt - d * y.toInt) % 18446744073709551616 = 0 := by rw [← hx]; exact c_lmul x y
theorem own_imulR (x y : Int32) (d : Int) (hy : y.toInt = d) : ((x * y).toInt - x.toInt * d) % 4294967296 = 0 := by rw [← hy]; exact c_imul x y
theorem own_imulL (x y : Int32) (d : Int) (hx : x.toInt = d) : ((x * y).toInt - d * y.toInt) % 4294967296 = 0 := by rw [← hx]; exact c_imul x y
theorem castX {k' n' : Nat} (X : Stand p l e R s m args below meth c T locs cells slots) (h1 : cells = k') (h2 : slots = n') : Stand p l e R s m args below meth c T locs k' n' := by
  subst h1
  subst h2
  exact X
end Kit

theorem own_feq {s : State} {args : Array Value} {t : Term} {C n d : String} {k : Int32} {a : Addr} (ht : t.eval args s none [] s = some (.ref a)) (h : (Jvm.Cond.eq (.field t C n d) (.int k)).value args s none s [] = some true) : Fld s s.heap a C n d (.int k) := by
  obtain ⟨x, y, e1, e2, -, -⟩ := cmp_v (Or.inl h)
  have q : (Term.int k).eval args s none [] s = some (.int k) := rfl
  have e3 : y = .int k := by
    rw [q] at e2
    exact (Option.some.inj e2).symm
  subst e3
  have e4 : x = .int k := by
    cases x <;> simp [Cond.value, e1, q] at h
    rw [h]
  subst e4
  rw [fld_at ht] at e1
  exact Fld.start e1
/-- getfield at an entry that is resolved already -/
theorem own_getR {p : Program} {l : Launch} {e : Env} {R : Room} {s : State} {m : MethodId} {args : Array Value} {below : List Frame} {meth : Method} {c : Code} {T : State} {locs : List Loc} {cells slots : Nat} {Z : State} {a0 : Array Value} {h : Heap} (X : Stand p l e R s m args below meth c T locs cells slots) (hx : p.tables.exec = Jvm.exec) (hZ : Z.Warmed39 s.vm) {own O n d : String} {index : Nat} (hown : s.vm.findClass own = some m.cls) (w : (Jvm.Cond.fieldRef own index O n d).before a0 Z = true) (eT : T.heap = h) {a : Addr} {v : Value} (F : Fld Z h a O n d v) {g : JFrame} (hg : g.method = m) {rest : List Value} (hs : g.stack = .ref a :: rest) (hd : decode c.code g.pc = .ok (.getfield index, 3)) :
    ∀ target, Steps p.tables e below (T.setTop { g with pc := g.pc + 3, stack := v :: rest }) target → Steps p.tables e below (T.setTop g) target := by
  obtain ⟨cell, cf, k, i, f, h1, h2, h3, h4, -, -, h7⟩ := F
  have hU : Z.Warmed39 T.vm := wtrans hZ X.warmed
  have w' := Cond.fieldRef_warmed39 hU w
  have hT : T.vm.findClass own = some m.cls := by rw [X.warmed.alike.findClass]; exact hown
  obtain ⟨c', k', i', f', hi, hready⟩ := Cond.fieldRef_spec (s := Z.setVm T.vm) (cur := m.cls) hT w'
  obtain ⟨k'', hi', -⟩ := State.fieldFound?_setVm (s := Z) hU.alike h2
  cases hi.symm.trans hi'
  intro target hrest
  subst hg
  jvm_step X.here [hx, hd, getfield.wp_ready (e := e) (s := T) (f := g) X.here.top hready h3 hs (show T.heap[a]? = some cell by rw [eT]; exact h1) h4 h7]
  exact hrest
theorem own_b53 (x : Int32) : B53 x.toInt64 := by
  have h1 := c_i2l x
  have h2 := rng32 x
  unfold B53
  omega
theorem own_b0 : B53 (0 : Int64) := by
  have e : (0 : Int64).toInt = 0 := by decide
  unfold B53
  omega
theorem own_cmpI (x : Int32) (o : CmpOp) : cmpValue (FP.dcmp (FP.i2d x) (0 : UInt64)) o = lcmpW x.toInt64 0 := by
  rw [i2d_w, ← l2d_zero]
  exact dcmpV_w (own_b53 x) own_b0 o
theorem own_dneg (a : Int64) (h : a ≠ 0) (h1 : -2 ^ 63 < a.toInt) : FP.dneg (FP.l2d a) = FP.l2d (-a) := (FP.dneg_core (FP.Core.l2d_notNaN a)).trans (FP.Core.l2d_neg h h1).symm
theorem own_cmpN (x : Int32) (o : CmpOp) : cmpValue (FP.dcmp (FP.dneg (FP.i2d x)) (0 : UInt64)) o = lcmpW (-x.toInt64) 0 := by
  by_cases hz : x = 0
  · subst hz
    cases o <;> decide +kernel
  · have h1 := c_i2l x
    have h2 := rng32 x
    have h3 := c_lneg x.toInt64
    have h4 := rng64 (-x.toInt64)
    have e : (0 : Int64).toInt = 0 := by decide
    have hn : x.toInt64 ≠ 0 := fun q => hz (by
      have q2 := congrArg Int64.toInt q
      rw [h1, e] at q2
      have e2 : (0 : Int32).toInt = 0 := by decide
      exact Int32.toInt_inj.mp (by rw [q2, e2]))
    rw [i2d_w, own_dneg _ hn (by omega), ← l2d_zero]
    refine dcmpV_w ?_ own_b0 o
    unfold B53
    omega

theorem d1_0 : decode method_2_code 0 = .ok (.iload_n 0, 1) := by decide +kernel
theorem d1_1 : decode method_2_code 1 = .ok (.ifCond .ne 7, 3) := by decide +kernel
theorem d1_4 : decode method_2_code 4 = .ok (.getstatic 7, 3) := by decide +kernel
theorem d1_7 : decode method_2_code 7 = .ok (.areturn, 1) := by decide +kernel
theorem d1_8 : decode method_2_code 8 = .ok (.iload_n 0, 1) := by decide +kernel
theorem d1_9 : decode method_2_code 9 = .ok (.iconst 1, 1) := by decide +kernel
theorem d1_10 : decode method_2_code 10 = .ok (.if_icmp .ne 7, 3) := by decide +kernel
theorem d1_13 : decode method_2_code 13 = .ok (.getstatic 13, 3) := by decide +kernel
theorem d1_16 : decode method_2_code 16 = .ok (.areturn, 1) := by decide +kernel
theorem d1_17 : decode method_2_code 17 = .ok (.iload_n 0, 1) := by decide +kernel
theorem d1_18 : decode method_2_code 18 = .ok (.iconst 2, 1) := by decide +kernel
theorem d1_19 : decode method_2_code 19 = .ok (.if_icmp .ne 7, 3) := by decide +kernel
theorem d1_22 : decode method_2_code 22 = .ok (.getstatic 16, 3) := by decide +kernel
theorem d1_25 : decode method_2_code 25 = .ok (.areturn, 1) := by decide +kernel
theorem d1_26 : decode method_2_code 26 = .ok (.getstatic 19, 3) := by decide +kernel
theorem d1_29 : decode method_2_code 29 = .ok (.areturn, 1) := by decide +kernel
theorem ef_foLIN (m : MethodId) (x0 : Int32) : entryFrame m #[(.int x0)] 1 = mkF m 0 #[.val (.int x0)] [] := by first | (simp [entryFrame, mkF, argsToLocals, Value.category]; done) | rfl
def QfoLIN (Z : State) (p0 : Int32) (w_LIN : Addr) (h0 : Heap) (n0 : Nat) (v : Option Value) (h : Heap) (L : List Loc) : Prop := v = some (.ref w_LIN) ∧ Fr n0 L ∧ Keep h0 h ([] : List Addr)
set_option maxRecDepth 65536 in
set_option maxHeartbeats 40000000 in
theorem rmfoLIN (l : Launch) (Z : State) (a0 : Array Value) (hw : ∀ d ∈ tables_1, d.before a0 Z = true) (ws : List Jvm.Cond) (p0 : Int32) (w_LIN : Addr) (h0 : Heap) (n0 : Nat) (Z0 : n0 ≤ h0.size) (S_LIN : Sta Z h0 "com/example/robust_broker/robustbroker/Fit$Form" "LIN" "Lcom/example/robust_broker/robustbroker/Fit$Form;" (.ref w_LIN)) (hn_0 : p0 = (0 : Int32)) :
    MetFree l (⟨"com/example/robust_broker/robustbroker/FitRanksDownwardPinLaw", "formOf", "(I)Lcom/example/robust_broker/robustbroker/Fit$Form;"⟩ : MethodName) (head1 (Jvm.Cond.code (⟨"com/example/robust_broker/robustbroker/FitRanksDownwardPinLaw", "formOf", "(I)Lcom/example/robust_broker/robustbroker/Fit$Form;"⟩ : MethodName) method_2_code 1 (some (.object "com/example/robust_broker/robustbroker/Fit$Form")) :: ws) ({ frames := 0, cells := 0, slots := 0, locals := 0 } : Room)) (fun a U => a = #[(.int p0)] ∧ Z.Warmed39 U.vm ∧ U.heap = h0) (fun _ _ _ _ _ => True) (fun _ U o U' => ∃ v L, o = .returned v ∧ QfoLIN Z p0 w_LIN h0 n0 v U'.heap L ∧ FrameEnd U o U' L ({ frames := 0, cells := 0, slots := 0, locals := 0 } : Room).cells ({ frames := 0, cells := 0, slots := 0, locals := 0 } : Room).slots) := by
  refine MetFree.of_bodySF (plainFor_of_name (by first | (simp [plainName, overriddenIn]; done) | decide +kernel)) hisR ?_
  intro p e s m args below meth c s₁ Bd hml0 hP hK
  obtain ⟨rfl, hZ, hh⟩ := hP
  have hx := Bd.exec
  have hby := Bd.bytes
  have hml : c.maxLocals = 1 := hml0
  have hown : s.vm.findClass "com/example/robust_broker/robustbroker/FitRanksDownwardPinLaw" = some m.cls := findClass_of_methodNamed Bd.named
  have hnm := (name_of_methodNamed Bd.named Bd.method).1
  have hlk := BodyLoose.notSynchronized Bd
  have X0 : Stand p l e ({ frames := 0, cells := 0, slots := 0, locals := 0 } : Room) s m #[(.int p0)] below meth c s₁ [] 0 0 := Stand.of_body Bd
  have e0 : s₁.heap = h0 := by rw [← hh, Bd.state]; rfl
  have N0 := Fr.nil n0
  show Go p e below s (QfoLIN Z p0 w_LIN h0 n0) 0 0 (s₁.setTop (entryFrame m #[(.int p0)] 1))
  rw [ef_foLIN]
  show Go _ _ _ _ _ _ _ (s₁.setTop (mkF m 0 #[.val (.int p0)] []))
  refine gob (fun _ k => XS.iloadN X0.here hx rfl (hb hby d1_0) rfl k) ?_
  show Go _ _ _ _ _ _ _ (s₁.setTop (mkF m 1 #[.val (.int p0)] [(.int p0)]))
  refine gob (fun _ k => XS.ifNo X0.here hx rfl (hb hby d1_1) rfl ((if0 _ _).trans (teq hn_0).2) k) ?_
  show Go _ _ _ _ _ _ _ (s₁.setTop (mkF m 4 #[.val (.int p0)] []))
  obtain ⟨T1, X1, e1, st1⟩ := getS2 X0 hx hZ hown (host := "") (Or.inl (hw _ (List.mem_of_getElem? (i := 4) rfl))) Via.refl e0 S_LIN (g := (mkF m 4 #[.val (.int p0)] [])) rfl (hb hby d1_4)
  refine gob st1 ?_
  show Go _ _ _ _ _ _ _ (T1.setTop (mkF m 7 #[.val (.int p0)] [(.ref w_LIN)]))
  refine goA X1 hx hlk Bd.returns rfl rfl (hb hby d1_7) ?_ (by decide) (by decide)
  show QfoLIN Z p0 w_LIN h0 n0 (some (.ref w_LIN)) T1.heap _
  rw [e1]
  exact ⟨rfl, N0, (Keep.refl h0 ([] : List Addr))⟩
theorem ef_foSQRT (m : MethodId) (x0 : Int32) : entryFrame m #[(.int x0)] 1 = mkF m 0 #[.val (.int x0)] [] := by first | (simp [entryFrame, mkF, argsToLocals, Value.category]; done) | rfl
def QfoSQRT (Z : State) (p0 : Int32) (w_SQRT : Addr) (h0 : Heap) (n0 : Nat) (v : Option Value) (h : Heap) (L : List Loc) : Prop := v = some (.ref w_SQRT) ∧ Fr n0 L ∧ Keep h0 h ([] : List Addr)
set_option maxRecDepth 65536 in
set_option maxHeartbeats 40000000 in
theorem rmfoSQRT (l : Launch) (Z : State) (a0 : Array Value) (hw : ∀ d ∈ tables_1, d.before a0 Z = true) (ws : List Jvm.Cond) (p0 : Int32) (w_SQRT : Addr) (h0 : Heap) (n0 : Nat) (Z0 : n0 ≤ h0.size) (S_SQRT : Sta Z h0 "com/example/robust_broker/robustbroker/Fit$Form" "SQRT" "Lcom/example/robust_broker/robustbroker/Fit$Form;" (.ref w_SQRT)) (hn_0 : ¬ (p0 = (0 : Int32))) (hn_1 : p0 = (1 : Int32)) :
    MetFree l (⟨"com/example/robust_broker/robustbroker/FitRanksDownwardPinLaw", "formOf", "(I)Lcom/example/robust_broker/robustbroker/Fit$Form;"⟩ : MethodName) (head1 (Jvm.Cond.code (⟨"com/example/robust_broker/robustbroker/FitRanksDownwardPinLaw", "formOf", "(I)Lcom/example/robust_broker/robustbroker/Fit$Form;"⟩ : MethodName) method_2_code 1 (some (.object "com/example/robust_broker/robustbroker/Fit$Form")) :: ws) ({ frames := 0, cells := 0, slots := 0, locals := 0 } : Room)) (fun a U => a = #[(.int p0)] ∧ Z.Warmed39 U.vm ∧ U.heap = h0) (fun _ _ _ _ _ => True) (fun _ U o U' => ∃ v L, o = .returned v ∧ QfoSQRT Z p0 w_SQRT h0 n0 v U'.heap L ∧ FrameEnd U o U' L ({ frames := 0, cells := 0, slots := 0, locals := 0 } : Room).cells ({ frames := 0, cells := 0, slots := 0, locals := 0 } : Room).slots) := by
  refine MetFree.of_bodySF (plainFor_of_name (by first | (simp [plainName, overriddenIn]; done) | decide +kernel)) hisR ?_
  intro p e s m args below meth c s₁ Bd hml0 hP hK
  obtain ⟨rfl, hZ, hh⟩ := hP
  have hx := Bd.exec
  have hby := Bd.bytes
  have hml : c.maxLocals = 1 := hml0
  have hown : s.vm.findClass "com/example/robust_broker/robustbroker/FitRanksDownwardPinLaw" = some m.cls := findClass_of_methodNamed Bd.named
  have hnm := (name_of_methodNamed Bd.named Bd.method).1
  have hlk := BodyLoose.notSynchronized Bd
  have X0 : Stand p l e ({ frames := 0, cells := 0, slots := 0, locals := 0 } : Room) s m #[(.int p0)] below meth c s₁ [] 0 0 := Stand.of_body Bd
  have e0 : s₁.heap = h0 := by rw [← hh, Bd.state]; rfl
  have N0 := Fr.nil n0
  show Go p e below s (QfoSQRT Z p0 w_SQRT h0 n0) 0 0 (s₁.setTop (entryFrame m #[(.int p0)] 1))
  rw [ef_foSQRT]
  show Go _ _ _ _ _ _ _ (s₁.setTop (mkF m 0 #[.val (.int p0)] []))
  refine gob (fun _ k => XS.iloadN X0.here hx rfl (hb hby d1_0) rfl k) ?_
  show Go _ _ _ _ _ _ _ (s₁.setTop (mkF m 1 #[.val (.int p0)] [(.int p0)]))
  refine gob (fun _ k => XS.ifYes X0.here hx rfl (pc0 := 1) (pc' := 8) rfl (hb hby d1_1) rfl ((if0 _ _).trans (feq hn_0).2) (by decide) (by decide) k) ?_
  show Go _ _ _ _ _ _ _ (s₁.setTop (mkF m 8 #[.val (.int p0)] []))
  refine gob (fun _ k => XS.iloadN X0.here hx rfl (hb hby d1_8) rfl k) ?_
  show Go _ _ _ _ _ _ _ (s₁.setTop (mkF m 9 #[.val (.int p0)] [(.int p0)]))
  refine gob (fun _ k => XS.iconst X0.here hx rfl (hb hby d1_9) k) ?_
  show Go _ _ _ _ _ _ _ (s₁.setTop (mkF m 10 #[.val (.int p0)] [(.int (1 : Int32)), (.int p0)]))
  refine gob (fun _ k => XS.icmpNo X0.here hx rfl (hb hby d1_10) rfl (teq hn_1).2 k) ?_
  show Go _ _ _ _ _ _ _ (s₁.setTop (mkF m 13 #[.val (.int p0)] []))
  obtain ⟨T1, X1, e1, st1⟩ := getS2 X0 hx hZ hown (host := "") (Or.inl (hw _ (List.mem_of_getElem? (i := 42) rfl))) Via.refl e0 S_SQRT (g := (mkF m 13 #[.val (.int p0)] [])) rfl (hb hby d1_13)
  refine gob st1 ?_
  show Go _ _ _ _ _ _ _ (T1.setTop (mkF m 16 #[.val (.int p0)] [(.ref w_SQRT)]))
  refine goA X1 hx hlk Bd.returns rfl rfl (hb hby d1_16) ?_ (by decide) (by decide)
  show QfoSQRT Z p0 w_SQRT h0 n0 (some (.ref w_SQRT)) T1.heap _
  rw [e1]
  exact ⟨rfl, N0, (Keep.refl h0 ([] : List Addr))⟩
theorem ef_foLOG (m : MethodId) (x0 : Int32) : entryFrame m #[(.int x0)] 1 = mkF m 0 #[.val (.int x0)] [] := by first | (simp [entryFrame, mkF, argsToLocals, Value.category]; done) | rfl
def QfoLOG (Z : State) (p0 : Int32) (w_LOG : Addr) (h0 : Heap) (n0 : Nat) (v : Option Value) (h : Heap) (L : List Loc) : Prop := v = some (.ref w_LOG) ∧ Fr n0 L ∧ Keep h0 h ([] : List Addr)
set_option maxRecDepth 65536 in
set_option maxHeartbeats 40000000 in
theorem rmfoLOG (l : Launch) (Z : State) (a0 : Array Value) (hw : ∀ d ∈ tables_1, d.before a0 Z = true) (ws : List Jvm.Cond) (p0 : Int32) (w_LOG : Addr) (h0 : Heap) (n0 : Nat) (Z0 : n0 ≤ h0.size) (S_LOG : Sta Z h0 "com/example/robust_broker/robustbroker/Fit$Form" "LOG" "Lcom/example/robust_broker/robustbroker/Fit$Form;" (.ref w_LOG)) (hn_0 : ¬ (p0 = (0 : Int32))) (hn_1 : ¬ (p0 = (1 : Int32))) (hn_2 : p0 = (2 : Int32)) :
    MetFree l (⟨"com/example/robust_broker/robustbroker/FitRanksDownwardPinLaw", "formOf", "(I)Lcom/example/robust_broker/robustbroker/Fit$Form;"⟩ : MethodName) (head1 (Jvm.Cond.code (⟨"com/example/robust_broker/robustbroker/FitRanksDownwardPinLaw", "formOf", "(I)Lcom/example/robust_broker/robustbroker/Fit$Form;"⟩ : MethodName) method_2_code 1 (some (.object "com/example/robust_broker/robustbroker/Fit$Form")) :: ws) ({ frames := 0, cells := 0, slots := 0, locals := 0 } : Room)) (fun a U => a = #[(.int p0)] ∧ Z.Warmed39 U.vm ∧ U.heap = h0) (fun _ _ _ _ _ => True) (fun _ U o U' => ∃ v L, o = .returned v ∧ QfoLOG Z p0 w_LOG h0 n0 v U'.heap L ∧ FrameEnd U o U' L ({ frames := 0, cells := 0, slots := 0, locals := 0 } : Room).cells ({ frames := 0, cells := 0, slots := 0, locals := 0 } : Room).slots) := by
  refine MetFree.of_bodySF (plainFor_of_name (by first | (simp [plainName, overriddenIn]; done) | decide +kernel)) hisR ?_
  intro p e s m args below meth c s₁ Bd hml0 hP hK
  obtain ⟨rfl, hZ, hh⟩ := hP
  have hx := Bd.exec
  have hby := Bd.bytes
  have hml : c.maxLocals = 1 := hml0
  have hown : s.vm.findClass "com/example/robust_broker/robustbroker/FitRanksDownwardPinLaw" = some m.cls := findClass_of_methodNamed Bd.named
  have hnm := (name_of_methodNamed Bd.named Bd.method).1
  have hlk := BodyLoose.notSynchronized Bd
  have X0 : Stand p l e ({ frames := 0, cells := 0, slots := 0, locals := 0 } : Room) s m #[(.int p0)] below meth c s₁ [] 0 0 := Stand.of_body Bd
  have e0 : s₁.heap = h0 := by rw [← hh, Bd.state]; rfl
  have N0 := Fr.nil n0
  show Go p e below s (QfoLOG Z p0 w_LOG h0 n0) 0 0 (s₁.setTop (entryFrame m #[(.int p0)] 1))
  rw [ef_foLOG]
  show Go _ _ _ _ _ _ _ (s₁.setTop (mkF m 0 #[.val (.int p0)] []))
  refine gob (fun _ k => XS.iloadN X0.here hx rfl (hb hby d1_0) rfl k) ?_
  show Go _ _ _ _ _ _ _ (s₁.setTop (mkF m 1 #[.val (.int p0)] [(.int p0)]))
  refine gob (fun _ k => XS.ifYes X0.here hx rfl (pc0 := 1) (pc' := 8) rfl (hb hby d1_1) rfl ((if0 _ _).trans (feq hn_0).2) (by decide) (by decide) k) ?_
  show Go _ _ _ _ _ _ _ (s₁.setTop (mkF m 8 #[.val (.int p0)] []))
  refine gob (fun _ k => XS.iloadN X0.here hx rfl (hb hby d1_8) rfl k) ?_
  show Go _ _ _ _ _ _ _ (s₁.setTop (mkF m 9 #[.val (.int p0)] [(.int p0)]))
  refine gob (fun _ k => XS.iconst X0.here hx rfl (hb hby d1_9) k) ?_
  show Go _ _ _ _ _ _ _ (s₁.setTop (mkF m 10 #[.val (.int p0)] [(.int (1 : Int32)), (.int p0)]))
  refine gob (fun _ k => XS.icmpYes X0.here hx rfl (pc0 := 10) (pc' := 17) rfl (hb hby d1_10) rfl (feq hn_1).2 (by decide) (by decide) k) ?_
  show Go _ _ _ _ _ _ _ (s₁.setTop (mkF m 17 #[.val (.int p0)] []))
  refine gob (fun _ k => XS.iloadN X0.here hx rfl (hb hby d1_17) rfl k) ?_
  show Go _ _ _ _ _ _ _ (s₁.setTop (mkF m 18 #[.val (.int p0)] [(.int p0)]))
  refine gob (fun _ k => XS.iconst X0.here hx rfl (hb hby d1_18) k) ?_
  show Go _ _ _ _ _ _ _ (s₁.setTop (mkF m 19 #[.val (.int p0)] [(.int (2 : Int32)), (.int p0)]))
  refine gob (fun _ k => XS.icmpNo X0.here hx rfl (hb hby d1_19) rfl (teq hn_2).2 k) ?_
  show Go _ _ _ _ _ _ _ (s₁.setTop (mkF m 22 #[.val (.int p0)] []))
  obtain ⟨T1, X1, e1, st1⟩ := getS2 X0 hx hZ hown (host := "") (Or.inl (hw _ (List.mem_of_getElem? (i := 40) rfl))) Via.refl e0 S_LOG (g := (mkF m 22 #[.val (.int p0)] [])) rfl (hb hby d1_22)
  refine gob st1 ?_
  show Go _ _ _ _ _ _ _ (T1.setTop (mkF m 25 #[.val (.int p0)] [(.ref w_LOG)]))
  refine goA X1 hx hlk Bd.returns rfl rfl (hb hby d1_25) ?_ (by decide) (by decide)
  show QfoLOG Z p0 w_LOG h0 n0 (some (.ref w_LOG)) T1.heap _
  rw [e1]
  exact ⟨rfl, N0, (Keep.refl h0 ([] : List Addr))⟩
theorem ef_foPOW (m : MethodId) (x0 : Int32) : entryFrame m #[(.int x0)] 1 = mkF m 0 #[.val (.int x0)] [] := by first | (simp [entryFrame, mkF, argsToLocals, Value.category]; done) | rfl
def QfoPOW (Z : State) (p0 : Int32) (w_POW : Addr) (h0 : Heap) (n0 : Nat) (v : Option Value) (h : Heap) (L : List Loc) : Prop := v = some (.ref w_POW) ∧ Fr n0 L ∧ Keep h0 h ([] : List Addr)
set_option maxRecDepth 65536 in
set_option maxHeartbeats 40000000 in
theorem rmfoPOW (l : Launch) (Z : State) (a0 : Array Value) (hw : ∀ d ∈ tables_1, d.before a0 Z = true) (ws : List Jvm.Cond) (p0 : Int32) (w_POW : Addr) (h0 : Heap) (n0 : Nat) (Z0 : n0 ≤ h0.size) (S_POW : Sta Z h0 "com/example/robust_broker/robustbroker/Fit$Form" "POW" "Lcom/example/robust_broker/robustbroker/Fit$Form;" (.ref w_POW)) (hn_0 : ¬ (p0 = (0 : Int32))) (hn_1 : ¬ (p0 = (1 : Int32))) (hn_2 : ¬ (p0 = (2 : Int32))) :
    MetFree l (⟨"com/example/robust_broker/robustbroker/FitRanksDownwardPinLaw", "formOf", "(I)Lcom/example/robust_broker/robustbroker/Fit$Form;"⟩ : MethodName) (head1 (Jvm.Cond.code (⟨"com/example/robust_broker/robustbroker/FitRanksDownwardPinLaw", "formOf", "(I)Lcom/example/robust_broker/robustbroker/Fit$Form;"⟩ : MethodName) method_2_code 1 (some (.object "com/example/robust_broker/robustbroker/Fit$Form")) :: ws) ({ frames := 0, cells := 0, slots := 0, locals := 0 } : Room)) (fun a U => a = #[(.int p0)] ∧ Z.Warmed39 U.vm ∧ U.heap = h0) (fun _ _ _ _ _ => True) (fun _ U o U' => ∃ v L, o = .returned v ∧ QfoPOW Z p0 w_POW h0 n0 v U'.heap L ∧ FrameEnd U o U' L ({ frames := 0, cells := 0, slots := 0, locals := 0 } : Room).cells ({ frames := 0, cells := 0, slots := 0, locals := 0 } : Room).slots) := by
  refine MetFree.of_bodySF (plainFor_of_name (by first | (simp [plainName, overriddenIn]; done) | decide +kernel)) hisR ?_
  intro p e s m args below meth c s₁ Bd hml0 hP hK
  obtain ⟨rfl, hZ, hh⟩ := hP
  have hx := Bd.exec
  have hby := Bd.bytes
  have hml : c.maxLocals = 1 := hml0
  have hown : s.vm.findClass "com/example/robust_broker/robustbroker/FitRanksDownwardPinLaw" = some m.cls := findClass_of_methodNamed Bd.named
  have hnm := (name_of_methodNamed Bd.named Bd.method).1
  have hlk := BodyLoose.notSynchronized Bd
  have X0 : Stand p l e ({ frames := 0, cells := 0, slots := 0, locals := 0 } : Room) s m #[(.int p0)] below meth c s₁ [] 0 0 := Stand.of_body Bd
  have e0 : s₁.heap = h0 := by rw [← hh, Bd.state]; rfl
  have N0 := Fr.nil n0
  show Go p e below s (QfoPOW Z p0 w_POW h0 n0) 0 0 (s₁.setTop (entryFrame m #[(.int p0)] 1))
  rw [ef_foPOW]
  show Go _ _ _ _ _ _ _ (s₁.setTop (mkF m 0 #[.val (.int p0)] []))
  refine gob (fun _ k => XS.iloadN X0.here hx rfl (hb hby d1_0) rfl k) ?_
  show Go _ _ _ _ _ _ _ (s₁.setTop (mkF m 1 #[.val (.int p0)] [(.int p0)]))
  refine gob (fun _ k => XS.ifYes X0.here hx rfl (pc0 := 1) (pc' := 8) rfl (hb hby d1_1) rfl ((if0 _ _).trans (feq hn_0).2) (by decide) (by decide) k) ?_
  show Go _ _ _ _ _ _ _ (s₁.setTop (mkF m 8 #[.val (.int p0)] []))
  refine gob (fun _ k => XS.iloadN X0.here hx rfl (hb hby d1_8) rfl k) ?_
  show Go _ _ _ _ _ _ _ (s₁.setTop (mkF m 9 #[.val (.int p0)] [(.int p0)]))
  refine gob (fun _ k => XS.iconst X0.here hx rfl (hb hby d1_9) k) ?_
  show Go _ _ _ _ _ _ _ (s₁.setTop (mkF m 10 #[.val (.int p0)] [(.int (1 : Int32)), (.int p0)]))
  refine gob (fun _ k => XS.icmpYes X0.here hx rfl (pc0 := 10) (pc' := 17) rfl (hb hby d1_10) rfl (feq hn_1).2 (by decide) (by decide) k) ?_
  show Go _ _ _ _ _ _ _ (s₁.setTop (mkF m 17 #[.val (.int p0)] []))
  refine gob (fun _ k => XS.iloadN X0.here hx rfl (hb hby d1_17) rfl k) ?_
  show Go _ _ _ _ _ _ _ (s₁.setTop (mkF m 18 #[.val (.int p0)] [(.int p0)]))
  refine gob (fun _ k => XS.iconst X0.here hx rfl (hb hby d1_18) k) ?_
  show Go _ _ _ _ _ _ _ (s₁.setTop (mkF m 19 #[.val (.int p0)] [(.int (2 : Int32)), (.int p0)]))
  refine gob (fun _ k => XS.icmpYes X0.here hx rfl (pc0 := 19) (pc' := 26) rfl (hb hby d1_19) rfl (feq hn_2).2 (by decide) (by decide) k) ?_
  show Go _ _ _ _ _ _ _ (s₁.setTop (mkF m 26 #[.val (.int p0)] []))
  obtain ⟨T1, X1, e1, st1⟩ := getS2 X0 hx hZ hown (host := "") (Or.inl (hw _ (List.mem_of_getElem? (i := 38) rfl))) Via.refl e0 S_POW (g := (mkF m 26 #[.val (.int p0)] [])) rfl (hb hby d1_26)
  refine gob st1 ?_
  show Go _ _ _ _ _ _ _ (T1.setTop (mkF m 29 #[.val (.int p0)] [(.ref w_POW)]))
  refine goA X1 hx hlk Bd.returns rfl rfl (hb hby d1_29) ?_ (by decide) (by decide)
  show QfoPOW Z p0 w_POW h0 n0 (some (.ref w_POW)) T1.heap _
  rw [e1]
  exact ⟨rfl, N0, (Keep.refl h0 ([] : List Addr))⟩
theorem d3_0 : decode jdk_30_method_1_code 0 = .ok (.aload_n 0, 1) := by decide +kernel
theorem d3_1 : decode jdk_30_method_1_code 1 = .ok (.invokespecial 1, 3) := by decide +kernel
theorem d3_4 : decode jdk_30_method_1_code 4 = .ok (.return_, 1) := by decide +kernel
theorem ef_3 (m : MethodId) (x0 : Addr) : entryFrame m #[(.ref x0)] 1 = mkF m 0 #[.val (.ref x0)] [] := by first | (simp [entryFrame, mkF, argsToLocals, Value.category]; done) | rfl
def Q3 (Z : State) (o0 : Addr) (h0 : Heap) (n0 : Nat) (v : Option Value) (h : Heap) (L : List Loc) : Prop := v = none ∧ Fr n0 L ∧ h = h0
set_option maxRecDepth 65536 in
set_option maxHeartbeats 40000000 in
theorem rm3 (l : Launch) (Z : State) (a0 : Array Value) (hw : ∀ d ∈ tables_1, d.before a0 Z = true) (ws : List Jvm.Cond) (o0 : Addr) (h0 : Heap) (n0 : Nat) (Z0 : n0 ≤ h0.size) :
    MetFree l (⟨"java/lang/Record", "<init>", "()V"⟩ : MethodName) (head1 (Jvm.Cond.code (⟨"java/lang/Record", "<init>", "()V"⟩ : MethodName) jdk_30_method_1_code 1 none :: ws) ({ frames := 1, cells := 0, slots := 0, locals := 12 } : Room)) (fun a U => a = #[(.ref o0)] ∧ Z.Warmed39 U.vm ∧ U.heap = h0) (fun _ _ _ _ _ => True) (fun _ U o U' => ∃ v L, o = .returned v ∧ Q3 Z o0 h0 n0 v U'.heap L ∧ FrameEnd U o U' L ({ frames := 1, cells := 0, slots := 0, locals := 12 } : Room).cells ({ frames := 1, cells := 0, slots := 0, locals := 12 } : Room).slots) := by
  refine MetFree.of_bodySF (plainFor_of_name (by first | (simp [plainName, overriddenIn]; done) | decide +kernel)) hisR ?_
  intro p e s m args below meth c s₁ Bd hml0 hP hK
  obtain ⟨rfl, hZ, hh⟩ := hP
  have hx := Bd.exec
  have hby := Bd.bytes
  have hml : c.maxLocals = 1 := hml0
  have hown : s.vm.findClass "java/lang/Record" = some m.cls := findClass_of_methodNamed Bd.named
  have hnm := (name_of_methodNamed Bd.named Bd.method).1
  have hlk := BodyLoose.notSynchronized Bd
  have X0 : Stand p l e ({ frames := 1, cells := 0, slots := 0, locals := 12 } : Room) s m #[(.ref o0)] below meth c s₁ [] 0 0 := Stand.of_body Bd
  have e0 : s₁.heap = h0 := by rw [← hh, Bd.state]; rfl
  have N0 := Fr.nil n0
  show Go p e below s (Q3 Z o0 h0 n0) 0 0 (s₁.setTop (entryFrame m #[(.ref o0)] 1))
  rw [ef_3]
  show Go _ _ _ _ _ _ _ (s₁.setTop (mkF m 0 #[.val (.ref o0)] []))
  refine gob (fun _ k => XS.aloadN X0.here hx rfl (hb hby d3_0) rfl rfl k) ?_
  show Go _ _ _ _ _ _ _ (s₁.setTop (mkF m 1 #[.val (.ref o0)] [(.ref o0)]))
  obtain ⟨T1, X1, e1, st1⟩ := initO X0 hx hZ hown (hw _ (List.mem_of_getElem? (i := 18) rfl)) (hw _ (List.mem_of_getElem? (i := 19) rfl)) (hw _ (List.mem_of_getElem? (i := 20) rfl)) e0 (g := (mkF m 1 #[.val (.ref o0)] [(.ref o0)])) rfl (by rw [hml]; rfl) rfl (hb hby d3_1) (by decide) (W := 0) (by show 2 * 0 + _ ≤ _; exact Nat.le_of_eq rfl) (by decide)
  refine gob st1 ?_
  show Go _ _ _ _ _ _ _ (T1.setTop (mkF m 4 #[.val (.ref o0)] []))
  refine goV X1 hx hlk Bd.returns (hb hby d3_4) ?_ (by decide) (by decide)
  show Q3 Z o0 h0 n0 (none) T1.heap _
  exact ⟨rfl, N0, e1⟩
theorem d2_0 : decode prog_13_method_1_code 0 = .ok (.aload_n 0, 1) := by decide +kernel
theorem d2_1 : decode prog_13_method_1_code 1 = .ok (.invokespecial 1, 3) := by decide +kernel
theorem d2_4 : decode prog_13_method_1_code 4 = .ok (.aload_n 0, 1) := by decide +kernel
theorem d2_5 : decode prog_13_method_1_code 5 = .ok (.aload_n 1, 1) := by decide +kernel
theorem d2_6 : decode prog_13_method_1_code 6 = .ok (.putfield 7, 3) := by decide +kernel
theorem d2_9 : decode prog_13_method_1_code 9 = .ok (.aload_n 0, 1) := by decide +kernel
theorem d2_10 : decode prog_13_method_1_code 10 = .ok (.dload_n 2, 1) := by decide +kernel
theorem d2_11 : decode prog_13_method_1_code 11 = .ok (.putfield 13, 3) := by decide +kernel
theorem d2_14 : decode prog_13_method_1_code 14 = .ok (.aload_n 0, 1) := by decide +kernel
theorem d2_15 : decode prog_13_method_1_code 15 = .ok (.dload 4, 2) := by decide +kernel
theorem d2_17 : decode prog_13_method_1_code 17 = .ok (.putfield 17, 3) := by decide +kernel
theorem d2_20 : decode prog_13_method_1_code 20 = .ok (.aload_n 0, 1) := by decide +kernel
theorem d2_21 : decode prog_13_method_1_code 21 = .ok (.dload 6, 2) := by decide +kernel
theorem d2_23 : decode prog_13_method_1_code 23 = .ok (.putfield 20, 3) := by decide +kernel
theorem d2_26 : decode prog_13_method_1_code 26 = .ok (.aload_n 0, 1) := by decide +kernel
theorem d2_27 : decode prog_13_method_1_code 27 = .ok (.dload 8, 2) := by decide +kernel
theorem d2_29 : decode prog_13_method_1_code 29 = .ok (.putfield 23, 3) := by decide +kernel
theorem d2_32 : decode prog_13_method_1_code 32 = .ok (.return_, 1) := by decide +kernel
theorem pd_0 : parseMethodDescriptor "()V" = some ⟨[], none⟩ := by decide +kernel
theorem ef_2 (m : MethodId) (x0 : Addr) (x1 : Addr) (x2 : UInt64) (x3 : UInt64) (x4 : UInt64) (x5 : UInt64) : entryFrame m #[(.ref x0), (.ref x1), (.double x2), (.double x3), (.double x4), (.double x5)] 10 = mkF m 0 #[.val (.ref x0), .val (.ref x1), .val (.double x2), .second, .val (.double x3), .second, .val (.double x4), .second, .val (.double x5), .second] [] := by first | (simp [entryFrame, mkF, argsToLocals, Value.category]; done) | rfl
def Q2 (Z : State) (o0 : Addr) (o1 : Addr) (y2 : UInt64) (y3 : UInt64) (y4 : UInt64) (y5 : UInt64) (h0 : Heap) (n0 : Nat) (v : Option Value) (h : Heap) (L : List Loc) : Prop := v = none ∧ Fr n0 L ∧ Keep h0 h ([o0] : List Addr) ∧ Fld Z h o0 "com/example/robust_broker/robustbroker/Fit" "form" "Lcom/example/robust_broker/robustbroker/Fit$Form;" (.ref o1) ∧ Fld Z h o0 "com/example/robust_broker/robustbroker/Fit" "a" "D" (.double y2) ∧ Fld Z h o0 "com/example/robust_broker/robustbroker/Fit" "b" "D" (.double y3) ∧ Fld Z h o0 "com/example/robust_broker/robustbroker/Fit" "r2" "D" (.double y4) ∧ Fld Z h o0 "com/example/robust_broker/robustbroker/Fit" "cap" "D" (.double y5)
set_option maxRecDepth 65536 in
set_option maxHeartbeats 40000000 in
theorem rm2 (l : Launch) (Z : State) (a0 : Array Value) (hw : ∀ d ∈ tables_1, d.before a0 Z = true) (ws : List Jvm.Cond) (o0 : Addr) (o1 : Addr) (y2 : UInt64) (y3 : UInt64) (y4 : UInt64) (y5 : UInt64) (h0 : Heap) (n0 : Nat) (Z0 : n0 ≤ h0.size) (E_o0 : Exa Z h0 o0 "com/example/robust_broker/robustbroker/Fit") (F_form_o0 : Fld Z h0 o0 "com/example/robust_broker/robustbroker/Fit" "form" "Lcom/example/robust_broker/robustbroker/Fit$Form;" .null) (g_o0 : n0 ≤ o0) (F_a_o0 : Fld Z h0 o0 "com/example/robust_broker/robustbroker/Fit" "a" "D" (.double 0)) (F_b_o0 : Fld Z h0 o0 "com/example/robust_broker/robustbroker/Fit" "b" "D" (.double 0)) (F_r2_o0 : Fld Z h0 o0 "com/example/robust_broker/robustbroker/Fit" "r2" "D" (.double 0)) (F_cap_o0 : Fld Z h0 o0 "com/example/robust_broker/robustbroker/Fit" "cap" "D" (.double 0)) :
    MetFree l (⟨"com/example/robust_broker/robustbroker/Fit", "<init>", "(Lcom/example/robust_broker/robustbroker/Fit$Form;DDDD)V"⟩ : MethodName) (head1 (Jvm.Cond.code (⟨"com/example/robust_broker/robustbroker/Fit", "<init>", "(Lcom/example/robust_broker/robustbroker/Fit$Form;DDDD)V"⟩ : MethodName) prog_13_method_1_code 10 none :: ws) ({ frames := 2, cells := 0, slots := 0, locals := 24 } : Room)) (fun a U => a = #[(.ref o0), (.ref o1), (.double y2), (.double y3), (.double y4), (.double y5)] ∧ Z.Warmed39 U.vm ∧ U.heap = h0) (fun _ _ _ _ _ => True) (fun _ U o U' => ∃ v L, o = .returned v ∧ Q2 Z o0 o1 y2 y3 y4 y5 h0 n0 v U'.heap L ∧ FrameEnd U o U' L ({ frames := 2, cells := 0, slots := 0, locals := 24 } : Room).cells ({ frames := 2, cells := 0, slots := 0, locals := 24 } : Room).slots) := by
  refine MetFree.of_bodySF (plainFor_of_name (by first | (simp [plainName, overriddenIn]; done) | decide +kernel)) hisR ?_
  intro p e s m args below meth c s₁ Bd hml0 hP hK
  obtain ⟨rfl, hZ, hh⟩ := hP
  have hx := Bd.exec
  have hby := Bd.bytes
  have hml : c.maxLocals = 10 := hml0
  have hown : s.vm.findClass "com/example/robust_broker/robustbroker/Fit" = some m.cls := findClass_of_methodNamed Bd.named
  have hnm := (name_of_methodNamed Bd.named Bd.method).1
  have hlk := BodyLoose.notSynchronized Bd
  have X0 : Stand p l e ({ frames := 2, cells := 0, slots := 0, locals := 24 } : Room) s m #[(.ref o0), (.ref o1), (.double y2), (.double y3), (.double y4), (.double y5)] below meth c s₁ [] 0 0 := Stand.of_body Bd
  have e0 : s₁.heap = h0 := by rw [← hh, Bd.state]; rfl
  have N0 := Fr.nil n0
  show Go p e below s (Q2 Z o0 o1 y2 y3 y4 y5 h0 n0) 0 0 (s₁.setTop (entryFrame m #[(.ref o0), (.ref o1), (.double y2), (.double y3), (.double y4), (.double y5)] 10))
  rw [ef_2]
  show Go _ _ _ _ _ _ _ (s₁.setTop (mkF m 0 #[.val (.ref o0), .val (.ref o1), .val (.double y2), .second, .val (.double y3), .second, .val (.double y4), .second, .val (.double y5), .second] []))
  refine gob (fun _ k => XS.aloadN X0.here hx rfl (hb hby d2_0) rfl rfl k) ?_
  show Go _ _ _ _ _ _ _ (s₁.setTop (mkF m 1 #[.val (.ref o0), .val (.ref o1), .val (.double y2), .second, .val (.double y3), .second, .val (.double y4), .second, .val (.double y5), .second] [(.ref o0)]))
  obtain ⟨_, _, ⟨T1, L1, k1, n1⟩, -, X1, ⟨Lc1, hQ1, l1, y1, z1⟩, st1⟩ := X0.specialBack hx (y := (⟨"java/lang/Record", "<init>", "()V"⟩ : MethodName)) rfl hown (mvT hZ (hw _ (List.mem_of_getElem? (i := 13) rfl))) (mvT hZ (hw _ (List.mem_of_getElem? (i := 14) rfl))) (mvT hZ (hw _ (List.mem_of_getElem? (i := 17) rfl))) (by decide) (backOf (W := 0) (rm3 l Z a0 hw [] o0 h0 n0 Z0 ) hZ (hw _ (List.mem_of_getElem? (i := 17) rfl)) (hw _ (List.mem_of_getElem? (i := 16) rfl)) (by decide) (by decide)) (g := (mkF m 1 #[.val (.ref o0), .val (.ref o1), .val (.double y2), .second, .val (.double y3), .second, .val (.double y4), .second, .val (.double y5), .second] [(.ref o0)])) rfl (by rw [hml]; rfl) (Steps.refl _) (a := o0) (argsL := []) (rest := []) (lenOf pd_0 rfl) rfl (by show 2 * 0 + _ ≤ _; exact Nat.le_of_eq rfl) (hb hby d2_1) (fun _ _ => ⟨rfl, e0, (by decide : 0 + 0 ≤ _), (by decide : 0 + 0 ≤ _)⟩)
  dsimp only [Pt.U, Pt.locs, Pt.cells, Pt.slots] at X1 l1 y1 z1 st1 hQ1
  replace X1 := castX X1 (y1.trans (rfl : _ = 0)) (z1.trans (rfl : _ = 0))
  obtain ⟨rfl, Nq1, e1⟩ := hQ1
  have N1 : Fr n0 L1 := l1 ▸ Fr.app N0 Nq1
  refine gob (fun _ k => st1.trans k) ?_
  show Go _ _ _ _ _ _ _ (T1.setTop (mkF m 4 #[.val (.ref o0), .val (.ref o1), .val (.double y2), .second, .val (.double y3), .second, .val (.double y4), .second, .val (.double y5), .second] []))
  refine gob (fun _ k => XS.aloadN X1.here hx rfl (hb hby d2_4) rfl rfl k) ?_
  show Go _ _ _ _ _ _ _ (T1.setTop (mkF m 5 #[.val (.ref o0), .val (.ref o1), .val (.double y2), .second, .val (.double y3), .second, .val (.double y4), .second, .val (.double y5), .second] [(.ref o0)]))
  refine gob (fun _ k => XS.aloadN X1.here hx rfl (hb hby d2_5) rfl rfl k) ?_
  show Go _ _ _ _ _ _ _ (T1.setTop (mkF m 6 #[.val (.ref o0), .val (.ref o1), .val (.double y2), .second, .val (.double y3), .second, .val (.double y4), .second, .val (.double y5), .second] [(.ref o1), (.ref o0)]))
  obtain ⟨T2, h2, X2, e2, W2, st2⟩ := putF X1 hx hZ hown (host := "") (Or.inl (hw _ (List.mem_of_getElem? (i := 21) rfl))) Via.refl e1 F_form_o0 E_o0 (Or.inr ⟨(hw _ (List.mem_of_getElem? (i := 22) rfl)), rfl, hnm⟩) (hw _ (List.mem_of_getElem? (i := 8) rfl)) (ty := (.object "com/example/robust_broker/robustbroker/Fit$Form")) (by decide) rfl rfl (g := (mkF m 6 #[.val (.ref o0), .val (.ref o1), .val (.double y2), .second, .val (.double y3), .second, .val (.double y4), .second, .val (.double y5), .second] [(.ref o1), (.ref o0)])) rfl rfl (hb hby d2_6)
  refine gob st2 ?_
  have z3 : n0 ≤ h2.size := Nat.le_trans Z0 (Keep.of_wr W2).1
  have N2 := Fr.snoc X2 N1 g_o0
  have K4 : Keep h0 h2 ([o0] : List Addr) := (Keep.refl h0 ([o0] : List Addr)).wr W2 (Or.inl (List.mem_of_getElem? (i := 0) rfl))
  have Fw2 := F_form_o0.same W2
  show Go _ _ _ _ _ _ _ (T2.setTop (mkF m 9 #[.val (.ref o0), .val (.ref o1), .val (.double y2), .second, .val (.double y3), .second, .val (.double y4), .second, .val (.double y5), .second] []))
  refine gob (fun _ k => XS.aloadN X2.here hx rfl (hb hby d2_9) rfl rfl k) ?_
  show Go _ _ _ _ _ _ _ (T2.setTop (mkF m 10 #[.val (.ref o0), .val (.ref o1), .val (.double y2), .second, .val (.double y3), .second, .val (.double y4), .second, .val (.double y5), .second] [(.ref o0)]))
  refine gob (fun _ k => XS.dloadN X2.here hx rfl (hb hby d2_10) rfl k) ?_
  show Go _ _ _ _ _ _ _ (T2.setTop (mkF m 11 #[.val (.ref o0), .val (.ref o1), .val (.double y2), .second, .val (.double y3), .second, .val (.double y4), .second, .val (.double y5), .second] [(.double y2), (.ref o0)]))
  have c5 := (F_a_o0.other W2 (Or.inr (slot_ne (Or.inr (hw _ (List.mem_of_getElem? (i := 24) rfl))) (Or.inr (hw _ (List.mem_of_getElem? (i := 22) rfl))) (by decide) (t := .double) (t' := (.object "com/example/robust_broker/robustbroker/Fit$Form")) (by decide) (by decide))))
  have c6 := (E_o0.wr W2)
  obtain ⟨T7, h7, X7, e7, W7, st7⟩ := putF X2 hx hZ hown (host := "") (Or.inl (hw _ (List.mem_of_getElem? (i := 23) rfl))) Via.refl e2 c5 c6 (Or.inr ⟨(hw _ (List.mem_of_getElem? (i := 24) rfl)), rfl, hnm⟩) (hw _ (List.mem_of_getElem? (i := 8) rfl)) (ty := .double) (by decide) rfl rfl (g := (mkF m 11 #[.val (.ref o0), .val (.ref o1), .val (.double y2), .second, .val (.double y3), .second, .val (.double y4), .second, .val (.double y5), .second] [(.double y2), (.ref o0)])) rfl rfl (hb hby d2_11)
  refine gob st7 ?_
  have z8 : n0 ≤ h7.size := Nat.le_trans z3 (Keep.of_wr W7).1
  have N7 := Fr.snoc X7 N2 g_o0
  have K9 : Keep h0 h7 ([o0] : List Addr) := K4.wr W7 (Or.inl (List.mem_of_getElem? (i := 0) rfl))
  have Fw7 := c5.same W7
  show Go _ _ _ _ _ _ _ (T7.setTop (mkF m 14 #[.val (.ref o0), .val (.ref o1), .val (.double y2), .second, .val (.double y3), .second, .val (.double y4), .second, .val (.double y5), .second] []))
  refine gob (fun _ k => XS.aloadN X7.here hx rfl (hb hby d2_14) rfl rfl k) ?_
  show Go _ _ _ _ _ _ _ (T7.setTop (mkF m 15 #[.val (.ref o0), .val (.ref o1), .val (.double y2), .second, .val (.double y3), .second, .val (.double y4), .second, .val (.double y5), .second] [(.ref o0)]))
  refine gob (fun _ k => XS.dload X7.here hx rfl (hb hby d2_15) rfl k) ?_
  show Go _ _ _ _ _ _ _ (T7.setTop (mkF m 17 #[.val (.ref o0), .val (.ref o1), .val (.double y2), .second, .val (.double y3), .second, .val (.double y4), .second, .val (.double y5), .second] [(.double y3), (.ref o0)]))
  have c10 := ((F_b_o0.other W2 (Or.inr (slot_ne (Or.inr (hw _ (List.mem_of_getElem? (i := 26) rfl))) (Or.inr (hw _ (List.mem_of_getElem? (i := 22) rfl))) (by decide) (t := .double) (t' := (.object "com/example/robust_broker/robustbroker/Fit$Form")) (by decide) (by decide)))).other W7 (Or.inr (slot_ne (Or.inr (hw _ (List.mem_of_getElem? (i := 26) rfl))) (Or.inr (hw _ (List.mem_of_getElem? (i := 24) rfl))) (by decide) (t := .double) (t' := .double) (by decide) (by decide))))
  have c11 := (c6.wr W7)
  obtain ⟨T12, h12, X12, e12, W12, st12⟩ := putF X7 hx hZ hown (host := "") (Or.inl (hw _ (List.mem_of_getElem? (i := 25) rfl))) Via.refl e7 c10 c11 (Or.inr ⟨(hw _ (List.mem_of_getElem? (i := 26) rfl)), rfl, hnm⟩) (hw _ (List.mem_of_getElem? (i := 8) rfl)) (ty := .double) (by decide) rfl rfl (g := (mkF m 17 #[.val (.ref o0), .val (.ref o1), .val (.double y2), .second, .val (.double y3), .second, .val (.double y4), .second, .val (.double y5), .second] [(.double y3), (.ref o0)])) rfl rfl (hb hby d2_17)
  refine gob st12 ?_
  have z13 : n0 ≤ h12.size := Nat.le_trans z8 (Keep.of_wr W12).1
  have N12 := Fr.snoc X12 N7 g_o0
  have K14 : Keep h0 h12 ([o0] : List Addr) := K9.wr W12 (Or.inl (List.mem_of_getElem? (i := 0) rfl))
  have Fw12 := c10.same W12
  show Go _ _ _ _ _ _ _ (T12.setTop (mkF m 20 #[.val (.ref o0), .val (.ref o1), .val (.double y2), .second, .val (.double y3), .second, .val (.double y4), .second, .val (.double y5), .second] []))
  refine gob (fun _ k => XS.aloadN X12.here hx rfl (hb hby d2_20) rfl rfl k) ?_
  show Go _ _ _ _ _ _ _ (T12.setTop (mkF m 21 #[.val (.ref o0), .val (.ref o1), .val (.double y2), .second, .val (.double y3), .second, .val (.double y4), .second, .val (.double y5), .second] [(.ref o0)]))
  refine gob (fun _ k => XS.dload X12.here hx rfl (hb hby d2_21) rfl k) ?_
  show Go _ _ _ _ _ _ _ (T12.setTop (mkF m 23 #[.val (.ref o0), .val (.ref o1), .val (.double y2), .second, .val (.double y3), .second, .val (.double y4), .second, .val (.double y5), .second] [(.double y4), (.ref o0)]))
  have c15 := (((F_r2_o0.other W2 (Or.inr (slot_ne (Or.inr (hw _ (List.mem_of_getElem? (i := 28) rfl))) (Or.inr (hw _ (List.mem_of_getElem? (i := 22) rfl))) (by decide) (t := .double) (t' := (.object "com/example/robust_broker/robustbroker/Fit$Form")) (by decide) (by decide)))).other W7 (Or.inr (slot_ne (Or.inr (hw _ (List.mem_of_getElem? (i := 28) rfl))) (Or.inr (hw _ (List.mem_of_getElem? (i := 24) rfl))) (by decide) (t := .double) (t' := .double) (by decide) (by decide)))).other W12 (Or.inr (slot_ne (Or.inr (hw _ (List.mem_of_getElem? (i := 28) rfl))) (Or.inr (hw _ (List.mem_of_getElem? (i := 26) rfl))) (by decide) (t := .double) (t' := .double) (by decide) (by decide))))
  have c16 := (c11.wr W12)
  obtain ⟨T17, h17, X17, e17, W17, st17⟩ := putF X12 hx hZ hown (host := "") (Or.inl (hw _ (List.mem_of_getElem? (i := 27) rfl))) Via.refl e12 c15 c16 (Or.inr ⟨(hw _ (List.mem_of_getElem? (i := 28) rfl)), rfl, hnm⟩) (hw _ (List.mem_of_getElem? (i := 8) rfl)) (ty := .double) (by decide) rfl rfl (g := (mkF m 23 #[.val (.ref o0), .val (.ref o1), .val (.double y2), .second, .val (.double y3), .second, .val (.double y4), .second, .val (.double y5), .second] [(.double y4), (.ref o0)])) rfl rfl (hb hby d2_23)
  refine gob st17 ?_
  have z18 : n0 ≤ h17.size := Nat.le_trans z13 (Keep.of_wr W17).1
  have N17 := Fr.snoc X17 N12 g_o0
  have K19 : Keep h0 h17 ([o0] : List Addr) := K14.wr W17 (Or.inl (List.mem_of_getElem? (i := 0) rfl))
  have Fw17 := c15.same W17
  show Go _ _ _ _ _ _ _ (T17.setTop (mkF m 26 #[.val (.ref o0), .val (.ref o1), .val (.double y2), .second, .val (.double y3), .second, .val (.double y4), .second, .val (.double y5), .second] []))
  refine gob (fun _ k => XS.aloadN X17.here hx rfl (hb hby d2_26) rfl rfl k) ?_
  show Go _ _ _ _ _ _ _ (T17.setTop (mkF m 27 #[.val (.ref o0), .val (.ref o1), .val (.double y2), .second, .val (.double y3), .second, .val (.double y4), .second, .val (.double y5), .second] [(.ref o0)]))
  refine gob (fun _ k => XS.dload X17.here hx rfl (hb hby d2_27) rfl k) ?_
  show Go _ _ _ _ _ _ _ (T17.setTop (mkF m 29 #[.val (.ref o0), .val (.ref o1), .val (.double y2), .second, .val (.double y3), .second, .val (.double y4), .second, .val (.double y5), .second] [(.double y5), (.ref o0)]))
  have c20 := ((((F_cap_o0.other W2 (Or.inr (slot_ne (Or.inr (hw _ (List.mem_of_getElem? (i := 30) rfl))) (Or.inr (hw _ (List.mem_of_getElem? (i := 22) rfl))) (by decide) (t := .double) (t' := (.object "com/example/robust_broker/robustbroker/Fit$Form")) (by decide) (by decide)))).other W7 (Or.inr (slot_ne (Or.inr (hw _ (List.mem_of_getElem? (i := 30) rfl))) (Or.inr (hw _ (List.mem_of_getElem? (i := 24) rfl))) (by decide) (t := .double) (t' := .double) (by decide) (by decide)))).other W12 (Or.inr (slot_ne (Or.inr (hw _ (List.mem_of_getElem? (i := 30) rfl))) (Or.inr (hw _ (List.mem_of_getElem? (i := 26) rfl))) (by decide) (t := .double) (t' := .double) (by decide) (by decide)))).other W17 (Or.inr (slot_ne (Or.inr (hw _ (List.mem_of_getElem? (i := 30) rfl))) (Or.inr (hw _ (List.mem_of_getElem? (i := 28) rfl))) (by decide) (t := .double) (t' := .double) (by decide) (by decide))))
  have c21 := (c16.wr W17)
  obtain ⟨T22, h22, X22, e22, W22, st22⟩ := putF X17 hx hZ hown (host := "") (Or.inl (hw _ (List.mem_of_getElem? (i := 29) rfl))) Via.refl e17 c20 c21 (Or.inr ⟨(hw _ (List.mem_of_getElem? (i := 30) rfl)), rfl, hnm⟩) (hw _ (List.mem_of_getElem? (i := 8) rfl)) (ty := .double) (by decide) rfl rfl (g := (mkF m 29 #[.val (.ref o0), .val (.ref o1), .val (.double y2), .second, .val (.double y3), .second, .val (.double y4), .second, .val (.double y5), .second] [(.double y5), (.ref o0)])) rfl rfl (hb hby d2_29)
  refine gob st22 ?_
  have z23 : n0 ≤ h22.size := Nat.le_trans z18 (Keep.of_wr W22).1
  have N22 := Fr.snoc X22 N17 g_o0
  have K24 : Keep h0 h22 ([o0] : List Addr) := K19.wr W22 (Or.inl (List.mem_of_getElem? (i := 0) rfl))
  have Fw22 := c20.same W22
  show Go _ _ _ _ _ _ _ (T22.setTop (mkF m 32 #[.val (.ref o0), .val (.ref o1), .val (.double y2), .second, .val (.double y3), .second, .val (.double y4), .second, .val (.double y5), .second] []))
  refine goV X22 hx hlk Bd.returns (hb hby d2_32) ?_ (by decide) (by decide)
  show Q2 Z o0 o1 y2 y3 y4 y5 h0 n0 (none) T22.heap _
  have c25 := ((((Fw2.other W7 (Or.inr (slot_ne (Or.inr (hw _ (List.mem_of_getElem? (i := 22) rfl))) (Or.inr (hw _ (List.mem_of_getElem? (i := 24) rfl))) (by decide) (t := (.object "com/example/robust_broker/robustbroker/Fit$Form")) (t' := .double) (by decide) (by decide)))).other W12 (Or.inr (slot_ne (Or.inr (hw _ (List.mem_of_getElem? (i := 22) rfl))) (Or.inr (hw _ (List.mem_of_getElem? (i := 26) rfl))) (by decide) (t := (.object "com/example/robust_broker/robustbroker/Fit$Form")) (t' := .double) (by decide) (by decide)))).other W17 (Or.inr (slot_ne (Or.inr (hw _ (List.mem_of_getElem? (i := 22) rfl))) (Or.inr (hw _ (List.mem_of_getElem? (i := 28) rfl))) (by decide) (t := (.object "com/example/robust_broker/robustbroker/Fit$Form")) (t' := .double) (by decide) (by decide)))).other W22 (Or.inr (slot_ne (Or.inr (hw _ (List.mem_of_getElem? (i := 22) rfl))) (Or.inr (hw _ (List.mem_of_getElem? (i := 30) rfl))) (by decide) (t := (.object "com/example/robust_broker/robustbroker/Fit$Form")) (t' := .double) (by decide) (by decide))))
  have c26 := (((Fw7.other W12 (Or.inr (slot_ne (Or.inr (hw _ (List.mem_of_getElem? (i := 24) rfl))) (Or.inr (hw _ (List.mem_of_getElem? (i := 26) rfl))) (by decide) (t := .double) (t' := .double) (by decide) (by decide)))).other W17 (Or.inr (slot_ne (Or.inr (hw _ (List.mem_of_getElem? (i := 24) rfl))) (Or.inr (hw _ (List.mem_of_getElem? (i := 28) rfl))) (by decide) (t := .double) (t' := .double) (by decide) (by decide)))).other W22 (Or.inr (slot_ne (Or.inr (hw _ (List.mem_of_getElem? (i := 24) rfl))) (Or.inr (hw _ (List.mem_of_getElem? (i := 30) rfl))) (by decide) (t := .double) (t' := .double) (by decide) (by decide))))
  have c27 := ((Fw12.other W17 (Or.inr (slot_ne (Or.inr (hw _ (List.mem_of_getElem? (i := 26) rfl))) (Or.inr (hw _ (List.mem_of_getElem? (i := 28) rfl))) (by decide) (t := .double) (t' := .double) (by decide) (by decide)))).other W22 (Or.inr (slot_ne (Or.inr (hw _ (List.mem_of_getElem? (i := 26) rfl))) (Or.inr (hw _ (List.mem_of_getElem? (i := 30) rfl))) (by decide) (t := .double) (t' := .double) (by decide) (by decide))))
  have c28 := (Fw17.other W22 (Or.inr (slot_ne (Or.inr (hw _ (List.mem_of_getElem? (i := 28) rfl))) (Or.inr (hw _ (List.mem_of_getElem? (i := 30) rfl))) (by decide) (t := .double) (t' := .double) (by decide) (by decide))))
  rw [e22]
  exact ⟨rfl, N22, K24, c25, c26, c27, c28, Fw22⟩
theorem d5_0 : decode prog_13_method_3_code 0 = .ok (.aload_n 0, 1) := by decide +kernel
theorem d5_1 : decode prog_13_method_3_code 1 = .ok (.getfield 7, 3) := by decide +kernel
theorem d5_4 : decode prog_13_method_3_code 4 = .ok (.getfield 38, 3) := by decide +kernel
theorem d5_7 : decode prog_13_method_3_code 7 = .ok (.ifCond .eq 20, 3) := by decide +kernel
theorem d5_10 : decode prog_13_method_3_code 10 = .ok (.aload_n 0, 1) := by decide +kernel
theorem d5_11 : decode prog_13_method_3_code 11 = .ok (.getfield 13, 3) := by decide +kernel
theorem d5_14 : decode prog_13_method_3_code 14 = .ok (.dconst 0, 1) := by decide +kernel
theorem d5_15 : decode prog_13_method_3_code 15 = .ok (.dcmp .l, 1) := by decide +kernel
theorem d5_16 : decode prog_13_method_3_code 16 = .ok (.ifCond .le 7, 3) := by decide +kernel
theorem d5_19 : decode prog_13_method_3_code 19 = .ok (.iconst 1, 1) := by decide +kernel
theorem d5_20 : decode prog_13_method_3_code 20 = .ok (.goto 21, 3) := by decide +kernel
theorem d5_23 : decode prog_13_method_3_code 23 = .ok (.iconst 0, 1) := by decide +kernel
theorem d5_24 : decode prog_13_method_3_code 24 = .ok (.goto 17, 3) := by decide +kernel
theorem d5_27 : decode prog_13_method_3_code 27 = .ok (.aload_n 0, 1) := by decide +kernel
theorem d5_28 : decode prog_13_method_3_code 28 = .ok (.getfield 13, 3) := by decide +kernel
theorem d5_31 : decode prog_13_method_3_code 31 = .ok (.dconst 0, 1) := by decide +kernel
theorem d5_32 : decode prog_13_method_3_code 32 = .ok (.dcmp .g, 1) := by decide +kernel
theorem d5_33 : decode prog_13_method_3_code 33 = .ok (.ifCond .ge 7, 3) := by decide +kernel
theorem d5_36 : decode prog_13_method_3_code 36 = .ok (.iconst 1, 1) := by decide +kernel
theorem d5_37 : decode prog_13_method_3_code 37 = .ok (.goto 4, 3) := by decide +kernel
theorem d5_40 : decode prog_13_method_3_code 40 = .ok (.iconst 0, 1) := by decide +kernel
theorem d5_41 : decode prog_13_method_3_code 41 = .ok (.ireturn, 1) := by decide +kernel
theorem ef_rd0 (m : MethodId) (x0 : Addr) : entryFrame m #[(.ref x0)] 1 = mkF m 0 #[.val (.ref x0)] [] := by first | (simp [entryFrame, mkF, argsToLocals, Value.category]; done) | rfl
def Qrd0 (Z : State) (o0 : Addr) (w_form : Addr) (w2 : UInt64) (h0 : Heap) (n0 : Nat) (v : Option Value) (h : Heap) (L : List Loc) : Prop := ∃ r : Int32, v = some (.int r) ∧ (((cmpValue (FP.dcmp w2 (0 : UInt64)) .g) < (0 : Int32) ∧ r = (1 : Int32)) ∨ (¬ ((cmpValue (FP.dcmp w2 (0 : UInt64)) .g) < (0 : Int32)) ∧ r = (0 : Int32))) ∧ Fr n0 L ∧ h = h0
set_option maxRecDepth 65536 in
set_option maxHeartbeats 40000000 in
theorem rmrd0 (l : Launch) (Z : State) (a0 : Array Value) (hw : ∀ d ∈ tables_1, d.before a0 Z = true) (ws : List Jvm.Cond) (o0 : Addr) (w_form : Addr) (w2 : UInt64) (h0 : Heap) (n0 : Nat) (Z0 : n0 ≤ h0.size) (F_form : Fld Z h0 o0 "com/example/robust_broker/robustbroker/Fit" "form" "Lcom/example/robust_broker/robustbroker/Fit$Form;" (.ref w_form)) (F_fall : Fld Z h0 w_form "com/example/robust_broker/robustbroker/Fit$Form" "falling" "Z" (.int (0 : Int32))) (F_a_o0 : Fld Z h0 o0 "com/example/robust_broker/robustbroker/Fit" "a" "D" (.double w2)) :
    MetFree l (⟨"com/example/robust_broker/robustbroker/Fit", "ranksDownward", "()Z"⟩ : MethodName) (head1 (Jvm.Cond.code (⟨"com/example/robust_broker/robustbroker/Fit", "ranksDownward", "()Z"⟩ : MethodName) prog_13_method_3_code 1 (some .boolean) :: ws) ({ frames := 0, cells := 0, slots := 0, locals := 0 } : Room)) (fun a U => a = #[(.ref o0)] ∧ Z.Warmed39 U.vm ∧ U.heap = h0) (fun _ _ _ _ _ => True) (fun _ U o U' => ∃ v L, o = .returned v ∧ Qrd0 Z o0 w_form w2 h0 n0 v U'.heap L ∧ FrameEnd U o U' L ({ frames := 0, cells := 0, slots := 0, locals := 0 } : Room).cells ({ frames := 0, cells := 0, slots := 0, locals := 0 } : Room).slots) := by
  refine MetFree.of_bodySF (plainFor_of_name (by first | (simp [plainName, overriddenIn]; done) | decide +kernel)) hisR ?_
  intro p e s m args below meth c s₁ Bd hml0 hP hK
  obtain ⟨rfl, hZ, hh⟩ := hP
  have hx := Bd.exec
  have hby := Bd.bytes
  have hml : c.maxLocals = 1 := hml0
  have hown : s.vm.findClass "com/example/robust_broker/robustbroker/Fit" = some m.cls := findClass_of_methodNamed Bd.named
  have hnm := (name_of_methodNamed Bd.named Bd.method).1
  have hlk := BodyLoose.notSynchronized Bd
  have X0 : Stand p l e ({ frames := 0, cells := 0, slots := 0, locals := 0 } : Room) s m #[(.ref o0)] below meth c s₁ [] 0 0 := Stand.of_body Bd
  have e0 : s₁.heap = h0 := by rw [← hh, Bd.state]; rfl
  have N0 := Fr.nil n0
  show Go p e below s (Qrd0 Z o0 w_form w2 h0 n0) 0 0 (s₁.setTop (entryFrame m #[(.ref o0)] 1))
  rw [ef_rd0]
  show Go _ _ _ _ _ _ _ (s₁.setTop (mkF m 0 #[.val (.ref o0)] []))
  refine gob (fun _ k => XS.aloadN X0.here hx rfl (hb hby d5_0) rfl rfl k) ?_
  show Go _ _ _ _ _ _ _ (s₁.setTop (mkF m 1 #[.val (.ref o0)] [(.ref o0)]))
  obtain ⟨T1, X1, e1, st1⟩ := getF X0 hx hZ hown (host := "") (Or.inl (hw _ (List.mem_of_getElem? (i := 21) rfl))) Via.refl e0 F_form (g := (mkF m 1 #[.val (.ref o0)] [(.ref o0)])) rfl rfl (hb hby d5_1)
  refine gob st1 ?_
  show Go _ _ _ _ _ _ _ (T1.setTop (mkF m 4 #[.val (.ref o0)] [(.ref w_form)]))
  refine gob (own_getR X1 hx hZ hown (hw _ (List.mem_of_getElem? (i := 36) rfl)) e1 F_fall (g := (mkF m 4 #[.val (.ref o0)] [(.ref w_form)])) rfl rfl (hb hby d5_4)) ?_
  show Go _ _ _ _ _ _ _ (T1.setTop (mkF m 7 #[.val (.ref o0)] [(.int (0 : Int32))]))
  refine gob (fun _ k => XS.ifYes X1.here hx rfl (pc0 := 7) (pc' := 27) rfl (hb hby d5_7) rfl ((if0 _ _).trans (teq (by decide : (0 : Int32) = (0 : Int32))).1) (by decide) (by decide) k) ?_
  show Go _ _ _ _ _ _ _ (T1.setTop (mkF m 27 #[.val (.ref o0)] []))
  refine gob (fun _ k => XS.aloadN X1.here hx rfl (hb hby d5_27) rfl rfl k) ?_
  show Go _ _ _ _ _ _ _ (T1.setTop (mkF m 28 #[.val (.ref o0)] [(.ref o0)]))
  obtain ⟨T3, X3, e3, st3⟩ := getF X1 hx hZ hown (host := "") (Or.inl (hw _ (List.mem_of_getElem? (i := 23) rfl))) Via.refl e1 F_a_o0 (g := (mkF m 28 #[.val (.ref o0)] [(.ref o0)])) rfl rfl (hb hby d5_28)
  refine gob st3 ?_
  show Go _ _ _ _ _ _ _ (T3.setTop (mkF m 31 #[.val (.ref o0)] [(.double w2)]))
  refine gob (fun _ k => XS.dconst0 X3.here hx rfl (hb hby d5_31) (v := (0 : UInt64)) (by decide +kernel) k) ?_
  show Go _ _ _ _ _ _ _ (T3.setTop (mkF m 32 #[.val (.ref o0)] [(.double (0 : UInt64)), (.double w2)]))
  refine gob (fun _ k => XS.dcmpS X3.here hx rfl (hb hby d5_32) rfl (v := (cmpValue (FP.dcmp w2 (0 : UInt64)) .g)) rfl k) ?_
  show Go _ _ _ _ _ _ _ (T3.setTop (mkF m 33 #[.val (.ref o0)] [(.int (cmpValue (FP.dcmp w2 (0 : UInt64)) .g))]))
  by_cases hc33_4 : (cmpValue (FP.dcmp w2 (0 : UInt64)) .g) < (0 : Int32)
  · skip
    refine gob (fun _ k => XS.ifNo X3.here hx rfl (hb hby d5_33) rfl ((if0 _ _).trans (tlt hc33_4).2.1) k) ?_
    show Go _ _ _ _ _ _ _ (T3.setTop (mkF m 36 #[.val (.ref o0)] []))
    refine gob (fun _ k => XS.iconst X3.here hx rfl (hb hby d5_36) k) ?_
    show Go _ _ _ _ _ _ _ (T3.setTop (mkF m 37 #[.val (.ref o0)] [(.int (1 : Int32))]))
    refine gob (fun _ k => XS.goto X3.here hx rfl (pc0 := 37) (pc' := 41) rfl (hb hby d5_37) (by decide) (by decide) k) ?_
    show Go _ _ _ _ _ _ _ (T3.setTop (mkF m 41 #[.val (.ref o0)] [(.int (1 : Int32))]))
    refine goZ X3 hx hlk (t := .boolean) Bd.returns (by simp) (hb hby d5_41) (z' := (1 : Int32)) rfl ?_ (by decide) (by decide)
    show Qrd0 Z o0 w_form w2 h0 n0 (some (.int (1 : Int32))) T3.heap _
    exact ⟨(1 : Int32), rfl, (Or.inl ⟨hc33_4, rfl⟩), N0, e3⟩
  · skip
    refine gob (fun _ k => XS.ifYes X3.here hx rfl (pc0 := 33) (pc' := 40) rfl (hb hby d5_33) rfl ((if0 _ _).trans (flt hc33_4).2.1) (by decide) (by decide) k) ?_
    show Go _ _ _ _ _ _ _ (T3.setTop (mkF m 40 #[.val (.ref o0)] []))
    refine gob (fun _ k => XS.iconst X3.here hx rfl (hb hby d5_40) k) ?_
    show Go _ _ _ _ _ _ _ (T3.setTop (mkF m 41 #[.val (.ref o0)] [(.int (0 : Int32))]))
    refine goZ X3 hx hlk (t := .boolean) Bd.returns (by simp) (hb hby d5_41) (z' := (0 : Int32)) rfl ?_ (by decide) (by decide)
    show Qrd0 Z o0 w_form w2 h0 n0 (some (.int (0 : Int32))) T3.heap _
    exact ⟨(0 : Int32), rfl, (Or.inr ⟨hc33_4, rfl⟩), N0, e3⟩
theorem ef_rd1 (m : MethodId) (x0 : Addr) : entryFrame m #[(.ref x0)] 1 = mkF m 0 #[.val (.ref x0)] [] := by first | (simp [entryFrame, mkF, argsToLocals, Value.category]; done) | rfl
def Qrd1 (Z : State) (o0 : Addr) (w_form : Addr) (w2 : UInt64) (h0 : Heap) (n0 : Nat) (v : Option Value) (h : Heap) (L : List Loc) : Prop := ∃ r : Int32, v = some (.int r) ∧ (((0 : Int32) < (cmpValue (FP.dcmp w2 (0 : UInt64)) .l) ∧ r = (1 : Int32)) ∨ (¬ ((0 : Int32) < (cmpValue (FP.dcmp w2 (0 : UInt64)) .l)) ∧ r = (0 : Int32))) ∧ Fr n0 L ∧ h = h0
set_option maxRecDepth 65536 in
set_option maxHeartbeats 40000000 in
theorem rmrd1 (l : Launch) (Z : State) (a0 : Array Value) (hw : ∀ d ∈ tables_1, d.before a0 Z = true) (ws : List Jvm.Cond) (o0 : Addr) (w_form : Addr) (w2 : UInt64) (h0 : Heap) (n0 : Nat) (Z0 : n0 ≤ h0.size) (F_form : Fld Z h0 o0 "com/example/robust_broker/robustbroker/Fit" "form" "Lcom/example/robust_broker/robustbroker/Fit$Form;" (.ref w_form)) (F_fall : Fld Z h0 w_form "com/example/robust_broker/robustbroker/Fit$Form" "falling" "Z" (.int (1 : Int32))) (F_a_o0 : Fld Z h0 o0 "com/example/robust_broker/robustbroker/Fit" "a" "D" (.double w2)) :
    MetFree l (⟨"com/example/robust_broker/robustbroker/Fit", "ranksDownward", "()Z"⟩ : MethodName) (head1 (Jvm.Cond.code (⟨"com/example/robust_broker/robustbroker/Fit", "ranksDownward", "()Z"⟩ : MethodName) prog_13_method_3_code 1 (some .boolean) :: ws) ({ frames := 0, cells := 0, slots := 0, locals := 0 } : Room)) (fun a U => a = #[(.ref o0)] ∧ Z.Warmed39 U.vm ∧ U.heap = h0) (fun _ _ _ _ _ => True) (fun _ U o U' => ∃ v L, o = .returned v ∧ Qrd1 Z o0 w_form w2 h0 n0 v U'.heap L ∧ FrameEnd U o U' L ({ frames := 0, cells := 0, slots := 0, locals := 0 } : Room).cells ({ frames := 0, cells := 0, slots := 0, locals := 0 } : Room).slots) := by
  refine MetFree.of_bodySF (plainFor_of_name (by first | (simp [plainName, overriddenIn]; done) | decide +kernel)) hisR ?_
  intro p e s m args below meth c s₁ Bd hml0 hP hK
  obtain ⟨rfl, hZ, hh⟩ := hP
  have hx := Bd.exec
  have hby := Bd.bytes
  have hml : c.maxLocals = 1 := hml0
  have hown : s.vm.findClass "com/example/robust_broker/robustbroker/Fit" = some m.cls := findClass_of_methodNamed Bd.named
  have hnm := (name_of_methodNamed Bd.named Bd.method).1
  have hlk := BodyLoose.notSynchronized Bd
  have X0 : Stand p l e ({ frames := 0, cells := 0, slots := 0, locals := 0 } : Room) s m #[(.ref o0)] below meth c s₁ [] 0 0 := Stand.of_body Bd
  have e0 : s₁.heap = h0 := by rw [← hh, Bd.state]; rfl
  have N0 := Fr.nil n0
  show Go p e below s (Qrd1 Z o0 w_form w2 h0 n0) 0 0 (s₁.setTop (entryFrame m #[(.ref o0)] 1))
  rw [ef_rd1]
  show Go _ _ _ _ _ _ _ (s₁.setTop (mkF m 0 #[.val (.ref o0)] []))
  refine gob (fun _ k => XS.aloadN X0.here hx rfl (hb hby d5_0) rfl rfl k) ?_
  show Go _ _ _ _ _ _ _ (s₁.setTop (mkF m 1 #[.val (.ref o0)] [(.ref o0)]))
  obtain ⟨T1, X1, e1, st1⟩ := getF X0 hx hZ hown (host := "") (Or.inl (hw _ (List.mem_of_getElem? (i := 21) rfl))) Via.refl e0 F_form (g := (mkF m 1 #[.val (.ref o0)] [(.ref o0)])) rfl rfl (hb hby d5_1)
  refine gob st1 ?_
  show Go _ _ _ _ _ _ _ (T1.setTop (mkF m 4 #[.val (.ref o0)] [(.ref w_form)]))
  refine gob (own_getR X1 hx hZ hown (hw _ (List.mem_of_getElem? (i := 36) rfl)) e1 F_fall (g := (mkF m 4 #[.val (.ref o0)] [(.ref w_form)])) rfl rfl (hb hby d5_4)) ?_
  show Go _ _ _ _ _ _ _ (T1.setTop (mkF m 7 #[.val (.ref o0)] [(.int (1 : Int32))]))
  refine gob (fun _ k => XS.ifNo X1.here hx rfl (hb hby d5_7) rfl ((if0 _ _).trans (feq (by decide : ¬ ((1 : Int32) = (0 : Int32)))).1) k) ?_
  show Go _ _ _ _ _ _ _ (T1.setTop (mkF m 10 #[.val (.ref o0)] []))
  refine gob (fun _ k => XS.aloadN X1.here hx rfl (hb hby d5_10) rfl rfl k) ?_
  show Go _ _ _ _ _ _ _ (T1.setTop (mkF m 11 #[.val (.ref o0)] [(.ref o0)]))
  obtain ⟨T3, X3, e3, st3⟩ := getF X1 hx hZ hown (host := "") (Or.inl (hw _ (List.mem_of_getElem? (i := 23) rfl))) Via.refl e1 F_a_o0 (g := (mkF m 11 #[.val (.ref o0)] [(.ref o0)])) rfl rfl (hb hby d5_11)
  refine gob st3 ?_
  show Go _ _ _ _ _ _ _ (T3.setTop (mkF m 14 #[.val (.ref o0)] [(.double w2)]))
  refine gob (fun _ k => XS.dconst0 X3.here hx rfl (hb hby d5_14) (v := (0 : UInt64)) (by decide +kernel) k) ?_
  show Go _ _ _ _ _ _ _ (T3.setTop (mkF m 15 #[.val (.ref o0)] [(.double (0 : UInt64)), (.double w2)]))
  refine gob (fun _ k => XS.dcmpS X3.here hx rfl (hb hby d5_15) rfl (v := (cmpValue (FP.dcmp w2 (0 : UInt64)) .l)) rfl k) ?_
  show Go _ _ _ _ _ _ _ (T3.setTop (mkF m 16 #[.val (.ref o0)] [(.int (cmpValue (FP.dcmp w2 (0 : UInt64)) .l))]))
  by_cases hc16_4 : (0 : Int32) < (cmpValue (FP.dcmp w2 (0 : UInt64)) .l)
  · skip
    refine gob (fun _ k => XS.ifNo X3.here hx rfl (hb hby d5_16) rfl ((if0 _ _).trans (tlt hc16_4).2.2.2) k) ?_
    show Go _ _ _ _ _ _ _ (T3.setTop (mkF m 19 #[.val (.ref o0)] []))
    refine gob (fun _ k => XS.iconst X3.here hx rfl (hb hby d5_19) k) ?_
    show Go _ _ _ _ _ _ _ (T3.setTop (mkF m 20 #[.val (.ref o0)] [(.int (1 : Int32))]))
    refine gob (fun _ k => XS.goto X3.here hx rfl (pc0 := 20) (pc' := 41) rfl (hb hby d5_20) (by decide) (by decide) k) ?_
    show Go _ _ _ _ _ _ _ (T3.setTop (mkF m 41 #[.val (.ref o0)] [(.int (1 : Int32))]))
    refine goZ X3 hx hlk (t := .boolean) Bd.returns (by simp) (hb hby d5_41) (z' := (1 : Int32)) rfl ?_ (by decide) (by decide)
    show Qrd1 Z o0 w_form w2 h0 n0 (some (.int (1 : Int32))) T3.heap _
    exact ⟨(1 : Int32), rfl, (Or.inl ⟨hc16_4, rfl⟩), N0, e3⟩
  · skip
    refine gob (fun _ k => XS.ifYes X3.here hx rfl (pc0 := 16) (pc' := 23) rfl (hb hby d5_16) rfl ((if0 _ _).trans (flt hc16_4).2.2.2) (by decide) (by decide) k) ?_
    show Go _ _ _ _ _ _ _ (T3.setTop (mkF m 23 #[.val (.ref o0)] []))
    refine gob (fun _ k => XS.iconst X3.here hx rfl (hb hby d5_23) k) ?_
    show Go _ _ _ _ _ _ _ (T3.setTop (mkF m 24 #[.val (.ref o0)] [(.int (0 : Int32))]))
    refine gob (fun _ k => XS.goto X3.here hx rfl (pc0 := 24) (pc' := 41) rfl (hb hby d5_24) (by decide) (by decide) k) ?_
    show Go _ _ _ _ _ _ _ (T3.setTop (mkF m 41 #[.val (.ref o0)] [(.int (0 : Int32))]))
    refine goZ X3 hx hlk (t := .boolean) Bd.returns (by simp) (hb hby d5_41) (z' := (0 : Int32)) rfl ?_ (by decide) (by decide)
    show Qrd1 Z o0 w_form w2 h0 n0 (some (.int (0 : Int32))) T3.heap _
    exact ⟨(0 : Int32), rfl, (Or.inr ⟨hc16_4, rfl⟩), N0, e3⟩
theorem pd_1 : parseMethodDescriptor "(I)Lcom/example/robust_broker/robustbroker/Fit$Form;" = some ⟨[.int], some (.object "com/example/robust_broker/robustbroker/Fit$Form")⟩ := by decide +kernel
theorem pd_2 : parseMethodDescriptor "(Lcom/example/robust_broker/robustbroker/Fit$Form;DDDD)V" = some ⟨[(.object "com/example/robust_broker/robustbroker/Fit$Form"), .double, .double, .double, .double], none⟩ := by decide +kernel
theorem pd_3 : parseMethodDescriptor "()Z" = some ⟨[], some .boolean⟩ := by decide +kernel
theorem ef_0 (m : MethodId) (x0 : Int32) (x1 : Int32) (x2 : Int32) (x3 : Int32) (x4 : Int32) : entryFrame m #[(.int x0), (.int x1), (.int x2), (.int x3), (.int x4)] maxLocals = mkF m 0 #[.val (.int x0), .val (.int x1), .val (.int x2), .val (.int x3), .val (.int x4), .unset, .unset, .unset, .unset, .unset, .unset, .unset, .unset, .unset, .unset, .unset] [] := by first | (simp [entryFrame, mkF, argsToLocals, Value.category, maxLocals]; done) | rfl
def Q0 (Z : State) (p0 : Int32) (p1 : Int32) (p2 : Int32) (p3 : Int32) (p4 : Int32) (w_LIN : Addr) (w_SQRT : Addr) (w_LOG : Addr) (w_POW : Addr) (h0 : Heap) (n0 : Nat) (v : Option Value) (h : Heap) (L : List Loc) : Prop := v = some (.int 1) ∧ Fr n0 L
theorem ld_0_127_64 (p0 : Int32) (k_ : Int32) (hk_ : (p0 &&& (3 : Int32)) = k_) (hc7_1 : k_ = (0 : Int32)) : ¬ (k_ = (3 : Int32)) := by
  have := rng32 p0
  have := rng32 k_
  have : (0 : Int32).toInt = 0 := by decide
  have : (3 : Int32).toInt = 3 := by decide
  have : ((p0 &&& (3 : Int32))).toInt = (p0).toInt % (2 ^ 2 : Nat) := c_mask p0 (3 : Int32) 2 (by decide) (by decide)
  try (simp only [Int32.lt_iff_toInt_lt, Int32.le_iff_toInt_le, Int64.lt_iff_toInt_lt, Int64.le_iff_toInt_le, ← Int32.toInt_inj, ← Int64.toInt_inj, ne_eq] at *)
  omega
theorem ld_0_146_69 (p1 : Int32) (p2 : Int32) (v6 : Int32) (v15 : UInt64) (v56 : Int32) (r66 : Int32) (hj13 : ((p2 &&& (1 : Int32)) = (0 : Int32) ∧ v6 = (0 : Int32)) ∨ (¬ ((p2 &&& (1 : Int32)) = (0 : Int32)) ∧ v6 = (1 : Int32))) (hj22 : (v6 = (0 : Int32) ∧ v15 = (FP.i2d p1)) ∨ (¬ (v6 = (0 : Int32)) ∧ v15 = (FP.dneg (FP.i2d p1)))) (hj63 : (v6 = (0 : Int32) ∧ p1 < (0 : Int32) ∧ v56 = (1 : Int32)) ∨ (v6 = (0 : Int32) ∧ ¬ (p1 < (0 : Int32)) ∧ v56 = (0 : Int32)) ∨ (¬ (v6 = (0 : Int32)) ∧ (0 : Int32) < p1 ∧ v56 = (1 : Int32)) ∨ (¬ (v6 = (0 : Int32)) ∧ ¬ ((0 : Int32) < p1) ∧ v56 = (0 : Int32))) (hr66 : ((cmpValue (FP.dcmp v15 (0 : UInt64)) .g) < (0 : Int32) ∧ r66 = (1 : Int32)) ∨ (¬ ((cmpValue (FP.dcmp v15 (0 : UInt64)) .g) < (0 : Int32)) ∧ r66 = (0 : Int32))) : r66 = v56 := by
  rcases hj22 with ⟨hq, rfl⟩ | ⟨hq, rfl⟩
  · rw [own_cmpI] at hr66
    have := rng32 p1
    have := rng32 p2
    have := rng32 v6
    have := rng32 v56
    have := rng32 r66
    have : (0 : Int32).toInt = 0 := by decide
    have : (1 : Int32).toInt = 1 := by decide
    have : ((p2 &&& (1 : Int32))).toInt = (p2).toInt % (2 ^ 1 : Nat) := c_mask p2 (1 : Int32) 1 (by decide) (by decide)
    have := c_i2l p1
    have := c_lneg p1.toInt64
    have := rng64 (-p1.toInt64)
    have := c_lcmp p1.toInt64 0
    have := c_lcmp (-p1.toInt64) 0
    have : (0 : Int64).toInt = 0 := by decide
    try (simp only [Int32.lt_iff_toInt_lt, Int32.le_iff_toInt_le, Int64.lt_iff_toInt_lt, Int64.le_iff_toInt_le, ← Int32.toInt_inj, ← Int64.toInt_inj, ne_eq] at *)
    omega
  · rw [own_cmpN] at hr66
    have := rng32 p1
    have := rng32 p2
    have := rng32 v6
    have := rng32 v56
    have := rng32 r66
    have : (0 : Int32).toInt = 0 := by decide
    have : (1 : Int32).toInt = 1 := by decide
    have : ((p2 &&& (1 : Int32))).toInt = (p2).toInt % (2 ^ 1 : Nat) := c_mask p2 (1 : Int32) 1 (by decide) (by decide)
    have := c_i2l p1
    have := c_lneg p1.toInt64
    have := rng64 (-p1.toInt64)
    have := c_lcmp p1.toInt64 0
    have := c_lcmp (-p1.toInt64) 0
    have : (0 : Int64).toInt = 0 := by decide
    try (simp only [Int32.lt_iff_toInt_lt, Int32.le_iff_toInt_le, Int64.lt_iff_toInt_lt, Int64.le_iff_toInt_le, ← Int32.toInt_inj, ← Int64.toInt_inj, ne_eq] at *)
    omega
theorem ld_0_127_142 (p0 : Int32) (k_ : Int32) (hk_ : (p0 &&& (3 : Int32)) = k_) (hc7_1 : ¬ (k_ = (0 : Int32))) (hc7_79 : k_ = (1 : Int32)) : ¬ (k_ = (3 : Int32)) := by
  have := rng32 p0
  have := rng32 k_
  have : (0 : Int32).toInt = 0 := by decide
  have : (1 : Int32).toInt = 1 := by decide
  have : (3 : Int32).toInt = 3 := by decide
  have : ((p0 &&& (3 : Int32))).toInt = (p0).toInt % (2 ^ 2 : Nat) := c_mask p0 (3 : Int32) 2 (by decide) (by decide)
  try (simp only [Int32.lt_iff_toInt_lt, Int32.le_iff_toInt_le, Int64.lt_iff_toInt_lt, Int64.le_iff_toInt_le, ← Int32.toInt_inj, ← Int64.toInt_inj, ne_eq] at *)
  omega
theorem ld_0_146_147 (p1 : Int32) (p2 : Int32) (v84 : Int32) (v93 : UInt64) (v134 : Int32) (r144 : Int32) (hj91 : ((p2 &&& (1 : Int32)) = (0 : Int32) ∧ v84 = (0 : Int32)) ∨ (¬ ((p2 &&& (1 : Int32)) = (0 : Int32)) ∧ v84 = (1 : Int32))) (hj100 : (v84 = (0 : Int32) ∧ v93 = (FP.i2d p1)) ∨ (¬ (v84 = (0 : Int32)) ∧ v93 = (FP.dneg (FP.i2d p1)))) (hj141 : (v84 = (0 : Int32) ∧ p1 < (0 : Int32) ∧ v134 = (1 : Int32)) ∨ (v84 = (0 : Int32) ∧ ¬ (p1 < (0 : Int32)) ∧ v134 = (0 : Int32)) ∨ (¬ (v84 = (0 : Int32)) ∧ (0 : Int32) < p1 ∧ v134 = (1 : Int32)) ∨ (¬ (v84 = (0 : Int32)) ∧ ¬ ((0 : Int32) < p1) ∧ v134 = (0 : Int32))) (hr144 : ((cmpValue (FP.dcmp v93 (0 : UInt64)) .g) < (0 : Int32) ∧ r144 = (1 : Int32)) ∨ (¬ ((cmpValue (FP.dcmp v93 (0 : UInt64)) .g) < (0 : Int32)) ∧ r144 = (0 : Int32))) : r144 = v134 := by
  rcases hj100 with ⟨hq, rfl⟩ | ⟨hq, rfl⟩
  · rw [own_cmpI] at hr144
    have := rng32 p1
    have := rng32 p2
    have := rng32 v84
    have := rng32 v134
    have := rng32 r144
    have : (0 : Int32).toInt = 0 := by decide
    have : (1 : Int32).toInt = 1 := by decide
    have : ((p2 &&& (1 : Int32))).toInt = (p2).toInt % (2 ^ 1 : Nat) := c_mask p2 (1 : Int32) 1 (by decide) (by decide)
    have := c_i2l p1
    have := c_lneg p1.toInt64
    have := rng64 (-p1.toInt64)
    have := c_lcmp p1.toInt64 0
    have := c_lcmp (-p1.toInt64) 0
    have : (0 : Int64).toInt = 0 := by decide
    try (simp only [Int32.lt_iff_toInt_lt, Int32.le_iff_toInt_le, Int64.lt_iff_toInt_lt, Int64.le_iff_toInt_le, ← Int32.toInt_inj, ← Int64.toInt_inj, ne_eq] at *)
    omega
  · rw [own_cmpN] at hr144
    have := rng32 p1
    have := rng32 p2
    have := rng32 v84
    have := rng32 v134
    have := rng32 r144
    have : (0 : Int32).toInt = 0 := by decide
    have : (1 : Int32).toInt = 1 := by decide
    have : ((p2 &&& (1 : Int32))).toInt = (p2).toInt % (2 ^ 1 : Nat) := c_mask p2 (1 : Int32) 1 (by decide) (by decide)
    have := c_i2l p1
    have := c_lneg p1.toInt64
    have := rng64 (-p1.toInt64)
    have := c_lcmp p1.toInt64 0
    have := c_lcmp (-p1.toInt64) 0
    have : (0 : Int64).toInt = 0 := by decide
    try (simp only [Int32.lt_iff_toInt_lt, Int32.le_iff_toInt_le, Int64.lt_iff_toInt_lt, Int64.le_iff_toInt_le, ← Int32.toInt_inj, ← Int64.toInt_inj, ne_eq] at *)
    omega
theorem ld_0_127_220 (p0 : Int32) (k_ : Int32) (hk_ : (p0 &&& (3 : Int32)) = k_) (hc7_1 : ¬ (k_ = (0 : Int32))) (hc7_79 : ¬ (k_ = (1 : Int32))) (hc7_157 : k_ = (2 : Int32)) : ¬ (k_ = (3 : Int32)) := by
  have := rng32 p0
  have := rng32 k_
  have : (0 : Int32).toInt = 0 := by decide
  have : (1 : Int32).toInt = 1 := by decide
  have : (2 : Int32).toInt = 2 := by decide
  have : (3 : Int32).toInt = 3 := by decide
  have : ((p0 &&& (3 : Int32))).toInt = (p0).toInt % (2 ^ 2 : Nat) := c_mask p0 (3 : Int32) 2 (by decide) (by decide)
  try (simp only [Int32.lt_iff_toInt_lt, Int32.le_iff_toInt_le, Int64.lt_iff_toInt_lt, Int64.le_iff_toInt_le, ← Int32.toInt_inj, ← Int64.toInt_inj, ne_eq] at *)
  omega
theorem ld_0_146_225 (p1 : Int32) (p2 : Int32) (v162 : Int32) (v171 : UInt64) (v212 : Int32) (r222 : Int32) (hj169 : ((p2 &&& (1 : Int32)) = (0 : Int32) ∧ v162 = (0 : Int32)) ∨ (¬ ((p2 &&& (1 : Int32)) = (0 : Int32)) ∧ v162 = (1 : Int32))) (hj178 : (v162 = (0 : Int32) ∧ v171 = (FP.i2d p1)) ∨ (¬ (v162 = (0 : Int32)) ∧ v171 = (FP.dneg (FP.i2d p1)))) (hj219 : (v162 = (0 : Int32) ∧ p1 < (0 : Int32) ∧ v212 = (1 : Int32)) ∨ (v162 = (0 : Int32) ∧ ¬ (p1 < (0 : Int32)) ∧ v212 = (0 : Int32)) ∨ (¬ (v162 = (0 : Int32)) ∧ (0 : Int32) < p1 ∧ v212 = (1 : Int32)) ∨ (¬ (v162 = (0 : Int32)) ∧ ¬ ((0 : Int32) < p1) ∧ v212 = (0 : Int32))) (hr222 : ((cmpValue (FP.dcmp v171 (0 : UInt64)) .g) < (0 : Int32) ∧ r222 = (1 : Int32)) ∨ (¬ ((cmpValue (FP.dcmp v171 (0 : UInt64)) .g) < (0 : Int32)) ∧ r222 = (0 : Int32))) : r222 = v212 := by
  rcases hj178 with ⟨hq, rfl⟩ | ⟨hq, rfl⟩
  · rw [own_cmpI] at hr222
    have := rng32 p1
    have := rng32 p2
    have := rng32 v162
    have := rng32 v212
    have := rng32 r222
    have : (0 : Int32).toInt = 0 := by decide
    have : (1 : Int32).toInt = 1 := by decide
    have : ((p2 &&& (1 : Int32))).toInt = (p2).toInt % (2 ^ 1 : Nat) := c_mask p2 (1 : Int32) 1 (by decide) (by decide)
    have := c_i2l p1
    have := c_lneg p1.toInt64
    have := rng64 (-p1.toInt64)
    have := c_lcmp p1.toInt64 0
    have := c_lcmp (-p1.toInt64) 0
    have : (0 : Int64).toInt = 0 := by decide
    try (simp only [Int32.lt_iff_toInt_lt, Int32.le_iff_toInt_le, Int64.lt_iff_toInt_lt, Int64.le_iff_toInt_le, ← Int32.toInt_inj, ← Int64.toInt_inj, ne_eq] at *)
    omega
  · rw [own_cmpN] at hr222
    have := rng32 p1
    have := rng32 p2
    have := rng32 v162
    have := rng32 v212
    have := rng32 r222
    have : (0 : Int32).toInt = 0 := by decide
    have : (1 : Int32).toInt = 1 := by decide
    have : ((p2 &&& (1 : Int32))).toInt = (p2).toInt % (2 ^ 1 : Nat) := c_mask p2 (1 : Int32) 1 (by decide) (by decide)
    have := c_i2l p1
    have := c_lneg p1.toInt64
    have := rng64 (-p1.toInt64)
    have := c_lcmp p1.toInt64 0
    have := c_lcmp (-p1.toInt64) 0
    have : (0 : Int64).toInt = 0 := by decide
    try (simp only [Int32.lt_iff_toInt_lt, Int32.le_iff_toInt_le, Int64.lt_iff_toInt_lt, Int64.le_iff_toInt_le, ← Int32.toInt_inj, ← Int64.toInt_inj, ne_eq] at *)
    omega
theorem ld_0_127_297 (p0 : Int32) (k_ : Int32) (hk_ : (p0 &&& (3 : Int32)) = k_) (hc7_1 : ¬ (k_ = (0 : Int32))) (hc7_79 : ¬ (k_ = (1 : Int32))) (hc7_157 : ¬ (k_ = (2 : Int32))) : k_ = (3 : Int32) := by
  have := rng32 p0
  have := rng32 k_
  have : (0 : Int32).toInt = 0 := by decide
  have : (1 : Int32).toInt = 1 := by decide
  have : (2 : Int32).toInt = 2 := by decide
  have : (3 : Int32).toInt = 3 := by decide
  have : ((p0 &&& (3 : Int32))).toInt = (p0).toInt % (2 ^ 2 : Nat) := c_mask p0 (3 : Int32) 2 (by decide) (by decide)
  try (simp only [Int32.lt_iff_toInt_lt, Int32.le_iff_toInt_le, Int64.lt_iff_toInt_lt, Int64.le_iff_toInt_le, ← Int32.toInt_inj, ← Int64.toInt_inj, ne_eq] at *)
  omega
theorem ld_0_146_302 (p1 : Int32) (p2 : Int32) (v239 : Int32) (v248 : UInt64) (v278 : Int32) (r299 : Int32) (hj246 : ((p2 &&& (1 : Int32)) = (0 : Int32) ∧ v239 = (0 : Int32)) ∨ (¬ ((p2 &&& (1 : Int32)) = (0 : Int32)) ∧ v239 = (1 : Int32))) (hj255 : (v239 = (0 : Int32) ∧ v248 = (FP.i2d p1)) ∨ (¬ (v239 = (0 : Int32)) ∧ v248 = (FP.dneg (FP.i2d p1)))) (hj285 : (v239 = (0 : Int32) ∧ (0 : Int32) < p1 ∧ v278 = (1 : Int32)) ∨ (v239 = (0 : Int32) ∧ ¬ ((0 : Int32) < p1) ∧ v278 = (0 : Int32)) ∨ (¬ (v239 = (0 : Int32)) ∧ p1 < (0 : Int32) ∧ v278 = (1 : Int32)) ∨ (¬ (v239 = (0 : Int32)) ∧ ¬ (p1 < (0 : Int32)) ∧ v278 = (0 : Int32))) (hr299 : ((0 : Int32) < (cmpValue (FP.dcmp v248 (0 : UInt64)) .l) ∧ r299 = (1 : Int32)) ∨ (¬ ((0 : Int32) < (cmpValue (FP.dcmp v248 (0 : UInt64)) .l)) ∧ r299 = (0 : Int32))) : r299 = v278 := by
  rcases hj255 with ⟨hq, rfl⟩ | ⟨hq, rfl⟩
  · rw [own_cmpI] at hr299
    have := rng32 p1
    have := rng32 p2
    have := rng32 v239
    have := rng32 v278
    have := rng32 r299
    have : (0 : Int32).toInt = 0 := by decide
    have : (1 : Int32).toInt = 1 := by decide
    have : ((p2 &&& (1 : Int32))).toInt = (p2).toInt % (2 ^ 1 : Nat) := c_mask p2 (1 : Int32) 1 (by decide) (by decide)
    have := c_i2l p1
    have := c_lneg p1.toInt64
    have := rng64 (-p1.toInt64)
    have := c_lcmp p1.toInt64 0
    have := c_lcmp (-p1.toInt64) 0
    have : (0 : Int64).toInt = 0 := by decide
    try (simp only [Int32.lt_iff_toInt_lt, Int32.le_iff_toInt_le, Int64.lt_iff_toInt_lt, Int64.le_iff_toInt_le, ← Int32.toInt_inj, ← Int64.toInt_inj, ne_eq] at *)
    omega
  · rw [own_cmpN] at hr299
    have := rng32 p1
    have := rng32 p2
    have := rng32 v239
    have := rng32 v278
    have := rng32 r299
    have : (0 : Int32).toInt = 0 := by decide
    have : (1 : Int32).toInt = 1 := by decide
    have : ((p2 &&& (1 : Int32))).toInt = (p2).toInt % (2 ^ 1 : Nat) := c_mask p2 (1 : Int32) 1 (by decide) (by decide)
    have := c_i2l p1
    have := c_lneg p1.toInt64
    have := rng64 (-p1.toInt64)
    have := c_lcmp p1.toInt64 0
    have := c_lcmp (-p1.toInt64) 0
    have : (0 : Int64).toInt = 0 := by decide
    try (simp only [Int32.lt_iff_toInt_lt, Int32.le_iff_toInt_le, Int64.lt_iff_toInt_lt, Int64.le_iff_toInt_le, ← Int32.toInt_inj, ← Int64.toInt_inj, ne_eq] at *)
    omega
set_option maxRecDepth 65536 in
set_option maxHeartbeats 40000000 in
theorem rm0 (l : Launch) (Z : State) (a0 : Array Value) (hw : ∀ d ∈ tables_1, d.before a0 Z = true) (ws : List Jvm.Cond) (p0 : Int32) (p1 : Int32) (p2 : Int32) (p3 : Int32) (p4 : Int32) (w_LIN : Addr) (w_SQRT : Addr) (w_LOG : Addr) (w_POW : Addr) (h0 : Heap) (n0 : Nat) (Z0 : n0 ≤ h0.size) (S_LIN : Sta Z h0 "com/example/robust_broker/robustbroker/Fit$Form" "LIN" "Lcom/example/robust_broker/robustbroker/Fit$Form;" (.ref w_LIN)) (F_LIN : Fld Z h0 w_LIN "com/example/robust_broker/robustbroker/Fit$Form" "falling" "Z" (.int (0 : Int32))) (S_SQRT : Sta Z h0 "com/example/robust_broker/robustbroker/Fit$Form" "SQRT" "Lcom/example/robust_broker/robustbroker/Fit$Form;" (.ref w_SQRT)) (F_SQRT : Fld Z h0 w_SQRT "com/example/robust_broker/robustbroker/Fit$Form" "falling" "Z" (.int (0 : Int32))) (S_LOG : Sta Z h0 "com/example/robust_broker/robustbroker/Fit$Form" "LOG" "Lcom/example/robust_broker/robustbroker/Fit$Form;" (.ref w_LOG)) (F_LOG : Fld Z h0 w_LOG "com/example/robust_broker/robustbroker/Fit$Form" "falling" "Z" (.int (0 : Int32))) (S_POW : Sta Z h0 "com/example/robust_broker/robustbroker/Fit$Form" "POW" "Lcom/example/robust_broker/robustbroker/Fit$Form;" (.ref w_POW)) (F_POW : Fld Z h0 w_POW "com/example/robust_broker/robustbroker/Fit$Form" "falling" "Z" (.int (1 : Int32))) :
    MetFree l x (head1 (Jvm.Cond.code x code maxLocals ret :: ws) room_1) (fun a U => a = #[(.int p0), (.int p1), (.int p2), (.int p3), (.int p4)] ∧ Z.Warmed39 U.vm ∧ U.heap = h0) (fun _ _ _ _ _ => True) (fun _ U o U' => ∃ v L, o = .returned v ∧ Q0 Z p0 p1 p2 p3 p4 w_LIN w_SQRT w_LOG w_POW h0 n0 v U'.heap L ∧ FrameEnd U o U' L 16 128) := by
  refine MetFree.of_bodySF (plainFor_of_name (by first | (simp [plainName, overriddenIn]; done) | decide +kernel)) hisR ?_
  intro p e s m args below meth c s₁ Bd hml0 hP hK
  obtain ⟨rfl, hZ, hh⟩ := hP
  have hx := Bd.exec
  have hby := Bd.bytes
  have hml : c.maxLocals = 16 := hml0
  have hown : s.vm.findClass "com/example/robust_broker/robustbroker/FitRanksDownwardPinLaw" = some m.cls := findClass_of_methodNamed Bd.named
  have hnm := (name_of_methodNamed Bd.named Bd.method).1
  have hlk := BodyLoose.notSynchronized Bd
  have X0 : Stand p l e room_1 s m #[(.int p0), (.int p1), (.int p2), (.int p3), (.int p4)] below meth c s₁ [] 0 0 := Stand.of_body Bd
  have e0 : s₁.heap = h0 := by rw [← hh, Bd.state]; rfl
  have N0 := Fr.nil n0
  show Go p e below s (Q0 Z p0 p1 p2 p3 p4 w_LIN w_SQRT w_LOG w_POW h0 n0) 16 128 (s₁.setTop (entryFrame m #[(.int p0), (.int p1), (.int p2), (.int p3), (.int p4)] maxLocals))
  rw [ef_0]
  show Go _ _ _ _ _ _ _ (s₁.setTop (mkF m 0 #[.val (.int p0), .val (.int p1), .val (.int p2), .val (.int p3), .val (.int p4), .unset, .unset, .unset, .unset, .unset, .unset, .unset, .unset, .unset, .unset, .unset] []))
  refine gob (fun _ k => XS.iloadN X0.here hx rfl (hb hby at_0) rfl k) ?_
  show Go _ _ _ _ _ _ _ (s₁.setTop (mkF m 1 #[.val (.int p0), .val (.int p1), .val (.int p2), .val (.int p3), .val (.int p4), .unset, .unset, .unset, .unset, .unset, .unset, .unset, .unset, .unset, .unset, .unset] [(.int p0)]))
  refine gob (fun _ k => XS.iconst X0.here hx rfl (hb hby at_1) k) ?_
  show Go _ _ _ _ _ _ _ (s₁.setTop (mkF m 2 #[.val (.int p0), .val (.int p1), .val (.int p2), .val (.int p3), .val (.int p4), .unset, .unset, .unset, .unset, .unset, .unset, .unset, .unset, .unset, .unset, .unset] [(.int (3 : Int32)), (.int p0)]))
  refine gob (fun _ k => XS.iand X0.here hx rfl (hb hby at_2) rfl k) ?_
  show Go _ _ _ _ _ _ _ (s₁.setTop (mkF m 3 #[.val (.int p0), .val (.int p1), .val (.int p2), .val (.int p3), .val (.int p4), .unset, .unset, .unset, .unset, .unset, .unset, .unset, .unset, .unset, .unset, .unset] [(.int (p0 &&& (3 : Int32)))]))
  refine gob (fun _ k => XS.istore X0.here hx rfl (hb hby at_3) rfl (l' := #[.val (.int p0), .val (.int p1), .val (.int p2), .val (.int p3), .val (.int p4), .val (.int (p0 &&& (3 : Int32))), .unset, .unset, .unset, .unset, .unset, .unset, .unset, .unset, .unset, .unset]) rfl k) ?_
  show Go _ _ _ _ _ _ _ (s₁.setTop (mkF m 5 #[.val (.int p0), .val (.int p1), .val (.int p2), .val (.int p3), .val (.int p4), .val (.int (p0 &&& (3 : Int32))), .unset, .unset, .unset, .unset, .unset, .unset, .unset, .unset, .unset, .unset] []))
  generalize hk_ : (p0 &&& (3 : Int32)) = k_
  show Go _ _ _ _ _ _ _ (s₁.setTop (mkF m 5 #[.val (.int p0), .val (.int p1), .val (.int p2), .val (.int p3), .val (.int p4), .val (.int k_), .unset, .unset, .unset, .unset, .unset, .unset, .unset, .unset, .unset, .unset] []))
  refine gob (fun _ k => XS.iload X0.here hx rfl (hb hby at_5) rfl k) ?_
  show Go _ _ _ _ _ _ _ (s₁.setTop (mkF m 7 #[.val (.int p0), .val (.int p1), .val (.int p2), .val (.int p3), .val (.int p4), .val (.int k_), .unset, .unset, .unset, .unset, .unset, .unset, .unset, .unset, .unset, .unset] [(.int k_)]))
  by_cases hc7_1 : k_ = (0 : Int32)
  · skip
    show Go _ _ _ _ _ _ _ (s₁.setTop (mkF m 7 #[.val (.int p0), .val (.int p1), .val (.int p2), .val (.int p3), .val (.int p4), .val (.int k_), .unset, .unset, .unset, .unset, .unset, .unset, .unset, .unset, .unset, .unset] [(.int k_)]))
    obtain ⟨_, _, ⟨T2, L2, k2, n2⟩, -, X2, ⟨Lc2, hQ2, l2, y2, z2⟩, st2⟩ := Jvm.LawKit.callS X0 hx (y := (⟨"com/example/robust_broker/robustbroker/FitRanksDownwardPinLaw", "formOf", "(I)Lcom/example/robust_broker/robustbroker/Fit$Form;"⟩ : MethodName)) hown (mvT hZ (hw _ (List.mem_of_getElem? (i := 0) rfl))) (mvT hZ (hw _ (List.mem_of_getElem? (i := 1) rfl))) (mvT hZ (hw _ (List.mem_of_getElem? (i := 2) rfl))) (mvT hZ (hw _ (List.mem_of_getElem? (i := 3) rfl))) (by decide) (backOf (W := 0) (rmfoLIN l Z a0 hw [] k_ w_LIN h0 n0 Z0 S_LIN hc7_1) hZ (hw _ (List.mem_of_getElem? (i := 3) rfl)) (hw _ (List.mem_of_getElem? (i := 2) rfl)) (by decide) (by decide)) (g := (mkF m 7 #[.val (.int p0), .val (.int p1), .val (.int p2), .val (.int p3), .val (.int p4), .val (.int k_), .unset, .unset, .unset, .unset, .unset, .unset, .unset, .unset, .unset, .unset] [(.int k_)])) rfl (by rw [hml]; rfl) (argsL := [(.int k_)]) (rest := []) (lenOf pd_1 rfl) rfl (by show 2 * 0 + _ ≤ _; exact Nat.le_of_eq rfl) (hb hby at_7) (fun _ _ => ⟨rfl, e0, (by decide : 0 + 0 ≤ _), (by decide : 0 + 0 ≤ _)⟩)
    dsimp only [Pt.U, Pt.locs, Pt.cells, Pt.slots] at X2 l2 y2 z2 st2 hQ2
    replace X2 := castX X2 (y2.trans (rfl : _ = 0)) (z2.trans (rfl : _ = 0))
    obtain ⟨rfl, Nq2, K2⟩ := hQ2
    have N2 : Fr n0 L2 := l2 ▸ Fr.app N0 Nq2
    have ns3 := (ns0 (h := h0))
    have z4 : n0 ≤ T2.heap.size := Nat.le_trans Z0 K2.1
    refine gob st2 ?_
    show Go _ _ _ _ _ _ _ (T2.setTop (mkF m 10 #[.val (.int p0), .val (.int p1), .val (.int p2), .val (.int p3), .val (.int p4), .val (.int k_), .unset, .unset, .unset, .unset, .unset, .unset, .unset, .unset, .unset, .unset] [(.ref w_LIN)]))
    refine gob (fun _ k => XS.astore X2.here hx rfl (hb hby at_10) rfl rfl (l' := #[.val (.int p0), .val (.int p1), .val (.int p2), .val (.int p3), .val (.int p4), .val (.int k_), .val (.ref w_LIN), .unset, .unset, .unset, .unset, .unset, .unset, .unset, .unset, .unset]) rfl k) ?_
    show Go _ _ _ _ _ _ _ (T2.setTop (mkF m 12 #[.val (.int p0), .val (.int p1), .val (.int p2), .val (.int p3), .val (.int p4), .val (.int k_), .val (.ref w_LIN), .unset, .unset, .unset, .unset, .unset, .unset, .unset, .unset, .unset] []))
    refine gob (fun _ k => XS.iloadN X2.here hx rfl (hb hby at_12) rfl k) ?_
    show Go _ _ _ _ _ _ _ (T2.setTop (mkF m 13 #[.val (.int p0), .val (.int p1), .val (.int p2), .val (.int p3), .val (.int p4), .val (.int k_), .val (.ref w_LIN), .unset, .unset, .unset, .unset, .unset, .unset, .unset, .unset, .unset] [(.int p2)]))
    refine gob (fun _ k => XS.iconst X2.here hx rfl (hb hby at_13) k) ?_
    show Go _ _ _ _ _ _ _ (T2.setTop (mkF m 14 #[.val (.int p0), .val (.int p1), .val (.int p2), .val (.int p3), .val (.int p4), .val (.int k_), .val (.ref w_LIN), .unset, .unset, .unset, .unset, .unset, .unset, .unset, .unset, .unset] [(.int (1 : Int32)), (.int p2)]))
    refine gob (fun _ k => XS.iand X2.here hx rfl (hb hby at_14) rfl k) ?_
    show Go _ _ _ _ _ _ _ (T2.setTop (mkF m 15 #[.val (.int p0), .val (.int p1), .val (.int p2), .val (.int p3), .val (.int p4), .val (.int k_), .val (.ref w_LIN), .unset, .unset, .unset, .unset, .unset, .unset, .unset, .unset, .unset] [(.int (p2 &&& (1 : Int32)))]))
    have join23_7 : ∀ (T8 : State) (lj9 : List Loc) (v6 : Int32), Stand p l e room_1 s m #[(.int p0), (.int p1), (.int p2), (.int p3), (.int p4)] below meth c T8 lj9 0 0 → T8.heap = T2.heap → Fr n0 lj9 → ((p2 &&& (1 : Int32)) = (0 : Int32) ∧ v6 = (0 : Int32)) ∨ (¬ ((p2 &&& (1 : Int32)) = (0 : Int32)) ∧ v6 = (1 : Int32)) → Go p e below s (Q0 Z p0 p1 p2 p3 p4 w_LIN w_SQRT w_LOG w_POW h0 n0) 16 128 (T8.setTop (mkF m 23 #[.val (.int p0), .val (.int p1), .val (.int p2), .val (.int p3), .val (.int p4), .val (.int k_), .val (.ref w_LIN), .unset, .unset, .unset, .unset, .unset, .unset, .unset, .unset, .unset] [(.int v6)])) := by
      intro T8 lj9 v6 X10 e11 N12 hj13
      show Go _ _ _ _ _ _ _ (T8.setTop (mkF m 23 #[.val (.int p0), .val (.int p1), .val (.int p2), .val (.int p3), .val (.int p4), .val (.int k_), .val (.ref w_LIN), .unset, .unset, .unset, .unset, .unset, .unset, .unset, .unset, .unset] [(.int v6)]))
      refine gob (fun _ k => XS.istore X10.here hx rfl (hb hby at_23) rfl (l' := #[.val (.int p0), .val (.int p1), .val (.int p2), .val (.int p3), .val (.int p4), .val (.int k_), .val (.ref w_LIN), .val (.int v6), .unset, .unset, .unset, .unset, .unset, .unset, .unset, .unset]) rfl k) ?_
      show Go _ _ _ _ _ _ _ (T8.setTop (mkF m 25 #[.val (.int p0), .val (.int p1), .val (.int p2), .val (.int p3), .val (.int p4), .val (.int k_), .val (.ref w_LIN), .val (.int v6), .unset, .unset, .unset, .unset, .unset, .unset, .unset, .unset] []))
      refine gob (fun _ k => XS.iload X10.here hx rfl (hb hby at_25) rfl k) ?_
      show Go _ _ _ _ _ _ _ (T8.setTop (mkF m 27 #[.val (.int p0), .val (.int p1), .val (.int p2), .val (.int p3), .val (.int p4), .val (.int k_), .val (.ref w_LIN), .val (.int v6), .unset, .unset, .unset, .unset, .unset, .unset, .unset, .unset] [(.int v6)]))
      have join38_16 : ∀ (T17 : State) (lj18 : List Loc) (v15 : UInt64), Stand p l e room_1 s m #[(.int p0), (.int p1), (.int p2), (.int p3), (.int p4)] below meth c T17 lj18 0 0 → T17.heap = T2.heap → Fr n0 lj18 → (v6 = (0 : Int32) ∧ v15 = (FP.i2d p1)) ∨ (¬ (v6 = (0 : Int32)) ∧ v15 = (FP.dneg (FP.i2d p1))) → Go p e below s (Q0 Z p0 p1 p2 p3 p4 w_LIN w_SQRT w_LOG w_POW h0 n0) 16 128 (T17.setTop (mkF m 38 #[.val (.int p0), .val (.int p1), .val (.int p2), .val (.int p3), .val (.int p4), .val (.int k_), .val (.ref w_LIN), .val (.int v6), .unset, .unset, .unset, .unset, .unset, .unset, .unset, .unset] [(.double v15)])) := by
        intro T17 lj18 v15 X19 e20 N21 hj22
        show Go _ _ _ _ _ _ _ (T17.setTop (mkF m 38 #[.val (.int p0), .val (.int p1), .val (.int p2), .val (.int p3), .val (.int p4), .val (.int k_), .val (.ref w_LIN), .val (.int v6), .unset, .unset, .unset, .unset, .unset, .unset, .unset, .unset] [(.double v15)]))
        refine gob (fun _ k => XS.dstore X19.here hx rfl (hb hby at_38) rfl (l' := #[.val (.int p0), .val (.int p1), .val (.int p2), .val (.int p3), .val (.int p4), .val (.int k_), .val (.ref w_LIN), .val (.int v6), .val (.double v15), .second, .unset, .unset, .unset, .unset, .unset, .unset]) rfl k) ?_
        show Go _ _ _ _ _ _ _ (T17.setTop (mkF m 40 #[.val (.int p0), .val (.int p1), .val (.int p2), .val (.int p3), .val (.int p4), .val (.int k_), .val (.ref w_LIN), .val (.int v6), .val (.double v15), .second, .unset, .unset, .unset, .unset, .unset, .unset] []))
        refine gob (fun _ k => XS.iloadN X19.here hx rfl (hb hby at_40) rfl k) ?_
        show Go _ _ _ _ _ _ _ (T17.setTop (mkF m 41 #[.val (.int p0), .val (.int p1), .val (.int p2), .val (.int p3), .val (.int p4), .val (.int k_), .val (.ref w_LIN), .val (.int v6), .val (.double v15), .second, .unset, .unset, .unset, .unset, .unset, .unset] [(.int p2)]))
        refine gob (fun _ k => XS.iconst X19.here hx rfl (hb hby at_41) k) ?_
        show Go _ _ _ _ _ _ _ (T17.setTop (mkF m 42 #[.val (.int p0), .val (.int p1), .val (.int p2), .val (.int p3), .val (.int p4), .val (.int k_), .val (.ref w_LIN), .val (.int v6), .val (.double v15), .second, .unset, .unset, .unset, .unset, .unset, .unset] [(.int (1 : Int32)), (.int p2)]))
        refine gob (fun _ k => XS.iushr X19.here hx rfl (hb hby at_42) rfl k) ?_
        show Go _ _ _ _ _ _ _ (T17.setTop (mkF m 43 #[.val (.int p0), .val (.int p1), .val (.int p2), .val (.int p3), .val (.int p4), .val (.int k_), .val (.ref w_LIN), .val (.int v6), .val (.double v15), .second, .unset, .unset, .unset, .unset, .unset, .unset] [(.int ((p2.toUInt32 >>> ((1 : Int32) &&& 31).toUInt32).toInt32))]))
        refine gob (fun _ k => XS.iconst X19.here hx rfl (hb hby at_43) k) ?_
        show Go _ _ _ _ _ _ _ (T17.setTop (mkF m 44 #[.val (.int p0), .val (.int p1), .val (.int p2), .val (.int p3), .val (.int p4), .val (.int k_), .val (.ref w_LIN), .val (.int v6), .val (.double v15), .second, .unset, .unset, .unset, .unset, .unset, .unset] [(.int (1 : Int32)), (.int ((p2.toUInt32 >>> ((1 : Int32) &&& 31).toUInt32).toInt32))]))
        refine gob (fun _ k => XS.iand X19.here hx rfl (hb hby at_44) rfl k) ?_
        show Go _ _ _ _ _ _ _ (T17.setTop (mkF m 45 #[.val (.int p0), .val (.int p1), .val (.int p2), .val (.int p3), .val (.int p4), .val (.int k_), .val (.ref w_LIN), .val (.int v6), .val (.double v15), .second, .unset, .unset, .unset, .unset, .unset, .unset] [(.int (((p2.toUInt32 >>> ((1 : Int32) &&& 31).toUInt32).toInt32) &&& (1 : Int32)))]))
        refine gob (fun _ k => XS.i2dS X19.here hx rfl (hb hby at_45) rfl (v := (FP.i2d (((p2.toUInt32 >>> ((1 : Int32) &&& 31).toUInt32).toInt32) &&& (1 : Int32)))) rfl k) ?_
        show Go _ _ _ _ _ _ _ (T17.setTop (mkF m 46 #[.val (.int p0), .val (.int p1), .val (.int p2), .val (.int p3), .val (.int p4), .val (.int k_), .val (.ref w_LIN), .val (.int v6), .val (.double v15), .second, .unset, .unset, .unset, .unset, .unset, .unset] [(.double (FP.i2d (((p2.toUInt32 >>> ((1 : Int32) &&& 31).toUInt32).toInt32) &&& (1 : Int32))))]))
        refine gob (fun _ k => XS.dstore X19.here hx rfl (hb hby at_46) rfl (l' := #[.val (.int p0), .val (.int p1), .val (.int p2), .val (.int p3), .val (.int p4), .val (.int k_), .val (.ref w_LIN), .val (.int v6), .val (.double v15), .second, .val (.double (FP.i2d (((p2.toUInt32 >>> ((1 : Int32) &&& 31).toUInt32).toInt32) &&& (1 : Int32)))), .second, .unset, .unset, .unset, .unset]) rfl k) ?_
        show Go _ _ _ _ _ _ _ (T17.setTop (mkF m 48 #[.val (.int p0), .val (.int p1), .val (.int p2), .val (.int p3), .val (.int p4), .val (.int k_), .val (.ref w_LIN), .val (.int v6), .val (.double v15), .second, .val (.double (FP.i2d (((p2.toUInt32 >>> ((1 : Int32) &&& 31).toUInt32).toInt32) &&& (1 : Int32)))), .second, .unset, .unset, .unset, .unset] []))
        obtain ⟨T23, h23, X23, e23, E23, A23, D23, -, st23⟩ := newO X19 hx hZ hown (hw _ (List.mem_of_getElem? (i := 7) rfl)) (hw _ (List.mem_of_getElem? (i := 8) rfl)) (hw _ (List.mem_of_getElem? (i := 9) rfl)) e20 (g := (mkF m 48 #[.val (.int p0), .val (.int p1), .val (.int p2), .val (.int p3), .val (.int p4), .val (.int k_), .val (.ref w_LIN), .val (.int v6), .val (.double v15), .second, .val (.double (FP.i2d (((p2.toUInt32 >>> ((1 : Int32) &&& 31).toUInt32).toInt32) &&& (1 : Int32)))), .second, .unset, .unset, .unset, .unset] [])) rfl (hb hby at_48) (by decide) (by decide)
        obtain ⟨b23, g23⟩ : ∃ z, z = T2.heap.size := ⟨_, rfl⟩
        rw [← g23] at A23 D23 st23
        have c24 := (F_LIN.keep K2 nin0)
        have n25 : w_LIN ≠ b23 := Nat.ne_of_lt (Nat.lt_of_lt_of_le c24.lt (Nat.le_of_eq g23.symm))
        have c26 := (F_SQRT.keep K2 nin0)
        have n27 : w_SQRT ≠ b23 := Nat.ne_of_lt (Nat.lt_of_lt_of_le c26.lt (Nat.le_of_eq g23.symm))
        have c28 := (F_LOG.keep K2 nin0)
        have n29 : w_LOG ≠ b23 := Nat.ne_of_lt (Nat.lt_of_lt_of_le c28.lt (Nat.le_of_eq g23.symm))
        have c30 := (F_POW.keep K2 nin0)
        have n31 : w_POW ≠ b23 := Nat.ne_of_lt (Nat.lt_of_lt_of_le c30.lt (Nat.le_of_eq g23.symm))
        have g32 : n0 ≤ b23 := Nat.le_trans z4 (Nat.le_of_eq g23.symm)
        have z33 : n0 ≤ h23.size := Nat.le_trans z4 E23.1
        have F23_form : Fld Z h23 b23 "com/example/robust_broker/robustbroker/Fit" "form" "Lcom/example/robust_broker/robustbroker/Fit$Form;" .null := D23 (Or.inr (hw _ (List.mem_of_getElem? (i := 22) rfl))) (ty := (.object "com/example/robust_broker/robustbroker/Fit$Form")) (by decide)
        have F23_a : Fld Z h23 b23 "com/example/robust_broker/robustbroker/Fit" "a" "D" (.double 0) := D23 (Or.inr (hw _ (List.mem_of_getElem? (i := 24) rfl))) (ty := .double) (by decide)
        have F23_b : Fld Z h23 b23 "com/example/robust_broker/robustbroker/Fit" "b" "D" (.double 0) := D23 (Or.inr (hw _ (List.mem_of_getElem? (i := 26) rfl))) (ty := .double) (by decide)
        have F23_r2 : Fld Z h23 b23 "com/example/robust_broker/robustbroker/Fit" "r2" "D" (.double 0) := D23 (Or.inr (hw _ (List.mem_of_getElem? (i := 28) rfl))) (ty := .double) (by decide)
        have F23_cap : Fld Z h23 b23 "com/example/robust_broker/robustbroker/Fit" "cap" "D" (.double 0) := D23 (Or.inr (hw _ (List.mem_of_getElem? (i := 30) rfl))) (ty := .double) (by decide)
        refine gob st23 ?_
        replace X23 := castX X23 (rfl : _ = 1) (rfl : _ = 5)
        show Go _ _ _ _ _ _ _ (T23.setTop (mkF m 51 #[.val (.int p0), .val (.int p1), .val (.int p2), .val (.int p3), .val (.int p4), .val (.int k_), .val (.ref w_LIN), .val (.int v6), .val (.double v15), .second, .val (.double (FP.i2d (((p2.toUInt32 >>> ((1 : Int32) &&& 31).toUInt32).toInt32) &&& (1 : Int32)))), .second, .unset, .unset, .unset, .unset] [(.ref b23)]))
        refine gob (fun _ k => XS.dup X23.here hx rfl (hb hby at_51) rfl rfl k) ?_
        show Go _ _ _ _ _ _ _ (T23.setTop (mkF m 52 #[.val (.int p0), .val (.int p1), .val (.int p2), .val (.int p3), .val (.int p4), .val (.int k_), .val (.ref w_LIN), .val (.int v6), .val (.double v15), .second, .val (.double (FP.i2d (((p2.toUInt32 >>> ((1 : Int32) &&& 31).toUInt32).toInt32) &&& (1 : Int32)))), .second, .unset, .unset, .unset, .unset] [(.ref b23), (.ref b23)]))
        refine gob (fun _ k => XS.aload X23.here hx rfl (hb hby at_52) rfl rfl k) ?_
        show Go _ _ _ _ _ _ _ (T23.setTop (mkF m 54 #[.val (.int p0), .val (.int p1), .val (.int p2), .val (.int p3), .val (.int p4), .val (.int k_), .val (.ref w_LIN), .val (.int v6), .val (.double v15), .second, .val (.double (FP.i2d (((p2.toUInt32 >>> ((1 : Int32) &&& 31).toUInt32).toInt32) &&& (1 : Int32)))), .second, .unset, .unset, .unset, .unset] [(.ref w_LIN), (.ref b23), (.ref b23)]))
        refine gob (fun _ k => XS.dload X23.here hx rfl (hb hby at_54) rfl k) ?_
        show Go _ _ _ _ _ _ _ (T23.setTop (mkF m 56 #[.val (.int p0), .val (.int p1), .val (.int p2), .val (.int p3), .val (.int p4), .val (.int k_), .val (.ref w_LIN), .val (.int v6), .val (.double v15), .second, .val (.double (FP.i2d (((p2.toUInt32 >>> ((1 : Int32) &&& 31).toUInt32).toInt32) &&& (1 : Int32)))), .second, .unset, .unset, .unset, .unset] [(.double v15), (.ref w_LIN), (.ref b23), (.ref b23)]))
        refine gob (fun _ k => XS.iloadN X23.here hx rfl (hb hby at_56) rfl k) ?_
        show Go _ _ _ _ _ _ _ (T23.setTop (mkF m 57 #[.val (.int p0), .val (.int p1), .val (.int p2), .val (.int p3), .val (.int p4), .val (.int k_), .val (.ref w_LIN), .val (.int v6), .val (.double v15), .second, .val (.double (FP.i2d (((p2.toUInt32 >>> ((1 : Int32) &&& 31).toUInt32).toInt32) &&& (1 : Int32)))), .second, .unset, .unset, .unset, .unset] [(.int p3), (.double v15), (.ref w_LIN), (.ref b23), (.ref b23)]))
        refine gob (fun _ k => XS.i2dS X23.here hx rfl (hb hby at_57) rfl (v := (FP.i2d p3)) rfl k) ?_
        show Go _ _ _ _ _ _ _ (T23.setTop (mkF m 58 #[.val (.int p0), .val (.int p1), .val (.int p2), .val (.int p3), .val (.int p4), .val (.int k_), .val (.ref w_LIN), .val (.int v6), .val (.double v15), .second, .val (.double (FP.i2d (((p2.toUInt32 >>> ((1 : Int32) &&& 31).toUInt32).toInt32) &&& (1 : Int32)))), .second, .unset, .unset, .unset, .unset] [(.double (FP.i2d p3)), (.double v15), (.ref w_LIN), (.ref b23), (.ref b23)]))
        refine gob (fun _ k => XS.dload X23.here hx rfl (hb hby at_58) rfl k) ?_
        show Go _ _ _ _ _ _ _ (T23.setTop (mkF m 60 #[.val (.int p0), .val (.int p1), .val (.int p2), .val (.int p3), .val (.int p4), .val (.int k_), .val (.ref w_LIN), .val (.int v6), .val (.double v15), .second, .val (.double (FP.i2d (((p2.toUInt32 >>> ((1 : Int32) &&& 31).toUInt32).toInt32) &&& (1 : Int32)))), .second, .unset, .unset, .unset, .unset] [(.double (FP.i2d (((p2.toUInt32 >>> ((1 : Int32) &&& 31).toUInt32).toInt32) &&& (1 : Int32)))), (.double (FP.i2d p3)), (.double v15), (.ref w_LIN), (.ref b23), (.ref b23)]))
        refine gob (fun _ k => XS.iload X23.here hx rfl (hb hby at_60) rfl k) ?_
        show Go _ _ _ _ _ _ _ (T23.setTop (mkF m 62 #[.val (.int p0), .val (.int p1), .val (.int p2), .val (.int p3), .val (.int p4), .val (.int k_), .val (.ref w_LIN), .val (.int v6), .val (.double v15), .second, .val (.double (FP.i2d (((p2.toUInt32 >>> ((1 : Int32) &&& 31).toUInt32).toInt32) &&& (1 : Int32)))), .second, .unset, .unset, .unset, .unset] [(.int p4), (.double (FP.i2d (((p2.toUInt32 >>> ((1 : Int32) &&& 31).toUInt32).toInt32) &&& (1 : Int32)))), (.double (FP.i2d p3)), (.double v15), (.ref w_LIN), (.ref b23), (.ref b23)]))
        refine gob (fun _ k => XS.i2dS X23.here hx rfl (hb hby at_62) rfl (v := (FP.i2d p4)) rfl k) ?_
        show Go _ _ _ _ _ _ _ (T23.setTop (mkF m 63 #[.val (.int p0), .val (.int p1), .val (.int p2), .val (.int p3), .val (.int p4), .val (.int k_), .val (.ref w_LIN), .val (.int v6), .val (.double v15), .second, .val (.double (FP.i2d (((p2.toUInt32 >>> ((1 : Int32) &&& 31).toUInt32).toInt32) &&& (1 : Int32)))), .second, .unset, .unset, .unset, .unset] [(.double (FP.i2d p4)), (.double (FP.i2d (((p2.toUInt32 >>> ((1 : Int32) &&& 31).toUInt32).toInt32) &&& (1 : Int32)))), (.double (FP.i2d p3)), (.double v15), (.ref w_LIN), (.ref b23), (.ref b23)]))
        obtain ⟨_, _, ⟨T34, L34, k34, n34⟩, -, X34, ⟨Lc34, hQ34, l34, y34, z34⟩, st34⟩ := X23.specialBack hx (y := (⟨"com/example/robust_broker/robustbroker/Fit", "<init>", "(Lcom/example/robust_broker/robustbroker/Fit$Form;DDDD)V"⟩ : MethodName)) rfl hown (mvT hZ (hw _ (List.mem_of_getElem? (i := 10) rfl))) (mvT hZ (hw _ (List.mem_of_getElem? (i := 11) rfl))) (mvT hZ (hw _ (List.mem_of_getElem? (i := 12) rfl))) (by decide) (backOf (W := 1) (rm2 l Z a0 hw [] b23 w_LIN v15 (FP.i2d p3) (FP.i2d (((p2.toUInt32 >>> ((1 : Int32) &&& 31).toUInt32).toInt32) &&& (1 : Int32))) (FP.i2d p4) h23 n0 z33 A23 F23_form g32 F23_a F23_b F23_r2 F23_cap) hZ (hw _ (List.mem_of_getElem? (i := 12) rfl)) (hw _ (List.mem_of_getElem? (i := 9) rfl)) (by decide) (by decide)) (g := (mkF m 63 #[.val (.int p0), .val (.int p1), .val (.int p2), .val (.int p3), .val (.int p4), .val (.int k_), .val (.ref w_LIN), .val (.int v6), .val (.double v15), .second, .val (.double (FP.i2d (((p2.toUInt32 >>> ((1 : Int32) &&& 31).toUInt32).toInt32) &&& (1 : Int32)))), .second, .unset, .unset, .unset, .unset] [(.double (FP.i2d p4)), (.double (FP.i2d (((p2.toUInt32 >>> ((1 : Int32) &&& 31).toUInt32).toInt32) &&& (1 : Int32)))), (.double (FP.i2d p3)), (.double v15), (.ref w_LIN), (.ref b23), (.ref b23)])) rfl (by rw [hml]; rfl) (Steps.refl _) (a := b23) (argsL := [(.ref w_LIN), (.double v15), (.double (FP.i2d p3)), (.double (FP.i2d (((p2.toUInt32 >>> ((1 : Int32) &&& 31).toUInt32).toInt32) &&& (1 : Int32)))), (.double (FP.i2d p4))]) (rest := [(.ref b23)]) (lenOf pd_2 rfl) rfl (by show 2 * 0 + _ ≤ _; exact Nat.le_of_eq rfl) (hb hby at_63) (fun _ _ => ⟨rfl, e23, (by decide : 1 + 0 ≤ _), (by decide : 5 + 0 ≤ _)⟩)
        dsimp only [Pt.U, Pt.locs, Pt.cells, Pt.slots] at X34 l34 y34 z34 st34 hQ34
        replace X34 := castX X34 (y34.trans (rfl : _ = 1)) (z34.trans (rfl : _ = 5))
        obtain ⟨rfl, Nq34, K34, F35, F36, F37, F38, F39⟩ := hQ34
        have N34 : Fr n0 L34 := l34 ▸ Fr.app N21 Nq34
        have ns40 := (nsS A23.nostat ns0)
        have z41 : n0 ≤ T34.heap.size := Nat.le_trans z33 K34.1
        refine gob (fun _ k => st34.trans k) ?_
        show Go _ _ _ _ _ _ _ (T34.setTop (mkF m 66 #[.val (.int p0), .val (.int p1), .val (.int p2), .val (.int p3), .val (.int p4), .val (.int k_), .val (.ref w_LIN), .val (.int v6), .val (.double v15), .second, .val (.double (FP.i2d (((p2.toUInt32 >>> ((1 : Int32) &&& 31).toUInt32).toInt32) &&& (1 : Int32)))), .second, .unset, .unset, .unset, .unset] [(.ref b23)]))
        refine gob (fun _ k => XS.astore X34.here hx rfl (hb hby at_66) rfl rfl (l' := #[.val (.int p0), .val (.int p1), .val (.int p2), .val (.int p3), .val (.int p4), .val (.int k_), .val (.ref w_LIN), .val (.int v6), .val (.double v15), .second, .val (.double (FP.i2d (((p2.toUInt32 >>> ((1 : Int32) &&& 31).toUInt32).toInt32) &&& (1 : Int32)))), .second, .val (.ref b23), .unset, .unset, .unset]) rfl k) ?_
        show Go _ _ _ _ _ _ _ (T34.setTop (mkF m 68 #[.val (.int p0), .val (.int p1), .val (.int p2), .val (.int p3), .val (.int p4), .val (.int k_), .val (.ref w_LIN), .val (.int v6), .val (.double v15), .second, .val (.double (FP.i2d (((p2.toUInt32 >>> ((1 : Int32) &&& 31).toUInt32).toInt32) &&& (1 : Int32)))), .second, .val (.ref b23), .unset, .unset, .unset] []))
        refine gob (fun _ k => XS.iload X34.here hx rfl (hb hby at_68) rfl k) ?_
        show Go _ _ _ _ _ _ _ (T34.setTop (mkF m 70 #[.val (.int p0), .val (.int p1), .val (.int p2), .val (.int p3), .val (.int p4), .val (.int k_), .val (.ref w_LIN), .val (.int v6), .val (.double v15), .second, .val (.double (FP.i2d (((p2.toUInt32 >>> ((1 : Int32) &&& 31).toUInt32).toInt32) &&& (1 : Int32)))), .second, .val (.ref b23), .unset, .unset, .unset] [(.int v6)]))
        have join94_46 : ∀ (T47 : State) (lj48 : List Loc) (v45 : Int32), Stand p l e room_1 s m #[(.int p0), (.int p1), (.int p2), (.int p3), (.int p4)] below meth c T47 lj48 1 5 → T47.heap = T34.heap → Fr n0 lj48 → (v6 = (0 : Int32) ∧ (0 : Int32) < p1 ∧ v45 = (1 : Int32)) ∨ (v6 = (0 : Int32) ∧ ¬ ((0 : Int32) < p1) ∧ v45 = (0 : Int32)) ∨ (¬ (v6 = (0 : Int32)) ∧ p1 < (0 : Int32) ∧ v45 = (1 : Int32)) ∨ (¬ (v6 = (0 : Int32)) ∧ ¬ (p1 < (0 : Int32)) ∧ v45 = (0 : Int32)) → Go p e below s (Q0 Z p0 p1 p2 p3 p4 w_LIN w_SQRT w_LOG w_POW h0 n0) 16 128 (T47.setTop (mkF m 94 #[.val (.int p0), .val (.int p1), .val (.int p2), .val (.int p3), .val (.int p4), .val (.int k_), .val (.ref w_LIN), .val (.int v6), .val (.double v15), .second, .val (.double (FP.i2d (((p2.toUInt32 >>> ((1 : Int32) &&& 31).toUInt32).toInt32) &&& (1 : Int32)))), .second, .val (.ref b23), .unset, .unset, .unset] [(.int v45)])) := by
          intro T47 lj48 v45 X49 e50 N51 hj52
          show Go _ _ _ _ _ _ _ (T47.setTop (mkF m 94 #[.val (.int p0), .val (.int p1), .val (.int p2), .val (.int p3), .val (.int p4), .val (.int k_), .val (.ref w_LIN), .val (.int v6), .val (.double v15), .second, .val (.double (FP.i2d (((p2.toUInt32 >>> ((1 : Int32) &&& 31).toUInt32).toInt32) &&& (1 : Int32)))), .second, .val (.ref b23), .unset, .unset, .unset] [(.int v45)]))
          refine gob (fun _ k => XS.istore X49.here hx rfl (hb hby at_94) rfl (l' := #[.val (.int p0), .val (.int p1), .val (.int p2), .val (.int p3), .val (.int p4), .val (.int k_), .val (.ref w_LIN), .val (.int v6), .val (.double v15), .second, .val (.double (FP.i2d (((p2.toUInt32 >>> ((1 : Int32) &&& 31).toUInt32).toInt32) &&& (1 : Int32)))), .second, .val (.ref b23), .val (.int v45), .unset, .unset]) rfl k) ?_
          show Go _ _ _ _ _ _ _ (T47.setTop (mkF m 96 #[.val (.int p0), .val (.int p1), .val (.int p2), .val (.int p3), .val (.int p4), .val (.int k_), .val (.ref w_LIN), .val (.int v6), .val (.double v15), .second, .val (.double (FP.i2d (((p2.toUInt32 >>> ((1 : Int32) &&& 31).toUInt32).toInt32) &&& (1 : Int32)))), .second, .val (.ref b23), .val (.int v45), .unset, .unset] []))
          refine gob (fun _ k => XS.iload X49.here hx rfl (hb hby at_96) rfl k) ?_
          show Go _ _ _ _ _ _ _ (T47.setTop (mkF m 98 #[.val (.int p0), .val (.int p1), .val (.int p2), .val (.int p3), .val (.int p4), .val (.int k_), .val (.ref w_LIN), .val (.int v6), .val (.double v15), .second, .val (.double (FP.i2d (((p2.toUInt32 >>> ((1 : Int32) &&& 31).toUInt32).toInt32) &&& (1 : Int32)))), .second, .val (.ref b23), .val (.int v45), .unset, .unset] [(.int v6)]))
          have join122_57 : ∀ (T58 : State) (lj59 : List Loc) (v56 : Int32), Stand p l e room_1 s m #[(.int p0), (.int p1), (.int p2), (.int p3), (.int p4)] below meth c T58 lj59 1 5 → T58.heap = T34.heap → Fr n0 lj59 → (v6 = (0 : Int32) ∧ p1 < (0 : Int32) ∧ v56 = (1 : Int32)) ∨ (v6 = (0 : Int32) ∧ ¬ (p1 < (0 : Int32)) ∧ v56 = (0 : Int32)) ∨ (¬ (v6 = (0 : Int32)) ∧ (0 : Int32) < p1 ∧ v56 = (1 : Int32)) ∨ (¬ (v6 = (0 : Int32)) ∧ ¬ ((0 : Int32) < p1) ∧ v56 = (0 : Int32)) → Go p e below s (Q0 Z p0 p1 p2 p3 p4 w_LIN w_SQRT w_LOG w_POW h0 n0) 16 128 (T58.setTop (mkF m 122 #[.val (.int p0), .val (.int p1), .val (.int p2), .val (.int p3), .val (.int p4), .val (.int k_), .val (.ref w_LIN), .val (.int v6), .val (.double v15), .second, .val (.double (FP.i2d (((p2.toUInt32 >>> ((1 : Int32) &&& 31).toUInt32).toInt32) &&& (1 : Int32)))), .second, .val (.ref b23), .val (.int v45), .unset, .unset] [(.int v56)])) := by
            intro T58 lj59 v56 X60 e61 N62 hj63
            show Go _ _ _ _ _ _ _ (T58.setTop (mkF m 122 #[.val (.int p0), .val (.int p1), .val (.int p2), .val (.int p3), .val (.int p4), .val (.int k_), .val (.ref w_LIN), .val (.int v6), .val (.double v15), .second, .val (.double (FP.i2d (((p2.toUInt32 >>> ((1 : Int32) &&& 31).toUInt32).toInt32) &&& (1 : Int32)))), .second, .val (.ref b23), .val (.int v45), .unset, .unset] [(.int v56)]))
            refine gob (fun _ k => XS.istore X60.here hx rfl (hb hby at_122) rfl (l' := #[.val (.int p0), .val (.int p1), .val (.int p2), .val (.int p3), .val (.int p4), .val (.int k_), .val (.ref w_LIN), .val (.int v6), .val (.double v15), .second, .val (.double (FP.i2d (((p2.toUInt32 >>> ((1 : Int32) &&& 31).toUInt32).toInt32) &&& (1 : Int32)))), .second, .val (.ref b23), .val (.int v45), .val (.int v56), .unset]) rfl k) ?_
            show Go _ _ _ _ _ _ _ (T58.setTop (mkF m 124 #[.val (.int p0), .val (.int p1), .val (.int p2), .val (.int p3), .val (.int p4), .val (.int k_), .val (.ref w_LIN), .val (.int v6), .val (.double v15), .second, .val (.double (FP.i2d (((p2.toUInt32 >>> ((1 : Int32) &&& 31).toUInt32).toInt32) &&& (1 : Int32)))), .second, .val (.ref b23), .val (.int v45), .val (.int v56), .unset] []))
            refine gob (fun _ k => XS.iload X60.here hx rfl (hb hby at_124) rfl k) ?_
            show Go _ _ _ _ _ _ _ (T58.setTop (mkF m 126 #[.val (.int p0), .val (.int p1), .val (.int p2), .val (.int p3), .val (.int p4), .val (.int k_), .val (.ref w_LIN), .val (.int v6), .val (.double v15), .second, .val (.double (FP.i2d (((p2.toUInt32 >>> ((1 : Int32) &&& 31).toUInt32).toInt32) &&& (1 : Int32)))), .second, .val (.ref b23), .val (.int v45), .val (.int v56), .unset] [(.int k_)]))
            refine gob (fun _ k => XS.iconst X60.here hx rfl (hb hby at_126) k) ?_
            show Go _ _ _ _ _ _ _ (T58.setTop (mkF m 127 #[.val (.int p0), .val (.int p1), .val (.int p2), .val (.int p3), .val (.int p4), .val (.int k_), .val (.ref w_LIN), .val (.int v6), .val (.double v15), .second, .val (.double (FP.i2d (((p2.toUInt32 >>> ((1 : Int32) &&& 31).toUInt32).toInt32) &&& (1 : Int32)))), .second, .val (.ref b23), .val (.int v45), .val (.int v56), .unset] [(.int (3 : Int32)), (.int k_)]))
            have hd65 : ¬ (k_ = (3 : Int32)) := ld_0_127_64 p0 k_ hk_ hc7_1
            refine gob (fun _ k => XS.icmpYes X60.here hx rfl (pc0 := 127) (pc' := 135) rfl (hb hby at_127) rfl (feq hd65).2 (by decide) (by decide) k) ?_
            show Go _ _ _ _ _ _ _ (T58.setTop (mkF m 135 #[.val (.int p0), .val (.int p1), .val (.int p2), .val (.int p3), .val (.int p4), .val (.int k_), .val (.ref w_LIN), .val (.int v6), .val (.double v15), .second, .val (.double (FP.i2d (((p2.toUInt32 >>> ((1 : Int32) &&& 31).toUInt32).toInt32) &&& (1 : Int32)))), .second, .val (.ref b23), .val (.int v45), .val (.int v56), .unset] []))
            refine gob (fun _ k => XS.iload X60.here hx rfl (hb hby at_135) rfl k) ?_
            show Go _ _ _ _ _ _ _ (T58.setTop (mkF m 137 #[.val (.int p0), .val (.int p1), .val (.int p2), .val (.int p3), .val (.int p4), .val (.int k_), .val (.ref w_LIN), .val (.int v6), .val (.double v15), .second, .val (.double (FP.i2d (((p2.toUInt32 >>> ((1 : Int32) &&& 31).toUInt32).toInt32) &&& (1 : Int32)))), .second, .val (.ref b23), .val (.int v45), .val (.int v56), .unset] [(.int v56)]))
            refine gob (fun _ k => XS.istore X60.here hx rfl (hb hby at_137) rfl (l' := #[.val (.int p0), .val (.int p1), .val (.int p2), .val (.int p3), .val (.int p4), .val (.int k_), .val (.ref w_LIN), .val (.int v6), .val (.double v15), .second, .val (.double (FP.i2d (((p2.toUInt32 >>> ((1 : Int32) &&& 31).toUInt32).toInt32) &&& (1 : Int32)))), .second, .val (.ref b23), .val (.int v45), .val (.int v56), .val (.int v56)]) rfl k) ?_
            show Go _ _ _ _ _ _ _ (T58.setTop (mkF m 139 #[.val (.int p0), .val (.int p1), .val (.int p2), .val (.int p3), .val (.int p4), .val (.int k_), .val (.ref w_LIN), .val (.int v6), .val (.double v15), .second, .val (.double (FP.i2d (((p2.toUInt32 >>> ((1 : Int32) &&& 31).toUInt32).toInt32) &&& (1 : Int32)))), .second, .val (.ref b23), .val (.int v45), .val (.int v56), .val (.int v56)] []))
            refine gob (fun _ k => XS.aload X60.here hx rfl (hb hby at_139) rfl rfl k) ?_
            show Go _ _ _ _ _ _ _ (T58.setTop (mkF m 141 #[.val (.int p0), .val (.int p1), .val (.int p2), .val (.int p3), .val (.int p4), .val (.int k_), .val (.ref w_LIN), .val (.int v6), .val (.double v15), .second, .val (.double (FP.i2d (((p2.toUInt32 >>> ((1 : Int32) &&& 31).toUInt32).toInt32) &&& (1 : Int32)))), .second, .val (.ref b23), .val (.int v45), .val (.int v56), .val (.int v56)] [(.ref b23)]))
            have c67 := ((c24.ext E23).keep K34 (ninS n25 nin0))
            have c68 := (A23.keep K34)
            obtain ⟨cq66, kq66, q66a, q66b, q66c⟩ := isOf hZ e61 c68
            obtain ⟨_, _, ⟨T66, L66, k66, n66⟩, -, X66, ⟨Lc66, hQ66, l66, y66, z66⟩, st66⟩ := X60.virtualBack hx (y := (⟨"com/example/robust_broker/robustbroker/Fit", "ranksDownward", "()Z"⟩ : MethodName)) (z := (⟨"com/example/robust_broker/robustbroker/Fit", "ranksDownward", "()Z"⟩ : MethodName)) hown (mvT hZ (hw _ (List.mem_of_getElem? (i := 31) rfl))) (mvT hZ (hw _ (List.mem_of_getElem? (i := 32) rfl))) (notFace_of_selects (args := #[]) (mvT hZ (hw _ (List.mem_of_getElem? (i := 34) rfl)))) (mvT hZ (hw _ (List.mem_of_getElem? (i := 34) rfl))) (mvT hZ (hw _ (List.mem_of_getElem? (i := 33) rfl))) (by decide) (backOf (W := 0) (rmrd0 l Z a0 hw [] b23 w_LIN v15 T34.heap n0 z41 F35 c67 F36) hZ (hw _ (List.mem_of_getElem? (i := 35) rfl)) (hw _ (List.mem_of_getElem? (i := 9) rfl)) (by decide) (by decide)) q66a q66c (g := (mkF m 141 #[.val (.int p0), .val (.int p1), .val (.int p2), .val (.int p3), .val (.int p4), .val (.int k_), .val (.ref w_LIN), .val (.int v6), .val (.double v15), .second, .val (.double (FP.i2d (((p2.toUInt32 >>> ((1 : Int32) &&& 31).toUInt32).toInt32) &&& (1 : Int32)))), .second, .val (.ref b23), .val (.int v45), .val (.int v56), .val (.int v56)] [(.ref b23)])) rfl (by rw [hml]; rfl) (Steps.refl _) (argsL := []) (rest := []) (lenOf pd_3 rfl) rfl (by show 2 * 0 + _ ≤ _; exact Nat.le_of_eq rfl) (hb hby at_141) (fun _ _ => ⟨rfl, e61, (by decide : 1 + 0 ≤ _), (by decide : 5 + 0 ≤ _)⟩)
            dsimp only [Pt.U, Pt.locs, Pt.cells, Pt.slots] at X66 l66 y66 z66 st66 hQ66
            replace X66 := castX X66 (y66.trans (rfl : _ = 1)) (z66.trans (rfl : _ = 5))
            obtain ⟨r66, rfl, hr66, Nq66, e66⟩ := hQ66
            have N66 : Fr n0 L66 := l66 ▸ Fr.app N62 Nq66
            refine gob (fun _ k => st66.trans k) ?_
            show Go _ _ _ _ _ _ _ (T66.setTop (mkF m 144 #[.val (.int p0), .val (.int p1), .val (.int p2), .val (.int p3), .val (.int p4), .val (.int k_), .val (.ref w_LIN), .val (.int v6), .val (.double v15), .second, .val (.double (FP.i2d (((p2.toUInt32 >>> ((1 : Int32) &&& 31).toUInt32).toInt32) &&& (1 : Int32)))), .second, .val (.ref b23), .val (.int v45), .val (.int v56), .val (.int v56)] [(.int r66)]))
            refine gob (fun _ k => XS.iload X66.here hx rfl (hb hby at_144) rfl k) ?_
            show Go _ _ _ _ _ _ _ (T66.setTop (mkF m 146 #[.val (.int p0), .val (.int p1), .val (.int p2), .val (.int p3), .val (.int p4), .val (.int k_), .val (.ref w_LIN), .val (.int v6), .val (.double v15), .second, .val (.double (FP.i2d (((p2.toUInt32 >>> ((1 : Int32) &&& 31).toUInt32).toInt32) &&& (1 : Int32)))), .second, .val (.ref b23), .val (.int v45), .val (.int v56), .val (.int v56)] [(.int v56), (.int r66)]))
            have hd70 : r66 = v56 := ld_0_146_69 p1 p2 v6 v15 v56 r66 hj13 hj22 hj63 hr66
            refine gob (fun _ k => XS.icmpNo X66.here hx rfl (hb hby at_146) rfl (teq hd70).2 k) ?_
            show Go _ _ _ _ _ _ _ (T66.setTop (mkF m 149 #[.val (.int p0), .val (.int p1), .val (.int p2), .val (.int p3), .val (.int p4), .val (.int k_), .val (.ref w_LIN), .val (.int v6), .val (.double v15), .second, .val (.double (FP.i2d (((p2.toUInt32 >>> ((1 : Int32) &&& 31).toUInt32).toInt32) &&& (1 : Int32)))), .second, .val (.ref b23), .val (.int v45), .val (.int v56), .val (.int v56)] []))
            refine gob (fun _ k => XS.iconst X66.here hx rfl (hb hby at_149) k) ?_
            show Go _ _ _ _ _ _ _ (T66.setTop (mkF m 150 #[.val (.int p0), .val (.int p1), .val (.int p2), .val (.int p3), .val (.int p4), .val (.int k_), .val (.ref w_LIN), .val (.int v6), .val (.double v15), .second, .val (.double (FP.i2d (((p2.toUInt32 >>> ((1 : Int32) &&& 31).toUInt32).toInt32) &&& (1 : Int32)))), .second, .val (.ref b23), .val (.int v45), .val (.int v56), .val (.int v56)] [(.int (1 : Int32))]))
            refine gob (fun _ k => XS.goto X66.here hx rfl (pc0 := 150) (pc' := 154) rfl (hb hby at_150) (by decide) (by decide) k) ?_
            show Go _ _ _ _ _ _ _ (T66.setTop (mkF m 154 #[.val (.int p0), .val (.int p1), .val (.int p2), .val (.int p3), .val (.int p4), .val (.int k_), .val (.ref w_LIN), .val (.int v6), .val (.double v15), .second, .val (.double (FP.i2d (((p2.toUInt32 >>> ((1 : Int32) &&& 31).toUInt32).toInt32) &&& (1 : Int32)))), .second, .val (.ref b23), .val (.int v45), .val (.int v56), .val (.int v56)] [(.int (1 : Int32))]))
            refine goZ X66 hx hlk (t := .boolean) Bd.returns (by simp) (hb hby at_154) (z' := (1 : Int32)) rfl ?_ (by decide) (by decide)
            show Q0 Z p0 p1 p2 p3 p4 w_LIN w_SQRT w_LOG w_POW h0 n0 (some (.int (1 : Int32))) T66.heap _
            exact ⟨rfl, N66⟩
          by_cases hc98_71 : v6 = (0 : Int32)
          · skip
            refine gob (fun _ k => XS.ifYes X49.here hx rfl (pc0 := 98) (pc' := 113) rfl (hb hby at_98) rfl ((if0 _ _).trans (teq hc98_71).1) (by decide) (by decide) k) ?_
            show Go _ _ _ _ _ _ _ (T47.setTop (mkF m 113 #[.val (.int p0), .val (.int p1), .val (.int p2), .val (.int p3), .val (.int p4), .val (.int k_), .val (.ref w_LIN), .val (.int v6), .val (.double v15), .second, .val (.double (FP.i2d (((p2.toUInt32 >>> ((1 : Int32) &&& 31).toUInt32).toInt32) &&& (1 : Int32)))), .second, .val (.ref b23), .val (.int v45), .unset, .unset] []))
            refine gob (fun _ k => XS.iloadN X49.here hx rfl (hb hby at_113) rfl k) ?_
            show Go _ _ _ _ _ _ _ (T47.setTop (mkF m 114 #[.val (.int p0), .val (.int p1), .val (.int p2), .val (.int p3), .val (.int p4), .val (.int k_), .val (.ref w_LIN), .val (.int v6), .val (.double v15), .second, .val (.double (FP.i2d (((p2.toUInt32 >>> ((1 : Int32) &&& 31).toUInt32).toInt32) &&& (1 : Int32)))), .second, .val (.ref b23), .val (.int v45), .unset, .unset] [(.int p1)]))
            by_cases hc114_72 : p1 < (0 : Int32)
            · skip
              refine gob (fun _ k => XS.ifNo X49.here hx rfl (hb hby at_114) rfl ((if0 _ _).trans (tlt hc114_72).2.1) k) ?_
              show Go _ _ _ _ _ _ _ (T47.setTop (mkF m 117 #[.val (.int p0), .val (.int p1), .val (.int p2), .val (.int p3), .val (.int p4), .val (.int k_), .val (.ref w_LIN), .val (.int v6), .val (.double v15), .second, .val (.double (FP.i2d (((p2.toUInt32 >>> ((1 : Int32) &&& 31).toUInt32).toInt32) &&& (1 : Int32)))), .second, .val (.ref b23), .val (.int v45), .unset, .unset] []))
              refine gob (fun _ k => XS.iconst X49.here hx rfl (hb hby at_117) k) ?_
              show Go _ _ _ _ _ _ _ (T47.setTop (mkF m 118 #[.val (.int p0), .val (.int p1), .val (.int p2), .val (.int p3), .val (.int p4), .val (.int k_), .val (.ref w_LIN), .val (.int v6), .val (.double v15), .second, .val (.double (FP.i2d (((p2.toUInt32 >>> ((1 : Int32) &&& 31).toUInt32).toInt32) &&& (1 : Int32)))), .second, .val (.ref b23), .val (.int v45), .unset, .unset] [(.int (1 : Int32))]))
              refine gob (fun _ k => XS.goto X49.here hx rfl (pc0 := 118) (pc' := 122) rfl (hb hby at_118) (by decide) (by decide) k) ?_
              show Go _ _ _ _ _ _ _ (T47.setTop (mkF m 122 #[.val (.int p0), .val (.int p1), .val (.int p2), .val (.int p3), .val (.int p4), .val (.int k_), .val (.ref w_LIN), .val (.int v6), .val (.double v15), .second, .val (.double (FP.i2d (((p2.toUInt32 >>> ((1 : Int32) &&& 31).toUInt32).toInt32) &&& (1 : Int32)))), .second, .val (.ref b23), .val (.int v45), .unset, .unset] [(.int (1 : Int32))]))
              exact join122_57 _ _ ((1 : Int32)) X49 e50 N51 (Or.inl ⟨hc98_71, hc114_72, rfl⟩)
            · skip
              refine gob (fun _ k => XS.ifYes X49.here hx rfl (pc0 := 114) (pc' := 121) rfl (hb hby at_114) rfl ((if0 _ _).trans (flt hc114_72).2.1) (by decide) (by decide) k) ?_
              show Go _ _ _ _ _ _ _ (T47.setTop (mkF m 121 #[.val (.int p0), .val (.int p1), .val (.int p2), .val (.int p3), .val (.int p4), .val (.int k_), .val (.ref w_LIN), .val (.int v6), .val (.double v15), .second, .val (.double (FP.i2d (((p2.toUInt32 >>> ((1 : Int32) &&& 31).toUInt32).toInt32) &&& (1 : Int32)))), .second, .val (.ref b23), .val (.int v45), .unset, .unset] []))
              refine gob (fun _ k => XS.iconst X49.here hx rfl (hb hby at_121) k) ?_
              show Go _ _ _ _ _ _ _ (T47.setTop (mkF m 122 #[.val (.int p0), .val (.int p1), .val (.int p2), .val (.int p3), .val (.int p4), .val (.int k_), .val (.ref w_LIN), .val (.int v6), .val (.double v15), .second, .val (.double (FP.i2d (((p2.toUInt32 >>> ((1 : Int32) &&& 31).toUInt32).toInt32) &&& (1 : Int32)))), .second, .val (.ref b23), .val (.int v45), .unset, .unset] [(.int (0 : Int32))]))
              exact join122_57 _ _ ((0 : Int32)) X49 e50 N51 (Or.inr (Or.inl ⟨hc98_71, hc114_72, rfl⟩))
          · skip
            refine gob (fun _ k => XS.ifNo X49.here hx rfl (hb hby at_98) rfl ((if0 _ _).trans (feq hc98_71).1) k) ?_
            show Go _ _ _ _ _ _ _ (T47.setTop (mkF m 101 #[.val (.int p0), .val (.int p1), .val (.int p2), .val (.int p3), .val (.int p4), .val (.int k_), .val (.ref w_LIN), .val (.int v6), .val (.double v15), .second, .val (.double (FP.i2d (((p2.toUInt32 >>> ((1 : Int32) &&& 31).toUInt32).toInt32) &&& (1 : Int32)))), .second, .val (.ref b23), .val (.int v45), .unset, .unset] []))
            refine gob (fun _ k => XS.iloadN X49.here hx rfl (hb hby at_101) rfl k) ?_
            show Go _ _ _ _ _ _ _ (T47.setTop (mkF m 102 #[.val (.int p0), .val (.int p1), .val (.int p2), .val (.int p3), .val (.int p4), .val (.int k_), .val (.ref w_LIN), .val (.int v6), .val (.double v15), .second, .val (.double (FP.i2d (((p2.toUInt32 >>> ((1 : Int32) &&& 31).toUInt32).toInt32) &&& (1 : Int32)))), .second, .val (.ref b23), .val (.int v45), .unset, .unset] [(.int p1)]))
            by_cases hc102_73 : (0 : Int32) < p1
            · skip
              refine gob (fun _ k => XS.ifNo X49.here hx rfl (hb hby at_102) rfl ((if0 _ _).trans (tlt hc102_73).2.2.2) k) ?_
              show Go _ _ _ _ _ _ _ (T47.setTop (mkF m 105 #[.val (.int p0), .val (.int p1), .val (.int p2), .val (.int p3), .val (.int p4), .val (.int k_), .val (.ref w_LIN), .val (.int v6), .val (.double v15), .second, .val (.double (FP.i2d (((p2.toUInt32 >>> ((1 : Int32) &&& 31).toUInt32).toInt32) &&& (1 : Int32)))), .second, .val (.ref b23), .val (.int v45), .unset, .unset] []))
              refine gob (fun _ k => XS.iconst X49.here hx rfl (hb hby at_105) k) ?_
              show Go _ _ _ _ _ _ _ (T47.setTop (mkF m 106 #[.val (.int p0), .val (.int p1), .val (.int p2), .val (.int p3), .val (.int p4), .val (.int k_), .val (.ref w_LIN), .val (.int v6), .val (.double v15), .second, .val (.double (FP.i2d (((p2.toUInt32 >>> ((1 : Int32) &&& 31).toUInt32).toInt32) &&& (1 : Int32)))), .second, .val (.ref b23), .val (.int v45), .unset, .unset] [(.int (1 : Int32))]))
              refine gob (fun _ k => XS.goto X49.here hx rfl (pc0 := 106) (pc' := 122) rfl (hb hby at_106) (by decide) (by decide) k) ?_
              show Go _ _ _ _ _ _ _ (T47.setTop (mkF m 122 #[.val (.int p0), .val (.int p1), .val (.int p2), .val (.int p3), .val (.int p4), .val (.int k_), .val (.ref w_LIN), .val (.int v6), .val (.double v15), .second, .val (.double (FP.i2d (((p2.toUInt32 >>> ((1 : Int32) &&& 31).toUInt32).toInt32) &&& (1 : Int32)))), .second, .val (.ref b23), .val (.int v45), .unset, .unset] [(.int (1 : Int32))]))
              exact join122_57 _ _ ((1 : Int32)) X49 e50 N51 (Or.inr (Or.inr (Or.inl ⟨hc98_71, hc102_73, rfl⟩)))
            · skip
              refine gob (fun _ k => XS.ifYes X49.here hx rfl (pc0 := 102) (pc' := 109) rfl (hb hby at_102) rfl ((if0 _ _).trans (flt hc102_73).2.2.2) (by decide) (by decide) k) ?_
              show Go _ _ _ _ _ _ _ (T47.setTop (mkF m 109 #[.val (.int p0), .val (.int p1), .val (.int p2), .val (.int p3), .val (.int p4), .val (.int k_), .val (.ref w_LIN), .val (.int v6), .val (.double v15), .second, .val (.double (FP.i2d (((p2.toUInt32 >>> ((1 : Int32) &&& 31).toUInt32).toInt32) &&& (1 : Int32)))), .second, .val (.ref b23), .val (.int v45), .unset, .unset] []))
              refine gob (fun _ k => XS.iconst X49.here hx rfl (hb hby at_109) k) ?_
              show Go _ _ _ _ _ _ _ (T47.setTop (mkF m 110 #[.val (.int p0), .val (.int p1), .val (.int p2), .val (.int p3), .val (.int p4), .val (.int k_), .val (.ref w_LIN), .val (.int v6), .val (.double v15), .second, .val (.double (FP.i2d (((p2.toUInt32 >>> ((1 : Int32) &&& 31).toUInt32).toInt32) &&& (1 : Int32)))), .second, .val (.ref b23), .val (.int v45), .unset, .unset] [(.int (0 : Int32))]))
              refine gob (fun _ k => XS.goto X49.here hx rfl (pc0 := 110) (pc' := 122) rfl (hb hby at_110) (by decide) (by decide) k) ?_
              show Go _ _ _ _ _ _ _ (T47.setTop (mkF m 122 #[.val (.int p0), .val (.int p1), .val (.int p2), .val (.int p3), .val (.int p4), .val (.int k_), .val (.ref w_LIN), .val (.int v6), .val (.double v15), .second, .val (.double (FP.i2d (((p2.toUInt32 >>> ((1 : Int32) &&& 31).toUInt32).toInt32) &&& (1 : Int32)))), .second, .val (.ref b23), .val (.int v45), .unset, .unset] [(.int (0 : Int32))]))
              exact join122_57 _ _ ((0 : Int32)) X49 e50 N51 (Or.inr (Or.inr (Or.inr ⟨hc98_71, hc102_73, rfl⟩)))
        by_cases hc70_74 : v6 = (0 : Int32)
        · skip
          refine gob (fun _ k => XS.ifYes X34.here hx rfl (pc0 := 70) (pc' := 85) rfl (hb hby at_70) rfl ((if0 _ _).trans (teq hc70_74).1) (by decide) (by decide) k) ?_
          show Go _ _ _ _ _ _ _ (T34.setTop (mkF m 85 #[.val (.int p0), .val (.int p1), .val (.int p2), .val (.int p3), .val (.int p4), .val (.int k_), .val (.ref w_LIN), .val (.int v6), .val (.double v15), .second, .val (.double (FP.i2d (((p2.toUInt32 >>> ((1 : Int32) &&& 31).toUInt32).toInt32) &&& (1 : Int32)))), .second, .val (.ref b23), .unset, .unset, .unset] []))
          refine gob (fun _ k => XS.iloadN X34.here hx rfl (hb hby at_85) rfl k) ?_
          show Go _ _ _ _ _ _ _ (T34.setTop (mkF m 86 #[.val (.int p0), .val (.int p1), .val (.int p2), .val (.int p3), .val (.int p4), .val (.int k_), .val (.ref w_LIN), .val (.int v6), .val (.double v15), .second, .val (.double (FP.i2d (((p2.toUInt32 >>> ((1 : Int32) &&& 31).toUInt32).toInt32) &&& (1 : Int32)))), .second, .val (.ref b23), .unset, .unset, .unset] [(.int p1)]))
          by_cases hc86_75 : (0 : Int32) < p1
          · skip
            refine gob (fun _ k => XS.ifNo X34.here hx rfl (hb hby at_86) rfl ((if0 _ _).trans (tlt hc86_75).2.2.2) k) ?_
            show Go _ _ _ _ _ _ _ (T34.setTop (mkF m 89 #[.val (.int p0), .val (.int p1), .val (.int p2), .val (.int p3), .val (.int p4), .val (.int k_), .val (.ref w_LIN), .val (.int v6), .val (.double v15), .second, .val (.double (FP.i2d (((p2.toUInt32 >>> ((1 : Int32) &&& 31).toUInt32).toInt32) &&& (1 : Int32)))), .second, .val (.ref b23), .unset, .unset, .unset] []))
            refine gob (fun _ k => XS.iconst X34.here hx rfl (hb hby at_89) k) ?_
            show Go _ _ _ _ _ _ _ (T34.setTop (mkF m 90 #[.val (.int p0), .val (.int p1), .val (.int p2), .val (.int p3), .val (.int p4), .val (.int k_), .val (.ref w_LIN), .val (.int v6), .val (.double v15), .second, .val (.double (FP.i2d (((p2.toUInt32 >>> ((1 : Int32) &&& 31).toUInt32).toInt32) &&& (1 : Int32)))), .second, .val (.ref b23), .unset, .unset, .unset] [(.int (1 : Int32))]))
            refine gob (fun _ k => XS.goto X34.here hx rfl (pc0 := 90) (pc' := 94) rfl (hb hby at_90) (by decide) (by decide) k) ?_
            show Go _ _ _ _ _ _ _ (T34.setTop (mkF m 94 #[.val (.int p0), .val (.int p1), .val (.int p2), .val (.int p3), .val (.int p4), .val (.int k_), .val (.ref w_LIN), .val (.int v6), .val (.double v15), .second, .val (.double (FP.i2d (((p2.toUInt32 >>> ((1 : Int32) &&& 31).toUInt32).toInt32) &&& (1 : Int32)))), .second, .val (.ref b23), .unset, .unset, .unset] [(.int (1 : Int32))]))
            exact join94_46 _ _ ((1 : Int32)) X34 (rfl : T34.heap = _) N34 (Or.inl ⟨hc70_74, hc86_75, rfl⟩)
          · skip
            refine gob (fun _ k => XS.ifYes X34.here hx rfl (pc0 := 86) (pc' := 93) rfl (hb hby at_86) rfl ((if0 _ _).trans (flt hc86_75).2.2.2) (by decide) (by decide) k) ?_
            show Go _ _ _ _ _ _ _ (T34.setTop (mkF m 93 #[.val (.int p0), .val (.int p1), .val (.int p2), .val (.int p3), .val (.int p4), .val (.int k_), .val (.ref w_LIN), .val (.int v6), .val (.double v15), .second, .val (.double (FP.i2d (((p2.toUInt32 >>> ((1 : Int32) &&& 31).toUInt32).toInt32) &&& (1 : Int32)))), .second, .val (.ref b23), .unset, .unset, .unset] []))
            refine gob (fun _ k => XS.iconst X34.here hx rfl (hb hby at_93) k) ?_
            show Go _ _ _ _ _ _ _ (T34.setTop (mkF m 94 #[.val (.int p0), .val (.int p1), .val (.int p2), .val (.int p3), .val (.int p4), .val (.int k_), .val (.ref w_LIN), .val (.int v6), .val (.double v15), .second, .val (.double (FP.i2d (((p2.toUInt32 >>> ((1 : Int32) &&& 31).toUInt32).toInt32) &&& (1 : Int32)))), .second, .val (.ref b23), .unset, .unset, .unset] [(.int (0 : Int32))]))
            exact join94_46 _ _ ((0 : Int32)) X34 (rfl : T34.heap = _) N34 (Or.inr (Or.inl ⟨hc70_74, hc86_75, rfl⟩))
        · skip
          refine gob (fun _ k => XS.ifNo X34.here hx rfl (hb hby at_70) rfl ((if0 _ _).trans (feq hc70_74).1) k) ?_
          show Go _ _ _ _ _ _ _ (T34.setTop (mkF m 73 #[.val (.int p0), .val (.int p1), .val (.int p2), .val (.int p3), .val (.int p4), .val (.int k_), .val (.ref w_LIN), .val (.int v6), .val (.double v15), .second, .val (.double (FP.i2d (((p2.toUInt32 >>> ((1 : Int32) &&& 31).toUInt32).toInt32) &&& (1 : Int32)))), .second, .val (.ref b23), .unset, .unset, .unset] []))
          refine gob (fun _ k => XS.iloadN X34.here hx rfl (hb hby at_73) rfl k) ?_
          show Go _ _ _ _ _ _ _ (T34.setTop (mkF m 74 #[.val (.int p0), .val (.int p1), .val (.int p2), .val (.int p3), .val (.int p4), .val (.int k_), .val (.ref w_LIN), .val (.int v6), .val (.double v15), .second, .val (.double (FP.i2d (((p2.toUInt32 >>> ((1 : Int32) &&& 31).toUInt32).toInt32) &&& (1 : Int32)))), .second, .val (.ref b23), .unset, .unset, .unset] [(.int p1)]))
          by_cases hc74_76 : p1 < (0 : Int32)
          · skip
            refine gob (fun _ k => XS.ifNo X34.here hx rfl (hb hby at_74) rfl ((if0 _ _).trans (tlt hc74_76).2.1) k) ?_
            show Go _ _ _ _ _ _ _ (T34.setTop (mkF m 77 #[.val (.int p0), .val (.int p1), .val (.int p2), .val (.int p3), .val (.int p4), .val (.int k_), .val (.ref w_LIN), .val (.int v6), .val (.double v15), .second, .val (.double (FP.i2d (((p2.toUInt32 >>> ((1 : Int32) &&& 31).toUInt32).toInt32) &&& (1 : Int32)))), .second, .val (.ref b23), .unset, .unset, .unset] []))
            refine gob (fun _ k => XS.iconst X34.here hx rfl (hb hby at_77) k) ?_
            show Go _ _ _ _ _ _ _ (T34.setTop (mkF m 78 #[.val (.int p0), .val (.int p1), .val (.int p2), .val (.int p3), .val (.int p4), .val (.int k_), .val (.ref w_LIN), .val (.int v6), .val (.double v15), .second, .val (.double (FP.i2d (((p2.toUInt32 >>> ((1 : Int32) &&& 31).toUInt32).toInt32) &&& (1 : Int32)))), .second, .val (.ref b23), .unset, .unset, .unset] [(.int (1 : Int32))]))
            refine gob (fun _ k => XS.goto X34.here hx rfl (pc0 := 78) (pc' := 94) rfl (hb hby at_78) (by decide) (by decide) k) ?_
            show Go _ _ _ _ _ _ _ (T34.setTop (mkF m 94 #[.val (.int p0), .val (.int p1), .val (.int p2), .val (.int p3), .val (.int p4), .val (.int k_), .val (.ref w_LIN), .val (.int v6), .val (.double v15), .second, .val (.double (FP.i2d (((p2.toUInt32 >>> ((1 : Int32) &&& 31).toUInt32).toInt32) &&& (1 : Int32)))), .second, .val (.ref b23), .unset, .unset, .unset] [(.int (1 : Int32))]))
            exact join94_46 _ _ ((1 : Int32)) X34 (rfl : T34.heap = _) N34 (Or.inr (Or.inr (Or.inl ⟨hc70_74, hc74_76, rfl⟩)))
          · skip
            refine gob (fun _ k => XS.ifYes X34.here hx rfl (pc0 := 74) (pc' := 81) rfl (hb hby at_74) rfl ((if0 _ _).trans (flt hc74_76).2.1) (by decide) (by decide) k) ?_
            show Go _ _ _ _ _ _ _ (T34.setTop (mkF m 81 #[.val (.int p0), .val (.int p1), .val (.int p2), .val (.int p3), .val (.int p4), .val (.int k_), .val (.ref w_LIN), .val (.int v6), .val (.double v15), .second, .val (.double (FP.i2d (((p2.toUInt32 >>> ((1 : Int32) &&& 31).toUInt32).toInt32) &&& (1 : Int32)))), .second, .val (.ref b23), .unset, .unset, .unset] []))
            refine gob (fun _ k => XS.iconst X34.here hx rfl (hb hby at_81) k) ?_
            show Go _ _ _ _ _ _ _ (T34.setTop (mkF m 82 #[.val (.int p0), .val (.int p1), .val (.int p2), .val (.int p3), .val (.int p4), .val (.int k_), .val (.ref w_LIN), .val (.int v6), .val (.double v15), .second, .val (.double (FP.i2d (((p2.toUInt32 >>> ((1 : Int32) &&& 31).toUInt32).toInt32) &&& (1 : Int32)))), .second, .val (.ref b23), .unset, .unset, .unset] [(.int (0 : Int32))]))
            refine gob (fun _ k => XS.goto X34.here hx rfl (pc0 := 82) (pc' := 94) rfl (hb hby at_82) (by decide) (by decide) k) ?_
            show Go _ _ _ _ _ _ _ (T34.setTop (mkF m 94 #[.val (.int p0), .val (.int p1), .val (.int p2), .val (.int p3), .val (.int p4), .val (.int k_), .val (.ref w_LIN), .val (.int v6), .val (.double v15), .second, .val (.double (FP.i2d (((p2.toUInt32 >>> ((1 : Int32) &&& 31).toUInt32).toInt32) &&& (1 : Int32)))), .second, .val (.ref b23), .unset, .unset, .unset] [(.int (0 : Int32))]))
            exact join94_46 _ _ ((0 : Int32)) X34 (rfl : T34.heap = _) N34 (Or.inr (Or.inr (Or.inr ⟨hc70_74, hc74_76, rfl⟩)))
      by_cases hc27_77 : v6 = (0 : Int32)
      · skip
        refine gob (fun _ k => XS.ifYes X10.here hx rfl (pc0 := 27) (pc' := 36) rfl (hb hby at_27) rfl ((if0 _ _).trans (teq hc27_77).1) (by decide) (by decide) k) ?_
        show Go _ _ _ _ _ _ _ (T8.setTop (mkF m 36 #[.val (.int p0), .val (.int p1), .val (.int p2), .val (.int p3), .val (.int p4), .val (.int k_), .val (.ref w_LIN), .val (.int v6), .unset, .unset, .unset, .unset, .unset, .unset, .unset, .unset] []))
        refine gob (fun _ k => XS.iloadN X10.here hx rfl (hb hby at_36) rfl k) ?_
        show Go _ _ _ _ _ _ _ (T8.setTop (mkF m 37 #[.val (.int p0), .val (.int p1), .val (.int p2), .val (.int p3), .val (.int p4), .val (.int k_), .val (.ref w_LIN), .val (.int v6), .unset, .unset, .unset, .unset, .unset, .unset, .unset, .unset] [(.int p1)]))
        refine gob (fun _ k => XS.i2dS X10.here hx rfl (hb hby at_37) rfl (v := (FP.i2d p1)) rfl k) ?_
        show Go _ _ _ _ _ _ _ (T8.setTop (mkF m 38 #[.val (.int p0), .val (.int p1), .val (.int p2), .val (.int p3), .val (.int p4), .val (.int k_), .val (.ref w_LIN), .val (.int v6), .unset, .unset, .unset, .unset, .unset, .unset, .unset, .unset] [(.double (FP.i2d p1))]))
        exact join38_16 _ _ ((FP.i2d p1)) X10 e11 N12 (Or.inl ⟨hc27_77, rfl⟩)
      · skip
        refine gob (fun _ k => XS.ifNo X10.here hx rfl (hb hby at_27) rfl ((if0 _ _).trans (feq hc27_77).1) k) ?_
        show Go _ _ _ _ _ _ _ (T8.setTop (mkF m 30 #[.val (.int p0), .val (.int p1), .val (.int p2), .val (.int p3), .val (.int p4), .val (.int k_), .val (.ref w_LIN), .val (.int v6), .unset, .unset, .unset, .unset, .unset, .unset, .unset, .unset] []))
        refine gob (fun _ k => XS.iloadN X10.here hx rfl (hb hby at_30) rfl k) ?_
        show Go _ _ _ _ _ _ _ (T8.setTop (mkF m 31 #[.val (.int p0), .val (.int p1), .val (.int p2), .val (.int p3), .val (.int p4), .val (.int k_), .val (.ref w_LIN), .val (.int v6), .unset, .unset, .unset, .unset, .unset, .unset, .unset, .unset] [(.int p1)]))
        refine gob (fun _ k => XS.i2dS X10.here hx rfl (hb hby at_31) rfl (v := (FP.i2d p1)) rfl k) ?_
        show Go _ _ _ _ _ _ _ (T8.setTop (mkF m 32 #[.val (.int p0), .val (.int p1), .val (.int p2), .val (.int p3), .val (.int p4), .val (.int k_), .val (.ref w_LIN), .val (.int v6), .unset, .unset, .unset, .unset, .unset, .unset, .unset, .unset] [(.double (FP.i2d p1))]))
        refine gob (fun _ k => XS.dnegS X10.here hx rfl (hb hby at_32) rfl (v := (FP.dneg (FP.i2d p1))) rfl k) ?_
        show Go _ _ _ _ _ _ _ (T8.setTop (mkF m 33 #[.val (.int p0), .val (.int p1), .val (.int p2), .val (.int p3), .val (.int p4), .val (.int k_), .val (.ref w_LIN), .val (.int v6), .unset, .unset, .unset, .unset, .unset, .unset, .unset, .unset] [(.double (FP.dneg (FP.i2d p1)))]))
        refine gob (fun _ k => XS.goto X10.here hx rfl (pc0 := 33) (pc' := 38) rfl (hb hby at_33) (by decide) (by decide) k) ?_
        show Go _ _ _ _ _ _ _ (T8.setTop (mkF m 38 #[.val (.int p0), .val (.int p1), .val (.int p2), .val (.int p3), .val (.int p4), .val (.int k_), .val (.ref w_LIN), .val (.int v6), .unset, .unset, .unset, .unset, .unset, .unset, .unset, .unset] [(.double (FP.dneg (FP.i2d p1)))]))
        exact join38_16 _ _ ((FP.dneg (FP.i2d p1))) X10 e11 N12 (Or.inr ⟨hc27_77, rfl⟩)
    by_cases hc15_78 : (p2 &&& (1 : Int32)) = (0 : Int32)
    · skip
      refine gob (fun _ k => XS.ifYes X2.here hx rfl (pc0 := 15) (pc' := 22) rfl (hb hby at_15) rfl ((if0 _ _).trans (teq hc15_78).1) (by decide) (by decide) k) ?_
      show Go _ _ _ _ _ _ _ (T2.setTop (mkF m 22 #[.val (.int p0), .val (.int p1), .val (.int p2), .val (.int p3), .val (.int p4), .val (.int k_), .val (.ref w_LIN), .unset, .unset, .unset, .unset, .unset, .unset, .unset, .unset, .unset] []))
      refine gob (fun _ k => XS.iconst X2.here hx rfl (hb hby at_22) k) ?_
      show Go _ _ _ _ _ _ _ (T2.setTop (mkF m 23 #[.val (.int p0), .val (.int p1), .val (.int p2), .val (.int p3), .val (.int p4), .val (.int k_), .val (.ref w_LIN), .unset, .unset, .unset, .unset, .unset, .unset, .unset, .unset, .unset] [(.int (0 : Int32))]))
      exact join23_7 _ _ ((0 : Int32)) X2 (rfl : T2.heap = _) N2 (Or.inl ⟨hc15_78, rfl⟩)
    · skip
      refine gob (fun _ k => XS.ifNo X2.here hx rfl (hb hby at_15) rfl ((if0 _ _).trans (feq hc15_78).1) k) ?_
      show Go _ _ _ _ _ _ _ (T2.setTop (mkF m 18 #[.val (.int p0), .val (.int p1), .val (.int p2), .val (.int p3), .val (.int p4), .val (.int k_), .val (.ref w_LIN), .unset, .unset, .unset, .unset, .unset, .unset, .unset, .unset, .unset] []))
      refine gob (fun _ k => XS.iconst X2.here hx rfl (hb hby at_18) k) ?_
      show Go _ _ _ _ _ _ _ (T2.setTop (mkF m 19 #[.val (.int p0), .val (.int p1), .val (.int p2), .val (.int p3), .val (.int p4), .val (.int k_), .val (.ref w_LIN), .unset, .unset, .unset, .unset, .unset, .unset, .unset, .unset, .unset] [(.int (1 : Int32))]))
      refine gob (fun _ k => XS.goto X2.here hx rfl (pc0 := 19) (pc' := 23) rfl (hb hby at_19) (by decide) (by decide) k) ?_
      show Go _ _ _ _ _ _ _ (T2.setTop (mkF m 23 #[.val (.int p0), .val (.int p1), .val (.int p2), .val (.int p3), .val (.int p4), .val (.int k_), .val (.ref w_LIN), .unset, .unset, .unset, .unset, .unset, .unset, .unset, .unset, .unset] [(.int (1 : Int32))]))
      exact join23_7 _ _ ((1 : Int32)) X2 (rfl : T2.heap = _) N2 (Or.inr ⟨hc15_78, rfl⟩)
  · skip
    show Go _ _ _ _ _ _ _ (s₁.setTop (mkF m 7 #[.val (.int p0), .val (.int p1), .val (.int p2), .val (.int p3), .val (.int p4), .val (.int k_), .unset, .unset, .unset, .unset, .unset, .unset, .unset, .unset, .unset, .unset] [(.int k_)]))
    by_cases hc7_79 : k_ = (1 : Int32)
    · skip
      show Go _ _ _ _ _ _ _ (s₁.setTop (mkF m 7 #[.val (.int p0), .val (.int p1), .val (.int p2), .val (.int p3), .val (.int p4), .val (.int k_), .unset, .unset, .unset, .unset, .unset, .unset, .unset, .unset, .unset, .unset] [(.int k_)]))
      obtain ⟨_, _, ⟨T80, L80, k80, n80⟩, -, X80, ⟨Lc80, hQ80, l80, y80, z80⟩, st80⟩ := Jvm.LawKit.callS X0 hx (y := (⟨"com/example/robust_broker/robustbroker/FitRanksDownwardPinLaw", "formOf", "(I)Lcom/example/robust_broker/robustbroker/Fit$Form;"⟩ : MethodName)) hown (mvT hZ (hw _ (List.mem_of_getElem? (i := 0) rfl))) (mvT hZ (hw _ (List.mem_of_getElem? (i := 1) rfl))) (mvT hZ (hw _ (List.mem_of_getElem? (i := 2) rfl))) (mvT hZ (hw _ (List.mem_of_getElem? (i := 3) rfl))) (by decide) (backOf (W := 0) (rmfoSQRT l Z a0 hw [] k_ w_SQRT h0 n0 Z0 S_SQRT hc7_1 hc7_79) hZ (hw _ (List.mem_of_getElem? (i := 3) rfl)) (hw _ (List.mem_of_getElem? (i := 2) rfl)) (by decide) (by decide)) (g := (mkF m 7 #[.val (.int p0), .val (.int p1), .val (.int p2), .val (.int p3), .val (.int p4), .val (.int k_), .unset, .unset, .unset, .unset, .unset, .unset, .unset, .unset, .unset, .unset] [(.int k_)])) rfl (by rw [hml]; rfl) (argsL := [(.int k_)]) (rest := []) (lenOf pd_1 rfl) rfl (by show 2 * 0 + _ ≤ _; exact Nat.le_of_eq rfl) (hb hby at_7) (fun _ _ => ⟨rfl, e0, (by decide : 0 + 0 ≤ _), (by decide : 0 + 0 ≤ _)⟩)
      dsimp only [Pt.U, Pt.locs, Pt.cells, Pt.slots] at X80 l80 y80 z80 st80 hQ80
      replace X80 := castX X80 (y80.trans (rfl : _ = 0)) (z80.trans (rfl : _ = 0))
      obtain ⟨rfl, Nq80, K80⟩ := hQ80
      have N80 : Fr n0 L80 := l80 ▸ Fr.app N0 Nq80
      have ns81 := (ns0 (h := h0))
      have z82 : n0 ≤ T80.heap.size := Nat.le_trans Z0 K80.1
      refine gob st80 ?_
      show Go _ _ _ _ _ _ _ (T80.setTop (mkF m 10 #[.val (.int p0), .val (.int p1), .val (.int p2), .val (.int p3), .val (.int p4), .val (.int k_), .unset, .unset, .unset, .unset, .unset, .unset, .unset, .unset, .unset, .unset] [(.ref w_SQRT)]))
      refine gob (fun _ k => XS.astore X80.here hx rfl (hb hby at_10) rfl rfl (l' := #[.val (.int p0), .val (.int p1), .val (.int p2), .val (.int p3), .val (.int p4), .val (.int k_), .val (.ref w_SQRT), .unset, .unset, .unset, .unset, .unset, .unset, .unset, .unset, .unset]) rfl k) ?_
      show Go _ _ _ _ _ _ _ (T80.setTop (mkF m 12 #[.val (.int p0), .val (.int p1), .val (.int p2), .val (.int p3), .val (.int p4), .val (.int k_), .val (.ref w_SQRT), .unset, .unset, .unset, .unset, .unset, .unset, .unset, .unset, .unset] []))
      refine gob (fun _ k => XS.iloadN X80.here hx rfl (hb hby at_12) rfl k) ?_
      show Go _ _ _ _ _ _ _ (T80.setTop (mkF m 13 #[.val (.int p0), .val (.int p1), .val (.int p2), .val (.int p3), .val (.int p4), .val (.int k_), .val (.ref w_SQRT), .unset, .unset, .unset, .unset, .unset, .unset, .unset, .unset, .unset] [(.int p2)]))
      refine gob (fun _ k => XS.iconst X80.here hx rfl (hb hby at_13) k) ?_
      show Go _ _ _ _ _ _ _ (T80.setTop (mkF m 14 #[.val (.int p0), .val (.int p1), .val (.int p2), .val (.int p3), .val (.int p4), .val (.int k_), .val (.ref w_SQRT), .unset, .unset, .unset, .unset, .unset, .unset, .unset, .unset, .unset] [(.int (1 : Int32)), (.int p2)]))
      refine gob (fun _ k => XS.iand X80.here hx rfl (hb hby at_14) rfl k) ?_
      show Go _ _ _ _ _ _ _ (T80.setTop (mkF m 15 #[.val (.int p0), .val (.int p1), .val (.int p2), .val (.int p3), .val (.int p4), .val (.int k_), .val (.ref w_SQRT), .unset, .unset, .unset, .unset, .unset, .unset, .unset, .unset, .unset] [(.int (p2 &&& (1 : Int32)))]))
      have join23_85 : ∀ (T86 : State) (lj87 : List Loc) (v84 : Int32), Stand p l e room_1 s m #[(.int p0), (.int p1), (.int p2), (.int p3), (.int p4)] below meth c T86 lj87 0 0 → T86.heap = T80.heap → Fr n0 lj87 → ((p2 &&& (1 : Int32)) = (0 : Int32) ∧ v84 = (0 : Int32)) ∨ (¬ ((p2 &&& (1 : Int32)) = (0 : Int32)) ∧ v84 = (1 : Int32)) → Go p e below s (Q0 Z p0 p1 p2 p3 p4 w_LIN w_SQRT w_LOG w_POW h0 n0) 16 128 (T86.setTop (mkF m 23 #[.val (.int p0), .val (.int p1), .val (.int p2), .val (.int p3), .val (.int p4), .val (.int k_), .val (.ref w_SQRT), .unset, .unset, .unset, .unset, .unset, .unset, .unset, .unset, .unset] [(.int v84)])) := by
        intro T86 lj87 v84 X88 e89 N90 hj91
        show Go _ _ _ _ _ _ _ (T86.setTop (mkF m 23 #[.val (.int p0), .val (.int p1), .val (.int p2), .val (.int p3), .val (.int p4), .val (.int k_), .val (.ref w_SQRT), .unset, .unset, .unset, .unset, .unset, .unset, .unset, .unset, .unset] [(.int v84)]))
        refine gob (fun _ k => XS.istore X88.here hx rfl (hb hby at_23) rfl (l' := #[.val (.int p0), .val (.int p1), .val (.int p2), .val (.int p3), .val (.int p4), .val (.int k_), .val (.ref w_SQRT), .val (.int v84), .unset, .unset, .unset, .unset, .unset, .unset, .unset, .unset]) rfl k) ?_
        show Go _ _ _ _ _ _ _ (T86.setTop (mkF m 25 #[.val (.int p0), .val (.int p1), .val (.int p2), .val (.int p3), .val (.int p4), .val (.int k_), .val (.ref w_SQRT), .val (.int v84), .unset, .unset, .unset, .unset, .unset, .unset, .unset, .unset] []))
        refine gob (fun _ k => XS.iload X88.here hx rfl (hb hby at_25) rfl k) ?_
        show Go _ _ _ _ _ _ _ (T86.setTop (mkF m 27 #[.val (.int p0), .val (.int p1), .val (.int p2), .val (.int p3), .val (.int p4), .val (.int k_), .val (.ref w_SQRT), .val (.int v84), .unset, .unset, .unset, .unset, .unset, .unset, .unset, .unset] [(.int v84)]))
        have join38_94 : ∀ (T95 : State) (lj96 : List Loc) (v93 : UInt64), Stand p l e room_1 s m #[(.int p0), (.int p1), (.int p2), (.int p3), (.int p4)] below meth c T95 lj96 0 0 → T95.heap = T80.heap → Fr n0 lj96 → (v84 = (0 : Int32) ∧ v93 = (FP.i2d p1)) ∨ (¬ (v84 = (0 : Int32)) ∧ v93 = (FP.dneg (FP.i2d p1))) → Go p e below s (Q0 Z p0 p1 p2 p3 p4 w_LIN w_SQRT w_LOG w_POW h0 n0) 16 128 (T95.setTop (mkF m 38 #[.val (.int p0), .val (.int p1), .val (.int p2), .val (.int p3), .val (.int p4), .val (.int k_), .val (.ref w_SQRT), .val (.int v84), .unset, .unset, .unset, .unset, .unset, .unset, .unset, .unset] [(.double v93)])) := by
          intro T95 lj96 v93 X97 e98 N99 hj100
          show Go _ _ _ _ _ _ _ (T95.setTop (mkF m 38 #[.val (.int p0), .val (.int p1), .val (.int p2), .val (.int p3), .val (.int p4), .val (.int k_), .val (.ref w_SQRT), .val (.int v84), .unset, .unset, .unset, .unset, .unset, .unset, .unset, .unset] [(.double v93)]))
          refine gob (fun _ k => XS.dstore X97.here hx rfl (hb hby at_38) rfl (l' := #[.val (.int p0), .val (.int p1), .val (.int p2), .val (.int p3), .val (.int p4), .val (.int k_), .val (.ref w_SQRT), .val (.int v84), .val (.double v93), .second, .unset, .unset, .unset, .unset, .unset, .unset]) rfl k) ?_
          show Go _ _ _ _ _ _ _ (T95.setTop (mkF m 40 #[.val (.int p0), .val (.int p1), .val (.int p2), .val (.int p3), .val (.int p4), .val (.int k_), .val (.ref w_SQRT), .val (.int v84), .val (.double v93), .second, .unset, .unset, .unset, .unset, .unset, .unset] []))
          refine gob (fun _ k => XS.iloadN X97.here hx rfl (hb hby at_40) rfl k) ?_
          show Go _ _ _ _ _ _ _ (T95.setTop (mkF m 41 #[.val (.int p0), .val (.int p1), .val (.int p2), .val (.int p3), .val (.int p4), .val (.int k_), .val (.ref w_SQRT), .val (.int v84), .val (.double v93), .second, .unset, .unset, .unset, .unset, .unset, .unset] [(.int p2)]))
          refine gob (fun _ k => XS.iconst X97.here hx rfl (hb hby at_41) k) ?_
          show Go _ _ _ _ _ _ _ (T95.setTop (mkF m 42 #[.val (.int p0), .val (.int p1), .val (.int p2), .val (.int p3), .val (.int p4), .val (.int k_), .val (.ref w_SQRT), .val (.int v84), .val (.double v93), .second, .unset, .unset, .unset, .unset, .unset, .unset] [(.int (1 : Int32)), (.int p2)]))
          refine gob (fun _ k => XS.iushr X97.here hx rfl (hb hby at_42) rfl k) ?_
          show Go _ _ _ _ _ _ _ (T95.setTop (mkF m 43 #[.val (.int p0), .val (.int p1), .val (.int p2), .val (.int p3), .val (.int p4), .val (.int k_), .val (.ref w_SQRT), .val (.int v84), .val (.double v93), .second, .unset, .unset, .unset, .unset, .unset, .unset] [(.int ((p2.toUInt32 >>> ((1 : Int32) &&& 31).toUInt32).toInt32))]))
          refine gob (fun _ k => XS.iconst X97.here hx rfl (hb hby at_43) k) ?_
          show Go _ _ _ _ _ _ _ (T95.setTop (mkF m 44 #[.val (.int p0), .val (.int p1), .val (.int p2), .val (.int p3), .val (.int p4), .val (.int k_), .val (.ref w_SQRT), .val (.int v84), .val (.double v93), .second, .unset, .unset, .unset, .unset, .unset, .unset] [(.int (1 : Int32)), (.int ((p2.toUInt32 >>> ((1 : Int32) &&& 31).toUInt32).toInt32))]))
          refine gob (fun _ k => XS.iand X97.here hx rfl (hb hby at_44) rfl k) ?_
          show Go _ _ _ _ _ _ _ (T95.setTop (mkF m 45 #[.val (.int p0), .val (.int p1), .val (.int p2), .val (.int p3), .val (.int p4), .val (.int k_), .val (.ref w_SQRT), .val (.int v84), .val (.double v93), .second, .unset, .unset, .unset, .unset, .unset, .unset] [(.int (((p2.toUInt32 >>> ((1 : Int32) &&& 31).toUInt32).toInt32) &&& (1 : Int32)))]))
          refine gob (fun _ k => XS.i2dS X97.here hx rfl (hb hby at_45) rfl (v := (FP.i2d (((p2.toUInt32 >>> ((1 : Int32) &&& 31).toUInt32).toInt32) &&& (1 : Int32)))) rfl k) ?_
          show Go _ _ _ _ _ _ _ (T95.setTop (mkF m 46 #[.val (.int p0), .val (.int p1), .val (.int p2), .val (.int p3), .val (.int p4), .val (.int k_), .val (.ref w_SQRT), .val (.int v84), .val (.double v93), .second, .unset, .unset, .unset, .unset, .unset, .unset] [(.double (FP.i2d (((p2.toUInt32 >>> ((1 : Int32) &&& 31).toUInt32).toInt32) &&& (1 : Int32))))]))
          refine gob (fun _ k => XS.dstore X97.here hx rfl (hb hby at_46) rfl (l' := #[.val (.int p0), .val (.int p1), .val (.int p2), .val (.int p3), .val (.int p4), .val (.int k_), .val (.ref w_SQRT), .val (.int v84), .val (.double v93), .second, .val (.double (FP.i2d (((p2.toUInt32 >>> ((1 : Int32) &&& 31).toUInt32).toInt32) &&& (1 : Int32)))), .second, .unset, .unset, .unset, .unset]) rfl k) ?_
          show Go _ _ _ _ _ _ _ (T95.setTop (mkF m 48 #[.val (.int p0), .val (.int p1), .val (.int p2), .val (.int p3), .val (.int p4), .val (.int k_), .val (.ref w_SQRT), .val (.int v84), .val (.double v93), .second, .val (.double (FP.i2d (((p2.toUInt32 >>> ((1 : Int32) &&& 31).toUInt32).toInt32) &&& (1 : Int32)))), .second, .unset, .unset, .unset, .unset] []))
          obtain ⟨T101, h101, X101, e101, E101, A101, D101, -, st101⟩ := newO X97 hx hZ hown (hw _ (List.mem_of_getElem? (i := 7) rfl)) (hw _ (List.mem_of_getElem? (i := 8) rfl)) (hw _ (List.mem_of_getElem? (i := 9) rfl)) e98 (g := (mkF m 48 #[.val (.int p0), .val (.int p1), .val (.int p2), .val (.int p3), .val (.int p4), .val (.int k_), .val (.ref w_SQRT), .val (.int v84), .val (.double v93), .second, .val (.double (FP.i2d (((p2.toUInt32 >>> ((1 : Int32) &&& 31).toUInt32).toInt32) &&& (1 : Int32)))), .second, .unset, .unset, .unset, .unset] [])) rfl (hb hby at_48) (by decide) (by decide)
          obtain ⟨b101, g101⟩ : ∃ z, z = T80.heap.size := ⟨_, rfl⟩
          rw [← g101] at A101 D101 st101
          have c102 := (F_LIN.keep K80 nin0)
          have n103 : w_LIN ≠ b101 := Nat.ne_of_lt (Nat.lt_of_lt_of_le c102.lt (Nat.le_of_eq g101.symm))
          have c104 := (F_SQRT.keep K80 nin0)
          have n105 : w_SQRT ≠ b101 := Nat.ne_of_lt (Nat.lt_of_lt_of_le c104.lt (Nat.le_of_eq g101.symm))
          have c106 := (F_LOG.keep K80 nin0)
          have n107 : w_LOG ≠ b101 := Nat.ne_of_lt (Nat.lt_of_lt_of_le c106.lt (Nat.le_of_eq g101.symm))
          have c108 := (F_POW.keep K80 nin0)
          have n109 : w_POW ≠ b101 := Nat.ne_of_lt (Nat.lt_of_lt_of_le c108.lt (Nat.le_of_eq g101.symm))
          have g110 : n0 ≤ b101 := Nat.le_trans z82 (Nat.le_of_eq g101.symm)
          have z111 : n0 ≤ h101.size := Nat.le_trans z82 E101.1
          have F101_form : Fld Z h101 b101 "com/example/robust_broker/robustbroker/Fit" "form" "Lcom/example/robust_broker/robustbroker/Fit$Form;" .null := D101 (Or.inr (hw _ (List.mem_of_getElem? (i := 22) rfl))) (ty := (.object "com/example/robust_broker/robustbroker/Fit$Form")) (by decide)
          have F101_a : Fld Z h101 b101 "com/example/robust_broker/robustbroker/Fit" "a" "D" (.double 0) := D101 (Or.inr (hw _ (List.mem_of_getElem? (i := 24) rfl))) (ty := .double) (by decide)
          have F101_b : Fld Z h101 b101 "com/example/robust_broker/robustbroker/Fit" "b" "D" (.double 0) := D101 (Or.inr (hw _ (List.mem_of_getElem? (i := 26) rfl))) (ty := .double) (by decide)
          have F101_r2 : Fld Z h101 b101 "com/example/robust_broker/robustbroker/Fit" "r2" "D" (.double 0) := D101 (Or.inr (hw _ (List.mem_of_getElem? (i := 28) rfl))) (ty := .double) (by decide)
          have F101_cap : Fld Z h101 b101 "com/example/robust_broker/robustbroker/Fit" "cap" "D" (.double 0) := D101 (Or.inr (hw _ (List.mem_of_getElem? (i := 30) rfl))) (ty := .double) (by decide)
          refine gob st101 ?_
          replace X101 := castX X101 (rfl : _ = 1) (rfl : _ = 5)
          show Go _ _ _ _ _ _ _ (T101.setTop (mkF m 51 #[.val (.int p0), .val (.int p1), .val (.int p2), .val (.int p3), .val (.int p4), .val (.int k_), .val (.ref w_SQRT), .val (.int v84), .val (.double v93), .second, .val (.double (FP.i2d (((p2.toUInt32 >>> ((1 : Int32) &&& 31).toUInt32).toInt32) &&& (1 : Int32)))), .second, .unset, .unset, .unset, .unset] [(.ref b101)]))
          refine gob (fun _ k => XS.dup X101.here hx rfl (hb hby at_51) rfl rfl k) ?_
          show Go _ _ _ _ _ _ _ (T101.setTop (mkF m 52 #[.val (.int p0), .val (.int p1), .val (.int p2), .val (.int p3), .val (.int p4), .val (.int k_), .val (.ref w_SQRT), .val (.int v84), .val (.double v93), .second, .val (.double (FP.i2d (((p2.toUInt32 >>> ((1 : Int32) &&& 31).toUInt32).toInt32) &&& (1 : Int32)))), .second, .unset, .unset, .unset, .unset] [(.ref b101), (.ref b101)]))
          refine gob (fun _ k => XS.aload X101.here hx rfl (hb hby at_52) rfl rfl k) ?_
          show Go _ _ _ _ _ _ _ (T101.setTop (mkF m 54 #[.val (.int p0), .val (.int p1), .val (.int p2), .val (.int p3), .val (.int p4), .val (.int k_), .val (.ref w_SQRT), .val (.int v84), .val (.double v93), .second, .val (.double (FP.i2d (((p2.toUInt32 >>> ((1 : Int32) &&& 31).toUInt32).toInt32) &&& (1 : Int32)))), .second, .unset, .unset, .unset, .unset] [(.ref w_SQRT), (.ref b101), (.ref b101)]))
          refine gob (fun _ k => XS.dload X101.here hx rfl (hb hby at_54) rfl k) ?_
          show Go _ _ _ _ _ _ _ (T101.setTop (mkF m 56 #[.val (.int p0), .val (.int p1), .val (.int p2), .val (.int p3), .val (.int p4), .val (.int k_), .val (.ref w_SQRT), .val (.int v84), .val (.double v93), .second, .val (.double (FP.i2d (((p2.toUInt32 >>> ((1 : Int32) &&& 31).toUInt32).toInt32) &&& (1 : Int32)))), .second, .unset, .unset, .unset, .unset] [(.double v93), (.ref w_SQRT), (.ref b101), (.ref b101)]))
          refine gob (fun _ k => XS.iloadN X101.here hx rfl (hb hby at_56) rfl k) ?_
          show Go _ _ _ _ _ _ _ (T101.setTop (mkF m 57 #[.val (.int p0), .val (.int p1), .val (.int p2), .val (.int p3), .val (.int p4), .val (.int k_), .val (.ref w_SQRT), .val (.int v84), .val (.double v93), .second, .val (.double (FP.i2d (((p2.toUInt32 >>> ((1 : Int32) &&& 31).toUInt32).toInt32) &&& (1 : Int32)))), .second, .unset, .unset, .unset, .unset] [(.int p3), (.double v93), (.ref w_SQRT), (.ref b101), (.ref b101)]))
          refine gob (fun _ k => XS.i2dS X101.here hx rfl (hb hby at_57) rfl (v := (FP.i2d p3)) rfl k) ?_
          show Go _ _ _ _ _ _ _ (T101.setTop (mkF m 58 #[.val (.int p0), .val (.int p1), .val (.int p2), .val (.int p3), .val (.int p4), .val (.int k_), .val (.ref w_SQRT), .val (.int v84), .val (.double v93), .second, .val (.double (FP.i2d (((p2.toUInt32 >>> ((1 : Int32) &&& 31).toUInt32).toInt32) &&& (1 : Int32)))), .second, .unset, .unset, .unset, .unset] [(.double (FP.i2d p3)), (.double v93), (.ref w_SQRT), (.ref b101), (.ref b101)]))
          refine gob (fun _ k => XS.dload X101.here hx rfl (hb hby at_58) rfl k) ?_
          show Go _ _ _ _ _ _ _ (T101.setTop (mkF m 60 #[.val (.int p0), .val (.int p1), .val (.int p2), .val (.int p3), .val (.int p4), .val (.int k_), .val (.ref w_SQRT), .val (.int v84), .val (.double v93), .second, .val (.double (FP.i2d (((p2.toUInt32 >>> ((1 : Int32) &&& 31).toUInt32).toInt32) &&& (1 : Int32)))), .second, .unset, .unset, .unset, .unset] [(.double (FP.i2d (((p2.toUInt32 >>> ((1 : Int32) &&& 31).toUInt32).toInt32) &&& (1 : Int32)))), (.double (FP.i2d p3)), (.double v93), (.ref w_SQRT), (.ref b101), (.ref b101)]))
          refine gob (fun _ k => XS.iload X101.here hx rfl (hb hby at_60) rfl k) ?_
          show Go _ _ _ _ _ _ _ (T101.setTop (mkF m 62 #[.val (.int p0), .val (.int p1), .val (.int p2), .val (.int p3), .val (.int p4), .val (.int k_), .val (.ref w_SQRT), .val (.int v84), .val (.double v93), .second, .val (.double (FP.i2d (((p2.toUInt32 >>> ((1 : Int32) &&& 31).toUInt32).toInt32) &&& (1 : Int32)))), .second, .unset, .unset, .unset, .unset] [(.int p4), (.double (FP.i2d (((p2.toUInt32 >>> ((1 : Int32) &&& 31).toUInt32).toInt32) &&& (1 : Int32)))), (.double (FP.i2d p3)), (.double v93), (.ref w_SQRT), (.ref b101), (.ref b101)]))
          refine gob (fun _ k => XS.i2dS X101.here hx rfl (hb hby at_62) rfl (v := (FP.i2d p4)) rfl k) ?_
          show Go _ _ _ _ _ _ _ (T101.setTop (mkF m 63 #[.val (.int p0), .val (.int p1), .val (.int p2), .val (.int p3), .val (.int p4), .val (.int k_), .val (.ref w_SQRT), .val (.int v84), .val (.double v93), .second, .val (.double (FP.i2d (((p2.toUInt32 >>> ((1 : Int32) &&& 31).toUInt32).toInt32) &&& (1 : Int32)))), .second, .unset, .unset, .unset, .unset] [(.double (FP.i2d p4)), (.double (FP.i2d (((p2.toUInt32 >>> ((1 : Int32) &&& 31).toUInt32).toInt32) &&& (1 : Int32)))), (.double (FP.i2d p3)), (.double v93), (.ref w_SQRT), (.ref b101), (.ref b101)]))
          obtain ⟨_, _, ⟨T112, L112, k112, n112⟩, -, X112, ⟨Lc112, hQ112, l112, y112, z112⟩, st112⟩ := X101.specialBack hx (y := (⟨"com/example/robust_broker/robustbroker/Fit", "<init>", "(Lcom/example/robust_broker/robustbroker/Fit$Form;DDDD)V"⟩ : MethodName)) rfl hown (mvT hZ (hw _ (List.mem_of_getElem? (i := 10) rfl))) (mvT hZ (hw _ (List.mem_of_getElem? (i := 11) rfl))) (mvT hZ (hw _ (List.mem_of_getElem? (i := 12) rfl))) (by decide) (backOf (W := 1) (rm2 l Z a0 hw [] b101 w_SQRT v93 (FP.i2d p3) (FP.i2d (((p2.toUInt32 >>> ((1 : Int32) &&& 31).toUInt32).toInt32) &&& (1 : Int32))) (FP.i2d p4) h101 n0 z111 A101 F101_form g110 F101_a F101_b F101_r2 F101_cap) hZ (hw _ (List.mem_of_getElem? (i := 12) rfl)) (hw _ (List.mem_of_getElem? (i := 9) rfl)) (by decide) (by decide)) (g := (mkF m 63 #[.val (.int p0), .val (.int p1), .val (.int p2), .val (.int p3), .val (.int p4), .val (.int k_), .val (.ref w_SQRT), .val (.int v84), .val (.double v93), .second, .val (.double (FP.i2d (((p2.toUInt32 >>> ((1 : Int32) &&& 31).toUInt32).toInt32) &&& (1 : Int32)))), .second, .unset, .unset, .unset, .unset] [(.double (FP.i2d p4)), (.double (FP.i2d (((p2.toUInt32 >>> ((1 : Int32) &&& 31).toUInt32).toInt32) &&& (1 : Int32)))), (.double (FP.i2d p3)), (.double v93), (.ref w_SQRT), (.ref b101), (.ref b101)])) rfl (by rw [hml]; rfl) (Steps.refl _) (a := b101) (argsL := [(.ref w_SQRT), (.double v93), (.double (FP.i2d p3)), (.double (FP.i2d (((p2.toUInt32 >>> ((1 : Int32) &&& 31).toUInt32).toInt32) &&& (1 : Int32)))), (.double (FP.i2d p4))]) (rest := [(.ref b101)]) (lenOf pd_2 rfl) rfl (by show 2 * 0 + _ ≤ _; exact Nat.le_of_eq rfl) (hb hby at_63) (fun _ _ => ⟨rfl, e101, (by decide : 1 + 0 ≤ _), (by decide : 5 + 0 ≤ _)⟩)
          dsimp only [Pt.U, Pt.locs, Pt.cells, Pt.slots] at X112 l112 y112 z112 st112 hQ112
          replace X112 := castX X112 (y112.trans (rfl : _ = 1)) (z112.trans (rfl : _ = 5))
          obtain ⟨rfl, Nq112, K112, F113, F114, F115, F116, F117⟩ := hQ112
          have N112 : Fr n0 L112 := l112 ▸ Fr.app N99 Nq112
          have ns118 := (nsS A101.nostat ns0)
          have z119 : n0 ≤ T112.heap.size := Nat.le_trans z111 K112.1
          refine gob (fun _ k => st112.trans k) ?_
          show Go _ _ _ _ _ _ _ (T112.setTop (mkF m 66 #[.val (.int p0), .val (.int p1), .val (.int p2), .val (.int p3), .val (.int p4), .val (.int k_), .val (.ref w_SQRT), .val (.int v84), .val (.double v93), .second, .val (.double (FP.i2d (((p2.toUInt32 >>> ((1 : Int32) &&& 31).toUInt32).toInt32) &&& (1 : Int32)))), .second, .unset, .unset, .unset, .unset] [(.ref b101)]))
          refine gob (fun _ k => XS.astore X112.here hx rfl (hb hby at_66) rfl rfl (l' := #[.val (.int p0), .val (.int p1), .val (.int p2), .val (.int p3), .val (.int p4), .val (.int k_), .val (.ref w_SQRT), .val (.int v84), .val (.double v93), .second, .val (.double (FP.i2d (((p2.toUInt32 >>> ((1 : Int32) &&& 31).toUInt32).toInt32) &&& (1 : Int32)))), .second, .val (.ref b101), .unset, .unset, .unset]) rfl k) ?_
          show Go _ _ _ _ _ _ _ (T112.setTop (mkF m 68 #[.val (.int p0), .val (.int p1), .val (.int p2), .val (.int p3), .val (.int p4), .val (.int k_), .val (.ref w_SQRT), .val (.int v84), .val (.double v93), .second, .val (.double (FP.i2d (((p2.toUInt32 >>> ((1 : Int32) &&& 31).toUInt32).toInt32) &&& (1 : Int32)))), .second, .val (.ref b101), .unset, .unset, .unset] []))
          refine gob (fun _ k => XS.iload X112.here hx rfl (hb hby at_68) rfl k) ?_
          show Go _ _ _ _ _ _ _ (T112.setTop (mkF m 70 #[.val (.int p0), .val (.int p1), .val (.int p2), .val (.int p3), .val (.int p4), .val (.int k_), .val (.ref w_SQRT), .val (.int v84), .val (.double v93), .second, .val (.double (FP.i2d (((p2.toUInt32 >>> ((1 : Int32) &&& 31).toUInt32).toInt32) &&& (1 : Int32)))), .second, .val (.ref b101), .unset, .unset, .unset] [(.int v84)]))
          have join94_124 : ∀ (T125 : State) (lj126 : List Loc) (v123 : Int32), Stand p l e room_1 s m #[(.int p0), (.int p1), (.int p2), (.int p3), (.int p4)] below meth c T125 lj126 1 5 → T125.heap = T112.heap → Fr n0 lj126 → (v84 = (0 : Int32) ∧ (0 : Int32) < p1 ∧ v123 = (1 : Int32)) ∨ (v84 = (0 : Int32) ∧ ¬ ((0 : Int32) < p1) ∧ v123 = (0 : Int32)) ∨ (¬ (v84 = (0 : Int32)) ∧ p1 < (0 : Int32) ∧ v123 = (1 : Int32)) ∨ (¬ (v84 = (0 : Int32)) ∧ ¬ (p1 < (0 : Int32)) ∧ v123 = (0 : Int32)) → Go p e below s (Q0 Z p0 p1 p2 p3 p4 w_LIN w_SQRT w_LOG w_POW h0 n0) 16 128 (T125.setTop (mkF m 94 #[.val (.int p0), .val (.int p1), .val (.int p2), .val (.int p3), .val (.int p4), .val (.int k_), .val (.ref w_SQRT), .val (.int v84), .val (.double v93), .second, .val (.double (FP.i2d (((p2.toUInt32 >>> ((1 : Int32) &&& 31).toUInt32).toInt32) &&& (1 : Int32)))), .second, .val (.ref b101), .unset, .unset, .unset] [(.int v123)])) := by
            intro T125 lj126 v123 X127 e128 N129 hj130
            show Go _ _ _ _ _ _ _ (T125.setTop (mkF m 94 #[.val (.int p0), .val (.int p1), .val (.int p2), .val (.int p3), .val (.int p4), .val (.int k_), .val (.ref w_SQRT), .val (.int v84), .val (.double v93), .second, .val (.double (FP.i2d (((p2.toUInt32 >>> ((1 : Int32) &&& 31).toUInt32).toInt32) &&& (1 : Int32)))), .second, .val (.ref b101), .unset, .unset, .unset] [(.int v123)]))
            refine gob (fun _ k => XS.istore X127.here hx rfl (hb hby at_94) rfl (l' := #[.val (.int p0), .val (.int p1), .val (.int p2), .val (.int p3), .val (.int p4), .val (.int k_), .val (.ref w_SQRT), .val (.int v84), .val (.double v93), .second, .val (.double (FP.i2d (((p2.toUInt32 >>> ((1 : Int32) &&& 31).toUInt32).toInt32) &&& (1 : Int32)))), .second, .val (.ref b101), .val (.int v123), .unset, .unset]) rfl k) ?_
            show Go _ _ _ _ _ _ _ (T125.setTop (mkF m 96 #[.val (.int p0), .val (.int p1), .val (.int p2), .val (.int p3), .val (.int p4), .val (.int k_), .val (.ref w_SQRT), .val (.int v84), .val (.double v93), .second, .val (.double (FP.i2d (((p2.toUInt32 >>> ((1 : Int32) &&& 31).toUInt32).toInt32) &&& (1 : Int32)))), .second, .val (.ref b101), .val (.int v123), .unset, .unset] []))
            refine gob (fun _ k => XS.iload X127.here hx rfl (hb hby at_96) rfl k) ?_
            show Go _ _ _ _ _ _ _ (T125.setTop (mkF m 98 #[.val (.int p0), .val (.int p1), .val (.int p2), .val (.int p3), .val (.int p4), .val (.int k_), .val (.ref w_SQRT), .val (.int v84), .val (.double v93), .second, .val (.double (FP.i2d (((p2.toUInt32 >>> ((1 : Int32) &&& 31).toUInt32).toInt32) &&& (1 : Int32)))), .second, .val (.ref b101), .val (.int v123), .unset, .unset] [(.int v84)]))
            have join122_135 : ∀ (T136 : State) (lj137 : List Loc) (v134 : Int32), Stand p l e room_1 s m #[(.int p0), (.int p1), (.int p2), (.int p3), (.int p4)] below meth c T136 lj137 1 5 → T136.heap = T112.heap → Fr n0 lj137 → (v84 = (0 : Int32) ∧ p1 < (0 : Int32) ∧ v134 = (1 : Int32)) ∨ (v84 = (0 : Int32) ∧ ¬ (p1 < (0 : Int32)) ∧ v134 = (0 : Int32)) ∨ (¬ (v84 = (0 : Int32)) ∧ (0 : Int32) < p1 ∧ v134 = (1 : Int32)) ∨ (¬ (v84 = (0 : Int32)) ∧ ¬ ((0 : Int32) < p1) ∧ v134 = (0 : Int32)) → Go p e below s (Q0 Z p0 p1 p2 p3 p4 w_LIN w_SQRT w_LOG w_POW h0 n0) 16 128 (T136.setTop (mkF m 122 #[.val (.int p0), .val (.int p1), .val (.int p2), .val (.int p3), .val (.int p4), .val (.int k_), .val (.ref w_SQRT), .val (.int v84), .val (.double v93), .second, .val (.double (FP.i2d (((p2.toUInt32 >>> ((1 : Int32) &&& 31).toUInt32).toInt32) &&& (1 : Int32)))), .second, .val (.ref b101), .val (.int v123), .unset, .unset] [(.int v134)])) := by
              intro T136 lj137 v134 X138 e139 N140 hj141
              show Go _ _ _ _ _ _ _ (T136.setTop (mkF m 122 #[.val (.int p0), .val (.int p1), .val (.int p2), .val (.int p3), .val (.int p4), .val (.int k_), .val (.ref w_SQRT), .val (.int v84), .val (.double v93), .second, .val (.double (FP.i2d (((p2.toUInt32 >>> ((1 : Int32) &&& 31).toUInt32).toInt32) &&& (1 : Int32)))), .second, .val (.ref b101), .val (.int v123), .unset, .unset] [(.int v134)]))
              refine gob (fun _ k => XS.istore X138.here hx rfl (hb hby at_122) rfl (l' := #[.val (.int p0), .val (.int p1), .val (.int p2), .val (.int p3), .val (.int p4), .val (.int k_), .val (.ref w_SQRT), .val (.int v84), .val (.double v93), .second, .val (.double (FP.i2d (((p2.toUInt32 >>> ((1 : Int32) &&& 31).toUInt32).toInt32) &&& (1 : Int32)))), .second, .val (.ref b101), .val (.int v123), .val (.int v134), .unset]) rfl k) ?_
              show Go _ _ _ _ _ _ _ (T136.setTop (mkF m 124 #[.val (.int p0), .val (.int p1), .val (.int p2), .val (.int p3), .val (.int p4), .val (.int k_), .val (.ref w_SQRT), .val (.int v84), .val (.double v93), .second, .val (.double (FP.i2d (((p2.toUInt32 >>> ((1 : Int32) &&& 31).toUInt32).toInt32) &&& (1 : Int32)))), .second, .val (.ref b101), .val (.int v123), .val (.int v134), .unset] []))
              refine gob (fun _ k => XS.iload X138.here hx rfl (hb hby at_124) rfl k) ?_
              show Go _ _ _ _ _ _ _ (T136.setTop (mkF m 126 #[.val (.int p0), .val (.int p1), .val (.int p2), .val (.int p3), .val (.int p4), .val (.int k_), .val (.ref w_SQRT), .val (.int v84), .val (.double v93), .second, .val (.double (FP.i2d (((p2.toUInt32 >>> ((1 : Int32) &&& 31).toUInt32).toInt32) &&& (1 : Int32)))), .second, .val (.ref b101), .val (.int v123), .val (.int v134), .unset] [(.int k_)]))
              refine gob (fun _ k => XS.iconst X138.here hx rfl (hb hby at_126) k) ?_
              show Go _ _ _ _ _ _ _ (T136.setTop (mkF m 127 #[.val (.int p0), .val (.int p1), .val (.int p2), .val (.int p3), .val (.int p4), .val (.int k_), .val (.ref w_SQRT), .val (.int v84), .val (.double v93), .second, .val (.double (FP.i2d (((p2.toUInt32 >>> ((1 : Int32) &&& 31).toUInt32).toInt32) &&& (1 : Int32)))), .second, .val (.ref b101), .val (.int v123), .val (.int v134), .unset] [(.int (3 : Int32)), (.int k_)]))
              have hd143 : ¬ (k_ = (3 : Int32)) := ld_0_127_142 p0 k_ hk_ hc7_1 hc7_79
              refine gob (fun _ k => XS.icmpYes X138.here hx rfl (pc0 := 127) (pc' := 135) rfl (hb hby at_127) rfl (feq hd143).2 (by decide) (by decide) k) ?_
              show Go _ _ _ _ _ _ _ (T136.setTop (mkF m 135 #[.val (.int p0), .val (.int p1), .val (.int p2), .val (.int p3), .val (.int p4), .val (.int k_), .val (.ref w_SQRT), .val (.int v84), .val (.double v93), .second, .val (.double (FP.i2d (((p2.toUInt32 >>> ((1 : Int32) &&& 31).toUInt32).toInt32) &&& (1 : Int32)))), .second, .val (.ref b101), .val (.int v123), .val (.int v134), .unset] []))
              refine gob (fun _ k => XS.iload X138.here hx rfl (hb hby at_135) rfl k) ?_
              show Go _ _ _ _ _ _ _ (T136.setTop (mkF m 137 #[.val (.int p0), .val (.int p1), .val (.int p2), .val (.int p3), .val (.int p4), .val (.int k_), .val (.ref w_SQRT), .val (.int v84), .val (.double v93), .second, .val (.double (FP.i2d (((p2.toUInt32 >>> ((1 : Int32) &&& 31).toUInt32).toInt32) &&& (1 : Int32)))), .second, .val (.ref b101), .val (.int v123), .val (.int v134), .unset] [(.int v134)]))
              refine gob (fun _ k => XS.istore X138.here hx rfl (hb hby at_137) rfl (l' := #[.val (.int p0), .val (.int p1), .val (.int p2), .val (.int p3), .val (.int p4), .val (.int k_), .val (.ref w_SQRT), .val (.int v84), .val (.double v93), .second, .val (.double (FP.i2d (((p2.toUInt32 >>> ((1 : Int32) &&& 31).toUInt32).toInt32) &&& (1 : Int32)))), .second, .val (.ref b101), .val (.int v123), .val (.int v134), .val (.int v134)]) rfl k) ?_
              show Go _ _ _ _ _ _ _ (T136.setTop (mkF m 139 #[.val (.int p0), .val (.int p1), .val (.int p2), .val (.int p3), .val (.int p4), .val (.int k_), .val (.ref w_SQRT), .val (.int v84), .val (.double v93), .second, .val (.double (FP.i2d (((p2.toUInt32 >>> ((1 : Int32) &&& 31).toUInt32).toInt32) &&& (1 : Int32)))), .second, .val (.ref b101), .val (.int v123), .val (.int v134), .val (.int v134)] []))
              refine gob (fun _ k => XS.aload X138.here hx rfl (hb hby at_139) rfl rfl k) ?_
              show Go _ _ _ _ _ _ _ (T136.setTop (mkF m 141 #[.val (.int p0), .val (.int p1), .val (.int p2), .val (.int p3), .val (.int p4), .val (.int k_), .val (.ref w_SQRT), .val (.int v84), .val (.double v93), .second, .val (.double (FP.i2d (((p2.toUInt32 >>> ((1 : Int32) &&& 31).toUInt32).toInt32) &&& (1 : Int32)))), .second, .val (.ref b101), .val (.int v123), .val (.int v134), .val (.int v134)] [(.ref b101)]))
              have c145 := ((c104.ext E101).keep K112 (ninS n105 nin0))
              have c146 := (A101.keep K112)
              obtain ⟨cq144, kq144, q144a, q144b, q144c⟩ := isOf hZ e139 c146
              obtain ⟨_, _, ⟨T144, L144, k144, n144⟩, -, X144, ⟨Lc144, hQ144, l144, y144, z144⟩, st144⟩ := X138.virtualBack hx (y := (⟨"com/example/robust_broker/robustbroker/Fit", "ranksDownward", "()Z"⟩ : MethodName)) (z := (⟨"com/example/robust_broker/robustbroker/Fit", "ranksDownward", "()Z"⟩ : MethodName)) hown (mvT hZ (hw _ (List.mem_of_getElem? (i := 31) rfl))) (mvT hZ (hw _ (List.mem_of_getElem? (i := 32) rfl))) (notFace_of_selects (args := #[]) (mvT hZ (hw _ (List.mem_of_getElem? (i := 34) rfl)))) (mvT hZ (hw _ (List.mem_of_getElem? (i := 34) rfl))) (mvT hZ (hw _ (List.mem_of_getElem? (i := 33) rfl))) (by decide) (backOf (W := 0) (rmrd0 l Z a0 hw [] b101 w_SQRT v93 T112.heap n0 z119 F113 c145 F114) hZ (hw _ (List.mem_of_getElem? (i := 35) rfl)) (hw _ (List.mem_of_getElem? (i := 9) rfl)) (by decide) (by decide)) q144a q144c (g := (mkF m 141 #[.val (.int p0), .val (.int p1), .val (.int p2), .val (.int p3), .val (.int p4), .val (.int k_), .val (.ref w_SQRT), .val (.int v84), .val (.double v93), .second, .val (.double (FP.i2d (((p2.toUInt32 >>> ((1 : Int32) &&& 31).toUInt32).toInt32) &&& (1 : Int32)))), .second, .val (.ref b101), .val (.int v123), .val (.int v134), .val (.int v134)] [(.ref b101)])) rfl (by rw [hml]; rfl) (Steps.refl _) (argsL := []) (rest := []) (lenOf pd_3 rfl) rfl (by show 2 * 0 + _ ≤ _; exact Nat.le_of_eq rfl) (hb hby at_141) (fun _ _ => ⟨rfl, e139, (by decide : 1 + 0 ≤ _), (by decide : 5 + 0 ≤ _)⟩)
              dsimp only [Pt.U, Pt.locs, Pt.cells, Pt.slots] at X144 l144 y144 z144 st144 hQ144
              replace X144 := castX X144 (y144.trans (rfl : _ = 1)) (z144.trans (rfl : _ = 5))
              obtain ⟨r144, rfl, hr144, Nq144, e144⟩ := hQ144
              have N144 : Fr n0 L144 := l144 ▸ Fr.app N140 Nq144
              refine gob (fun _ k => st144.trans k) ?_
              show Go _ _ _ _ _ _ _ (T144.setTop (mkF m 144 #[.val (.int p0), .val (.int p1), .val (.int p2), .val (.int p3), .val (.int p4), .val (.int k_), .val (.ref w_SQRT), .val (.int v84), .val (.double v93), .second, .val (.double (FP.i2d (((p2.toUInt32 >>> ((1 : Int32) &&& 31).toUInt32).toInt32) &&& (1 : Int32)))), .second, .val (.ref b101), .val (.int v123), .val (.int v134), .val (.int v134)] [(.int r144)]))
              refine gob (fun _ k => XS.iload X144.here hx rfl (hb hby at_144) rfl k) ?_
              show Go _ _ _ _ _ _ _ (T144.setTop (mkF m 146 #[.val (.int p0), .val (.int p1), .val (.int p2), .val (.int p3), .val (.int p4), .val (.int k_), .val (.ref w_SQRT), .val (.int v84), .val (.double v93), .second, .val (.double (FP.i2d (((p2.toUInt32 >>> ((1 : Int32) &&& 31).toUInt32).toInt32) &&& (1 : Int32)))), .second, .val (.ref b101), .val (.int v123), .val (.int v134), .val (.int v134)] [(.int v134), (.int r144)]))
              have hd148 : r144 = v134 := ld_0_146_147 p1 p2 v84 v93 v134 r144 hj91 hj100 hj141 hr144
              refine gob (fun _ k => XS.icmpNo X144.here hx rfl (hb hby at_146) rfl (teq hd148).2 k) ?_
              show Go _ _ _ _ _ _ _ (T144.setTop (mkF m 149 #[.val (.int p0), .val (.int p1), .val (.int p2), .val (.int p3), .val (.int p4), .val (.int k_), .val (.ref w_SQRT), .val (.int v84), .val (.double v93), .second, .val (.double (FP.i2d (((p2.toUInt32 >>> ((1 : Int32) &&& 31).toUInt32).toInt32) &&& (1 : Int32)))), .second, .val (.ref b101), .val (.int v123), .val (.int v134), .val (.int v134)] []))
              refine gob (fun _ k => XS.iconst X144.here hx rfl (hb hby at_149) k) ?_
              show Go _ _ _ _ _ _ _ (T144.setTop (mkF m 150 #[.val (.int p0), .val (.int p1), .val (.int p2), .val (.int p3), .val (.int p4), .val (.int k_), .val (.ref w_SQRT), .val (.int v84), .val (.double v93), .second, .val (.double (FP.i2d (((p2.toUInt32 >>> ((1 : Int32) &&& 31).toUInt32).toInt32) &&& (1 : Int32)))), .second, .val (.ref b101), .val (.int v123), .val (.int v134), .val (.int v134)] [(.int (1 : Int32))]))
              refine gob (fun _ k => XS.goto X144.here hx rfl (pc0 := 150) (pc' := 154) rfl (hb hby at_150) (by decide) (by decide) k) ?_
              show Go _ _ _ _ _ _ _ (T144.setTop (mkF m 154 #[.val (.int p0), .val (.int p1), .val (.int p2), .val (.int p3), .val (.int p4), .val (.int k_), .val (.ref w_SQRT), .val (.int v84), .val (.double v93), .second, .val (.double (FP.i2d (((p2.toUInt32 >>> ((1 : Int32) &&& 31).toUInt32).toInt32) &&& (1 : Int32)))), .second, .val (.ref b101), .val (.int v123), .val (.int v134), .val (.int v134)] [(.int (1 : Int32))]))
              refine goZ X144 hx hlk (t := .boolean) Bd.returns (by simp) (hb hby at_154) (z' := (1 : Int32)) rfl ?_ (by decide) (by decide)
              show Q0 Z p0 p1 p2 p3 p4 w_LIN w_SQRT w_LOG w_POW h0 n0 (some (.int (1 : Int32))) T144.heap _
              exact ⟨rfl, N144⟩
            by_cases hc98_149 : v84 = (0 : Int32)
            · skip
              refine gob (fun _ k => XS.ifYes X127.here hx rfl (pc0 := 98) (pc' := 113) rfl (hb hby at_98) rfl ((if0 _ _).trans (teq hc98_149).1) (by decide) (by decide) k) ?_
              show Go _ _ _ _ _ _ _ (T125.setTop (mkF m 113 #[.val (.int p0), .val (.int p1), .val (.int p2), .val (.int p3), .val (.int p4), .val (.int k_), .val (.ref w_SQRT), .val (.int v84), .val (.double v93), .second, .val (.double (FP.i2d (((p2.toUInt32 >>> ((1 : Int32) &&& 31).toUInt32).toInt32) &&& (1 : Int32)))), .second, .val (.ref b101), .val (.int v123), .unset, .unset] []))
              refine gob (fun _ k => XS.iloadN X127.here hx rfl (hb hby at_113) rfl k) ?_
              show Go _ _ _ _ _ _ _ (T125.setTop (mkF m 114 #[.val (.int p0), .val (.int p1), .val (.int p2), .val (.int p3), .val (.int p4), .val (.int k_), .val (.ref w_SQRT), .val (.int v84), .val (.double v93), .second, .val (.double (FP.i2d (((p2.toUInt32 >>> ((1 : Int32) &&& 31).toUInt32).toInt32) &&& (1 : Int32)))), .second, .val (.ref b101), .val (.int v123), .unset, .unset] [(.int p1)]))
              by_cases hc114_150 : p1 < (0 : Int32)
              · skip
                refine gob (fun _ k => XS.ifNo X127.here hx rfl (hb hby at_114) rfl ((if0 _ _).trans (tlt hc114_150).2.1) k) ?_
                show Go _ _ _ _ _ _ _ (T125.setTop (mkF m 117 #[.val (.int p0), .val (.int p1), .val (.int p2), .val (.int p3), .val (.int p4), .val (.int k_), .val (.ref w_SQRT), .val (.int v84), .val (.double v93), .second, .val (.double (FP.i2d (((p2.toUInt32 >>> ((1 : Int32) &&& 31).toUInt32).toInt32) &&& (1 : Int32)))), .second, .val (.ref b101), .val (.int v123), .unset, .unset] []))
                refine gob (fun _ k => XS.iconst X127.here hx rfl (hb hby at_117) k) ?_
                show Go _ _ _ _ _ _ _ (T125.setTop (mkF m 118 #[.val (.int p0), .val (.int p1), .val (.int p2), .val (.int p3), .val (.int p4), .val (.int k_), .val (.ref w_SQRT), .val (.int v84), .val (.double v93), .second, .val (.double (FP.i2d (((p2.toUInt32 >>> ((1 : Int32) &&& 31).toUInt32).toInt32) &&& (1 : Int32)))), .second, .val (.ref b101), .val (.int v123), .unset, .unset] [(.int (1 : Int32))]))
                refine gob (fun _ k => XS.goto X127.here hx rfl (pc0 := 118) (pc' := 122) rfl (hb hby at_118) (by decide) (by decide) k) ?_
                show Go _ _ _ _ _ _ _ (T125.setTop (mkF m 122 #[.val (.int p0), .val (.int p1), .val (.int p2), .val (.int p3), .val (.int p4), .val (.int k_), .val (.ref w_SQRT), .val (.int v84), .val (.double v93), .second, .val (.double (FP.i2d (((p2.toUInt32 >>> ((1 : Int32) &&& 31).toUInt32).toInt32) &&& (1 : Int32)))), .second, .val (.ref b101), .val (.int v123), .unset, .unset] [(.int (1 : Int32))]))
                exact join122_135 _ _ ((1 : Int32)) X127 e128 N129 (Or.inl ⟨hc98_149, hc114_150, rfl⟩)
              · skip
                refine gob (fun _ k => XS.ifYes X127.here hx rfl (pc0 := 114) (pc' := 121) rfl (hb hby at_114) rfl ((if0 _ _).trans (flt hc114_150).2.1) (by decide) (by decide) k) ?_
                show Go _ _ _ _ _ _ _ (T125.setTop (mkF m 121 #[.val (.int p0), .val (.int p1), .val (.int p2), .val (.int p3), .val (.int p4), .val (.int k_), .val (.ref w_SQRT), .val (.int v84), .val (.double v93), .second, .val (.double (FP.i2d (((p2.toUInt32 >>> ((1 : Int32) &&& 31).toUInt32).toInt32) &&& (1 : Int32)))), .second, .val (.ref b101), .val (.int v123), .unset, .unset] []))
                refine gob (fun _ k => XS.iconst X127.here hx rfl (hb hby at_121) k) ?_
                show Go _ _ _ _ _ _ _ (T125.setTop (mkF m 122 #[.val (.int p0), .val (.int p1), .val (.int p2), .val (.int p3), .val (.int p4), .val (.int k_), .val (.ref w_SQRT), .val (.int v84), .val (.double v93), .second, .val (.double (FP.i2d (((p2.toUInt32 >>> ((1 : Int32) &&& 31).toUInt32).toInt32) &&& (1 : Int32)))), .second, .val (.ref b101), .val (.int v123), .unset, .unset] [(.int (0 : Int32))]))
                exact join122_135 _ _ ((0 : Int32)) X127 e128 N129 (Or.inr (Or.inl ⟨hc98_149, hc114_150, rfl⟩))
            · skip
              refine gob (fun _ k => XS.ifNo X127.here hx rfl (hb hby at_98) rfl ((if0 _ _).trans (feq hc98_149).1) k) ?_
              show Go _ _ _ _ _ _ _ (T125.setTop (mkF m 101 #[.val (.int p0), .val (.int p1), .val (.int p2), .val (.int p3), .val (.int p4), .val (.int k_), .val (.ref w_SQRT), .val (.int v84), .val (.double v93), .second, .val (.double (FP.i2d (((p2.toUInt32 >>> ((1 : Int32) &&& 31).toUInt32).toInt32) &&& (1 : Int32)))), .second, .val (.ref b101), .val (.int v123), .unset, .unset] []))
              refine gob (fun _ k => XS.iloadN X127.here hx rfl (hb hby at_101) rfl k) ?_
              show Go _ _ _ _ _ _ _ (T125.setTop (mkF m 102 #[.val (.int p0), .val (.int p1), .val (.int p2), .val (.int p3), .val (.int p4), .val (.int k_), .val (.ref w_SQRT), .val (.int v84), .val (.double v93), .second, .val (.double (FP.i2d (((p2.toUInt32 >>> ((1 : Int32) &&& 31).toUInt32).toInt32) &&& (1 : Int32)))), .second, .val (.ref b101), .val (.int v123), .unset, .unset] [(.int p1)]))
              by_cases hc102_151 : (0 : Int32) < p1
              · skip
                refine gob (fun _ k => XS.ifNo X127.here hx rfl (hb hby at_102) rfl ((if0 _ _).trans (tlt hc102_151).2.2.2) k) ?_
                show Go _ _ _ _ _ _ _ (T125.setTop (mkF m 105 #[.val (.int p0), .val (.int p1), .val (.int p2), .val (.int p3), .val (.int p4), .val (.int k_), .val (.ref w_SQRT), .val (.int v84), .val (.double v93), .second, .val (.double (FP.i2d (((p2.toUInt32 >>> ((1 : Int32) &&& 31).toUInt32).toInt32) &&& (1 : Int32)))), .second, .val (.ref b101), .val (.int v123), .unset, .unset] []))
                refine gob (fun _ k => XS.iconst X127.here hx rfl (hb hby at_105) k) ?_
                show Go _ _ _ _ _ _ _ (T125.setTop (mkF m 106 #[.val (.int p0), .val (.int p1), .val (.int p2), .val (.int p3), .val (.int p4), .val (.int k_), .val (.ref w_SQRT), .val (.int v84), .val (.double v93), .second, .val (.double (FP.i2d (((p2.toUInt32 >>> ((1 : Int32) &&& 31).toUInt32).toInt32) &&& (1 : Int32)))), .second, .val (.ref b101), .val (.int v123), .unset, .unset] [(.int (1 : Int32))]))
                refine gob (fun _ k => XS.goto X127.here hx rfl (pc0 := 106) (pc' := 122) rfl (hb hby at_106) (by decide) (by decide) k) ?_
                show Go _ _ _ _ _ _ _ (T125.setTop (mkF m 122 #[.val (.int p0), .val (.int p1), .val (.int p2), .val (.int p3), .val (.int p4), .val (.int k_), .val (.ref w_SQRT), .val (.int v84), .val (.double v93), .second, .val (.double (FP.i2d (((p2.toUInt32 >>> ((1 : Int32) &&& 31).toUInt32).toInt32) &&& (1 : Int32)))), .second, .val (.ref b101), .val (.int v123), .unset, .unset] [(.int (1 : Int32))]))
                exact join122_135 _ _ ((1 : Int32)) X127 e128 N129 (Or.inr (Or.inr (Or.inl ⟨hc98_149, hc102_151, rfl⟩)))
              · skip
                refine gob (fun _ k => XS.ifYes X127.here hx rfl (pc0 := 102) (pc' := 109) rfl (hb hby at_102) rfl ((if0 _ _).trans (flt hc102_151).2.2.2) (by decide) (by decide) k) ?_
                show Go _ _ _ _ _ _ _ (T125.setTop (mkF m 109 #[.val (.int p0), .val (.int p1), .val (.int p2), .val (.int p3), .val (.int p4), .val (.int k_), .val (.ref w_SQRT), .val (.int v84), .val (.double v93), .second, .val (.double (FP.i2d (((p2.toUInt32 >>> ((1 : Int32) &&& 31).toUInt32).toInt32) &&& (1 : Int32)))), .second, .val (.ref b101), .val (.int v123), .unset, .unset] []))
                refine gob (fun _ k => XS.iconst X127.here hx rfl (hb hby at_109) k) ?_
                show Go _ _ _ _ _ _ _ (T125.setTop (mkF m 110 #[.val (.int p0), .val (.int p1), .val (.int p2), .val (.int p3), .val (.int p4), .val (.int k_), .val (.ref w_SQRT), .val (.int v84), .val (.double v93), .second, .val (.double (FP.i2d (((p2.toUInt32 >>> ((1 : Int32) &&& 31).toUInt32).toInt32) &&& (1 : Int32)))), .second, .val (.ref b101), .val (.int v123), .unset, .unset] [(.int (0 : Int32))]))
                refine gob (fun _ k => XS.goto X127.here hx rfl (pc0 := 110) (pc' := 122) rfl (hb hby at_110) (by decide) (by decide) k) ?_
                show Go _ _ _ _ _ _ _ (T125.setTop (mkF m 122 #[.val (.int p0), .val (.int p1), .val (.int p2), .val (.int p3), .val (.int p4), .val (.int k_), .val (.ref w_SQRT), .val (.int v84), .val (.double v93), .second, .val (.double (FP.i2d (((p2.toUInt32 >>> ((1 : Int32) &&& 31).toUInt32).toInt32) &&& (1 : Int32)))), .second, .val (.ref b101), .val (.int v123), .unset, .unset] [(.int (0 : Int32))]))
                exact join122_135 _ _ ((0 : Int32)) X127 e128 N129 (Or.inr (Or.inr (Or.inr ⟨hc98_149, hc102_151, rfl⟩)))
          by_cases hc70_152 : v84 = (0 : Int32)
          · skip
            refine gob (fun _ k => XS.ifYes X112.here hx rfl (pc0 := 70) (pc' := 85) rfl (hb hby at_70) rfl ((if0 _ _).trans (teq hc70_152).1) (by decide) (by decide) k) ?_
            show Go _ _ _ _ _ _ _ (T112.setTop (mkF m 85 #[.val (.int p0), .val (.int p1), .val (.int p2), .val (.int p3), .val (.int p4), .val (.int k_), .val (.ref w_SQRT), .val (.int v84), .val (.double v93), .second, .val (.double (FP.i2d (((p2.toUInt32 >>> ((1 : Int32) &&& 31).toUInt32).toInt32) &&& (1 : Int32)))), .second, .val (.ref b101), .unset, .unset, .unset] []))
            refine gob (fun _ k => XS.iloadN X112.here hx rfl (hb hby at_85) rfl k) ?_
            show Go _ _ _ _ _ _ _ (T112.setTop (mkF m 86 #[.val (.int p0), .val (.int p1), .val (.int p2), .val (.int p3), .val (.int p4), .val (.int k_), .val (.ref w_SQRT), .val (.int v84), .val (.double v93), .second, .val (.double (FP.i2d (((p2.toUInt32 >>> ((1 : Int32) &&& 31).toUInt32).toInt32) &&& (1 : Int32)))), .second, .val (.ref b101), .unset, .unset, .unset] [(.int p1)]))
            by_cases hc86_153 : (0 : Int32) < p1
            · skip
              refine gob (fun _ k => XS.ifNo X112.here hx rfl (hb hby at_86) rfl ((if0 _ _).trans (tlt hc86_153).2.2.2) k) ?_
              show Go _ _ _ _ _ _ _ (T112.setTop (mkF m 89 #[.val (.int p0), .val (.int p1), .val (.int p2), .val (.int p3), .val (.int p4), .val (.int k_), .val (.ref w_SQRT), .val (.int v84), .val (.double v93), .second, .val (.double (FP.i2d (((p2.toUInt32 >>> ((1 : Int32) &&& 31).toUInt32).toInt32) &&& (1 : Int32)))), .second, .val (.ref b101), .unset, .unset, .unset] []))
              refine gob (fun _ k => XS.iconst X112.here hx rfl (hb hby at_89) k) ?_
              show Go _ _ _ _ _ _ _ (T112.setTop (mkF m 90 #[.val (.int p0), .val (.int p1), .val (.int p2), .val (.int p3), .val (.int p4), .val (.int k_), .val (.ref w_SQRT), .val (.int v84), .val (.double v93), .second, .val (.double (FP.i2d (((p2.toUInt32 >>> ((1 : Int32) &&& 31).toUInt32).toInt32) &&& (1 : Int32)))), .second, .val (.ref b101), .unset, .unset, .unset] [(.int (1 : Int32))]))
              refine gob (fun _ k => XS.goto X112.here hx rfl (pc0 := 90) (pc' := 94) rfl (hb hby at_90) (by decide) (by decide) k) ?_
              show Go _ _ _ _ _ _ _ (T112.setTop (mkF m 94 #[.val (.int p0), .val (.int p1), .val (.int p2), .val (.int p3), .val (.int p4), .val (.int k_), .val (.ref w_SQRT), .val (.int v84), .val (.double v93), .second, .val (.double (FP.i2d (((p2.toUInt32 >>> ((1 : Int32) &&& 31).toUInt32).toInt32) &&& (1 : Int32)))), .second, .val (.ref b101), .unset, .unset, .unset] [(.int (1 : Int32))]))
              exact join94_124 _ _ ((1 : Int32)) X112 (rfl : T112.heap = _) N112 (Or.inl ⟨hc70_152, hc86_153, rfl⟩)
            · skip
              refine gob (fun _ k => XS.ifYes X112.here hx rfl (pc0 := 86) (pc' := 93) rfl (hb hby at_86) rfl ((if0 _ _).trans (flt hc86_153).2.2.2) (by decide) (by decide) k) ?_
              show Go _ _ _ _ _ _ _ (T112.setTop (mkF m 93 #[.val (.int p0), .val (.int p1), .val (.int p2), .val (.int p3), .val (.int p4), .val (.int k_), .val (.ref w_SQRT), .val (.int v84), .val (.double v93), .second, .val (.double (FP.i2d (((p2.toUInt32 >>> ((1 : Int32) &&& 31).toUInt32).toInt32) &&& (1 : Int32)))), .second, .val (.ref b101), .unset, .unset, .unset] []))
              refine gob (fun _ k => XS.iconst X112.here hx rfl (hb hby at_93) k) ?_
              show Go _ _ _ _ _ _ _ (T112.setTop (mkF m 94 #[.val (.int p0), .val (.int p1), .val (.int p2), .val (.int p3), .val (.int p4), .val (.int k_), .val (.ref w_SQRT), .val (.int v84), .val (.double v93), .second, .val (.double (FP.i2d (((p2.toUInt32 >>> ((1 : Int32) &&& 31).toUInt32).toInt32) &&& (1 : Int32)))), .second, .val (.ref b101), .unset, .unset, .unset] [(.int (0 : Int32))]))
              exact join94_124 _ _ ((0 : Int32)) X112 (rfl : T112.heap = _) N112 (Or.inr (Or.inl ⟨hc70_152, hc86_153, rfl⟩))
          · skip
            refine gob (fun _ k => XS.ifNo X112.here hx rfl (hb hby at_70) rfl ((if0 _ _).trans (feq hc70_152).1) k) ?_
            show Go _ _ _ _ _ _ _ (T112.setTop (mkF m 73 #[.val (.int p0), .val (.int p1), .val (.int p2), .val (.int p3), .val (.int p4), .val (.int k_), .val (.ref w_SQRT), .val (.int v84), .val (.double v93), .second, .val (.double (FP.i2d (((p2.toUInt32 >>> ((1 : Int32) &&& 31).toUInt32).toInt32) &&& (1 : Int32)))), .second, .val (.ref b101), .unset, .unset, .unset] []))
            refine gob (fun _ k => XS.iloadN X112.here hx rfl (hb hby at_73) rfl k) ?_
            show Go _ _ _ _ _ _ _ (T112.setTop (mkF m 74 #[.val (.int p0), .val (.int p1), .val (.int p2), .val (.int p3), .val (.int p4), .val (.int k_), .val (.ref w_SQRT), .val (.int v84), .val (.double v93), .second, .val (.double (FP.i2d (((p2.toUInt32 >>> ((1 : Int32) &&& 31).toUInt32).toInt32) &&& (1 : Int32)))), .second, .val (.ref b101), .unset, .unset, .unset] [(.int p1)]))
            by_cases hc74_154 : p1 < (0 : Int32)
            · skip
              refine gob (fun _ k => XS.ifNo X112.here hx rfl (hb hby at_74) rfl ((if0 _ _).trans (tlt hc74_154).2.1) k) ?_
              show Go _ _ _ _ _ _ _ (T112.setTop (mkF m 77 #[.val (.int p0), .val (.int p1), .val (.int p2), .val (.int p3), .val (.int p4), .val (.int k_), .val (.ref w_SQRT), .val (.int v84), .val (.double v93), .second, .val (.double (FP.i2d (((p2.toUInt32 >>> ((1 : Int32) &&& 31).toUInt32).toInt32) &&& (1 : Int32)))), .second, .val (.ref b101), .unset, .unset, .unset] []))
              refine gob (fun _ k => XS.iconst X112.here hx rfl (hb hby at_77) k) ?_
              show Go _ _ _ _ _ _ _ (T112.setTop (mkF m 78 #[.val (.int p0), .val (.int p1), .val (.int p2), .val (.int p3), .val (.int p4), .val (.int k_), .val (.ref w_SQRT), .val (.int v84), .val (.double v93), .second, .val (.double (FP.i2d (((p2.toUInt32 >>> ((1 : Int32) &&& 31).toUInt32).toInt32) &&& (1 : Int32)))), .second, .val (.ref b101), .unset, .unset, .unset] [(.int (1 : Int32))]))
              refine gob (fun _ k => XS.goto X112.here hx rfl (pc0 := 78) (pc' := 94) rfl (hb hby at_78) (by decide) (by decide) k) ?_
              show Go _ _ _ _ _ _ _ (T112.setTop (mkF m 94 #[.val (.int p0), .val (.int p1), .val (.int p2), .val (.int p3), .val (.int p4), .val (.int k_), .val (.ref w_SQRT), .val (.int v84), .val (.double v93), .second, .val (.double (FP.i2d (((p2.toUInt32 >>> ((1 : Int32) &&& 31).toUInt32).toInt32) &&& (1 : Int32)))), .second, .val (.ref b101), .unset, .unset, .unset] [(.int (1 : Int32))]))
              exact join94_124 _ _ ((1 : Int32)) X112 (rfl : T112.heap = _) N112 (Or.inr (Or.inr (Or.inl ⟨hc70_152, hc74_154, rfl⟩)))
            · skip
              refine gob (fun _ k => XS.ifYes X112.here hx rfl (pc0 := 74) (pc' := 81) rfl (hb hby at_74) rfl ((if0 _ _).trans (flt hc74_154).2.1) (by decide) (by decide) k) ?_
              show Go _ _ _ _ _ _ _ (T112.setTop (mkF m 81 #[.val (.int p0), .val (.int p1), .val (.int p2), .val (.int p3), .val (.int p4), .val (.int k_), .val (.ref w_SQRT), .val (.int v84), .val (.double v93), .second, .val (.double (FP.i2d (((p2.toUInt32 >>> ((1 : Int32) &&& 31).toUInt32).toInt32) &&& (1 : Int32)))), .second, .val (.ref b101), .unset, .unset, .unset] []))
              refine gob (fun _ k => XS.iconst X112.here hx rfl (hb hby at_81) k) ?_
              show Go _ _ _ _ _ _ _ (T112.setTop (mkF m 82 #[.val (.int p0), .val (.int p1), .val (.int p2), .val (.int p3), .val (.int p4), .val (.int k_), .val (.ref w_SQRT), .val (.int v84), .val (.double v93), .second, .val (.double (FP.i2d (((p2.toUInt32 >>> ((1 : Int32) &&& 31).toUInt32).toInt32) &&& (1 : Int32)))), .second, .val (.ref b101), .unset, .unset, .unset] [(.int (0 : Int32))]))
              refine gob (fun _ k => XS.goto X112.here hx rfl (pc0 := 82) (pc' := 94) rfl (hb hby at_82) (by decide) (by decide) k) ?_
              show Go _ _ _ _ _ _ _ (T112.setTop (mkF m 94 #[.val (.int p0), .val (.int p1), .val (.int p2), .val (.int p3), .val (.int p4), .val (.int k_), .val (.ref w_SQRT), .val (.int v84), .val (.double v93), .second, .val (.double (FP.i2d (((p2.toUInt32 >>> ((1 : Int32) &&& 31).toUInt32).toInt32) &&& (1 : Int32)))), .second, .val (.ref b101), .unset, .unset, .unset] [(.int (0 : Int32))]))
              exact join94_124 _ _ ((0 : Int32)) X112 (rfl : T112.heap = _) N112 (Or.inr (Or.inr (Or.inr ⟨hc70_152, hc74_154, rfl⟩)))
        by_cases hc27_155 : v84 = (0 : Int32)
        · skip
          refine gob (fun _ k => XS.ifYes X88.here hx rfl (pc0 := 27) (pc' := 36) rfl (hb hby at_27) rfl ((if0 _ _).trans (teq hc27_155).1) (by decide) (by decide) k) ?_
          show Go _ _ _ _ _ _ _ (T86.setTop (mkF m 36 #[.val (.int p0), .val (.int p1), .val (.int p2), .val (.int p3), .val (.int p4), .val (.int k_), .val (.ref w_SQRT), .val (.int v84), .unset, .unset, .unset, .unset, .unset, .unset, .unset, .unset] []))
          refine gob (fun _ k => XS.iloadN X88.here hx rfl (hb hby at_36) rfl k) ?_
          show Go _ _ _ _ _ _ _ (T86.setTop (mkF m 37 #[.val (.int p0), .val (.int p1), .val (.int p2), .val (.int p3), .val (.int p4), .val (.int k_), .val (.ref w_SQRT), .val (.int v84), .unset, .unset, .unset, .unset, .unset, .unset, .unset, .unset] [(.int p1)]))
          refine gob (fun _ k => XS.i2dS X88.here hx rfl (hb hby at_37) rfl (v := (FP.i2d p1)) rfl k) ?_
          show Go _ _ _ _ _ _ _ (T86.setTop (mkF m 38 #[.val (.int p0), .val (.int p1), .val (.int p2), .val (.int p3), .val (.int p4), .val (.int k_), .val (.ref w_SQRT), .val (.int v84), .unset, .unset, .unset, .unset, .unset, .unset, .unset, .unset] [(.double (FP.i2d p1))]))
          exact join38_94 _ _ ((FP.i2d p1)) X88 e89 N90 (Or.inl ⟨hc27_155, rfl⟩)
        · skip
          refine gob (fun _ k => XS.ifNo X88.here hx rfl (hb hby at_27) rfl ((if0 _ _).trans (feq hc27_155).1) k) ?_
          show Go _ _ _ _ _ _ _ (T86.setTop (mkF m 30 #[.val (.int p0), .val (.int p1), .val (.int p2), .val (.int p3), .val (.int p4), .val (.int k_), .val (.ref w_SQRT), .val (.int v84), .unset, .unset, .unset, .unset, .unset, .unset, .unset, .unset] []))
          refine gob (fun _ k => XS.iloadN X88.here hx rfl (hb hby at_30) rfl k) ?_
          show Go _ _ _ _ _ _ _ (T86.setTop (mkF m 31 #[.val (.int p0), .val (.int p1), .val (.int p2), .val (.int p3), .val (.int p4), .val (.int k_), .val (.ref w_SQRT), .val (.int v84), .unset, .unset, .unset, .unset, .unset, .unset, .unset, .unset] [(.int p1)]))
          refine gob (fun _ k => XS.i2dS X88.here hx rfl (hb hby at_31) rfl (v := (FP.i2d p1)) rfl k) ?_
          show Go _ _ _ _ _ _ _ (T86.setTop (mkF m 32 #[.val (.int p0), .val (.int p1), .val (.int p2), .val (.int p3), .val (.int p4), .val (.int k_), .val (.ref w_SQRT), .val (.int v84), .unset, .unset, .unset, .unset, .unset, .unset, .unset, .unset] [(.double (FP.i2d p1))]))
          refine gob (fun _ k => XS.dnegS X88.here hx rfl (hb hby at_32) rfl (v := (FP.dneg (FP.i2d p1))) rfl k) ?_
          show Go _ _ _ _ _ _ _ (T86.setTop (mkF m 33 #[.val (.int p0), .val (.int p1), .val (.int p2), .val (.int p3), .val (.int p4), .val (.int k_), .val (.ref w_SQRT), .val (.int v84), .unset, .unset, .unset, .unset, .unset, .unset, .unset, .unset] [(.double (FP.dneg (FP.i2d p1)))]))
          refine gob (fun _ k => XS.goto X88.here hx rfl (pc0 := 33) (pc' := 38) rfl (hb hby at_33) (by decide) (by decide) k) ?_
          show Go _ _ _ _ _ _ _ (T86.setTop (mkF m 38 #[.val (.int p0), .val (.int p1), .val (.int p2), .val (.int p3), .val (.int p4), .val (.int k_), .val (.ref w_SQRT), .val (.int v84), .unset, .unset, .unset, .unset, .unset, .unset, .unset, .unset] [(.double (FP.dneg (FP.i2d p1)))]))
          exact join38_94 _ _ ((FP.dneg (FP.i2d p1))) X88 e89 N90 (Or.inr ⟨hc27_155, rfl⟩)
      by_cases hc15_156 : (p2 &&& (1 : Int32)) = (0 : Int32)
      · skip
        refine gob (fun _ k => XS.ifYes X80.here hx rfl (pc0 := 15) (pc' := 22) rfl (hb hby at_15) rfl ((if0 _ _).trans (teq hc15_156).1) (by decide) (by decide) k) ?_
        show Go _ _ _ _ _ _ _ (T80.setTop (mkF m 22 #[.val (.int p0), .val (.int p1), .val (.int p2), .val (.int p3), .val (.int p4), .val (.int k_), .val (.ref w_SQRT), .unset, .unset, .unset, .unset, .unset, .unset, .unset, .unset, .unset] []))
        refine gob (fun _ k => XS.iconst X80.here hx rfl (hb hby at_22) k) ?_
        show Go _ _ _ _ _ _ _ (T80.setTop (mkF m 23 #[.val (.int p0), .val (.int p1), .val (.int p2), .val (.int p3), .val (.int p4), .val (.int k_), .val (.ref w_SQRT), .unset, .unset, .unset, .unset, .unset, .unset, .unset, .unset, .unset] [(.int (0 : Int32))]))
        exact join23_85 _ _ ((0 : Int32)) X80 (rfl : T80.heap = _) N80 (Or.inl ⟨hc15_156, rfl⟩)
      · skip
        refine gob (fun _ k => XS.ifNo X80.here hx rfl (hb hby at_15) rfl ((if0 _ _).trans (feq hc15_156).1) k) ?_
        show Go _ _ _ _ _ _ _ (T80.setTop (mkF m 18 #[.val (.int p0), .val (.int p1), .val (.int p2), .val (.int p3), .val (.int p4), .val (.int k_), .val (.ref w_SQRT), .unset, .unset, .unset, .unset, .unset, .unset, .unset, .unset, .unset] []))
        refine gob (fun _ k => XS.iconst X80.here hx rfl (hb hby at_18) k) ?_
        show Go _ _ _ _ _ _ _ (T80.setTop (mkF m 19 #[.val (.int p0), .val (.int p1), .val (.int p2), .val (.int p3), .val (.int p4), .val (.int k_), .val (.ref w_SQRT), .unset, .unset, .unset, .unset, .unset, .unset, .unset, .unset, .unset] [(.int (1 : Int32))]))
        refine gob (fun _ k => XS.goto X80.here hx rfl (pc0 := 19) (pc' := 23) rfl (hb hby at_19) (by decide) (by decide) k) ?_
        show Go _ _ _ _ _ _ _ (T80.setTop (mkF m 23 #[.val (.int p0), .val (.int p1), .val (.int p2), .val (.int p3), .val (.int p4), .val (.int k_), .val (.ref w_SQRT), .unset, .unset, .unset, .unset, .unset, .unset, .unset, .unset, .unset] [(.int (1 : Int32))]))
        exact join23_85 _ _ ((1 : Int32)) X80 (rfl : T80.heap = _) N80 (Or.inr ⟨hc15_156, rfl⟩)
    · skip
      show Go _ _ _ _ _ _ _ (s₁.setTop (mkF m 7 #[.val (.int p0), .val (.int p1), .val (.int p2), .val (.int p3), .val (.int p4), .val (.int k_), .unset, .unset, .unset, .unset, .unset, .unset, .unset, .unset, .unset, .unset] [(.int k_)]))
      by_cases hc7_157 : k_ = (2 : Int32)
      · skip
        show Go _ _ _ _ _ _ _ (s₁.setTop (mkF m 7 #[.val (.int p0), .val (.int p1), .val (.int p2), .val (.int p3), .val (.int p4), .val (.int k_), .unset, .unset, .unset, .unset, .unset, .unset, .unset, .unset, .unset, .unset] [(.int k_)]))
        obtain ⟨_, _, ⟨T158, L158, k158, n158⟩, -, X158, ⟨Lc158, hQ158, l158, y158, z158⟩, st158⟩ := Jvm.LawKit.callS X0 hx (y := (⟨"com/example/robust_broker/robustbroker/FitRanksDownwardPinLaw", "formOf", "(I)Lcom/example/robust_broker/robustbroker/Fit$Form;"⟩ : MethodName)) hown (mvT hZ (hw _ (List.mem_of_getElem? (i := 0) rfl))) (mvT hZ (hw _ (List.mem_of_getElem? (i := 1) rfl))) (mvT hZ (hw _ (List.mem_of_getElem? (i := 2) rfl))) (mvT hZ (hw _ (List.mem_of_getElem? (i := 3) rfl))) (by decide) (backOf (W := 0) (rmfoLOG l Z a0 hw [] k_ w_LOG h0 n0 Z0 S_LOG hc7_1 hc7_79 hc7_157) hZ (hw _ (List.mem_of_getElem? (i := 3) rfl)) (hw _ (List.mem_of_getElem? (i := 2) rfl)) (by decide) (by decide)) (g := (mkF m 7 #[.val (.int p0), .val (.int p1), .val (.int p2), .val (.int p3), .val (.int p4), .val (.int k_), .unset, .unset, .unset, .unset, .unset, .unset, .unset, .unset, .unset, .unset] [(.int k_)])) rfl (by rw [hml]; rfl) (argsL := [(.int k_)]) (rest := []) (lenOf pd_1 rfl) rfl (by show 2 * 0 + _ ≤ _; exact Nat.le_of_eq rfl) (hb hby at_7) (fun _ _ => ⟨rfl, e0, (by decide : 0 + 0 ≤ _), (by decide : 0 + 0 ≤ _)⟩)
        dsimp only [Pt.U, Pt.locs, Pt.cells, Pt.slots] at X158 l158 y158 z158 st158 hQ158
        replace X158 := castX X158 (y158.trans (rfl : _ = 0)) (z158.trans (rfl : _ = 0))
        obtain ⟨rfl, Nq158, K158⟩ := hQ158
        have N158 : Fr n0 L158 := l158 ▸ Fr.app N0 Nq158
        have ns159 := (ns0 (h := h0))
        have z160 : n0 ≤ T158.heap.size := Nat.le_trans Z0 K158.1
        refine gob st158 ?_
        show Go _ _ _ _ _ _ _ (T158.setTop (mkF m 10 #[.val (.int p0), .val (.int p1), .val (.int p2), .val (.int p3), .val (.int p4), .val (.int k_), .unset, .unset, .unset, .unset, .unset, .unset, .unset, .unset, .unset, .unset] [(.ref w_LOG)]))
        refine gob (fun _ k => XS.astore X158.here hx rfl (hb hby at_10) rfl rfl (l' := #[.val (.int p0), .val (.int p1), .val (.int p2), .val (.int p3), .val (.int p4), .val (.int k_), .val (.ref w_LOG), .unset, .unset, .unset, .unset, .unset, .unset, .unset, .unset, .unset]) rfl k) ?_
        show Go _ _ _ _ _ _ _ (T158.setTop (mkF m 12 #[.val (.int p0), .val (.int p1), .val (.int p2), .val (.int p3), .val (.int p4), .val (.int k_), .val (.ref w_LOG), .unset, .unset, .unset, .unset, .unset, .unset, .unset, .unset, .unset] []))
        refine gob (fun _ k => XS.iloadN X158.here hx rfl (hb hby at_12) rfl k) ?_
        show Go _ _ _ _ _ _ _ (T158.setTop (mkF m 13 #[.val (.int p0), .val (.int p1), .val (.int p2), .val (.int p3), .val (.int p4), .val (.int k_), .val (.ref w_LOG), .unset, .unset, .unset, .unset, .unset, .unset, .unset, .unset, .unset] [(.int p2)]))
        refine gob (fun _ k => XS.iconst X158.here hx rfl (hb hby at_13) k) ?_
        show Go _ _ _ _ _ _ _ (T158.setTop (mkF m 14 #[.val (.int p0), .val (.int p1), .val (.int p2), .val (.int p3), .val (.int p4), .val (.int k_), .val (.ref w_LOG), .unset, .unset, .unset, .unset, .unset, .unset, .unset, .unset, .unset] [(.int (1 : Int32)), (.int p2)]))
        refine gob (fun _ k => XS.iand X158.here hx rfl (hb hby at_14) rfl k) ?_
        show Go _ _ _ _ _ _ _ (T158.setTop (mkF m 15 #[.val (.int p0), .val (.int p1), .val (.int p2), .val (.int p3), .val (.int p4), .val (.int k_), .val (.ref w_LOG), .unset, .unset, .unset, .unset, .unset, .unset, .unset, .unset, .unset] [(.int (p2 &&& (1 : Int32)))]))
        have join23_163 : ∀ (T164 : State) (lj165 : List Loc) (v162 : Int32), Stand p l e room_1 s m #[(.int p0), (.int p1), (.int p2), (.int p3), (.int p4)] below meth c T164 lj165 0 0 → T164.heap = T158.heap → Fr n0 lj165 → ((p2 &&& (1 : Int32)) = (0 : Int32) ∧ v162 = (0 : Int32)) ∨ (¬ ((p2 &&& (1 : Int32)) = (0 : Int32)) ∧ v162 = (1 : Int32)) → Go p e below s (Q0 Z p0 p1 p2 p3 p4 w_LIN w_SQRT w_LOG w_POW h0 n0) 16 128 (T164.setTop (mkF m 23 #[.val (.int p0), .val (.int p1), .val (.int p2), .val (.int p3), .val (.int p4), .val (.int k_), .val (.ref w_LOG), .unset, .unset, .unset, .unset, .unset, .unset, .unset, .unset, .unset] [(.int v162)])) := by
          intro T164 lj165 v162 X166 e167 N168 hj169
          show Go _ _ _ _ _ _ _ (T164.setTop (mkF m 23 #[.val (.int p0), .val (.int p1), .val (.int p2), .val (.int p3), .val (.int p4), .val (.int k_), .val (.ref w_LOG), .unset, .unset, .unset, .unset, .unset, .unset, .unset, .unset, .unset] [(.int v162)]))
          refine gob (fun _ k => XS.istore X166.here hx rfl (hb hby at_23) rfl (l' := #[.val (.int p0), .val (.int p1), .val (.int p2), .val (.int p3), .val (.int p4), .val (.int k_), .val (.ref w_LOG), .val (.int v162), .unset, .unset, .unset, .unset, .unset, .unset, .unset, .unset]) rfl k) ?_
          show Go _ _ _ _ _ _ _ (T164.setTop (mkF m 25 #[.val (.int p0), .val (.int p1), .val (.int p2), .val (.int p3), .val (.int p4), .val (.int k_), .val (.ref w_LOG), .val (.int v162), .unset, .unset, .unset, .unset, .unset, .unset, .unset, .unset] []))
          refine gob (fun _ k => XS.iload X166.here hx rfl (hb hby at_25) rfl k) ?_
          show Go _ _ _ _ _ _ _ (T164.setTop (mkF m 27 #[.val (.int p0), .val (.int p1), .val (.int p2), .val (.int p3), .val (.int p4), .val (.int k_), .val (.ref w_LOG), .val (.int v162), .unset, .unset, .unset, .unset, .unset, .unset, .unset, .unset] [(.int v162)]))
          have join38_172 : ∀ (T173 : State) (lj174 : List Loc) (v171 : UInt64), Stand p l e room_1 s m #[(.int p0), (.int p1), (.int p2), (.int p3), (.int p4)] below meth c T173 lj174 0 0 → T173.heap = T158.heap → Fr n0 lj174 → (v162 = (0 : Int32) ∧ v171 = (FP.i2d p1)) ∨ (¬ (v162 = (0 : Int32)) ∧ v171 = (FP.dneg (FP.i2d p1))) → Go p e below s (Q0 Z p0 p1 p2 p3 p4 w_LIN w_SQRT w_LOG w_POW h0 n0) 16 128 (T173.setTop (mkF m 38 #[.val (.int p0), .val (.int p1), .val (.int p2), .val (.int p3), .val (.int p4), .val (.int k_), .val (.ref w_LOG), .val (.int v162), .unset, .unset, .unset, .unset, .unset, .unset, .unset, .unset] [(.double v171)])) := by
            intro T173 lj174 v171 X175 e176 N177 hj178
            show Go _ _ _ _ _ _ _ (T173.setTop (mkF m 38 #[.val (.int p0), .val (.int p1), .val (.int p2), .val (.int p3), .val (.int p4), .val (.int k_), .val (.ref w_LOG), .val (.int v162), .unset, .unset, .unset, .unset, .unset, .unset, .unset, .unset] [(.double v171)]))
            refine gob (fun _ k => XS.dstore X175.here hx rfl (hb hby at_38) rfl (l' := #[.val (.int p0), .val (.int p1), .val (.int p2), .val (.int p3), .val (.int p4), .val (.int k_), .val (.ref w_LOG), .val (.int v162), .val (.double v171), .second, .unset, .unset, .unset, .unset, .unset, .unset]) rfl k) ?_
            show Go _ _ _ _ _ _ _ (T173.setTop (mkF m 40 #[.val (.int p0), .val (.int p1), .val (.int p2), .val (.int p3), .val (.int p4), .val (.int k_), .val (.ref w_LOG), .val (.int v162), .val (.double v171), .second, .unset, .unset, .unset, .unset, .unset, .unset] []))
            refine gob (fun _ k => XS.iloadN X175.here hx rfl (hb hby at_40) rfl k) ?_
            show Go _ _ _ _ _ _ _ (T173.setTop (mkF m 41 #[.val (.int p0), .val (.int p1), .val (.int p2), .val (.int p3), .val (.int p4), .val (.int k_), .val (.ref w_LOG), .val (.int v162), .val (.double v171), .second, .unset, .unset, .unset, .unset, .unset, .unset] [(.int p2)]))
            refine gob (fun _ k => XS.iconst X175.here hx rfl (hb hby at_41) k) ?_
            show Go _ _ _ _ _ _ _ (T173.setTop (mkF m 42 #[.val (.int p0), .val (.int p1), .val (.int p2), .val (.int p3), .val (.int p4), .val (.int k_), .val (.ref w_LOG), .val (.int v162), .val (.double v171), .second, .unset, .unset, .unset, .unset, .unset, .unset] [(.int (1 : Int32)), (.int p2)]))
            refine gob (fun _ k => XS.iushr X175.here hx rfl (hb hby at_42) rfl k) ?_
            show Go _ _ _ _ _ _ _ (T173.setTop (mkF m 43 #[.val (.int p0), .val (.int p1), .val (.int p2), .val (.int p3), .val (.int p4), .val (.int k_), .val (.ref w_LOG), .val (.int v162), .val (.double v171), .second, .unset, .unset, .unset, .unset, .unset, .unset] [(.int ((p2.toUInt32 >>> ((1 : Int32) &&& 31).toUInt32).toInt32))]))
            refine gob (fun _ k => XS.iconst X175.here hx rfl (hb hby at_43) k) ?_
            show Go _ _ _ _ _ _ _ (T173.setTop (mkF m 44 #[.val (.int p0), .val (.int p1), .val (.int p2), .val (.int p3), .val (.int p4), .val (.int k_), .val (.ref w_LOG), .val (.int v162), .val (.double v171), .second, .unset, .unset, .unset, .unset, .unset, .unset] [(.int (1 : Int32)), (.int ((p2.toUInt32 >>> ((1 : Int32) &&& 31).toUInt32).toInt32))]))
            refine gob (fun _ k => XS.iand X175.here hx rfl (hb hby at_44) rfl k) ?_
            show Go _ _ _ _ _ _ _ (T173.setTop (mkF m 45 #[.val (.int p0), .val (.int p1), .val (.int p2), .val (.int p3), .val (.int p4), .val (.int k_), .val (.ref w_LOG), .val (.int v162), .val (.double v171), .second, .unset, .unset, .unset, .unset, .unset, .unset] [(.int (((p2.toUInt32 >>> ((1 : Int32) &&& 31).toUInt32).toInt32) &&& (1 : Int32)))]))
            refine gob (fun _ k => XS.i2dS X175.here hx rfl (hb hby at_45) rfl (v := (FP.i2d (((p2.toUInt32 >>> ((1 : Int32) &&& 31).toUInt32).toInt32) &&& (1 : Int32)))) rfl k) ?_
            show Go _ _ _ _ _ _ _ (T173.setTop (mkF m 46 #[.val (.int p0), .val (.int p1), .val (.int p2), .val (.int p3), .val (.int p4), .val (.int k_), .val (.ref w_LOG), .val (.int v162), .val (.double v171), .second, .unset, .unset, .unset, .unset, .unset, .unset] [(.double (FP.i2d (((p2.toUInt32 >>> ((1 : Int32) &&& 31).toUInt32).toInt32) &&& (1 : Int32))))]))
            refine gob (fun _ k => XS.dstore X175.here hx rfl (hb hby at_46) rfl (l' := #[.val (.int p0), .val (.int p1), .val (.int p2), .val (.int p3), .val (.int p4), .val (.int k_), .val (.ref w_LOG), .val (.int v162), .val (.double v171), .second, .val (.double (FP.i2d (((p2.toUInt32 >>> ((1 : Int32) &&& 31).toUInt32).toInt32) &&& (1 : Int32)))), .second, .unset, .unset, .unset, .unset]) rfl k) ?_
            show Go _ _ _ _ _ _ _ (T173.setTop (mkF m 48 #[.val (.int p0), .val (.int p1), .val (.int p2), .val (.int p3), .val (.int p4), .val (.int k_), .val (.ref w_LOG), .val (.int v162), .val (.double v171), .second, .val (.double (FP.i2d (((p2.toUInt32 >>> ((1 : Int32) &&& 31).toUInt32).toInt32) &&& (1 : Int32)))), .second, .unset, .unset, .unset, .unset] []))
            obtain ⟨T179, h179, X179, e179, E179, A179, D179, -, st179⟩ := newO X175 hx hZ hown (hw _ (List.mem_of_getElem? (i := 7) rfl)) (hw _ (List.mem_of_getElem? (i := 8) rfl)) (hw _ (List.mem_of_getElem? (i := 9) rfl)) e176 (g := (mkF m 48 #[.val (.int p0), .val (.int p1), .val (.int p2), .val (.int p3), .val (.int p4), .val (.int k_), .val (.ref w_LOG), .val (.int v162), .val (.double v171), .second, .val (.double (FP.i2d (((p2.toUInt32 >>> ((1 : Int32) &&& 31).toUInt32).toInt32) &&& (1 : Int32)))), .second, .unset, .unset, .unset, .unset] [])) rfl (hb hby at_48) (by decide) (by decide)
            obtain ⟨b179, g179⟩ : ∃ z, z = T158.heap.size := ⟨_, rfl⟩
            rw [← g179] at A179 D179 st179
            have c180 := (F_LIN.keep K158 nin0)
            have n181 : w_LIN ≠ b179 := Nat.ne_of_lt (Nat.lt_of_lt_of_le c180.lt (Nat.le_of_eq g179.symm))
            have c182 := (F_SQRT.keep K158 nin0)
            have n183 : w_SQRT ≠ b179 := Nat.ne_of_lt (Nat.lt_of_lt_of_le c182.lt (Nat.le_of_eq g179.symm))
            have c184 := (F_LOG.keep K158 nin0)
            have n185 : w_LOG ≠ b179 := Nat.ne_of_lt (Nat.lt_of_lt_of_le c184.lt (Nat.le_of_eq g179.symm))
            have c186 := (F_POW.keep K158 nin0)
            have n187 : w_POW ≠ b179 := Nat.ne_of_lt (Nat.lt_of_lt_of_le c186.lt (Nat.le_of_eq g179.symm))
            have g188 : n0 ≤ b179 := Nat.le_trans z160 (Nat.le_of_eq g179.symm)
            have z189 : n0 ≤ h179.size := Nat.le_trans z160 E179.1
            have F179_form : Fld Z h179 b179 "com/example/robust_broker/robustbroker/Fit" "form" "Lcom/example/robust_broker/robustbroker/Fit$Form;" .null := D179 (Or.inr (hw _ (List.mem_of_getElem? (i := 22) rfl))) (ty := (.object "com/example/robust_broker/robustbroker/Fit$Form")) (by decide)
            have F179_a : Fld Z h179 b179 "com/example/robust_broker/robustbroker/Fit" "a" "D" (.double 0) := D179 (Or.inr (hw _ (List.mem_of_getElem? (i := 24) rfl))) (ty := .double) (by decide)
            have F179_b : Fld Z h179 b179 "com/example/robust_broker/robustbroker/Fit" "b" "D" (.double 0) := D179 (Or.inr (hw _ (List.mem_of_getElem? (i := 26) rfl))) (ty := .double) (by decide)
            have F179_r2 : Fld Z h179 b179 "com/example/robust_broker/robustbroker/Fit" "r2" "D" (.double 0) := D179 (Or.inr (hw _ (List.mem_of_getElem? (i := 28) rfl))) (ty := .double) (by decide)
            have F179_cap : Fld Z h179 b179 "com/example/robust_broker/robustbroker/Fit" "cap" "D" (.double 0) := D179 (Or.inr (hw _ (List.mem_of_getElem? (i := 30) rfl))) (ty := .double) (by decide)
            refine gob st179 ?_
            replace X179 := castX X179 (rfl : _ = 1) (rfl : _ = 5)
            show Go _ _ _ _ _ _ _ (T179.setTop (mkF m 51 #[.val (.int p0), .val (.int p1), .val (.int p2), .val (.int p3), .val (.int p4), .val (.int k_), .val (.ref w_LOG), .val (.int v162), .val (.double v171), .second, .val (.double (FP.i2d (((p2.toUInt32 >>> ((1 : Int32) &&& 31).toUInt32).toInt32) &&& (1 : Int32)))), .second, .unset, .unset, .unset, .unset] [(.ref b179)]))
            refine gob (fun _ k => XS.dup X179.here hx rfl (hb hby at_51) rfl rfl k) ?_
            show Go _ _ _ _ _ _ _ (T179.setTop (mkF m 52 #[.val (.int p0), .val (.int p1), .val (.int p2), .val (.int p3), .val (.int p4), .val (.int k_), .val (.ref w_LOG), .val (.int v162), .val (.double v171), .second, .val (.double (FP.i2d (((p2.toUInt32 >>> ((1 : Int32) &&& 31).toUInt32).toInt32) &&& (1 : Int32)))), .second, .unset, .unset, .unset, .unset] [(.ref b179), (.ref b179)]))
            refine gob (fun _ k => XS.aload X179.here hx rfl (hb hby at_52) rfl rfl k) ?_
            show Go _ _ _ _ _ _ _ (T179.setTop (mkF m 54 #[.val (.int p0), .val (.int p1), .val (.int p2), .val (.int p3), .val (.int p4), .val (.int k_), .val (.ref w_LOG), .val (.int v162), .val (.double v171), .second, .val (.double (FP.i2d (((p2.toUInt32 >>> ((1 : Int32) &&& 31).toUInt32).toInt32) &&& (1 : Int32)))), .second, .unset, .unset, .unset, .unset] [(.ref w_LOG), (.ref b179), (.ref b179)]))
            refine gob (fun _ k => XS.dload X179.here hx rfl (hb hby at_54) rfl k) ?_
            show Go _ _ _ _ _ _ _ (T179.setTop (mkF m 56 #[.val (.int p0), .val (.int p1), .val (.int p2), .val (.int p3), .val (.int p4), .val (.int k_), .val (.ref w_LOG), .val (.int v162), .val (.double v171), .second, .val (.double (FP.i2d (((p2.toUInt32 >>> ((1 : Int32) &&& 31).toUInt32).toInt32) &&& (1 : Int32)))), .second, .unset, .unset, .unset, .unset] [(.double v171), (.ref w_LOG), (.ref b179), (.ref b179)]))
            refine gob (fun _ k => XS.iloadN X179.here hx rfl (hb hby at_56) rfl k) ?_
            show Go _ _ _ _ _ _ _ (T179.setTop (mkF m 57 #[.val (.int p0), .val (.int p1), .val (.int p2), .val (.int p3), .val (.int p4), .val (.int k_), .val (.ref w_LOG), .val (.int v162), .val (.double v171), .second, .val (.double (FP.i2d (((p2.toUInt32 >>> ((1 : Int32) &&& 31).toUInt32).toInt32) &&& (1 : Int32)))), .second, .unset, .unset, .unset, .unset] [(.int p3), (.double v171), (.ref w_LOG), (.ref b179), (.ref b179)]))
            refine gob (fun _ k => XS.i2dS X179.here hx rfl (hb hby at_57) rfl (v := (FP.i2d p3)) rfl k) ?_
            show Go _ _ _ _ _ _ _ (T179.setTop (mkF m 58 #[.val (.int p0), .val (.int p1), .val (.int p2), .val (.int p3), .val (.int p4), .val (.int k_), .val (.ref w_LOG), .val (.int v162), .val (.double v171), .second, .val (.double (FP.i2d (((p2.toUInt32 >>> ((1 : Int32) &&& 31).toUInt32).toInt32) &&& (1 : Int32)))), .second, .unset, .unset, .unset, .unset] [(.double (FP.i2d p3)), (.double v171), (.ref w_LOG), (.ref b179), (.ref b179)]))
            refine gob (fun _ k => XS.dload X179.here hx rfl (hb hby at_58) rfl k) ?_
            show Go _ _ _ _ _ _ _ (T179.setTop (mkF m 60 #[.val (.int p0), .val (.int p1), .val (.int p2), .val (.int p3), .val (.int p4), .val (.int k_), .val (.ref w_LOG), .val (.int v162), .val (.double v171), .second, .val (.double (FP.i2d (((p2.toUInt32 >>> ((1 : Int32) &&& 31).toUInt32).toInt32) &&& (1 : Int32)))), .second, .unset, .unset, .unset, .unset] [(.double (FP.i2d (((p2.toUInt32 >>> ((1 : Int32) &&& 31).toUInt32).toInt32) &&& (1 : Int32)))), (.double (FP.i2d p3)), (.double v171), (.ref w_LOG), (.ref b179), (.ref b179)]))
            refine gob (fun _ k => XS.iload X179.here hx rfl (hb hby at_60) rfl k) ?_
            show Go _ _ _ _ _ _ _ (T179.setTop (mkF m 62 #[.val (.int p0), .val (.int p1), .val (.int p2), .val (.int p3), .val (.int p4), .val (.int k_), .val (.ref w_LOG), .val (.int v162), .val (.double v171), .second, .val (.double (FP.i2d (((p2.toUInt32 >>> ((1 : Int32) &&& 31).toUInt32).toInt32) &&& (1 : Int32)))), .second, .unset, .unset, .unset, .unset] [(.int p4), (.double (FP.i2d (((p2.toUInt32 >>> ((1 : Int32) &&& 31).toUInt32).toInt32) &&& (1 : Int32)))), (.double (FP.i2d p3)), (.double v171), (.ref w_LOG), (.ref b179), (.ref b179)]))
            refine gob (fun _ k => XS.i2dS X179.here hx rfl (hb hby at_62) rfl (v := (FP.i2d p4)) rfl k) ?_
            show Go _ _ _ _ _ _ _ (T179.setTop (mkF m 63 #[.val (.int p0), .val (.int p1), .val (.int p2), .val (.int p3), .val (.int p4), .val (.int k_), .val (.ref w_LOG), .val (.int v162), .val (.double v171), .second, .val (.double (FP.i2d (((p2.toUInt32 >>> ((1 : Int32) &&& 31).toUInt32).toInt32) &&& (1 : Int32)))), .second, .unset, .unset, .unset, .unset] [(.double (FP.i2d p4)), (.double (FP.i2d (((p2.toUInt32 >>> ((1 : Int32) &&& 31).toUInt32).toInt32) &&& (1 : Int32)))), (.double (FP.i2d p3)), (.double v171), (.ref w_LOG), (.ref b179), (.ref b179)]))
            obtain ⟨_, _, ⟨T190, L190, k190, n190⟩, -, X190, ⟨Lc190, hQ190, l190, y190, z190⟩, st190⟩ := X179.specialBack hx (y := (⟨"com/example/robust_broker/robustbroker/Fit", "<init>", "(Lcom/example/robust_broker/robustbroker/Fit$Form;DDDD)V"⟩ : MethodName)) rfl hown (mvT hZ (hw _ (List.mem_of_getElem? (i := 10) rfl))) (mvT hZ (hw _ (List.mem_of_getElem? (i := 11) rfl))) (mvT hZ (hw _ (List.mem_of_getElem? (i := 12) rfl))) (by decide) (backOf (W := 1) (rm2 l Z a0 hw [] b179 w_LOG v171 (FP.i2d p3) (FP.i2d (((p2.toUInt32 >>> ((1 : Int32) &&& 31).toUInt32).toInt32) &&& (1 : Int32))) (FP.i2d p4) h179 n0 z189 A179 F179_form g188 F179_a F179_b F179_r2 F179_cap) hZ (hw _ (List.mem_of_getElem? (i := 12) rfl)) (hw _ (List.mem_of_getElem? (i := 9) rfl)) (by decide) (by decide)) (g := (mkF m 63 #[.val (.int p0), .val (.int p1), .val (.int p2), .val (.int p3), .val (.int p4), .val (.int k_), .val (.ref w_LOG), .val (.int v162), .val (.double v171), .second, .val (.double (FP.i2d (((p2.toUInt32 >>> ((1 : Int32) &&& 31).toUInt32).toInt32) &&& (1 : Int32)))), .second, .unset, .unset, .unset, .unset] [(.double (FP.i2d p4)), (.double (FP.i2d (((p2.toUInt32 >>> ((1 : Int32) &&& 31).toUInt32).toInt32) &&& (1 : Int32)))), (.double (FP.i2d p3)), (.double v171), (.ref w_LOG), (.ref b179), (.ref b179)])) rfl (by rw [hml]; rfl) (Steps.refl _) (a := b179) (argsL := [(.ref w_LOG), (.double v171), (.double (FP.i2d p3)), (.double (FP.i2d (((p2.toUInt32 >>> ((1 : Int32) &&& 31).toUInt32).toInt32) &&& (1 : Int32)))), (.double (FP.i2d p4))]) (rest := [(.ref b179)]) (lenOf pd_2 rfl) rfl (by show 2 * 0 + _ ≤ _; exact Nat.le_of_eq rfl) (hb hby at_63) (fun _ _ => ⟨rfl, e179, (by decide : 1 + 0 ≤ _), (by decide : 5 + 0 ≤ _)⟩)
            dsimp only [Pt.U, Pt.locs, Pt.cells, Pt.slots] at X190 l190 y190 z190 st190 hQ190
            replace X190 := castX X190 (y190.trans (rfl : _ = 1)) (z190.trans (rfl : _ = 5))
            obtain ⟨rfl, Nq190, K190, F191, F192, F193, F194, F195⟩ := hQ190
            have N190 : Fr n0 L190 := l190 ▸ Fr.app N177 Nq190
            have ns196 := (nsS A179.nostat ns0)
            have z197 : n0 ≤ T190.heap.size := Nat.le_trans z189 K190.1
            refine gob (fun _ k => st190.trans k) ?_
            show Go _ _ _ _ _ _ _ (T190.setTop (mkF m 66 #[.val (.int p0), .val (.int p1), .val (.int p2), .val (.int p3), .val (.int p4), .val (.int k_), .val (.ref w_LOG), .val (.int v162), .val (.double v171), .second, .val (.double (FP.i2d (((p2.toUInt32 >>> ((1 : Int32) &&& 31).toUInt32).toInt32) &&& (1 : Int32)))), .second, .unset, .unset, .unset, .unset] [(.ref b179)]))
            refine gob (fun _ k => XS.astore X190.here hx rfl (hb hby at_66) rfl rfl (l' := #[.val (.int p0), .val (.int p1), .val (.int p2), .val (.int p3), .val (.int p4), .val (.int k_), .val (.ref w_LOG), .val (.int v162), .val (.double v171), .second, .val (.double (FP.i2d (((p2.toUInt32 >>> ((1 : Int32) &&& 31).toUInt32).toInt32) &&& (1 : Int32)))), .second, .val (.ref b179), .unset, .unset, .unset]) rfl k) ?_
            show Go _ _ _ _ _ _ _ (T190.setTop (mkF m 68 #[.val (.int p0), .val (.int p1), .val (.int p2), .val (.int p3), .val (.int p4), .val (.int k_), .val (.ref w_LOG), .val (.int v162), .val (.double v171), .second, .val (.double (FP.i2d (((p2.toUInt32 >>> ((1 : Int32) &&& 31).toUInt32).toInt32) &&& (1 : Int32)))), .second, .val (.ref b179), .unset, .unset, .unset] []))
            refine gob (fun _ k => XS.iload X190.here hx rfl (hb hby at_68) rfl k) ?_
            show Go _ _ _ _ _ _ _ (T190.setTop (mkF m 70 #[.val (.int p0), .val (.int p1), .val (.int p2), .val (.int p3), .val (.int p4), .val (.int k_), .val (.ref w_LOG), .val (.int v162), .val (.double v171), .second, .val (.double (FP.i2d (((p2.toUInt32 >>> ((1 : Int32) &&& 31).toUInt32).toInt32) &&& (1 : Int32)))), .second, .val (.ref b179), .unset, .unset, .unset] [(.int v162)]))
            have join94_202 : ∀ (T203 : State) (lj204 : List Loc) (v201 : Int32), Stand p l e room_1 s m #[(.int p0), (.int p1), (.int p2), (.int p3), (.int p4)] below meth c T203 lj204 1 5 → T203.heap = T190.heap → Fr n0 lj204 → (v162 = (0 : Int32) ∧ (0 : Int32) < p1 ∧ v201 = (1 : Int32)) ∨ (v162 = (0 : Int32) ∧ ¬ ((0 : Int32) < p1) ∧ v201 = (0 : Int32)) ∨ (¬ (v162 = (0 : Int32)) ∧ p1 < (0 : Int32) ∧ v201 = (1 : Int32)) ∨ (¬ (v162 = (0 : Int32)) ∧ ¬ (p1 < (0 : Int32)) ∧ v201 = (0 : Int32)) → Go p e below s (Q0 Z p0 p1 p2 p3 p4 w_LIN w_SQRT w_LOG w_POW h0 n0) 16 128 (T203.setTop (mkF m 94 #[.val (.int p0), .val (.int p1), .val (.int p2), .val (.int p3), .val (.int p4), .val (.int k_), .val (.ref w_LOG), .val (.int v162), .val (.double v171), .second, .val (.double (FP.i2d (((p2.toUInt32 >>> ((1 : Int32) &&& 31).toUInt32).toInt32) &&& (1 : Int32)))), .second, .val (.ref b179), .unset, .unset, .unset] [(.int v201)])) := by
              intro T203 lj204 v201 X205 e206 N207 hj208
              show Go _ _ _ _ _ _ _ (T203.setTop (mkF m 94 #[.val (.int p0), .val (.int p1), .val (.int p2), .val (.int p3), .val (.int p4), .val (.int k_), .val (.ref w_LOG), .val (.int v162), .val (.double v171), .second, .val (.double (FP.i2d (((p2.toUInt32 >>> ((1 : Int32) &&& 31).toUInt32).toInt32) &&& (1 : Int32)))), .second, .val (.ref b179), .unset, .unset, .unset] [(.int v201)]))
              refine gob (fun _ k => XS.istore X205.here hx rfl (hb hby at_94) rfl (l' := #[.val (.int p0), .val (.int p1), .val (.int p2), .val (.int p3), .val (.int p4), .val (.int k_), .val (.ref w_LOG), .val (.int v162), .val (.double v171), .second, .val (.double (FP.i2d (((p2.toUInt32 >>> ((1 : Int32) &&& 31).toUInt32).toInt32) &&& (1 : Int32)))), .second, .val (.ref b179), .val (.int v201), .unset, .unset]) rfl k) ?_
              show Go _ _ _ _ _ _ _ (T203.setTop (mkF m 96 #[.val (.int p0), .val (.int p1), .val (.int p2), .val (.int p3), .val (.int p4), .val (.int k_), .val (.ref w_LOG), .val (.int v162), .val (.double v171), .second, .val (.double (FP.i2d (((p2.toUInt32 >>> ((1 : Int32) &&& 31).toUInt32).toInt32) &&& (1 : Int32)))), .second, .val (.ref b179), .val (.int v201), .unset, .unset] []))
              refine gob (fun _ k => XS.iload X205.here hx rfl (hb hby at_96) rfl k) ?_
              show Go _ _ _ _ _ _ _ (T203.setTop (mkF m 98 #[.val (.int p0), .val (.int p1), .val (.int p2), .val (.int p3), .val (.int p4), .val (.int k_), .val (.ref w_LOG), .val (.int v162), .val (.double v171), .second, .val (.double (FP.i2d (((p2.toUInt32 >>> ((1 : Int32) &&& 31).toUInt32).toInt32) &&& (1 : Int32)))), .second, .val (.ref b179), .val (.int v201), .unset, .unset] [(.int v162)]))
              have join122_213 : ∀ (T214 : State) (lj215 : List Loc) (v212 : Int32), Stand p l e room_1 s m #[(.int p0), (.int p1), (.int p2), (.int p3), (.int p4)] below meth c T214 lj215 1 5 → T214.heap = T190.heap → Fr n0 lj215 → (v162 = (0 : Int32) ∧ p1 < (0 : Int32) ∧ v212 = (1 : Int32)) ∨ (v162 = (0 : Int32) ∧ ¬ (p1 < (0 : Int32)) ∧ v212 = (0 : Int32)) ∨ (¬ (v162 = (0 : Int32)) ∧ (0 : Int32) < p1 ∧ v212 = (1 : Int32)) ∨ (¬ (v162 = (0 : Int32)) ∧ ¬ ((0 : Int32) < p1) ∧ v212 = (0 : Int32)) → Go p e below s (Q0 Z p0 p1 p2 p3 p4 w_LIN w_SQRT w_LOG w_POW h0 n0) 16 128 (T214.setTop (mkF m 122 #[.val (.int p0), .val (.int p1), .val (.int p2), .val (.int p3), .val (.int p4), .val (.int k_), .val (.ref w_LOG), .val (.int v162), .val (.double v171), .second, .val (.double (FP.i2d (((p2.toUInt32 >>> ((1 : Int32) &&& 31).toUInt32).toInt32) &&& (1 : Int32)))), .second, .val (.ref b179), .val (.int v201), .unset, .unset] [(.int v212)])) := by
                intro T214 lj215 v212 X216 e217 N218 hj219
                show Go _ _ _ _ _ _ _ (T214.setTop (mkF m 122 #[.val (.int p0), .val (.int p1), .val (.int p2), .val (.int p3), .val (.int p4), .val (.int k_), .val (.ref w_LOG), .val (.int v162), .val (.double v171), .second, .val (.double (FP.i2d (((p2.toUInt32 >>> ((1 : Int32) &&& 31).toUInt32).toInt32) &&& (1 : Int32)))), .second, .val (.ref b179), .val (.int v201), .unset, .unset] [(.int v212)]))
                refine gob (fun _ k => XS.istore X216.here hx rfl (hb hby at_122) rfl (l' := #[.val (.int p0), .val (.int p1), .val (.int p2), .val (.int p3), .val (.int p4), .val (.int k_), .val (.ref w_LOG), .val (.int v162), .val (.double v171), .second, .val (.double (FP.i2d (((p2.toUInt32 >>> ((1 : Int32) &&& 31).toUInt32).toInt32) &&& (1 : Int32)))), .second, .val (.ref b179), .val (.int v201), .val (.int v212), .unset]) rfl k) ?_
                show Go _ _ _ _ _ _ _ (T214.setTop (mkF m 124 #[.val (.int p0), .val (.int p1), .val (.int p2), .val (.int p3), .val (.int p4), .val (.int k_), .val (.ref w_LOG), .val (.int v162), .val (.double v171), .second, .val (.double (FP.i2d (((p2.toUInt32 >>> ((1 : Int32) &&& 31).toUInt32).toInt32) &&& (1 : Int32)))), .second, .val (.ref b179), .val (.int v201), .val (.int v212), .unset] []))
                refine gob (fun _ k => XS.iload X216.here hx rfl (hb hby at_124) rfl k) ?_
                show Go _ _ _ _ _ _ _ (T214.setTop (mkF m 126 #[.val (.int p0), .val (.int p1), .val (.int p2), .val (.int p3), .val (.int p4), .val (.int k_), .val (.ref w_LOG), .val (.int v162), .val (.double v171), .second, .val (.double (FP.i2d (((p2.toUInt32 >>> ((1 : Int32) &&& 31).toUInt32).toInt32) &&& (1 : Int32)))), .second, .val (.ref b179), .val (.int v201), .val (.int v212), .unset] [(.int k_)]))
                refine gob (fun _ k => XS.iconst X216.here hx rfl (hb hby at_126) k) ?_
                show Go _ _ _ _ _ _ _ (T214.setTop (mkF m 127 #[.val (.int p0), .val (.int p1), .val (.int p2), .val (.int p3), .val (.int p4), .val (.int k_), .val (.ref w_LOG), .val (.int v162), .val (.double v171), .second, .val (.double (FP.i2d (((p2.toUInt32 >>> ((1 : Int32) &&& 31).toUInt32).toInt32) &&& (1 : Int32)))), .second, .val (.ref b179), .val (.int v201), .val (.int v212), .unset] [(.int (3 : Int32)), (.int k_)]))
                have hd221 : ¬ (k_ = (3 : Int32)) := ld_0_127_220 p0 k_ hk_ hc7_1 hc7_79 hc7_157
                refine gob (fun _ k => XS.icmpYes X216.here hx rfl (pc0 := 127) (pc' := 135) rfl (hb hby at_127) rfl (feq hd221).2 (by decide) (by decide) k) ?_
                show Go _ _ _ _ _ _ _ (T214.setTop (mkF m 135 #[.val (.int p0), .val (.int p1), .val (.int p2), .val (.int p3), .val (.int p4), .val (.int k_), .val (.ref w_LOG), .val (.int v162), .val (.double v171), .second, .val (.double (FP.i2d (((p2.toUInt32 >>> ((1 : Int32) &&& 31).toUInt32).toInt32) &&& (1 : Int32)))), .second, .val (.ref b179), .val (.int v201), .val (.int v212), .unset] []))
                refine gob (fun _ k => XS.iload X216.here hx rfl (hb hby at_135) rfl k) ?_
                show Go _ _ _ _ _ _ _ (T214.setTop (mkF m 137 #[.val (.int p0), .val (.int p1), .val (.int p2), .val (.int p3), .val (.int p4), .val (.int k_), .val (.ref w_LOG), .val (.int v162), .val (.double v171), .second, .val (.double (FP.i2d (((p2.toUInt32 >>> ((1 : Int32) &&& 31).toUInt32).toInt32) &&& (1 : Int32)))), .second, .val (.ref b179), .val (.int v201), .val (.int v212), .unset] [(.int v212)]))
                refine gob (fun _ k => XS.istore X216.here hx rfl (hb hby at_137) rfl (l' := #[.val (.int p0), .val (.int p1), .val (.int p2), .val (.int p3), .val (.int p4), .val (.int k_), .val (.ref w_LOG), .val (.int v162), .val (.double v171), .second, .val (.double (FP.i2d (((p2.toUInt32 >>> ((1 : Int32) &&& 31).toUInt32).toInt32) &&& (1 : Int32)))), .second, .val (.ref b179), .val (.int v201), .val (.int v212), .val (.int v212)]) rfl k) ?_
                show Go _ _ _ _ _ _ _ (T214.setTop (mkF m 139 #[.val (.int p0), .val (.int p1), .val (.int p2), .val (.int p3), .val (.int p4), .val (.int k_), .val (.ref w_LOG), .val (.int v162), .val (.double v171), .second, .val (.double (FP.i2d (((p2.toUInt32 >>> ((1 : Int32) &&& 31).toUInt32).toInt32) &&& (1 : Int32)))), .second, .val (.ref b179), .val (.int v201), .val (.int v212), .val (.int v212)] []))
                refine gob (fun _ k => XS.aload X216.here hx rfl (hb hby at_139) rfl rfl k) ?_
                show Go _ _ _ _ _ _ _ (T214.setTop (mkF m 141 #[.val (.int p0), .val (.int p1), .val (.int p2), .val (.int p3), .val (.int p4), .val (.int k_), .val (.ref w_LOG), .val (.int v162), .val (.double v171), .second, .val (.double (FP.i2d (((p2.toUInt32 >>> ((1 : Int32) &&& 31).toUInt32).toInt32) &&& (1 : Int32)))), .second, .val (.ref b179), .val (.int v201), .val (.int v212), .val (.int v212)] [(.ref b179)]))
                have c223 := ((c184.ext E179).keep K190 (ninS n185 nin0))
                have c224 := (A179.keep K190)
                obtain ⟨cq222, kq222, q222a, q222b, q222c⟩ := isOf hZ e217 c224
                obtain ⟨_, _, ⟨T222, L222, k222, n222⟩, -, X222, ⟨Lc222, hQ222, l222, y222, z222⟩, st222⟩ := X216.virtualBack hx (y := (⟨"com/example/robust_broker/robustbroker/Fit", "ranksDownward", "()Z"⟩ : MethodName)) (z := (⟨"com/example/robust_broker/robustbroker/Fit", "ranksDownward", "()Z"⟩ : MethodName)) hown (mvT hZ (hw _ (List.mem_of_getElem? (i := 31) rfl))) (mvT hZ (hw _ (List.mem_of_getElem? (i := 32) rfl))) (notFace_of_selects (args := #[]) (mvT hZ (hw _ (List.mem_of_getElem? (i := 34) rfl)))) (mvT hZ (hw _ (List.mem_of_getElem? (i := 34) rfl))) (mvT hZ (hw _ (List.mem_of_getElem? (i := 33) rfl))) (by decide) (backOf (W := 0) (rmrd0 l Z a0 hw [] b179 w_LOG v171 T190.heap n0 z197 F191 c223 F192) hZ (hw _ (List.mem_of_getElem? (i := 35) rfl)) (hw _ (List.mem_of_getElem? (i := 9) rfl)) (by decide) (by decide)) q222a q222c (g := (mkF m 141 #[.val (.int p0), .val (.int p1), .val (.int p2), .val (.int p3), .val (.int p4), .val (.int k_), .val (.ref w_LOG), .val (.int v162), .val (.double v171), .second, .val (.double (FP.i2d (((p2.toUInt32 >>> ((1 : Int32) &&& 31).toUInt32).toInt32) &&& (1 : Int32)))), .second, .val (.ref b179), .val (.int v201), .val (.int v212), .val (.int v212)] [(.ref b179)])) rfl (by rw [hml]; rfl) (Steps.refl _) (argsL := []) (rest := []) (lenOf pd_3 rfl) rfl (by show 2 * 0 + _ ≤ _; exact Nat.le_of_eq rfl) (hb hby at_141) (fun _ _ => ⟨rfl, e217, (by decide : 1 + 0 ≤ _), (by decide : 5 + 0 ≤ _)⟩)
                dsimp only [Pt.U, Pt.locs, Pt.cells, Pt.slots] at X222 l222 y222 z222 st222 hQ222
                replace X222 := castX X222 (y222.trans (rfl : _ = 1)) (z222.trans (rfl : _ = 5))
                obtain ⟨r222, rfl, hr222, Nq222, e222⟩ := hQ222
                have N222 : Fr n0 L222 := l222 ▸ Fr.app N218 Nq222
                refine gob (fun _ k => st222.trans k) ?_
                show Go _ _ _ _ _ _ _ (T222.setTop (mkF m 144 #[.val (.int p0), .val (.int p1), .val (.int p2), .val (.int p3), .val (.int p4), .val (.int k_), .val (.ref w_LOG), .val (.int v162), .val (.double v171), .second, .val (.double (FP.i2d (((p2.toUInt32 >>> ((1 : Int32) &&& 31).toUInt32).toInt32) &&& (1 : Int32)))), .second, .val (.ref b179), .val (.int v201), .val (.int v212), .val (.int v212)] [(.int r222)]))
                refine gob (fun _ k => XS.iload X222.here hx rfl (hb hby at_144) rfl k) ?_
                show Go _ _ _ _ _ _ _ (T222.setTop (mkF m 146 #[.val (.int p0), .val (.int p1), .val (.int p2), .val (.int p3), .val (.int p4), .val (.int k_), .val (.ref w_LOG), .val (.int v162), .val (.double v171), .second, .val (.double (FP.i2d (((p2.toUInt32 >>> ((1 : Int32) &&& 31).toUInt32).toInt32) &&& (1 : Int32)))), .second, .val (.ref b179), .val (.int v201), .val (.int v212), .val (.int v212)] [(.int v212), (.int r222)]))
                have hd226 : r222 = v212 := ld_0_146_225 p1 p2 v162 v171 v212 r222 hj169 hj178 hj219 hr222
                refine gob (fun _ k => XS.icmpNo X222.here hx rfl (hb hby at_146) rfl (teq hd226).2 k) ?_
                show Go _ _ _ _ _ _ _ (T222.setTop (mkF m 149 #[.val (.int p0), .val (.int p1), .val (.int p2), .val (.int p3), .val (.int p4), .val (.int k_), .val (.ref w_LOG), .val (.int v162), .val (.double v171), .second, .val (.double (FP.i2d (((p2.toUInt32 >>> ((1 : Int32) &&& 31).toUInt32).toInt32) &&& (1 : Int32)))), .second, .val (.ref b179), .val (.int v201), .val (.int v212), .val (.int v212)] []))
                refine gob (fun _ k => XS.iconst X222.here hx rfl (hb hby at_149) k) ?_
                show Go _ _ _ _ _ _ _ (T222.setTop (mkF m 150 #[.val (.int p0), .val (.int p1), .val (.int p2), .val (.int p3), .val (.int p4), .val (.int k_), .val (.ref w_LOG), .val (.int v162), .val (.double v171), .second, .val (.double (FP.i2d (((p2.toUInt32 >>> ((1 : Int32) &&& 31).toUInt32).toInt32) &&& (1 : Int32)))), .second, .val (.ref b179), .val (.int v201), .val (.int v212), .val (.int v212)] [(.int (1 : Int32))]))
                refine gob (fun _ k => XS.goto X222.here hx rfl (pc0 := 150) (pc' := 154) rfl (hb hby at_150) (by decide) (by decide) k) ?_
                show Go _ _ _ _ _ _ _ (T222.setTop (mkF m 154 #[.val (.int p0), .val (.int p1), .val (.int p2), .val (.int p3), .val (.int p4), .val (.int k_), .val (.ref w_LOG), .val (.int v162), .val (.double v171), .second, .val (.double (FP.i2d (((p2.toUInt32 >>> ((1 : Int32) &&& 31).toUInt32).toInt32) &&& (1 : Int32)))), .second, .val (.ref b179), .val (.int v201), .val (.int v212), .val (.int v212)] [(.int (1 : Int32))]))
                refine goZ X222 hx hlk (t := .boolean) Bd.returns (by simp) (hb hby at_154) (z' := (1 : Int32)) rfl ?_ (by decide) (by decide)
                show Q0 Z p0 p1 p2 p3 p4 w_LIN w_SQRT w_LOG w_POW h0 n0 (some (.int (1 : Int32))) T222.heap _
                exact ⟨rfl, N222⟩
              by_cases hc98_227 : v162 = (0 : Int32)
              · skip
                refine gob (fun _ k => XS.ifYes X205.here hx rfl (pc0 := 98) (pc' := 113) rfl (hb hby at_98) rfl ((if0 _ _).trans (teq hc98_227).1) (by decide) (by decide) k) ?_
                show Go _ _ _ _ _ _ _ (T203.setTop (mkF m 113 #[.val (.int p0), .val (.int p1), .val (.int p2), .val (.int p3), .val (.int p4), .val (.int k_), .val (.ref w_LOG), .val (.int v162), .val (.double v171), .second, .val (.double (FP.i2d (((p2.toUInt32 >>> ((1 : Int32) &&& 31).toUInt32).toInt32) &&& (1 : Int32)))), .second, .val (.ref b179), .val (.int v201), .unset, .unset] []))
                refine gob (fun _ k => XS.iloadN X205.here hx rfl (hb hby at_113) rfl k) ?_
                show Go _ _ _ _ _ _ _ (T203.setTop (mkF m 114 #[.val (.int p0), .val (.int p1), .val (.int p2), .val (.int p3), .val (.int p4), .val (.int k_), .val (.ref w_LOG), .val (.int v162), .val (.double v171), .second, .val (.double (FP.i2d (((p2.toUInt32 >>> ((1 : Int32) &&& 31).toUInt32).toInt32) &&& (1 : Int32)))), .second, .val (.ref b179), .val (.int v201), .unset, .unset] [(.int p1)]))
                by_cases hc114_228 : p1 < (0 : Int32)
                · skip
                  refine gob (fun _ k => XS.ifNo X205.here hx rfl (hb hby at_114) rfl ((if0 _ _).trans (tlt hc114_228).2.1) k) ?_
                  show Go _ _ _ _ _ _ _ (T203.setTop (mkF m 117 #[.val (.int p0), .val (.int p1), .val (.int p2), .val (.int p3), .val (.int p4), .val (.int k_), .val (.ref w_LOG), .val (.int v162), .val (.double v171), .second, .val (.double (FP.i2d (((p2.toUInt32 >>> ((1 : Int32) &&& 31).toUInt32).toInt32) &&& (1 : Int32)))), .second, .val (.ref b179), .val (.int v201), .unset, .unset] []))
                  refine gob (fun _ k => XS.iconst X205.here hx rfl (hb hby at_117) k) ?_
                  show Go _ _ _ _ _ _ _ (T203.setTop (mkF m 118 #[.val (.int p0), .val (.int p1), .val (.int p2), .val (.int p3), .val (.int p4), .val (.int k_), .val (.ref w_LOG), .val (.int v162), .val (.double v171), .second, .val (.double (FP.i2d (((p2.toUInt32 >>> ((1 : Int32) &&& 31).toUInt32).toInt32) &&& (1 : Int32)))), .second, .val (.ref b179), .val (.int v201), .unset, .unset] [(.int (1 : Int32))]))
                  refine gob (fun _ k => XS.goto X205.here hx rfl (pc0 := 118) (pc' := 122) rfl (hb hby at_118) (by decide) (by decide) k) ?_
                  show Go _ _ _ _ _ _ _ (T203.setTop (mkF m 122 #[.val (.int p0), .val (.int p1), .val (.int p2), .val (.int p3), .val (.int p4), .val (.int k_), .val (.ref w_LOG), .val (.int v162), .val (.double v171), .second, .val (.double (FP.i2d (((p2.toUInt32 >>> ((1 : Int32) &&& 31).toUInt32).toInt32) &&& (1 : Int32)))), .second, .val (.ref b179), .val (.int v201), .unset, .unset] [(.int (1 : Int32))]))
                  exact join122_213 _ _ ((1 : Int32)) X205 e206 N207 (Or.inl ⟨hc98_227, hc114_228, rfl⟩)
                · skip
                  refine gob (fun _ k => XS.ifYes X205.here hx rfl (pc0 := 114) (pc' := 121) rfl (hb hby at_114) rfl ((if0 _ _).trans (flt hc114_228).2.1) (by decide) (by decide) k) ?_
                  show Go _ _ _ _ _ _ _ (T203.setTop (mkF m 121 #[.val (.int p0), .val (.int p1), .val (.int p2), .val (.int p3), .val (.int p4), .val (.int k_), .val (.ref w_LOG), .val (.int v162), .val (.double v171), .second, .val (.double (FP.i2d (((p2.toUInt32 >>> ((1 : Int32) &&& 31).toUInt32).toInt32) &&& (1 : Int32)))), .second, .val (.ref b179), .val (.int v201), .unset, .unset] []))
                  refine gob (fun _ k => XS.iconst X205.here hx rfl (hb hby at_121) k) ?_
                  show Go _ _ _ _ _ _ _ (T203.setTop (mkF m 122 #[.val (.int p0), .val (.int p1), .val (.int p2), .val (.int p3), .val (.int p4), .val (.int k_), .val (.ref w_LOG), .val (.int v162), .val (.double v171), .second, .val (.double (FP.i2d (((p2.toUInt32 >>> ((1 : Int32) &&& 31).toUInt32).toInt32) &&& (1 : Int32)))), .second, .val (.ref b179), .val (.int v201), .unset, .unset] [(.int (0 : Int32))]))
                  exact join122_213 _ _ ((0 : Int32)) X205 e206 N207 (Or.inr (Or.inl ⟨hc98_227, hc114_228, rfl⟩))
              · skip
                refine gob (fun _ k => XS.ifNo X205.here hx rfl (hb hby at_98) rfl ((if0 _ _).trans (feq hc98_227).1) k) ?_
                show Go _ _ _ _ _ _ _ (T203.setTop (mkF m 101 #[.val (.int p0), .val (.int p1), .val (.int p2), .val (.int p3), .val (.int p4), .val (.int k_), .val (.ref w_LOG), .val (.int v162), .val (.double v171), .second, .val (.double (FP.i2d (((p2.toUInt32 >>> ((1 : Int32) &&& 31).toUInt32).toInt32) &&& (1 : Int32)))), .second, .val (.ref b179), .val (.int v201), .unset, .unset] []))
                refine gob (fun _ k => XS.iloadN X205.here hx rfl (hb hby at_101) rfl k) ?_
                show Go _ _ _ _ _ _ _ (T203.setTop (mkF m 102 #[.val (.int p0), .val (.int p1), .val (.int p2), .val (.int p3), .val (.int p4), .val (.int k_), .val (.ref w_LOG), .val (.int v162), .val (.double v171), .second, .val (.double (FP.i2d (((p2.toUInt32 >>> ((1 : Int32) &&& 31).toUInt32).toInt32) &&& (1 : Int32)))), .second, .val (.ref b179), .val (.int v201), .unset, .unset] [(.int p1)]))
                by_cases hc102_229 : (0 : Int32) < p1
                · skip
                  refine gob (fun _ k => XS.ifNo X205.here hx rfl (hb hby at_102) rfl ((if0 _ _).trans (tlt hc102_229).2.2.2) k) ?_
                  show Go _ _ _ _ _ _ _ (T203.setTop (mkF m 105 #[.val (.int p0), .val (.int p1), .val (.int p2), .val (.int p3), .val (.int p4), .val (.int k_), .val (.ref w_LOG), .val (.int v162), .val (.double v171), .second, .val (.double (FP.i2d (((p2.toUInt32 >>> ((1 : Int32) &&& 31).toUInt32).toInt32) &&& (1 : Int32)))), .second, .val (.ref b179), .val (.int v201), .unset, .unset] []))
                  refine gob (fun _ k => XS.iconst X205.here hx rfl (hb hby at_105) k) ?_
                  show Go _ _ _ _ _ _ _ (T203.setTop (mkF m 106 #[.val (.int p0), .val (.int p1), .val (.int p2), .val (.int p3), .val (.int p4), .val (.int k_), .val (.ref w_LOG), .val (.int v162), .val (.double v171), .second, .val (.double (FP.i2d (((p2.toUInt32 >>> ((1 : Int32) &&& 31).toUInt32).toInt32) &&& (1 : Int32)))), .second, .val (.ref b179), .val (.int v201), .unset, .unset] [(.int (1 : Int32))]))
                  refine gob (fun _ k => XS.goto X205.here hx rfl (pc0 := 106) (pc' := 122) rfl (hb hby at_106) (by decide) (by decide) k) ?_
                  show Go _ _ _ _ _ _ _ (T203.setTop (mkF m 122 #[.val (.int p0), .val (.int p1), .val (.int p2), .val (.int p3), .val (.int p4), .val (.int k_), .val (.ref w_LOG), .val (.int v162), .val (.double v171), .second, .val (.double (FP.i2d (((p2.toUInt32 >>> ((1 : Int32) &&& 31).toUInt32).toInt32) &&& (1 : Int32)))), .second, .val (.ref b179), .val (.int v201), .unset, .unset] [(.int (1 : Int32))]))
                  exact join122_213 _ _ ((1 : Int32)) X205 e206 N207 (Or.inr (Or.inr (Or.inl ⟨hc98_227, hc102_229, rfl⟩)))
                · skip
                  refine gob (fun _ k => XS.ifYes X205.here hx rfl (pc0 := 102) (pc' := 109) rfl (hb hby at_102) rfl ((if0 _ _).trans (flt hc102_229).2.2.2) (by decide) (by decide) k) ?_
                  show Go _ _ _ _ _ _ _ (T203.setTop (mkF m 109 #[.val (.int p0), .val (.int p1), .val (.int p2), .val (.int p3), .val (.int p4), .val (.int k_), .val (.ref w_LOG), .val (.int v162), .val (.double v171), .second, .val (.double (FP.i2d (((p2.toUInt32 >>> ((1 : Int32) &&& 31).toUInt32).toInt32) &&& (1 : Int32)))), .second, .val (.ref b179), .val (.int v201), .unset, .unset] []))
                  refine gob (fun _ k => XS.iconst X205.here hx rfl (hb hby at_109) k) ?_
                  show Go _ _ _ _ _ _ _ (T203.setTop (mkF m 110 #[.val (.int p0), .val (.int p1), .val (.int p2), .val (.int p3), .val (.int p4), .val (.int k_), .val (.ref w_LOG), .val (.int v162), .val (.double v171), .second, .val (.double (FP.i2d (((p2.toUInt32 >>> ((1 : Int32) &&& 31).toUInt32).toInt32) &&& (1 : Int32)))), .second, .val (.ref b179), .val (.int v201), .unset, .unset] [(.int (0 : Int32))]))
                  refine gob (fun _ k => XS.goto X205.here hx rfl (pc0 := 110) (pc' := 122) rfl (hb hby at_110) (by decide) (by decide) k) ?_
                  show Go _ _ _ _ _ _ _ (T203.setTop (mkF m 122 #[.val (.int p0), .val (.int p1), .val (.int p2), .val (.int p3), .val (.int p4), .val (.int k_), .val (.ref w_LOG), .val (.int v162), .val (.double v171), .second, .val (.double (FP.i2d (((p2.toUInt32 >>> ((1 : Int32) &&& 31).toUInt32).toInt32) &&& (1 : Int32)))), .second, .val (.ref b179), .val (.int v201), .unset, .unset] [(.int (0 : Int32))]))
                  exact join122_213 _ _ ((0 : Int32)) X205 e206 N207 (Or.inr (Or.inr (Or.inr ⟨hc98_227, hc102_229, rfl⟩)))
            by_cases hc70_230 : v162 = (0 : Int32)
            · skip
              refine gob (fun _ k => XS.ifYes X190.here hx rfl (pc0 := 70) (pc' := 85) rfl (hb hby at_70) rfl ((if0 _ _).trans (teq hc70_230).1) (by decide) (by decide) k) ?_
              show Go _ _ _ _ _ _ _ (T190.setTop (mkF m 85 #[.val (.int p0), .val (.int p1), .val (.int p2), .val (.int p3), .val (.int p4), .val (.int k_), .val (.ref w_LOG), .val (.int v162), .val (.double v171), .second, .val (.double (FP.i2d (((p2.toUInt32 >>> ((1 : Int32) &&& 31).toUInt32).toInt32) &&& (1 : Int32)))), .second, .val (.ref b179), .unset, .unset, .unset] []))
              refine gob (fun _ k => XS.iloadN X190.here hx rfl (hb hby at_85) rfl k) ?_
              show Go _ _ _ _ _ _ _ (T190.setTop (mkF m 86 #[.val (.int p0), .val (.int p1), .val (.int p2), .val (.int p3), .val (.int p4), .val (.int k_), .val (.ref w_LOG), .val (.int v162), .val (.double v171), .second, .val (.double (FP.i2d (((p2.toUInt32 >>> ((1 : Int32) &&& 31).toUInt32).toInt32) &&& (1 : Int32)))), .second, .val (.ref b179), .unset, .unset, .unset] [(.int p1)]))
              by_cases hc86_231 : (0 : Int32) < p1
              · skip
                refine gob (fun _ k => XS.ifNo X190.here hx rfl (hb hby at_86) rfl ((if0 _ _).trans (tlt hc86_231).2.2.2) k) ?_
                show Go _ _ _ _ _ _ _ (T190.setTop (mkF m 89 #[.val (.int p0), .val (.int p1), .val (.int p2), .val (.int p3), .val (.int p4), .val (.int k_), .val (.ref w_LOG), .val (.int v162), .val (.double v171), .second, .val (.double (FP.i2d (((p2.toUInt32 >>> ((1 : Int32) &&& 31).toUInt32).toInt32) &&& (1 : Int32)))), .second, .val (.ref b179), .unset, .unset, .unset] []))
                refine gob (fun _ k => XS.iconst X190.here hx rfl (hb hby at_89) k) ?_
                show Go _ _ _ _ _ _ _ (T190.setTop (mkF m 90 #[.val (.int p0), .val (.int p1), .val (.int p2), .val (.int p3), .val (.int p4), .val (.int k_), .val (.ref w_LOG), .val (.int v162), .val (.double v171), .second, .val (.double (FP.i2d (((p2.toUInt32 >>> ((1 : Int32) &&& 31).toUInt32).toInt32) &&& (1 : Int32)))), .second, .val (.ref b179), .unset, .unset, .unset] [(.int (1 : Int32))]))
                refine gob (fun _ k => XS.goto X190.here hx rfl (pc0 := 90) (pc' := 94) rfl (hb hby at_90) (by decide) (by decide) k) ?_
                show Go _ _ _ _ _ _ _ (T190.setTop (mkF m 94 #[.val (.int p0), .val (.int p1), .val (.int p2), .val (.int p3), .val (.int p4), .val (.int k_), .val (.ref w_LOG), .val (.int v162), .val (.double v171), .second, .val (.double (FP.i2d (((p2.toUInt32 >>> ((1 : Int32) &&& 31).toUInt32).toInt32) &&& (1 : Int32)))), .second, .val (.ref b179), .unset, .unset, .unset] [(.int (1 : Int32))]))
                exact join94_202 _ _ ((1 : Int32)) X190 (rfl : T190.heap = _) N190 (Or.inl ⟨hc70_230, hc86_231, rfl⟩)
              · skip
                refine gob (fun _ k => XS.ifYes X190.here hx rfl (pc0 := 86) (pc' := 93) rfl (hb hby at_86) rfl ((if0 _ _).trans (flt hc86_231).2.2.2) (by decide) (by decide) k) ?_
                show Go _ _ _ _ _ _ _ (T190.setTop (mkF m 93 #[.val (.int p0), .val (.int p1), .val (.int p2), .val (.int p3), .val (.int p4), .val (.int k_), .val (.ref w_LOG), .val (.int v162), .val (.double v171), .second, .val (.double (FP.i2d (((p2.toUInt32 >>> ((1 : Int32) &&& 31).toUInt32).toInt32) &&& (1 : Int32)))), .second, .val (.ref b179), .unset, .unset, .unset] []))
                refine gob (fun _ k => XS.iconst X190.here hx rfl (hb hby at_93) k) ?_
                show Go _ _ _ _ _ _ _ (T190.setTop (mkF m 94 #[.val (.int p0), .val (.int p1), .val (.int p2), .val (.int p3), .val (.int p4), .val (.int k_), .val (.ref w_LOG), .val (.int v162), .val (.double v171), .second, .val (.double (FP.i2d (((p2.toUInt32 >>> ((1 : Int32) &&& 31).toUInt32).toInt32) &&& (1 : Int32)))), .second, .val (.ref b179), .unset, .unset, .unset] [(.int (0 : Int32))]))
                exact join94_202 _ _ ((0 : Int32)) X190 (rfl : T190.heap = _) N190 (Or.inr (Or.inl ⟨hc70_230, hc86_231, rfl⟩))
            · skip
              refine gob (fun _ k => XS.ifNo X190.here hx rfl (hb hby at_70) rfl ((if0 _ _).trans (feq hc70_230).1) k) ?_
              show Go _ _ _ _ _ _ _ (T190.setTop (mkF m 73 #[.val (.int p0), .val (.int p1), .val (.int p2), .val (.int p3), .val (.int p4), .val (.int k_), .val (.ref w_LOG), .val (.int v162), .val (.double v171), .second, .val (.double (FP.i2d (((p2.toUInt32 >>> ((1 : Int32) &&& 31).toUInt32).toInt32) &&& (1 : Int32)))), .second, .val (.ref b179), .unset, .unset, .unset] []))
              refine gob (fun _ k => XS.iloadN X190.here hx rfl (hb hby at_73) rfl k) ?_
              show Go _ _ _ _ _ _ _ (T190.setTop (mkF m 74 #[.val (.int p0), .val (.int p1), .val (.int p2), .val (.int p3), .val (.int p4), .val (.int k_), .val (.ref w_LOG), .val (.int v162), .val (.double v171), .second, .val (.double (FP.i2d (((p2.toUInt32 >>> ((1 : Int32) &&& 31).toUInt32).toInt32) &&& (1 : Int32)))), .second, .val (.ref b179), .unset, .unset, .unset] [(.int p1)]))
              by_cases hc74_232 : p1 < (0 : Int32)
              · skip
                refine gob (fun _ k => XS.ifNo X190.here hx rfl (hb hby at_74) rfl ((if0 _ _).trans (tlt hc74_232).2.1) k) ?_
                show Go _ _ _ _ _ _ _ (T190.setTop (mkF m 77 #[.val (.int p0), .val (.int p1), .val (.int p2), .val (.int p3), .val (.int p4), .val (.int k_), .val (.ref w_LOG), .val (.int v162), .val (.double v171), .second, .val (.double (FP.i2d (((p2.toUInt32 >>> ((1 : Int32) &&& 31).toUInt32).toInt32) &&& (1 : Int32)))), .second, .val (.ref b179), .unset, .unset, .unset] []))
                refine gob (fun _ k => XS.iconst X190.here hx rfl (hb hby at_77) k) ?_
                show Go _ _ _ _ _ _ _ (T190.setTop (mkF m 78 #[.val (.int p0), .val (.int p1), .val (.int p2), .val (.int p3), .val (.int p4), .val (.int k_), .val (.ref w_LOG), .val (.int v162), .val (.double v171), .second, .val (.double (FP.i2d (((p2.toUInt32 >>> ((1 : Int32) &&& 31).toUInt32).toInt32) &&& (1 : Int32)))), .second, .val (.ref b179), .unset, .unset, .unset] [(.int (1 : Int32))]))
                refine gob (fun _ k => XS.goto X190.here hx rfl (pc0 := 78) (pc' := 94) rfl (hb hby at_78) (by decide) (by decide) k) ?_
                show Go _ _ _ _ _ _ _ (T190.setTop (mkF m 94 #[.val (.int p0), .val (.int p1), .val (.int p2), .val (.int p3), .val (.int p4), .val (.int k_), .val (.ref w_LOG), .val (.int v162), .val (.double v171), .second, .val (.double (FP.i2d (((p2.toUInt32 >>> ((1 : Int32) &&& 31).toUInt32).toInt32) &&& (1 : Int32)))), .second, .val (.ref b179), .unset, .unset, .unset] [(.int (1 : Int32))]))
                exact join94_202 _ _ ((1 : Int32)) X190 (rfl : T190.heap = _) N190 (Or.inr (Or.inr (Or.inl ⟨hc70_230, hc74_232, rfl⟩)))
              · skip
                refine gob (fun _ k => XS.ifYes X190.here hx rfl (pc0 := 74) (pc' := 81) rfl (hb hby at_74) rfl ((if0 _ _).trans (flt hc74_232).2.1) (by decide) (by decide) k) ?_
                show Go _ _ _ _ _ _ _ (T190.setTop (mkF m 81 #[.val (.int p0), .val (.int p1), .val (.int p2), .val (.int p3), .val (.int p4), .val (.int k_), .val (.ref w_LOG), .val (.int v162), .val (.double v171), .second, .val (.double (FP.i2d (((p2.toUInt32 >>> ((1 : Int32) &&& 31).toUInt32).toInt32) &&& (1 : Int32)))), .second, .val (.ref b179), .unset, .unset, .unset] []))
                refine gob (fun _ k => XS.iconst X190.here hx rfl (hb hby at_81) k) ?_
                show Go _ _ _ _ _ _ _ (T190.setTop (mkF m 82 #[.val (.int p0), .val (.int p1), .val (.int p2), .val (.int p3), .val (.int p4), .val (.int k_), .val (.ref w_LOG), .val (.int v162), .val (.double v171), .second, .val (.double (FP.i2d (((p2.toUInt32 >>> ((1 : Int32) &&& 31).toUInt32).toInt32) &&& (1 : Int32)))), .second, .val (.ref b179), .unset, .unset, .unset] [(.int (0 : Int32))]))
                refine gob (fun _ k => XS.goto X190.here hx rfl (pc0 := 82) (pc' := 94) rfl (hb hby at_82) (by decide) (by decide) k) ?_
                show Go _ _ _ _ _ _ _ (T190.setTop (mkF m 94 #[.val (.int p0), .val (.int p1), .val (.int p2), .val (.int p3), .val (.int p4), .val (.int k_), .val (.ref w_LOG), .val (.int v162), .val (.double v171), .second, .val (.double (FP.i2d (((p2.toUInt32 >>> ((1 : Int32) &&& 31).toUInt32).toInt32) &&& (1 : Int32)))), .second, .val (.ref b179), .unset, .unset, .unset] [(.int (0 : Int32))]))
                exact join94_202 _ _ ((0 : Int32)) X190 (rfl : T190.heap = _) N190 (Or.inr (Or.inr (Or.inr ⟨hc70_230, hc74_232, rfl⟩)))
          by_cases hc27_233 : v162 = (0 : Int32)
          · skip
            refine gob (fun _ k => XS.ifYes X166.here hx rfl (pc0 := 27) (pc' := 36) rfl (hb hby at_27) rfl ((if0 _ _).trans (teq hc27_233).1) (by decide) (by decide) k) ?_
            show Go _ _ _ _ _ _ _ (T164.setTop (mkF m 36 #[.val (.int p0), .val (.int p1), .val (.int p2), .val (.int p3), .val (.int p4), .val (.int k_), .val (.ref w_LOG), .val (.int v162), .unset, .unset, .unset, .unset, .unset, .unset, .unset, .unset] []))
            refine gob (fun _ k => XS.iloadN X166.here hx rfl (hb hby at_36) rfl k) ?_
            show Go _ _ _ _ _ _ _ (T164.setTop (mkF m 37 #[.val (.int p0), .val (.int p1), .val (.int p2), .val (.int p3), .val (.int p4), .val (.int k_), .val (.ref w_LOG), .val (.int v162), .unset, .unset, .unset, .unset, .unset, .unset, .unset, .unset] [(.int p1)]))
            refine gob (fun _ k => XS.i2dS X166.here hx rfl (hb hby at_37) rfl (v := (FP.i2d p1)) rfl k) ?_
            show Go _ _ _ _ _ _ _ (T164.setTop (mkF m 38 #[.val (.int p0), .val (.int p1), .val (.int p2), .val (.int p3), .val (.int p4), .val (.int k_), .val (.ref w_LOG), .val (.int v162), .unset, .unset, .unset, .unset, .unset, .unset, .unset, .unset] [(.double (FP.i2d p1))]))
            exact join38_172 _ _ ((FP.i2d p1)) X166 e167 N168 (Or.inl ⟨hc27_233, rfl⟩)
          · skip
            refine gob (fun _ k => XS.ifNo X166.here hx rfl (hb hby at_27) rfl ((if0 _ _).trans (feq hc27_233).1) k) ?_
            show Go _ _ _ _ _ _ _ (T164.setTop (mkF m 30 #[.val (.int p0), .val (.int p1), .val (.int p2), .val (.int p3), .val (.int p4), .val (.int k_), .val (.ref w_LOG), .val (.int v162), .unset, .unset, .unset, .unset, .unset, .unset, .unset, .unset] []))
            refine gob (fun _ k => XS.iloadN X166.here hx rfl (hb hby at_30) rfl k) ?_
            show Go _ _ _ _ _ _ _ (T164.setTop (mkF m 31 #[.val (.int p0), .val (.int p1), .val (.int p2), .val (.int p3), .val (.int p4), .val (.int k_), .val (.ref w_LOG), .val (.int v162), .unset, .unset, .unset, .unset, .unset, .unset, .unset, .unset] [(.int p1)]))
            refine gob (fun _ k => XS.i2dS X166.here hx rfl (hb hby at_31) rfl (v := (FP.i2d p1)) rfl k) ?_
            show Go _ _ _ _ _ _ _ (T164.setTop (mkF m 32 #[.val (.int p0), .val (.int p1), .val (.int p2), .val (.int p3), .val (.int p4), .val (.int k_), .val (.ref w_LOG), .val (.int v162), .unset, .unset, .unset, .unset, .unset, .unset, .unset, .unset] [(.double (FP.i2d p1))]))
            refine gob (fun _ k => XS.dnegS X166.here hx rfl (hb hby at_32) rfl (v := (FP.dneg (FP.i2d p1))) rfl k) ?_
            show Go _ _ _ _ _ _ _ (T164.setTop (mkF m 33 #[.val (.int p0), .val (.int p1), .val (.int p2), .val (.int p3), .val (.int p4), .val (.int k_), .val (.ref w_LOG), .val (.int v162), .unset, .unset, .unset, .unset, .unset, .unset, .unset, .unset] [(.double (FP.dneg (FP.i2d p1)))]))
            refine gob (fun _ k => XS.goto X166.here hx rfl (pc0 := 33) (pc' := 38) rfl (hb hby at_33) (by decide) (by decide) k) ?_
            show Go _ _ _ _ _ _ _ (T164.setTop (mkF m 38 #[.val (.int p0), .val (.int p1), .val (.int p2), .val (.int p3), .val (.int p4), .val (.int k_), .val (.ref w_LOG), .val (.int v162), .unset, .unset, .unset, .unset, .unset, .unset, .unset, .unset] [(.double (FP.dneg (FP.i2d p1)))]))
            exact join38_172 _ _ ((FP.dneg (FP.i2d p1))) X166 e167 N168 (Or.inr ⟨hc27_233, rfl⟩)
        by_cases hc15_234 : (p2 &&& (1 : Int32)) = (0 : Int32)
        · skip
          refine gob (fun _ k => XS.ifYes X158.here hx rfl (pc0 := 15) (pc' := 22) rfl (hb hby at_15) rfl ((if0 _ _).trans (teq hc15_234).1) (by decide) (by decide) k) ?_
          show Go _ _ _ _ _ _ _ (T158.setTop (mkF m 22 #[.val (.int p0), .val (.int p1), .val (.int p2), .val (.int p3), .val (.int p4), .val (.int k_), .val (.ref w_LOG), .unset, .unset, .unset, .unset, .unset, .unset, .unset, .unset, .unset] []))
          refine gob (fun _ k => XS.iconst X158.here hx rfl (hb hby at_22) k) ?_
          show Go _ _ _ _ _ _ _ (T158.setTop (mkF m 23 #[.val (.int p0), .val (.int p1), .val (.int p2), .val (.int p3), .val (.int p4), .val (.int k_), .val (.ref w_LOG), .unset, .unset, .unset, .unset, .unset, .unset, .unset, .unset, .unset] [(.int (0 : Int32))]))
          exact join23_163 _ _ ((0 : Int32)) X158 (rfl : T158.heap = _) N158 (Or.inl ⟨hc15_234, rfl⟩)
        · skip
          refine gob (fun _ k => XS.ifNo X158.here hx rfl (hb hby at_15) rfl ((if0 _ _).trans (feq hc15_234).1) k) ?_
          show Go _ _ _ _ _ _ _ (T158.setTop (mkF m 18 #[.val (.int p0), .val (.int p1), .val (.int p2), .val (.int p3), .val (.int p4), .val (.int k_), .val (.ref w_LOG), .unset, .unset, .unset, .unset, .unset, .unset, .unset, .unset, .unset] []))
          refine gob (fun _ k => XS.iconst X158.here hx rfl (hb hby at_18) k) ?_
          show Go _ _ _ _ _ _ _ (T158.setTop (mkF m 19 #[.val (.int p0), .val (.int p1), .val (.int p2), .val (.int p3), .val (.int p4), .val (.int k_), .val (.ref w_LOG), .unset, .unset, .unset, .unset, .unset, .unset, .unset, .unset, .unset] [(.int (1 : Int32))]))
          refine gob (fun _ k => XS.goto X158.here hx rfl (pc0 := 19) (pc' := 23) rfl (hb hby at_19) (by decide) (by decide) k) ?_
          show Go _ _ _ _ _ _ _ (T158.setTop (mkF m 23 #[.val (.int p0), .val (.int p1), .val (.int p2), .val (.int p3), .val (.int p4), .val (.int k_), .val (.ref w_LOG), .unset, .unset, .unset, .unset, .unset, .unset, .unset, .unset, .unset] [(.int (1 : Int32))]))
          exact join23_163 _ _ ((1 : Int32)) X158 (rfl : T158.heap = _) N158 (Or.inr ⟨hc15_234, rfl⟩)
      · skip
        show Go _ _ _ _ _ _ _ (s₁.setTop (mkF m 7 #[.val (.int p0), .val (.int p1), .val (.int p2), .val (.int p3), .val (.int p4), .val (.int k_), .unset, .unset, .unset, .unset, .unset, .unset, .unset, .unset, .unset, .unset] [(.int k_)]))
        obtain ⟨_, _, ⟨T235, L235, k235, n235⟩, -, X235, ⟨Lc235, hQ235, l235, y235, z235⟩, st235⟩ := Jvm.LawKit.callS X0 hx (y := (⟨"com/example/robust_broker/robustbroker/FitRanksDownwardPinLaw", "formOf", "(I)Lcom/example/robust_broker/robustbroker/Fit$Form;"⟩ : MethodName)) hown (mvT hZ (hw _ (List.mem_of_getElem? (i := 0) rfl))) (mvT hZ (hw _ (List.mem_of_getElem? (i := 1) rfl))) (mvT hZ (hw _ (List.mem_of_getElem? (i := 2) rfl))) (mvT hZ (hw _ (List.mem_of_getElem? (i := 3) rfl))) (by decide) (backOf (W := 0) (rmfoPOW l Z a0 hw [] k_ w_POW h0 n0 Z0 S_POW hc7_1 hc7_79 hc7_157) hZ (hw _ (List.mem_of_getElem? (i := 3) rfl)) (hw _ (List.mem_of_getElem? (i := 2) rfl)) (by decide) (by decide)) (g := (mkF m 7 #[.val (.int p0), .val (.int p1), .val (.int p2), .val (.int p3), .val (.int p4), .val (.int k_), .unset, .unset, .unset, .unset, .unset, .unset, .unset, .unset, .unset, .unset] [(.int k_)])) rfl (by rw [hml]; rfl) (argsL := [(.int k_)]) (rest := []) (lenOf pd_1 rfl) rfl (by show 2 * 0 + _ ≤ _; exact Nat.le_of_eq rfl) (hb hby at_7) (fun _ _ => ⟨rfl, e0, (by decide : 0 + 0 ≤ _), (by decide : 0 + 0 ≤ _)⟩)
        dsimp only [Pt.U, Pt.locs, Pt.cells, Pt.slots] at X235 l235 y235 z235 st235 hQ235
        replace X235 := castX X235 (y235.trans (rfl : _ = 0)) (z235.trans (rfl : _ = 0))
        obtain ⟨rfl, Nq235, K235⟩ := hQ235
        have N235 : Fr n0 L235 := l235 ▸ Fr.app N0 Nq235
        have ns236 := (ns0 (h := h0))
        have z237 : n0 ≤ T235.heap.size := Nat.le_trans Z0 K235.1
        refine gob st235 ?_
        show Go _ _ _ _ _ _ _ (T235.setTop (mkF m 10 #[.val (.int p0), .val (.int p1), .val (.int p2), .val (.int p3), .val (.int p4), .val (.int k_), .unset, .unset, .unset, .unset, .unset, .unset, .unset, .unset, .unset, .unset] [(.ref w_POW)]))
        refine gob (fun _ k => XS.astore X235.here hx rfl (hb hby at_10) rfl rfl (l' := #[.val (.int p0), .val (.int p1), .val (.int p2), .val (.int p3), .val (.int p4), .val (.int k_), .val (.ref w_POW), .unset, .unset, .unset, .unset, .unset, .unset, .unset, .unset, .unset]) rfl k) ?_
        show Go _ _ _ _ _ _ _ (T235.setTop (mkF m 12 #[.val (.int p0), .val (.int p1), .val (.int p2), .val (.int p3), .val (.int p4), .val (.int k_), .val (.ref w_POW), .unset, .unset, .unset, .unset, .unset, .unset, .unset, .unset, .unset] []))
        refine gob (fun _ k => XS.iloadN X235.here hx rfl (hb hby at_12) rfl k) ?_
        show Go _ _ _ _ _ _ _ (T235.setTop (mkF m 13 #[.val (.int p0), .val (.int p1), .val (.int p2), .val (.int p3), .val (.int p4), .val (.int k_), .val (.ref w_POW), .unset, .unset, .unset, .unset, .unset, .unset, .unset, .unset, .unset] [(.int p2)]))
        refine gob (fun _ k => XS.iconst X235.here hx rfl (hb hby at_13) k) ?_
        show Go _ _ _ _ _ _ _ (T235.setTop (mkF m 14 #[.val (.int p0), .val (.int p1), .val (.int p2), .val (.int p3), .val (.int p4), .val (.int k_), .val (.ref w_POW), .unset, .unset, .unset, .unset, .unset, .unset, .unset, .unset, .unset] [(.int (1 : Int32)), (.int p2)]))
        refine gob (fun _ k => XS.iand X235.here hx rfl (hb hby at_14) rfl k) ?_
        show Go _ _ _ _ _ _ _ (T235.setTop (mkF m 15 #[.val (.int p0), .val (.int p1), .val (.int p2), .val (.int p3), .val (.int p4), .val (.int k_), .val (.ref w_POW), .unset, .unset, .unset, .unset, .unset, .unset, .unset, .unset, .unset] [(.int (p2 &&& (1 : Int32)))]))
        have join23_240 : ∀ (T241 : State) (lj242 : List Loc) (v239 : Int32), Stand p l e room_1 s m #[(.int p0), (.int p1), (.int p2), (.int p3), (.int p4)] below meth c T241 lj242 0 0 → T241.heap = T235.heap → Fr n0 lj242 → ((p2 &&& (1 : Int32)) = (0 : Int32) ∧ v239 = (0 : Int32)) ∨ (¬ ((p2 &&& (1 : Int32)) = (0 : Int32)) ∧ v239 = (1 : Int32)) → Go p e below s (Q0 Z p0 p1 p2 p3 p4 w_LIN w_SQRT w_LOG w_POW h0 n0) 16 128 (T241.setTop (mkF m 23 #[.val (.int p0), .val (.int p1), .val (.int p2), .val (.int p3), .val (.int p4), .val (.int k_), .val (.ref w_POW), .unset, .unset, .unset, .unset, .unset, .unset, .unset, .unset, .unset] [(.int v239)])) := by
          intro T241 lj242 v239 X243 e244 N245 hj246
          show Go _ _ _ _ _ _ _ (T241.setTop (mkF m 23 #[.val (.int p0), .val (.int p1), .val (.int p2), .val (.int p3), .val (.int p4), .val (.int k_), .val (.ref w_POW), .unset, .unset, .unset, .unset, .unset, .unset, .unset, .unset, .unset] [(.int v239)]))
          refine gob (fun _ k => XS.istore X243.here hx rfl (hb hby at_23) rfl (l' := #[.val (.int p0), .val (.int p1), .val (.int p2), .val (.int p3), .val (.int p4), .val (.int k_), .val (.ref w_POW), .val (.int v239), .unset, .unset, .unset, .unset, .unset, .unset, .unset, .unset]) rfl k) ?_
          show Go _ _ _ _ _ _ _ (T241.setTop (mkF m 25 #[.val (.int p0), .val (.int p1), .val (.int p2), .val (.int p3), .val (.int p4), .val (.int k_), .val (.ref w_POW), .val (.int v239), .unset, .unset, .unset, .unset, .unset, .unset, .unset, .unset] []))
          refine gob (fun _ k => XS.iload X243.here hx rfl (hb hby at_25) rfl k) ?_
          show Go _ _ _ _ _ _ _ (T241.setTop (mkF m 27 #[.val (.int p0), .val (.int p1), .val (.int p2), .val (.int p3), .val (.int p4), .val (.int k_), .val (.ref w_POW), .val (.int v239), .unset, .unset, .unset, .unset, .unset, .unset, .unset, .unset] [(.int v239)]))
          have join38_249 : ∀ (T250 : State) (lj251 : List Loc) (v248 : UInt64), Stand p l e room_1 s m #[(.int p0), (.int p1), (.int p2), (.int p3), (.int p4)] below meth c T250 lj251 0 0 → T250.heap = T235.heap → Fr n0 lj251 → (v239 = (0 : Int32) ∧ v248 = (FP.i2d p1)) ∨ (¬ (v239 = (0 : Int32)) ∧ v248 = (FP.dneg (FP.i2d p1))) → Go p e below s (Q0 Z p0 p1 p2 p3 p4 w_LIN w_SQRT w_LOG w_POW h0 n0) 16 128 (T250.setTop (mkF m 38 #[.val (.int p0), .val (.int p1), .val (.int p2), .val (.int p3), .val (.int p4), .val (.int k_), .val (.ref w_POW), .val (.int v239), .unset, .unset, .unset, .unset, .unset, .unset, .unset, .unset] [(.double v248)])) := by
            intro T250 lj251 v248 X252 e253 N254 hj255
            show Go _ _ _ _ _ _ _ (T250.setTop (mkF m 38 #[.val (.int p0), .val (.int p1), .val (.int p2), .val (.int p3), .val (.int p4), .val (.int k_), .val (.ref w_POW), .val (.int v239), .unset, .unset, .unset, .unset, .unset, .unset, .unset, .unset] [(.double v248)]))
            refine gob (fun _ k => XS.dstore X252.here hx rfl (hb hby at_38) rfl (l' := #[.val (.int p0), .val (.int p1), .val (.int p2), .val (.int p3), .val (.int p4), .val (.int k_), .val (.ref w_POW), .val (.int v239), .val (.double v248), .second, .unset, .unset, .unset, .unset, .unset, .unset]) rfl k) ?_
            show Go _ _ _ _ _ _ _ (T250.setTop (mkF m 40 #[.val (.int p0), .val (.int p1), .val (.int p2), .val (.int p3), .val (.int p4), .val (.int k_), .val (.ref w_POW), .val (.int v239), .val (.double v248), .second, .unset, .unset, .unset, .unset, .unset, .unset] []))
            refine gob (fun _ k => XS.iloadN X252.here hx rfl (hb hby at_40) rfl k) ?_
            show Go _ _ _ _ _ _ _ (T250.setTop (mkF m 41 #[.val (.int p0), .val (.int p1), .val (.int p2), .val (.int p3), .val (.int p4), .val (.int k_), .val (.ref w_POW), .val (.int v239), .val (.double v248), .second, .unset, .unset, .unset, .unset, .unset, .unset] [(.int p2)]))
            refine gob (fun _ k => XS.iconst X252.here hx rfl (hb hby at_41) k) ?_
            show Go _ _ _ _ _ _ _ (T250.setTop (mkF m 42 #[.val (.int p0), .val (.int p1), .val (.int p2), .val (.int p3), .val (.int p4), .val (.int k_), .val (.ref w_POW), .val (.int v239), .val (.double v248), .second, .unset, .unset, .unset, .unset, .unset, .unset] [(.int (1 : Int32)), (.int p2)]))
            refine gob (fun _ k => XS.iushr X252.here hx rfl (hb hby at_42) rfl k) ?_
            show Go _ _ _ _ _ _ _ (T250.setTop (mkF m 43 #[.val (.int p0), .val (.int p1), .val (.int p2), .val (.int p3), .val (.int p4), .val (.int k_), .val (.ref w_POW), .val (.int v239), .val (.double v248), .second, .unset, .unset, .unset, .unset, .unset, .unset] [(.int ((p2.toUInt32 >>> ((1 : Int32) &&& 31).toUInt32).toInt32))]))
            refine gob (fun _ k => XS.iconst X252.here hx rfl (hb hby at_43) k) ?_
            show Go _ _ _ _ _ _ _ (T250.setTop (mkF m 44 #[.val (.int p0), .val (.int p1), .val (.int p2), .val (.int p3), .val (.int p4), .val (.int k_), .val (.ref w_POW), .val (.int v239), .val (.double v248), .second, .unset, .unset, .unset, .unset, .unset, .unset] [(.int (1 : Int32)), (.int ((p2.toUInt32 >>> ((1 : Int32) &&& 31).toUInt32).toInt32))]))
            refine gob (fun _ k => XS.iand X252.here hx rfl (hb hby at_44) rfl k) ?_
            show Go _ _ _ _ _ _ _ (T250.setTop (mkF m 45 #[.val (.int p0), .val (.int p1), .val (.int p2), .val (.int p3), .val (.int p4), .val (.int k_), .val (.ref w_POW), .val (.int v239), .val (.double v248), .second, .unset, .unset, .unset, .unset, .unset, .unset] [(.int (((p2.toUInt32 >>> ((1 : Int32) &&& 31).toUInt32).toInt32) &&& (1 : Int32)))]))
            refine gob (fun _ k => XS.i2dS X252.here hx rfl (hb hby at_45) rfl (v := (FP.i2d (((p2.toUInt32 >>> ((1 : Int32) &&& 31).toUInt32).toInt32) &&& (1 : Int32)))) rfl k) ?_
            show Go _ _ _ _ _ _ _ (T250.setTop (mkF m 46 #[.val (.int p0), .val (.int p1), .val (.int p2), .val (.int p3), .val (.int p4), .val (.int k_), .val (.ref w_POW), .val (.int v239), .val (.double v248), .second, .unset, .unset, .unset, .unset, .unset, .unset] [(.double (FP.i2d (((p2.toUInt32 >>> ((1 : Int32) &&& 31).toUInt32).toInt32) &&& (1 : Int32))))]))
            refine gob (fun _ k => XS.dstore X252.here hx rfl (hb hby at_46) rfl (l' := #[.val (.int p0), .val (.int p1), .val (.int p2), .val (.int p3), .val (.int p4), .val (.int k_), .val (.ref w_POW), .val (.int v239), .val (.double v248), .second, .val (.double (FP.i2d (((p2.toUInt32 >>> ((1 : Int32) &&& 31).toUInt32).toInt32) &&& (1 : Int32)))), .second, .unset, .unset, .unset, .unset]) rfl k) ?_
            show Go _ _ _ _ _ _ _ (T250.setTop (mkF m 48 #[.val (.int p0), .val (.int p1), .val (.int p2), .val (.int p3), .val (.int p4), .val (.int k_), .val (.ref w_POW), .val (.int v239), .val (.double v248), .second, .val (.double (FP.i2d (((p2.toUInt32 >>> ((1 : Int32) &&& 31).toUInt32).toInt32) &&& (1 : Int32)))), .second, .unset, .unset, .unset, .unset] []))
            obtain ⟨T256, h256, X256, e256, E256, A256, D256, -, st256⟩ := newO X252 hx hZ hown (hw _ (List.mem_of_getElem? (i := 7) rfl)) (hw _ (List.mem_of_getElem? (i := 8) rfl)) (hw _ (List.mem_of_getElem? (i := 9) rfl)) e253 (g := (mkF m 48 #[.val (.int p0), .val (.int p1), .val (.int p2), .val (.int p3), .val (.int p4), .val (.int k_), .val (.ref w_POW), .val (.int v239), .val (.double v248), .second, .val (.double (FP.i2d (((p2.toUInt32 >>> ((1 : Int32) &&& 31).toUInt32).toInt32) &&& (1 : Int32)))), .second, .unset, .unset, .unset, .unset] [])) rfl (hb hby at_48) (by decide) (by decide)
            obtain ⟨b256, g256⟩ : ∃ z, z = T235.heap.size := ⟨_, rfl⟩
            rw [← g256] at A256 D256 st256
            have c257 := (F_LIN.keep K235 nin0)
            have n258 : w_LIN ≠ b256 := Nat.ne_of_lt (Nat.lt_of_lt_of_le c257.lt (Nat.le_of_eq g256.symm))
            have c259 := (F_SQRT.keep K235 nin0)
            have n260 : w_SQRT ≠ b256 := Nat.ne_of_lt (Nat.lt_of_lt_of_le c259.lt (Nat.le_of_eq g256.symm))
            have c261 := (F_LOG.keep K235 nin0)
            have n262 : w_LOG ≠ b256 := Nat.ne_of_lt (Nat.lt_of_lt_of_le c261.lt (Nat.le_of_eq g256.symm))
            have c263 := (F_POW.keep K235 nin0)
            have n264 : w_POW ≠ b256 := Nat.ne_of_lt (Nat.lt_of_lt_of_le c263.lt (Nat.le_of_eq g256.symm))
            have g265 : n0 ≤ b256 := Nat.le_trans z237 (Nat.le_of_eq g256.symm)
            have z266 : n0 ≤ h256.size := Nat.le_trans z237 E256.1
            have F256_form : Fld Z h256 b256 "com/example/robust_broker/robustbroker/Fit" "form" "Lcom/example/robust_broker/robustbroker/Fit$Form;" .null := D256 (Or.inr (hw _ (List.mem_of_getElem? (i := 22) rfl))) (ty := (.object "com/example/robust_broker/robustbroker/Fit$Form")) (by decide)
            have F256_a : Fld Z h256 b256 "com/example/robust_broker/robustbroker/Fit" "a" "D" (.double 0) := D256 (Or.inr (hw _ (List.mem_of_getElem? (i := 24) rfl))) (ty := .double) (by decide)
            have F256_b : Fld Z h256 b256 "com/example/robust_broker/robustbroker/Fit" "b" "D" (.double 0) := D256 (Or.inr (hw _ (List.mem_of_getElem? (i := 26) rfl))) (ty := .double) (by decide)
            have F256_r2 : Fld Z h256 b256 "com/example/robust_broker/robustbroker/Fit" "r2" "D" (.double 0) := D256 (Or.inr (hw _ (List.mem_of_getElem? (i := 28) rfl))) (ty := .double) (by decide)
            have F256_cap : Fld Z h256 b256 "com/example/robust_broker/robustbroker/Fit" "cap" "D" (.double 0) := D256 (Or.inr (hw _ (List.mem_of_getElem? (i := 30) rfl))) (ty := .double) (by decide)
            refine gob st256 ?_
            replace X256 := castX X256 (rfl : _ = 1) (rfl : _ = 5)
            show Go _ _ _ _ _ _ _ (T256.setTop (mkF m 51 #[.val (.int p0), .val (.int p1), .val (.int p2), .val (.int p3), .val (.int p4), .val (.int k_), .val (.ref w_POW), .val (.int v239), .val (.double v248), .second, .val (.double (FP.i2d (((p2.toUInt32 >>> ((1 : Int32) &&& 31).toUInt32).toInt32) &&& (1 : Int32)))), .second, .unset, .unset, .unset, .unset] [(.ref b256)]))
            refine gob (fun _ k => XS.dup X256.here hx rfl (hb hby at_51) rfl rfl k) ?_
            show Go _ _ _ _ _ _ _ (T256.setTop (mkF m 52 #[.val (.int p0), .val (.int p1), .val (.int p2), .val (.int p3), .val (.int p4), .val (.int k_), .val (.ref w_POW), .val (.int v239), .val (.double v248), .second, .val (.double (FP.i2d (((p2.toUInt32 >>> ((1 : Int32) &&& 31).toUInt32).toInt32) &&& (1 : Int32)))), .second, .unset, .unset, .unset, .unset] [(.ref b256), (.ref b256)]))
            refine gob (fun _ k => XS.aload X256.here hx rfl (hb hby at_52) rfl rfl k) ?_
            show Go _ _ _ _ _ _ _ (T256.setTop (mkF m 54 #[.val (.int p0), .val (.int p1), .val (.int p2), .val (.int p3), .val (.int p4), .val (.int k_), .val (.ref w_POW), .val (.int v239), .val (.double v248), .second, .val (.double (FP.i2d (((p2.toUInt32 >>> ((1 : Int32) &&& 31).toUInt32).toInt32) &&& (1 : Int32)))), .second, .unset, .unset, .unset, .unset] [(.ref w_POW), (.ref b256), (.ref b256)]))
            refine gob (fun _ k => XS.dload X256.here hx rfl (hb hby at_54) rfl k) ?_
            show Go _ _ _ _ _ _ _ (T256.setTop (mkF m 56 #[.val (.int p0), .val (.int p1), .val (.int p2), .val (.int p3), .val (.int p4), .val (.int k_), .val (.ref w_POW), .val (.int v239), .val (.double v248), .second, .val (.double (FP.i2d (((p2.toUInt32 >>> ((1 : Int32) &&& 31).toUInt32).toInt32) &&& (1 : Int32)))), .second, .unset, .unset, .unset, .unset] [(.double v248), (.ref w_POW), (.ref b256), (.ref b256)]))
            refine gob (fun _ k => XS.iloadN X256.here hx rfl (hb hby at_56) rfl k) ?_
            show Go _ _ _ _ _ _ _ (T256.setTop (mkF m 57 #[.val (.int p0), .val (.int p1), .val (.int p2), .val (.int p3), .val (.int p4), .val (.int k_), .val (.ref w_POW), .val (.int v239), .val (.double v248), .second, .val (.double (FP.i2d (((p2.toUInt32 >>> ((1 : Int32) &&& 31).toUInt32).toInt32) &&& (1 : Int32)))), .second, .unset, .unset, .unset, .unset] [(.int p3), (.double v248), (.ref w_POW), (.ref b256), (.ref b256)]))
            refine gob (fun _ k => XS.i2dS X256.here hx rfl (hb hby at_57) rfl (v := (FP.i2d p3)) rfl k) ?_
            show Go _ _ _ _ _ _ _ (T256.setTop (mkF m 58 #[.val (.int p0), .val (.int p1), .val (.int p2), .val (.int p3), .val (.int p4), .val (.int k_), .val (.ref w_POW), .val (.int v239), .val (.double v248), .second, .val (.double (FP.i2d (((p2.toUInt32 >>> ((1 : Int32) &&& 31).toUInt32).toInt32) &&& (1 : Int32)))), .second, .unset, .unset, .unset, .unset] [(.double (FP.i2d p3)), (.double v248), (.ref w_POW), (.ref b256), (.ref b256)]))
            refine gob (fun _ k => XS.dload X256.here hx rfl (hb hby at_58) rfl k) ?_
            show Go _ _ _ _ _ _ _ (T256.setTop (mkF m 60 #[.val (.int p0), .val (.int p1), .val (.int p2), .val (.int p3), .val (.int p4), .val (.int k_), .val (.ref w_POW), .val (.int v239), .val (.double v248), .second, .val (.double (FP.i2d (((p2.toUInt32 >>> ((1 : Int32) &&& 31).toUInt32).toInt32) &&& (1 : Int32)))), .second, .unset, .unset, .unset, .unset] [(.double (FP.i2d (((p2.toUInt32 >>> ((1 : Int32) &&& 31).toUInt32).toInt32) &&& (1 : Int32)))), (.double (FP.i2d p3)), (.double v248), (.ref w_POW), (.ref b256), (.ref b256)]))
            refine gob (fun _ k => XS.iload X256.here hx rfl (hb hby at_60) rfl k) ?_
            show Go _ _ _ _ _ _ _ (T256.setTop (mkF m 62 #[.val (.int p0), .val (.int p1), .val (.int p2), .val (.int p3), .val (.int p4), .val (.int k_), .val (.ref w_POW), .val (.int v239), .val (.double v248), .second, .val (.double (FP.i2d (((p2.toUInt32 >>> ((1 : Int32) &&& 31).toUInt32).toInt32) &&& (1 : Int32)))), .second, .unset, .unset, .unset, .unset] [(.int p4), (.double (FP.i2d (((p2.toUInt32 >>> ((1 : Int32) &&& 31).toUInt32).toInt32) &&& (1 : Int32)))), (.double (FP.i2d p3)), (.double v248), (.ref w_POW), (.ref b256), (.ref b256)]))
            refine gob (fun _ k => XS.i2dS X256.here hx rfl (hb hby at_62) rfl (v := (FP.i2d p4)) rfl k) ?_
            show Go _ _ _ _ _ _ _ (T256.setTop (mkF m 63 #[.val (.int p0), .val (.int p1), .val (.int p2), .val (.int p3), .val (.int p4), .val (.int k_), .val (.ref w_POW), .val (.int v239), .val (.double v248), .second, .val (.double (FP.i2d (((p2.toUInt32 >>> ((1 : Int32) &&& 31).toUInt32).toInt32) &&& (1 : Int32)))), .second, .unset, .unset, .unset, .unset] [(.double (FP.i2d p4)), (.double (FP.i2d (((p2.toUInt32 >>> ((1 : Int32) &&& 31).toUInt32).toInt32) &&& (1 : Int32)))), (.double (FP.i2d p3)), (.double v248), (.ref w_POW), (.ref b256), (.ref b256)]))
            obtain ⟨_, _, ⟨T267, L267, k267, n267⟩, -, X267, ⟨Lc267, hQ267, l267, y267, z267⟩, st267⟩ := X256.specialBack hx (y := (⟨"com/example/robust_broker/robustbroker/Fit", "<init>", "(Lcom/example/robust_broker/robustbroker/Fit$Form;DDDD)V"⟩ : MethodName)) rfl hown (mvT hZ (hw _ (List.mem_of_getElem? (i := 10) rfl))) (mvT hZ (hw _ (List.mem_of_getElem? (i := 11) rfl))) (mvT hZ (hw _ (List.mem_of_getElem? (i := 12) rfl))) (by decide) (backOf (W := 1) (rm2 l Z a0 hw [] b256 w_POW v248 (FP.i2d p3) (FP.i2d (((p2.toUInt32 >>> ((1 : Int32) &&& 31).toUInt32).toInt32) &&& (1 : Int32))) (FP.i2d p4) h256 n0 z266 A256 F256_form g265 F256_a F256_b F256_r2 F256_cap) hZ (hw _ (List.mem_of_getElem? (i := 12) rfl)) (hw _ (List.mem_of_getElem? (i := 9) rfl)) (by decide) (by decide)) (g := (mkF m 63 #[.val (.int p0), .val (.int p1), .val (.int p2), .val (.int p3), .val (.int p4), .val (.int k_), .val (.ref w_POW), .val (.int v239), .val (.double v248), .second, .val (.double (FP.i2d (((p2.toUInt32 >>> ((1 : Int32) &&& 31).toUInt32).toInt32) &&& (1 : Int32)))), .second, .unset, .unset, .unset, .unset] [(.double (FP.i2d p4)), (.double (FP.i2d (((p2.toUInt32 >>> ((1 : Int32) &&& 31).toUInt32).toInt32) &&& (1 : Int32)))), (.double (FP.i2d p3)), (.double v248), (.ref w_POW), (.ref b256), (.ref b256)])) rfl (by rw [hml]; rfl) (Steps.refl _) (a := b256) (argsL := [(.ref w_POW), (.double v248), (.double (FP.i2d p3)), (.double (FP.i2d (((p2.toUInt32 >>> ((1 : Int32) &&& 31).toUInt32).toInt32) &&& (1 : Int32)))), (.double (FP.i2d p4))]) (rest := [(.ref b256)]) (lenOf pd_2 rfl) rfl (by show 2 * 0 + _ ≤ _; exact Nat.le_of_eq rfl) (hb hby at_63) (fun _ _ => ⟨rfl, e256, (by decide : 1 + 0 ≤ _), (by decide : 5 + 0 ≤ _)⟩)
            dsimp only [Pt.U, Pt.locs, Pt.cells, Pt.slots] at X267 l267 y267 z267 st267 hQ267
            replace X267 := castX X267 (y267.trans (rfl : _ = 1)) (z267.trans (rfl : _ = 5))
            obtain ⟨rfl, Nq267, K267, F268, F269, F270, F271, F272⟩ := hQ267
            have N267 : Fr n0 L267 := l267 ▸ Fr.app N254 Nq267
            have ns273 := (nsS A256.nostat ns0)
            have z274 : n0 ≤ T267.heap.size := Nat.le_trans z266 K267.1
            refine gob (fun _ k => st267.trans k) ?_
            show Go _ _ _ _ _ _ _ (T267.setTop (mkF m 66 #[.val (.int p0), .val (.int p1), .val (.int p2), .val (.int p3), .val (.int p4), .val (.int k_), .val (.ref w_POW), .val (.int v239), .val (.double v248), .second, .val (.double (FP.i2d (((p2.toUInt32 >>> ((1 : Int32) &&& 31).toUInt32).toInt32) &&& (1 : Int32)))), .second, .unset, .unset, .unset, .unset] [(.ref b256)]))
            refine gob (fun _ k => XS.astore X267.here hx rfl (hb hby at_66) rfl rfl (l' := #[.val (.int p0), .val (.int p1), .val (.int p2), .val (.int p3), .val (.int p4), .val (.int k_), .val (.ref w_POW), .val (.int v239), .val (.double v248), .second, .val (.double (FP.i2d (((p2.toUInt32 >>> ((1 : Int32) &&& 31).toUInt32).toInt32) &&& (1 : Int32)))), .second, .val (.ref b256), .unset, .unset, .unset]) rfl k) ?_
            show Go _ _ _ _ _ _ _ (T267.setTop (mkF m 68 #[.val (.int p0), .val (.int p1), .val (.int p2), .val (.int p3), .val (.int p4), .val (.int k_), .val (.ref w_POW), .val (.int v239), .val (.double v248), .second, .val (.double (FP.i2d (((p2.toUInt32 >>> ((1 : Int32) &&& 31).toUInt32).toInt32) &&& (1 : Int32)))), .second, .val (.ref b256), .unset, .unset, .unset] []))
            refine gob (fun _ k => XS.iload X267.here hx rfl (hb hby at_68) rfl k) ?_
            show Go _ _ _ _ _ _ _ (T267.setTop (mkF m 70 #[.val (.int p0), .val (.int p1), .val (.int p2), .val (.int p3), .val (.int p4), .val (.int k_), .val (.ref w_POW), .val (.int v239), .val (.double v248), .second, .val (.double (FP.i2d (((p2.toUInt32 >>> ((1 : Int32) &&& 31).toUInt32).toInt32) &&& (1 : Int32)))), .second, .val (.ref b256), .unset, .unset, .unset] [(.int v239)]))
            have join94_279 : ∀ (T280 : State) (lj281 : List Loc) (v278 : Int32), Stand p l e room_1 s m #[(.int p0), (.int p1), (.int p2), (.int p3), (.int p4)] below meth c T280 lj281 1 5 → T280.heap = T267.heap → Fr n0 lj281 → (v239 = (0 : Int32) ∧ (0 : Int32) < p1 ∧ v278 = (1 : Int32)) ∨ (v239 = (0 : Int32) ∧ ¬ ((0 : Int32) < p1) ∧ v278 = (0 : Int32)) ∨ (¬ (v239 = (0 : Int32)) ∧ p1 < (0 : Int32) ∧ v278 = (1 : Int32)) ∨ (¬ (v239 = (0 : Int32)) ∧ ¬ (p1 < (0 : Int32)) ∧ v278 = (0 : Int32)) → Go p e below s (Q0 Z p0 p1 p2 p3 p4 w_LIN w_SQRT w_LOG w_POW h0 n0) 16 128 (T280.setTop (mkF m 94 #[.val (.int p0), .val (.int p1), .val (.int p2), .val (.int p3), .val (.int p4), .val (.int k_), .val (.ref w_POW), .val (.int v239), .val (.double v248), .second, .val (.double (FP.i2d (((p2.toUInt32 >>> ((1 : Int32) &&& 31).toUInt32).toInt32) &&& (1 : Int32)))), .second, .val (.ref b256), .unset, .unset, .unset] [(.int v278)])) := by
              intro T280 lj281 v278 X282 e283 N284 hj285
              show Go _ _ _ _ _ _ _ (T280.setTop (mkF m 94 #[.val (.int p0), .val (.int p1), .val (.int p2), .val (.int p3), .val (.int p4), .val (.int k_), .val (.ref w_POW), .val (.int v239), .val (.double v248), .second, .val (.double (FP.i2d (((p2.toUInt32 >>> ((1 : Int32) &&& 31).toUInt32).toInt32) &&& (1 : Int32)))), .second, .val (.ref b256), .unset, .unset, .unset] [(.int v278)]))
              refine gob (fun _ k => XS.istore X282.here hx rfl (hb hby at_94) rfl (l' := #[.val (.int p0), .val (.int p1), .val (.int p2), .val (.int p3), .val (.int p4), .val (.int k_), .val (.ref w_POW), .val (.int v239), .val (.double v248), .second, .val (.double (FP.i2d (((p2.toUInt32 >>> ((1 : Int32) &&& 31).toUInt32).toInt32) &&& (1 : Int32)))), .second, .val (.ref b256), .val (.int v278), .unset, .unset]) rfl k) ?_
              show Go _ _ _ _ _ _ _ (T280.setTop (mkF m 96 #[.val (.int p0), .val (.int p1), .val (.int p2), .val (.int p3), .val (.int p4), .val (.int k_), .val (.ref w_POW), .val (.int v239), .val (.double v248), .second, .val (.double (FP.i2d (((p2.toUInt32 >>> ((1 : Int32) &&& 31).toUInt32).toInt32) &&& (1 : Int32)))), .second, .val (.ref b256), .val (.int v278), .unset, .unset] []))
              refine gob (fun _ k => XS.iload X282.here hx rfl (hb hby at_96) rfl k) ?_
              show Go _ _ _ _ _ _ _ (T280.setTop (mkF m 98 #[.val (.int p0), .val (.int p1), .val (.int p2), .val (.int p3), .val (.int p4), .val (.int k_), .val (.ref w_POW), .val (.int v239), .val (.double v248), .second, .val (.double (FP.i2d (((p2.toUInt32 >>> ((1 : Int32) &&& 31).toUInt32).toInt32) &&& (1 : Int32)))), .second, .val (.ref b256), .val (.int v278), .unset, .unset] [(.int v239)]))
              have join122_290 : ∀ (T291 : State) (lj292 : List Loc) (v289 : Int32), Stand p l e room_1 s m #[(.int p0), (.int p1), (.int p2), (.int p3), (.int p4)] below meth c T291 lj292 1 5 → T291.heap = T267.heap → Fr n0 lj292 → (v239 = (0 : Int32) ∧ p1 < (0 : Int32) ∧ v289 = (1 : Int32)) ∨ (v239 = (0 : Int32) ∧ ¬ (p1 < (0 : Int32)) ∧ v289 = (0 : Int32)) ∨ (¬ (v239 = (0 : Int32)) ∧ (0 : Int32) < p1 ∧ v289 = (1 : Int32)) ∨ (¬ (v239 = (0 : Int32)) ∧ ¬ ((0 : Int32) < p1) ∧ v289 = (0 : Int32)) → Go p e below s (Q0 Z p0 p1 p2 p3 p4 w_LIN w_SQRT w_LOG w_POW h0 n0) 16 128 (T291.setTop (mkF m 122 #[.val (.int p0), .val (.int p1), .val (.int p2), .val (.int p3), .val (.int p4), .val (.int k_), .val (.ref w_POW), .val (.int v239), .val (.double v248), .second, .val (.double (FP.i2d (((p2.toUInt32 >>> ((1 : Int32) &&& 31).toUInt32).toInt32) &&& (1 : Int32)))), .second, .val (.ref b256), .val (.int v278), .unset, .unset] [(.int v289)])) := by
                intro T291 lj292 v289 X293 e294 N295 hj296
                show Go _ _ _ _ _ _ _ (T291.setTop (mkF m 122 #[.val (.int p0), .val (.int p1), .val (.int p2), .val (.int p3), .val (.int p4), .val (.int k_), .val (.ref w_POW), .val (.int v239), .val (.double v248), .second, .val (.double (FP.i2d (((p2.toUInt32 >>> ((1 : Int32) &&& 31).toUInt32).toInt32) &&& (1 : Int32)))), .second, .val (.ref b256), .val (.int v278), .unset, .unset] [(.int v289)]))
                refine gob (fun _ k => XS.istore X293.here hx rfl (hb hby at_122) rfl (l' := #[.val (.int p0), .val (.int p1), .val (.int p2), .val (.int p3), .val (.int p4), .val (.int k_), .val (.ref w_POW), .val (.int v239), .val (.double v248), .second, .val (.double (FP.i2d (((p2.toUInt32 >>> ((1 : Int32) &&& 31).toUInt32).toInt32) &&& (1 : Int32)))), .second, .val (.ref b256), .val (.int v278), .val (.int v289), .unset]) rfl k) ?_
                show Go _ _ _ _ _ _ _ (T291.setTop (mkF m 124 #[.val (.int p0), .val (.int p1), .val (.int p2), .val (.int p3), .val (.int p4), .val (.int k_), .val (.ref w_POW), .val (.int v239), .val (.double v248), .second, .val (.double (FP.i2d (((p2.toUInt32 >>> ((1 : Int32) &&& 31).toUInt32).toInt32) &&& (1 : Int32)))), .second, .val (.ref b256), .val (.int v278), .val (.int v289), .unset] []))
                refine gob (fun _ k => XS.iload X293.here hx rfl (hb hby at_124) rfl k) ?_
                show Go _ _ _ _ _ _ _ (T291.setTop (mkF m 126 #[.val (.int p0), .val (.int p1), .val (.int p2), .val (.int p3), .val (.int p4), .val (.int k_), .val (.ref w_POW), .val (.int v239), .val (.double v248), .second, .val (.double (FP.i2d (((p2.toUInt32 >>> ((1 : Int32) &&& 31).toUInt32).toInt32) &&& (1 : Int32)))), .second, .val (.ref b256), .val (.int v278), .val (.int v289), .unset] [(.int k_)]))
                refine gob (fun _ k => XS.iconst X293.here hx rfl (hb hby at_126) k) ?_
                show Go _ _ _ _ _ _ _ (T291.setTop (mkF m 127 #[.val (.int p0), .val (.int p1), .val (.int p2), .val (.int p3), .val (.int p4), .val (.int k_), .val (.ref w_POW), .val (.int v239), .val (.double v248), .second, .val (.double (FP.i2d (((p2.toUInt32 >>> ((1 : Int32) &&& 31).toUInt32).toInt32) &&& (1 : Int32)))), .second, .val (.ref b256), .val (.int v278), .val (.int v289), .unset] [(.int (3 : Int32)), (.int k_)]))
                have hd298 : k_ = (3 : Int32) := ld_0_127_297 p0 k_ hk_ hc7_1 hc7_79 hc7_157
                refine gob (fun _ k => XS.icmpNo X293.here hx rfl (hb hby at_127) rfl (teq hd298).2 k) ?_
                show Go _ _ _ _ _ _ _ (T291.setTop (mkF m 130 #[.val (.int p0), .val (.int p1), .val (.int p2), .val (.int p3), .val (.int p4), .val (.int k_), .val (.ref w_POW), .val (.int v239), .val (.double v248), .second, .val (.double (FP.i2d (((p2.toUInt32 >>> ((1 : Int32) &&& 31).toUInt32).toInt32) &&& (1 : Int32)))), .second, .val (.ref b256), .val (.int v278), .val (.int v289), .unset] []))
                refine gob (fun _ k => XS.iload X293.here hx rfl (hb hby at_130) rfl k) ?_
                show Go _ _ _ _ _ _ _ (T291.setTop (mkF m 132 #[.val (.int p0), .val (.int p1), .val (.int p2), .val (.int p3), .val (.int p4), .val (.int k_), .val (.ref w_POW), .val (.int v239), .val (.double v248), .second, .val (.double (FP.i2d (((p2.toUInt32 >>> ((1 : Int32) &&& 31).toUInt32).toInt32) &&& (1 : Int32)))), .second, .val (.ref b256), .val (.int v278), .val (.int v289), .unset] [(.int v278)]))
                refine gob (fun _ k => XS.goto X293.here hx rfl (pc0 := 132) (pc' := 137) rfl (hb hby at_132) (by decide) (by decide) k) ?_
                show Go _ _ _ _ _ _ _ (T291.setTop (mkF m 137 #[.val (.int p0), .val (.int p1), .val (.int p2), .val (.int p3), .val (.int p4), .val (.int k_), .val (.ref w_POW), .val (.int v239), .val (.double v248), .second, .val (.double (FP.i2d (((p2.toUInt32 >>> ((1 : Int32) &&& 31).toUInt32).toInt32) &&& (1 : Int32)))), .second, .val (.ref b256), .val (.int v278), .val (.int v289), .unset] [(.int v278)]))
                refine gob (fun _ k => XS.istore X293.here hx rfl (hb hby at_137) rfl (l' := #[.val (.int p0), .val (.int p1), .val (.int p2), .val (.int p3), .val (.int p4), .val (.int k_), .val (.ref w_POW), .val (.int v239), .val (.double v248), .second, .val (.double (FP.i2d (((p2.toUInt32 >>> ((1 : Int32) &&& 31).toUInt32).toInt32) &&& (1 : Int32)))), .second, .val (.ref b256), .val (.int v278), .val (.int v289), .val (.int v278)]) rfl k) ?_
                show Go _ _ _ _ _ _ _ (T291.setTop (mkF m 139 #[.val (.int p0), .val (.int p1), .val (.int p2), .val (.int p3), .val (.int p4), .val (.int k_), .val (.ref w_POW), .val (.int v239), .val (.double v248), .second, .val (.double (FP.i2d (((p2.toUInt32 >>> ((1 : Int32) &&& 31).toUInt32).toInt32) &&& (1 : Int32)))), .second, .val (.ref b256), .val (.int v278), .val (.int v289), .val (.int v278)] []))
                refine gob (fun _ k => XS.aload X293.here hx rfl (hb hby at_139) rfl rfl k) ?_
                show Go _ _ _ _ _ _ _ (T291.setTop (mkF m 141 #[.val (.int p0), .val (.int p1), .val (.int p2), .val (.int p3), .val (.int p4), .val (.int k_), .val (.ref w_POW), .val (.int v239), .val (.double v248), .second, .val (.double (FP.i2d (((p2.toUInt32 >>> ((1 : Int32) &&& 31).toUInt32).toInt32) &&& (1 : Int32)))), .second, .val (.ref b256), .val (.int v278), .val (.int v289), .val (.int v278)] [(.ref b256)]))
                have c300 := ((c263.ext E256).keep K267 (ninS n264 nin0))
                have c301 := (A256.keep K267)
                obtain ⟨cq299, kq299, q299a, q299b, q299c⟩ := isOf hZ e294 c301
                obtain ⟨_, _, ⟨T299, L299, k299, n299⟩, -, X299, ⟨Lc299, hQ299, l299, y299, z299⟩, st299⟩ := X293.virtualBack hx (y := (⟨"com/example/robust_broker/robustbroker/Fit", "ranksDownward", "()Z"⟩ : MethodName)) (z := (⟨"com/example/robust_broker/robustbroker/Fit", "ranksDownward", "()Z"⟩ : MethodName)) hown (mvT hZ (hw _ (List.mem_of_getElem? (i := 31) rfl))) (mvT hZ (hw _ (List.mem_of_getElem? (i := 32) rfl))) (notFace_of_selects (args := #[]) (mvT hZ (hw _ (List.mem_of_getElem? (i := 34) rfl)))) (mvT hZ (hw _ (List.mem_of_getElem? (i := 34) rfl))) (mvT hZ (hw _ (List.mem_of_getElem? (i := 33) rfl))) (by decide) (backOf (W := 0) (rmrd1 l Z a0 hw [] b256 w_POW v248 T267.heap n0 z274 F268 c300 F269) hZ (hw _ (List.mem_of_getElem? (i := 35) rfl)) (hw _ (List.mem_of_getElem? (i := 9) rfl)) (by decide) (by decide)) q299a q299c (g := (mkF m 141 #[.val (.int p0), .val (.int p1), .val (.int p2), .val (.int p3), .val (.int p4), .val (.int k_), .val (.ref w_POW), .val (.int v239), .val (.double v248), .second, .val (.double (FP.i2d (((p2.toUInt32 >>> ((1 : Int32) &&& 31).toUInt32).toInt32) &&& (1 : Int32)))), .second, .val (.ref b256), .val (.int v278), .val (.int v289), .val (.int v278)] [(.ref b256)])) rfl (by rw [hml]; rfl) (Steps.refl _) (argsL := []) (rest := []) (lenOf pd_3 rfl) rfl (by show 2 * 0 + _ ≤ _; exact Nat.le_of_eq rfl) (hb hby at_141) (fun _ _ => ⟨rfl, e294, (by decide : 1 + 0 ≤ _), (by decide : 5 + 0 ≤ _)⟩)
                dsimp only [Pt.U, Pt.locs, Pt.cells, Pt.slots] at X299 l299 y299 z299 st299 hQ299
                replace X299 := castX X299 (y299.trans (rfl : _ = 1)) (z299.trans (rfl : _ = 5))
                obtain ⟨r299, rfl, hr299, Nq299, e299⟩ := hQ299
                have N299 : Fr n0 L299 := l299 ▸ Fr.app N295 Nq299
                refine gob (fun _ k => st299.trans k) ?_
                show Go _ _ _ _ _ _ _ (T299.setTop (mkF m 144 #[.val (.int p0), .val (.int p1), .val (.int p2), .val (.int p3), .val (.int p4), .val (.int k_), .val (.ref w_POW), .val (.int v239), .val (.double v248), .second, .val (.double (FP.i2d (((p2.toUInt32 >>> ((1 : Int32) &&& 31).toUInt32).toInt32) &&& (1 : Int32)))), .second, .val (.ref b256), .val (.int v278), .val (.int v289), .val (.int v278)] [(.int r299)]))
                refine gob (fun _ k => XS.iload X299.here hx rfl (hb hby at_144) rfl k) ?_
                show Go _ _ _ _ _ _ _ (T299.setTop (mkF m 146 #[.val (.int p0), .val (.int p1), .val (.int p2), .val (.int p3), .val (.int p4), .val (.int k_), .val (.ref w_POW), .val (.int v239), .val (.double v248), .second, .val (.double (FP.i2d (((p2.toUInt32 >>> ((1 : Int32) &&& 31).toUInt32).toInt32) &&& (1 : Int32)))), .second, .val (.ref b256), .val (.int v278), .val (.int v289), .val (.int v278)] [(.int v278), (.int r299)]))
                have hd303 : r299 = v278 := ld_0_146_302 p1 p2 v239 v248 v278 r299 hj246 hj255 hj285 hr299
                refine gob (fun _ k => XS.icmpNo X299.here hx rfl (hb hby at_146) rfl (teq hd303).2 k) ?_
                show Go _ _ _ _ _ _ _ (T299.setTop (mkF m 149 #[.val (.int p0), .val (.int p1), .val (.int p2), .val (.int p3), .val (.int p4), .val (.int k_), .val (.ref w_POW), .val (.int v239), .val (.double v248), .second, .val (.double (FP.i2d (((p2.toUInt32 >>> ((1 : Int32) &&& 31).toUInt32).toInt32) &&& (1 : Int32)))), .second, .val (.ref b256), .val (.int v278), .val (.int v289), .val (.int v278)] []))
                refine gob (fun _ k => XS.iconst X299.here hx rfl (hb hby at_149) k) ?_
                show Go _ _ _ _ _ _ _ (T299.setTop (mkF m 150 #[.val (.int p0), .val (.int p1), .val (.int p2), .val (.int p3), .val (.int p4), .val (.int k_), .val (.ref w_POW), .val (.int v239), .val (.double v248), .second, .val (.double (FP.i2d (((p2.toUInt32 >>> ((1 : Int32) &&& 31).toUInt32).toInt32) &&& (1 : Int32)))), .second, .val (.ref b256), .val (.int v278), .val (.int v289), .val (.int v278)] [(.int (1 : Int32))]))
                refine gob (fun _ k => XS.goto X299.here hx rfl (pc0 := 150) (pc' := 154) rfl (hb hby at_150) (by decide) (by decide) k) ?_
                show Go _ _ _ _ _ _ _ (T299.setTop (mkF m 154 #[.val (.int p0), .val (.int p1), .val (.int p2), .val (.int p3), .val (.int p4), .val (.int k_), .val (.ref w_POW), .val (.int v239), .val (.double v248), .second, .val (.double (FP.i2d (((p2.toUInt32 >>> ((1 : Int32) &&& 31).toUInt32).toInt32) &&& (1 : Int32)))), .second, .val (.ref b256), .val (.int v278), .val (.int v289), .val (.int v278)] [(.int (1 : Int32))]))
                refine goZ X299 hx hlk (t := .boolean) Bd.returns (by simp) (hb hby at_154) (z' := (1 : Int32)) rfl ?_ (by decide) (by decide)
                show Q0 Z p0 p1 p2 p3 p4 w_LIN w_SQRT w_LOG w_POW h0 n0 (some (.int (1 : Int32))) T299.heap _
                exact ⟨rfl, N299⟩
              by_cases hc98_304 : v239 = (0 : Int32)
              · skip
                refine gob (fun _ k => XS.ifYes X282.here hx rfl (pc0 := 98) (pc' := 113) rfl (hb hby at_98) rfl ((if0 _ _).trans (teq hc98_304).1) (by decide) (by decide) k) ?_
                show Go _ _ _ _ _ _ _ (T280.setTop (mkF m 113 #[.val (.int p0), .val (.int p1), .val (.int p2), .val (.int p3), .val (.int p4), .val (.int k_), .val (.ref w_POW), .val (.int v239), .val (.double v248), .second, .val (.double (FP.i2d (((p2.toUInt32 >>> ((1 : Int32) &&& 31).toUInt32).toInt32) &&& (1 : Int32)))), .second, .val (.ref b256), .val (.int v278), .unset, .unset] []))
                refine gob (fun _ k => XS.iloadN X282.here hx rfl (hb hby at_113) rfl k) ?_
                show Go _ _ _ _ _ _ _ (T280.setTop (mkF m 114 #[.val (.int p0), .val (.int p1), .val (.int p2), .val (.int p3), .val (.int p4), .val (.int k_), .val (.ref w_POW), .val (.int v239), .val (.double v248), .second, .val (.double (FP.i2d (((p2.toUInt32 >>> ((1 : Int32) &&& 31).toUInt32).toInt32) &&& (1 : Int32)))), .second, .val (.ref b256), .val (.int v278), .unset, .unset] [(.int p1)]))
                by_cases hc114_305 : p1 < (0 : Int32)
                · skip
                  refine gob (fun _ k => XS.ifNo X282.here hx rfl (hb hby at_114) rfl ((if0 _ _).trans (tlt hc114_305).2.1) k) ?_
                  show Go _ _ _ _ _ _ _ (T280.setTop (mkF m 117 #[.val (.int p0), .val (.int p1), .val (.int p2), .val (.int p3), .val (.int p4), .val (.int k_), .val (.ref w_POW), .val (.int v239), .val (.double v248), .second, .val (.double (FP.i2d (((p2.toUInt32 >>> ((1 : Int32) &&& 31).toUInt32).toInt32) &&& (1 : Int32)))), .second, .val (.ref b256), .val (.int v278), .unset, .unset] []))
                  refine gob (fun _ k => XS.iconst X282.here hx rfl (hb hby at_117) k) ?_
                  show Go _ _ _ _ _ _ _ (T280.setTop (mkF m 118 #[.val (.int p0), .val (.int p1), .val (.int p2), .val (.int p3), .val (.int p4), .val (.int k_), .val (.ref w_POW), .val (.int v239), .val (.double v248), .second, .val (.double (FP.i2d (((p2.toUInt32 >>> ((1 : Int32) &&& 31).toUInt32).toInt32) &&& (1 : Int32)))), .second, .val (.ref b256), .val (.int v278), .unset, .unset] [(.int (1 : Int32))]))
                  refine gob (fun _ k => XS.goto X282.here hx rfl (pc0 := 118) (pc' := 122) rfl (hb hby at_118) (by decide) (by decide) k) ?_
                  show Go _ _ _ _ _ _ _ (T280.setTop (mkF m 122 #[.val (.int p0), .val (.int p1), .val (.int p2), .val (.int p3), .val (.int p4), .val (.int k_), .val (.ref w_POW), .val (.int v239), .val (.double v248), .second, .val (.double (FP.i2d (((p2.toUInt32 >>> ((1 : Int32) &&& 31).toUInt32).toInt32) &&& (1 : Int32)))), .second, .val (.ref b256), .val (.int v278), .unset, .unset] [(.int (1 : Int32))]))
                  exact join122_290 _ _ ((1 : Int32)) X282 e283 N284 (Or.inl ⟨hc98_304, hc114_305, rfl⟩)
                · skip
                  refine gob (fun _ k => XS.ifYes X282.here hx rfl (pc0 := 114) (pc' := 121) rfl (hb hby at_114) rfl ((if0 _ _).trans (flt hc114_305).2.1) (by decide) (by decide) k) ?_
                  show Go _ _ _ _ _ _ _ (T280.setTop (mkF m 121 #[.val (.int p0), .val (.int p1), .val (.int p2), .val (.int p3), .val (.int p4), .val (.int k_), .val (.ref w_POW), .val (.int v239), .val (.double v248), .second, .val (.double (FP.i2d (((p2.toUInt32 >>> ((1 : Int32) &&& 31).toUInt32).toInt32) &&& (1 : Int32)))), .second, .val (.ref b256), .val (.int v278), .unset, .unset] []))
                  refine gob (fun _ k => XS.iconst X282.here hx rfl (hb hby at_121) k) ?_
                  show Go _ _ _ _ _ _ _ (T280.setTop (mkF m 122 #[.val (.int p0), .val (.int p1), .val (.int p2), .val (.int p3), .val (.int p4), .val (.int k_), .val (.ref w_POW), .val (.int v239), .val (.double v248), .second, .val (.double (FP.i2d (((p2.toUInt32 >>> ((1 : Int32) &&& 31).toUInt32).toInt32) &&& (1 : Int32)))), .second, .val (.ref b256), .val (.int v278), .unset, .unset] [(.int (0 : Int32))]))
                  exact join122_290 _ _ ((0 : Int32)) X282 e283 N284 (Or.inr (Or.inl ⟨hc98_304, hc114_305, rfl⟩))
              · skip
                refine gob (fun _ k => XS.ifNo X282.here hx rfl (hb hby at_98) rfl ((if0 _ _).trans (feq hc98_304).1) k) ?_
                show Go _ _ _ _ _ _ _ (T280.setTop (mkF m 101 #[.val (.int p0), .val (.int p1), .val (.int p2), .val (.int p3), .val (.int p4), .val (.int k_), .val (.ref w_POW), .val (.int v239), .val (.double v248), .second, .val (.double (FP.i2d (((p2.toUInt32 >>> ((1 : Int32) &&& 31).toUInt32).toInt32) &&& (1 : Int32)))), .second, .val (.ref b256), .val (.int v278), .unset, .unset] []))
                refine gob (fun _ k => XS.iloadN X282.here hx rfl (hb hby at_101) rfl k) ?_
                show Go _ _ _ _ _ _ _ (T280.setTop (mkF m 102 #[.val (.int p0), .val (.int p1), .val (.int p2), .val (.int p3), .val (.int p4), .val (.int k_), .val (.ref w_POW), .val (.int v239), .val (.double v248), .second, .val (.double (FP.i2d (((p2.toUInt32 >>> ((1 : Int32) &&& 31).toUInt32).toInt32) &&& (1 : Int32)))), .second, .val (.ref b256), .val (.int v278), .unset, .unset] [(.int p1)]))
                by_cases hc102_306 : (0 : Int32) < p1
                · skip
                  refine gob (fun _ k => XS.ifNo X282.here hx rfl (hb hby at_102) rfl ((if0 _ _).trans (tlt hc102_306).2.2.2) k) ?_
                  show Go _ _ _ _ _ _ _ (T280.setTop (mkF m 105 #[.val (.int p0), .val (.int p1), .val (.int p2), .val (.int p3), .val (.int p4), .val (.int k_), .val (.ref w_POW), .val (.int v239), .val (.double v248), .second, .val (.double (FP.i2d (((p2.toUInt32 >>> ((1 : Int32) &&& 31).toUInt32).toInt32) &&& (1 : Int32)))), .second, .val (.ref b256), .val (.int v278), .unset, .unset] []))
                  refine gob (fun _ k => XS.iconst X282.here hx rfl (hb hby at_105) k) ?_
                  show Go _ _ _ _ _ _ _ (T280.setTop (mkF m 106 #[.val (.int p0), .val (.int p1), .val (.int p2), .val (.int p3), .val (.int p4), .val (.int k_), .val (.ref w_POW), .val (.int v239), .val (.double v248), .second, .val (.double (FP.i2d (((p2.toUInt32 >>> ((1 : Int32) &&& 31).toUInt32).toInt32) &&& (1 : Int32)))), .second, .val (.ref b256), .val (.int v278), .unset, .unset] [(.int (1 : Int32))]))
                  refine gob (fun _ k => XS.goto X282.here hx rfl (pc0 := 106) (pc' := 122) rfl (hb hby at_106) (by decide) (by decide) k) ?_
                  show Go _ _ _ _ _ _ _ (T280.setTop (mkF m 122 #[.val (.int p0), .val (.int p1), .val (.int p2), .val (.int p3), .val (.int p4), .val (.int k_), .val (.ref w_POW), .val (.int v239), .val (.double v248), .second, .val (.double (FP.i2d (((p2.toUInt32 >>> ((1 : Int32) &&& 31).toUInt32).toInt32) &&& (1 : Int32)))), .second, .val (.ref b256), .val (.int v278), .unset, .unset] [(.int (1 : Int32))]))
                  exact join122_290 _ _ ((1 : Int32)) X282 e283 N284 (Or.inr (Or.inr (Or.inl ⟨hc98_304, hc102_306, rfl⟩)))
                · skip
                  refine gob (fun _ k => XS.ifYes X282.here hx rfl (pc0 := 102) (pc' := 109) rfl (hb hby at_102) rfl ((if0 _ _).trans (flt hc102_306).2.2.2) (by decide) (by decide) k) ?_
                  show Go _ _ _ _ _ _ _ (T280.setTop (mkF m 109 #[.val (.int p0), .val (.int p1), .val (.int p2), .val (.int p3), .val (.int p4), .val (.int k_), .val (.ref w_POW), .val (.int v239), .val (.double v248), .second, .val (.double (FP.i2d (((p2.toUInt32 >>> ((1 : Int32) &&& 31).toUInt32).toInt32) &&& (1 : Int32)))), .second, .val (.ref b256), .val (.int v278), .unset, .unset] []))
                  refine gob (fun _ k => XS.iconst X282.here hx rfl (hb hby at_109) k) ?_
                  show Go _ _ _ _ _ _ _ (T280.setTop (mkF m 110 #[.val (.int p0), .val (.int p1), .val (.int p2), .val (.int p3), .val (.int p4), .val (.int k_), .val (.ref w_POW), .val (.int v239), .val (.double v248), .second, .val (.double (FP.i2d (((p2.toUInt32 >>> ((1 : Int32) &&& 31).toUInt32).toInt32) &&& (1 : Int32)))), .second, .val (.ref b256), .val (.int v278), .unset, .unset] [(.int (0 : Int32))]))
                  refine gob (fun _ k => XS.goto X282.here hx rfl (pc0 := 110) (pc' := 122) rfl (hb hby at_110) (by decide) (by decide) k) ?_
                  show Go _ _ _ _ _ _ _ (T280.setTop (mkF m 122 #[.val (.int p0), .val (.int p1), .val (.int p2), .val (.int p3), .val (.int p4), .val (.int k_), .val (.ref w_POW), .val (.int v239), .val (.double v248), .second, .val (.double (FP.i2d (((p2.toUInt32 >>> ((1 : Int32) &&& 31).toUInt32).toInt32) &&& (1 : Int32)))), .second, .val (.ref b256), .val (.int v278), .unset, .unset] [(.int (0 : Int32))]))
                  exact join122_290 _ _ ((0 : Int32)) X282 e283 N284 (Or.inr (Or.inr (Or.inr ⟨hc98_304, hc102_306, rfl⟩)))
            by_cases hc70_307 : v239 = (0 : Int32)
            · skip
              refine gob (fun _ k => XS.ifYes X267.here hx rfl (pc0 := 70) (pc' := 85) rfl (hb hby at_70) rfl ((if0 _ _).trans (teq hc70_307).1) (by decide) (by decide) k) ?_
              show Go _ _ _ _ _ _ _ (T267.setTop (mkF m 85 #[.val (.int p0), .val (.int p1), .val (.int p2), .val (.int p3), .val (.int p4), .val (.int k_), .val (.ref w_POW), .val (.int v239), .val (.double v248), .second, .val (.double (FP.i2d (((p2.toUInt32 >>> ((1 : Int32) &&& 31).toUInt32).toInt32) &&& (1 : Int32)))), .second, .val (.ref b256), .unset, .unset, .unset] []))
              refine gob (fun _ k => XS.iloadN X267.here hx rfl (hb hby at_85) rfl k) ?_
              show Go _ _ _ _ _ _ _ (T267.setTop (mkF m 86 #[.val (.int p0), .val (.int p1), .val (.int p2), .val (.int p3), .val (.int p4), .val (.int k_), .val (.ref w_POW), .val (.int v239), .val (.double v248), .second, .val (.double (FP.i2d (((p2.toUInt32 >>> ((1 : Int32) &&& 31).toUInt32).toInt32) &&& (1 : Int32)))), .second, .val (.ref b256), .unset, .unset, .unset] [(.int p1)]))
              by_cases hc86_308 : (0 : Int32) < p1
              · skip
                refine gob (fun _ k => XS.ifNo X267.here hx rfl (hb hby at_86) rfl ((if0 _ _).trans (tlt hc86_308).2.2.2) k) ?_
                show Go _ _ _ _ _ _ _ (T267.setTop (mkF m 89 #[.val (.int p0), .val (.int p1), .val (.int p2), .val (.int p3), .val (.int p4), .val (.int k_), .val (.ref w_POW), .val (.int v239), .val (.double v248), .second, .val (.double (FP.i2d (((p2.toUInt32 >>> ((1 : Int32) &&& 31).toUInt32).toInt32) &&& (1 : Int32)))), .second, .val (.ref b256), .unset, .unset, .unset] []))
                refine gob (fun _ k => XS.iconst X267.here hx rfl (hb hby at_89) k) ?_
                show Go _ _ _ _ _ _ _ (T267.setTop (mkF m 90 #[.val (.int p0), .val (.int p1), .val (.int p2), .val (.int p3), .val (.int p4), .val (.int k_), .val (.ref w_POW), .val (.int v239), .val (.double v248), .second, .val (.double (FP.i2d (((p2.toUInt32 >>> ((1 : Int32) &&& 31).toUInt32).toInt32) &&& (1 : Int32)))), .second, .val (.ref b256), .unset, .unset, .unset] [(.int (1 : Int32))]))
                refine gob (fun _ k => XS.goto X267.here hx rfl (pc0 := 90) (pc' := 94) rfl (hb hby at_90) (by decide) (by decide) k) ?_
                show Go _ _ _ _ _ _ _ (T267.setTop (mkF m 94 #[.val (.int p0), .val (.int p1), .val (.int p2), .val (.int p3), .val (.int p4), .val (.int k_), .val (.ref w_POW), .val (.int v239), .val (.double v248), .second, .val (.double (FP.i2d (((p2.toUInt32 >>> ((1 : Int32) &&& 31).toUInt32).toInt32) &&& (1 : Int32)))), .second, .val (.ref b256), .unset, .unset, .unset] [(.int (1 : Int32))]))
                exact join94_279 _ _ ((1 : Int32)) X267 (rfl : T267.heap = _) N267 (Or.inl ⟨hc70_307, hc86_308, rfl⟩)
              · skip
                refine gob (fun _ k => XS.ifYes X267.here hx rfl (pc0 := 86) (pc' := 93) rfl (hb hby at_86) rfl ((if0 _ _).trans (flt hc86_308).2.2.2) (by decide) (by decide) k) ?_
                show Go _ _ _ _ _ _ _ (T267.setTop (mkF m 93 #[.val (.int p0), .val (.int p1), .val (.int p2), .val (.int p3), .val (.int p4), .val (.int k_), .val (.ref w_POW), .val (.int v239), .val (.double v248), .second, .val (.double (FP.i2d (((p2.toUInt32 >>> ((1 : Int32) &&& 31).toUInt32).toInt32) &&& (1 : Int32)))), .second, .val (.ref b256), .unset, .unset, .unset] []))
                refine gob (fun _ k => XS.iconst X267.here hx rfl (hb hby at_93) k) ?_
                show Go _ _ _ _ _ _ _ (T267.setTop (mkF m 94 #[.val (.int p0), .val (.int p1), .val (.int p2), .val (.int p3), .val (.int p4), .val (.int k_), .val (.ref w_POW), .val (.int v239), .val (.double v248), .second, .val (.double (FP.i2d (((p2.toUInt32 >>> ((1 : Int32) &&& 31).toUInt32).toInt32) &&& (1 : Int32)))), .second, .val (.ref b256), .unset, .unset, .unset] [(.int (0 : Int32))]))
                exact join94_279 _ _ ((0 : Int32)) X267 (rfl : T267.heap = _) N267 (Or.inr (Or.inl ⟨hc70_307, hc86_308, rfl⟩))
            · skip
              refine gob (fun _ k => XS.ifNo X267.here hx rfl (hb hby at_70) rfl ((if0 _ _).trans (feq hc70_307).1) k) ?_
              show Go _ _ _ _ _ _ _ (T267.setTop (mkF m 73 #[.val (.int p0), .val (.int p1), .val (.int p2), .val (.int p3), .val (.int p4), .val (.int k_), .val (.ref w_POW), .val (.int v239), .val (.double v248), .second, .val (.double (FP.i2d (((p2.toUInt32 >>> ((1 : Int32) &&& 31).toUInt32).toInt32) &&& (1 : Int32)))), .second, .val (.ref b256), .unset, .unset, .unset] []))
              refine gob (fun _ k => XS.iloadN X267.here hx rfl (hb hby at_73) rfl k) ?_
              show Go _ _ _ _ _ _ _ (T267.setTop (mkF m 74 #[.val (.int p0), .val (.int p1), .val (.int p2), .val (.int p3), .val (.int p4), .val (.int k_), .val (.ref w_POW), .val (.int v239), .val (.double v248), .second, .val (.double (FP.i2d (((p2.toUInt32 >>> ((1 : Int32) &&& 31).toUInt32).toInt32) &&& (1 : Int32)))), .second, .val (.ref b256), .unset, .unset, .unset] [(.int p1)]))
              by_cases hc74_309 : p1 < (0 : Int32)
              · skip
                refine gob (fun _ k => XS.ifNo X267.here hx rfl (hb hby at_74) rfl ((if0 _ _).trans (tlt hc74_309).2.1) k) ?_
                show Go _ _ _ _ _ _ _ (T267.setTop (mkF m 77 #[.val (.int p0), .val (.int p1), .val (.int p2), .val (.int p3), .val (.int p4), .val (.int k_), .val (.ref w_POW), .val (.int v239), .val (.double v248), .second, .val (.double (FP.i2d (((p2.toUInt32 >>> ((1 : Int32) &&& 31).toUInt32).toInt32) &&& (1 : Int32)))), .second, .val (.ref b256), .unset, .unset, .unset] []))
                refine gob (fun _ k => XS.iconst X267.here hx rfl (hb hby at_77) k) ?_
                show Go _ _ _ _ _ _ _ (T267.setTop (mkF m 78 #[.val (.int p0), .val (.int p1), .val (.int p2), .val (.int p3), .val (.int p4), .val (.int k_), .val (.ref w_POW), .val (.int v239), .val (.double v248), .second, .val (.double (FP.i2d (((p2.toUInt32 >>> ((1 : Int32) &&& 31).toUInt32).toInt32) &&& (1 : Int32)))), .second, .val (.ref b256), .unset, .unset, .unset] [(.int (1 : Int32))]))
                refine gob (fun _ k => XS.goto X267.here hx rfl (pc0 := 78) (pc' := 94) rfl (hb hby at_78) (by decide) (by decide) k) ?_
                show Go _ _ _ _ _ _ _ (T267.setTop (mkF m 94 #[.val (.int p0), .val (.int p1), .val (.int p2), .val (.int p3), .val (.int p4), .val (.int k_), .val (.ref w_POW), .val (.int v239), .val (.double v248), .second, .val (.double (FP.i2d (((p2.toUInt32 >>> ((1 : Int32) &&& 31).toUInt32).toInt32) &&& (1 : Int32)))), .second, .val (.ref b256), .unset, .unset, .unset] [(.int (1 : Int32))]))
                exact join94_279 _ _ ((1 : Int32)) X267 (rfl : T267.heap = _) N267 (Or.inr (Or.inr (Or.inl ⟨hc70_307, hc74_309, rfl⟩)))
              · skip
                refine gob (fun _ k => XS.ifYes X267.here hx rfl (pc0 := 74) (pc' := 81) rfl (hb hby at_74) rfl ((if0 _ _).trans (flt hc74_309).2.1) (by decide) (by decide) k) ?_
                show Go _ _ _ _ _ _ _ (T267.setTop (mkF m 81 #[.val (.int p0), .val (.int p1), .val (.int p2), .val (.int p3), .val (.int p4), .val (.int k_), .val (.ref w_POW), .val (.int v239), .val (.double v248), .second, .val (.double (FP.i2d (((p2.toUInt32 >>> ((1 : Int32) &&& 31).toUInt32).toInt32) &&& (1 : Int32)))), .second, .val (.ref b256), .unset, .unset, .unset] []))
                refine gob (fun _ k => XS.iconst X267.here hx rfl (hb hby at_81) k) ?_
                show Go _ _ _ _ _ _ _ (T267.setTop (mkF m 82 #[.val (.int p0), .val (.int p1), .val (.int p2), .val (.int p3), .val (.int p4), .val (.int k_), .val (.ref w_POW), .val (.int v239), .val (.double v248), .second, .val (.double (FP.i2d (((p2.toUInt32 >>> ((1 : Int32) &&& 31).toUInt32).toInt32) &&& (1 : Int32)))), .second, .val (.ref b256), .unset, .unset, .unset] [(.int (0 : Int32))]))
                refine gob (fun _ k => XS.goto X267.here hx rfl (pc0 := 82) (pc' := 94) rfl (hb hby at_82) (by decide) (by decide) k) ?_
                show Go _ _ _ _ _ _ _ (T267.setTop (mkF m 94 #[.val (.int p0), .val (.int p1), .val (.int p2), .val (.int p3), .val (.int p4), .val (.int k_), .val (.ref w_POW), .val (.int v239), .val (.double v248), .second, .val (.double (FP.i2d (((p2.toUInt32 >>> ((1 : Int32) &&& 31).toUInt32).toInt32) &&& (1 : Int32)))), .second, .val (.ref b256), .unset, .unset, .unset] [(.int (0 : Int32))]))
                exact join94_279 _ _ ((0 : Int32)) X267 (rfl : T267.heap = _) N267 (Or.inr (Or.inr (Or.inr ⟨hc70_307, hc74_309, rfl⟩)))
          by_cases hc27_310 : v239 = (0 : Int32)
          · skip
            refine gob (fun _ k => XS.ifYes X243.here hx rfl (pc0 := 27) (pc' := 36) rfl (hb hby at_27) rfl ((if0 _ _).trans (teq hc27_310).1) (by decide) (by decide) k) ?_
            show Go _ _ _ _ _ _ _ (T241.setTop (mkF m 36 #[.val (.int p0), .val (.int p1), .val (.int p2), .val (.int p3), .val (.int p4), .val (.int k_), .val (.ref w_POW), .val (.int v239), .unset, .unset, .unset, .unset, .unset, .unset, .unset, .unset] []))
            refine gob (fun _ k => XS.iloadN X243.here hx rfl (hb hby at_36) rfl k) ?_
            show Go _ _ _ _ _ _ _ (T241.setTop (mkF m 37 #[.val (.int p0), .val (.int p1), .val (.int p2), .val (.int p3), .val (.int p4), .val (.int k_), .val (.ref w_POW), .val (.int v239), .unset, .unset, .unset, .unset, .unset, .unset, .unset, .unset] [(.int p1)]))
            refine gob (fun _ k => XS.i2dS X243.here hx rfl (hb hby at_37) rfl (v := (FP.i2d p1)) rfl k) ?_
            show Go _ _ _ _ _ _ _ (T241.setTop (mkF m 38 #[.val (.int p0), .val (.int p1), .val (.int p2), .val (.int p3), .val (.int p4), .val (.int k_), .val (.ref w_POW), .val (.int v239), .unset, .unset, .unset, .unset, .unset, .unset, .unset, .unset] [(.double (FP.i2d p1))]))
            exact join38_249 _ _ ((FP.i2d p1)) X243 e244 N245 (Or.inl ⟨hc27_310, rfl⟩)
          · skip
            refine gob (fun _ k => XS.ifNo X243.here hx rfl (hb hby at_27) rfl ((if0 _ _).trans (feq hc27_310).1) k) ?_
            show Go _ _ _ _ _ _ _ (T241.setTop (mkF m 30 #[.val (.int p0), .val (.int p1), .val (.int p2), .val (.int p3), .val (.int p4), .val (.int k_), .val (.ref w_POW), .val (.int v239), .unset, .unset, .unset, .unset, .unset, .unset, .unset, .unset] []))
            refine gob (fun _ k => XS.iloadN X243.here hx rfl (hb hby at_30) rfl k) ?_
            show Go _ _ _ _ _ _ _ (T241.setTop (mkF m 31 #[.val (.int p0), .val (.int p1), .val (.int p2), .val (.int p3), .val (.int p4), .val (.int k_), .val (.ref w_POW), .val (.int v239), .unset, .unset, .unset, .unset, .unset, .unset, .unset, .unset] [(.int p1)]))
            refine gob (fun _ k => XS.i2dS X243.here hx rfl (hb hby at_31) rfl (v := (FP.i2d p1)) rfl k) ?_
            show Go _ _ _ _ _ _ _ (T241.setTop (mkF m 32 #[.val (.int p0), .val (.int p1), .val (.int p2), .val (.int p3), .val (.int p4), .val (.int k_), .val (.ref w_POW), .val (.int v239), .unset, .unset, .unset, .unset, .unset, .unset, .unset, .unset] [(.double (FP.i2d p1))]))
            refine gob (fun _ k => XS.dnegS X243.here hx rfl (hb hby at_32) rfl (v := (FP.dneg (FP.i2d p1))) rfl k) ?_
            show Go _ _ _ _ _ _ _ (T241.setTop (mkF m 33 #[.val (.int p0), .val (.int p1), .val (.int p2), .val (.int p3), .val (.int p4), .val (.int k_), .val (.ref w_POW), .val (.int v239), .unset, .unset, .unset, .unset, .unset, .unset, .unset, .unset] [(.double (FP.dneg (FP.i2d p1)))]))
            refine gob (fun _ k => XS.goto X243.here hx rfl (pc0 := 33) (pc' := 38) rfl (hb hby at_33) (by decide) (by decide) k) ?_
            show Go _ _ _ _ _ _ _ (T241.setTop (mkF m 38 #[.val (.int p0), .val (.int p1), .val (.int p2), .val (.int p3), .val (.int p4), .val (.int k_), .val (.ref w_POW), .val (.int v239), .unset, .unset, .unset, .unset, .unset, .unset, .unset, .unset] [(.double (FP.dneg (FP.i2d p1)))]))
            exact join38_249 _ _ ((FP.dneg (FP.i2d p1))) X243 e244 N245 (Or.inr ⟨hc27_310, rfl⟩)
        by_cases hc15_311 : (p2 &&& (1 : Int32)) = (0 : Int32)
        · skip
          refine gob (fun _ k => XS.ifYes X235.here hx rfl (pc0 := 15) (pc' := 22) rfl (hb hby at_15) rfl ((if0 _ _).trans (teq hc15_311).1) (by decide) (by decide) k) ?_
          show Go _ _ _ _ _ _ _ (T235.setTop (mkF m 22 #[.val (.int p0), .val (.int p1), .val (.int p2), .val (.int p3), .val (.int p4), .val (.int k_), .val (.ref w_POW), .unset, .unset, .unset, .unset, .unset, .unset, .unset, .unset, .unset] []))
          refine gob (fun _ k => XS.iconst X235.here hx rfl (hb hby at_22) k) ?_
          show Go _ _ _ _ _ _ _ (T235.setTop (mkF m 23 #[.val (.int p0), .val (.int p1), .val (.int p2), .val (.int p3), .val (.int p4), .val (.int k_), .val (.ref w_POW), .unset, .unset, .unset, .unset, .unset, .unset, .unset, .unset, .unset] [(.int (0 : Int32))]))
          exact join23_240 _ _ ((0 : Int32)) X235 (rfl : T235.heap = _) N235 (Or.inl ⟨hc15_311, rfl⟩)
        · skip
          refine gob (fun _ k => XS.ifNo X235.here hx rfl (hb hby at_15) rfl ((if0 _ _).trans (feq hc15_311).1) k) ?_
          show Go _ _ _ _ _ _ _ (T235.setTop (mkF m 18 #[.val (.int p0), .val (.int p1), .val (.int p2), .val (.int p3), .val (.int p4), .val (.int k_), .val (.ref w_POW), .unset, .unset, .unset, .unset, .unset, .unset, .unset, .unset, .unset] []))
          refine gob (fun _ k => XS.iconst X235.here hx rfl (hb hby at_18) k) ?_
          show Go _ _ _ _ _ _ _ (T235.setTop (mkF m 19 #[.val (.int p0), .val (.int p1), .val (.int p2), .val (.int p3), .val (.int p4), .val (.int k_), .val (.ref w_POW), .unset, .unset, .unset, .unset, .unset, .unset, .unset, .unset, .unset] [(.int (1 : Int32))]))
          refine gob (fun _ k => XS.goto X235.here hx rfl (pc0 := 19) (pc' := 23) rfl (hb hby at_19) (by decide) (by decide) k) ?_
          show Go _ _ _ _ _ _ _ (T235.setTop (mkF m 23 #[.val (.int p0), .val (.int p1), .val (.int p2), .val (.int p3), .val (.int p4), .val (.int k_), .val (.ref w_POW), .unset, .unset, .unset, .unset, .unset, .unset, .unset, .unset, .unset] [(.int (1 : Int32))]))
          exact join23_240 _ _ ((1 : Int32)) X235 (rfl : T235.heap = _) N235 (Or.inr ⟨hc15_311, rfl⟩)
set_option maxRecDepth 65536 in
set_option maxHeartbeats 40000000 in
theorem comes_1 {Post : Tables → Env → Array Value → State → Outcome → State → Prop} (hpost : ∀ tb e args s v u, (limb_1_1.after args s (.returned v) u = true ∧ limb_1_2.after args s (.returned v) u = true ∧ True) → FrameEnd s (.returned v) u (Jvm.fieldLocs frame_1_writes args s ++ Jvm.arrayLocs frame_1_arrays args s ++ Jvm.staticLocs frame_1_statics s) 16 128 → Post tb e args s (.returned v) u) :
    ArmFor flags0 classFile x code maxLocals ret World_1 tables_1 room_1 Calls_1 rest_1 Pre_1 Post := by
  intro l hfl _ _ p e ha hc hk s m args below hf hA hF happ hP
  obtain ⟨hcalls, hrest, hpre⟩ := hP
  obtain ⟨-, -, -, hnamed, -, -, -, hat⟩ := (Spec.applies_iff hf).mp happ
  obtain ⟨hg, hn⟩ := and_e (Cond.before_iff.mp (show (Jvm.Cond.and given_1 narrow_1).before args s = true from hpre))
  obtain ⟨g1, g2⟩ := and_e hg
  obtain ⟨g3, g4⟩ := and_e g2
  obtain ⟨g5, g6⟩ := and_e g4
  obtain ⟨g7, g8⟩ := and_e g6
  obtain ⟨g9, g10⟩ := and_e g8
  obtain ⟨w0, w1, w2, w3, w4, rfl⟩ : ∃ w0 w1 w2 w3 w4 : Value, args = #[w0, w1, w2, w3, w4] := by
    have hs : args.size = 5 := by simpa [Cond.value, given_1] using g1
    obtain ⟨L⟩ := args
    match L, hs with
    | [w0, w1, w2, w3, w4], _ => exact ⟨w0, w1, w2, w3, w4, rfl⟩
  have hw := fun d (hd : d ∈ tables_1) => atoms_spec (ws := Jvm.Cond.code x code maxLocals ret :: tables_1) hat d (List.mem_cons_of_mem _ hd)
  have hfit : Fit s := fun {y c} hc i hi => by
    obtain ⟨ha, rfl⟩ := Array.getElem?_eq_some_iff.mp hc
    have q := List.all_eq_true.mp ((Array.all_eq_true_iff_forall_mem.mp hF) _ (Array.getElem_mem ha)) i (List.mem_range.mpr hi)
    simpa [Array.getElem?_eq_getElem hi] using q
  obtain ⟨i0, ei0⟩ := is_v g3
  obtain rfl : w0 = (.int i0) := Option.some.inj ei0
  obtain ⟨i1, ei1⟩ := is_v g5
  obtain rfl : w1 = (.int i1) := Option.some.inj ei1
  obtain ⟨i2, ei2⟩ := is_v g7
  obtain rfl : w2 = (.int i2) := Option.some.inj ei2
  obtain ⟨i3, ei3⟩ := is_v g9
  obtain rfl : w3 = (.int i3) := Option.some.inj ei3
  obtain ⟨i4, ei4⟩ := is_v g10
  obtain rfl : w4 = (.int i4) := Option.some.inj ei4
  obtain ⟨g11, g12⟩ := and_e hn
  obtain ⟨g13, g14⟩ := and_e g12
  obtain ⟨g15, g16⟩ := and_e g14
  obtain ⟨g17, g18⟩ := and_e g16
  obtain ⟨g19, g20⟩ := and_e g18
  obtain ⟨g21, g22⟩ := and_e g20
  obtain ⟨g23, g24⟩ := and_e g22
  obtain ⟨w_LIN, ev_LIN⟩ := exa_v g11
  have S_LIN : Sta s s.heap "com/example/robust_broker/robustbroker/Fit$Form" "LIN" "Lcom/example/robust_broker/robustbroker/Fit$Form;" (.ref w_LIN) := Sta.start ev_LIN (Or.inr ⟨(hw _ (List.mem_of_getElem? (i := 5) rfl)), (hw _ (List.mem_of_getElem? (i := 6) rfl))⟩)
  have F_LIN := own_feq ev_LIN g13
  obtain ⟨w_SQRT, ev_SQRT⟩ := exa_v g23
  have S_SQRT : Sta s s.heap "com/example/robust_broker/robustbroker/Fit$Form" "SQRT" "Lcom/example/robust_broker/robustbroker/Fit$Form;" (.ref w_SQRT) := Sta.start ev_SQRT (Or.inr ⟨(hw _ (List.mem_of_getElem? (i := 5) rfl)), (hw _ (List.mem_of_getElem? (i := 43) rfl))⟩)
  have F_SQRT := own_feq ev_SQRT g24
  obtain ⟨w_LOG, ev_LOG⟩ := exa_v g19
  have S_LOG : Sta s s.heap "com/example/robust_broker/robustbroker/Fit$Form" "LOG" "Lcom/example/robust_broker/robustbroker/Fit$Form;" (.ref w_LOG) := Sta.start ev_LOG (Or.inr ⟨(hw _ (List.mem_of_getElem? (i := 5) rfl)), (hw _ (List.mem_of_getElem? (i := 41) rfl))⟩)
  have F_LOG := own_feq ev_LOG g21
  obtain ⟨w_POW, ev_POW⟩ := exa_v g15
  have S_POW : Sta s s.heap "com/example/robust_broker/robustbroker/Fit$Form" "POW" "Lcom/example/robust_broker/robustbroker/Fit$Form;" (.ref w_POW) := Sta.start ev_POW (Or.inr ⟨(hw _ (List.mem_of_getElem? (i := 5) rfl)), (hw _ (List.mem_of_getElem? (i := 39) rfl))⟩)
  have F_POW := own_feq ev_POW g17
  obtain ⟨n, o, h1, h2, h3, _, L, rfl, ⟨rfl, N⟩, hq⟩ := rm0 l s _ hw tables_1 i0 i1 i2 i3 i4 w_LIN w_SQRT w_LOG w_POW s.heap s.heap.size (Nat.le_refl _) S_LIN F_LIN S_SQRT F_SQRT S_LOG F_LOG S_POW F_POW p e ha hc hk s m _ below hf ((Spec.applies_iff_loose hf).mp happ).1 ⟨rfl, State.Warmed39.refl s, rfl⟩ trivial
  exact ⟨n, _, h1, h2, h3, hpost _ _ _ _ _ _ ⟨Cond.after_iff.mpr rfl, Cond.after_iff.mpr (eq_i res_at (Term.int_eval (1)) rfl), trivial⟩ ⟨hq.1, hq.2.1, (hq.2.2.sift fun y hy => Or.inr (N y hy)).mono (by decide) (by decide)⟩⟩
theorem main_1_1 : Claimed_1_1 := comes_1 fun _ _ _ _ _ _ h hF => ⟨h.1, hF⟩
theorem main_1_2 : Claimed_1_2 := comes_1 fun _ _ _ _ _ _ h hF => ⟨h.2.1, hF⟩
end Jvm.Pilot.@@N@@
namespace Jvm.Pilot.@@N@@
open Jvm Jvm.ClassFile Sem Op Lib Jvm.Free Jvm.Stand Jvm.Pilot.@@N@@.Jvm.D
/-! MADE BY PROGRAM (witnessworld.py) out of the Statement's table words and the real class files: 14 classes; the members and pool entries that the words name. The judged class is class 1, her method 2. -/
namespace start1
open Jvm.ClassFile
def u (s : String) : CpInfo := .utf8 (stringToUtf16 s)
/-- a pool by its gaps: so many unusable entries, then the entry; so many at the end -/
def gap : Nat → List CpInfo → List CpInfo
  | 0, r => r
  | n + 1, r => .unusable :: gap n r
def poolList (es : List (Nat × CpInfo)) (last : Nat) : List CpInfo := es.foldr (fun e r => gap e.1 (e.2 :: r)) (gap last [])
def pool (es : List (Nat × CpInfo)) (last : Nat) : Array CpInfo := ⟨poolList es last⟩
def fileOf (pool : Array CpInfo) (this : Nat) (attrs : Array Attribute := #[]) (ms : Array MethodInfo := #[]) (fl : Nat := 33) (sup : Nat := 0) (ifs : Array Nat := #[]) (fds : Array FieldInfo := #[]) : ClassFile where
  minorVersion := 0
  majorVersion := 65
  constantPool := pool
  accessFlags := fl
  thisClass := this
  superClass := sup
  interfaces := ifs
  fields := fds
  methods := ms
  attributes := attrs
def plain (name : String) (sup : Option ClassId) : Class where
  name := name
  kind := .ordinary
  loader := none
  accessFlags := 33
  super := sup
  interfaces := #[]
  cf := none
  fields := #[]
  methods := #[]
  instanceTypes := #[]
  staticTypes := #[]
  resolved := #[]
  callSites := []
  init := .initialized
  statics := none
  mirror := none

def pool0 : Array CpInfo := pool [(5, u "<init>"), (0, u "()V"), (1, .class_ 10), (1, u "java/lang/Object")] 113

def k0c0 : Code := { maxStack := 0, maxLocals := 1, code := object_method_1_code, exceptionTable := #[], attributes := #[] }
def k0m0 : Method := { name := "<init>", desc := "()V", sig := { parameters := [], returnType := none }, accessFlags := 1, code := some k0c0 }
/-- java/lang/Object -/
def k0 : Class := { plain "java/lang/Object" none with
  accessFlags := 33
  interfaces := #[]
  cf := some (fileOf pool0 8 #[] #[{ accessFlags := 1, nameIndex := 5, descriptorIndex := 6, attributes := #[] }] 33 0 #[] #[])
  fields := #[]
  methods := #[k0m0]
  instanceTypes := #[]
  staticTypes := #[]
  resolved := Array.replicate 124 none
  statics := none }

def pool1 : Array CpInfo := pool [(2, .class_ 4), (1, u "java/lang/Object"), (0, u "<init>"), (0, u "()V"), (0, .fieldref 8 9), (0, .class_ 10), (0, .nameAndType 11 12), (0, u "com/example/robust_broker/robustbroker/Fit$Form"), (0, u "LIN"), (0, u "Lcom/example/robust_broker/robustbroker/Fit$Form;"), (0, .fieldref 8 14), (0, .nameAndType 15 12), (0, u "SQRT"), (0, .fieldref 8 17), (0, .nameAndType 18 12), (0, u "LOG"), (0, .fieldref 8 20), (0, .nameAndType 21 12), (0, u "POW"), (0, .methodref 23 24), (0, .class_ 25), (0, .nameAndType 26 27), (0, u "com/example/robust_broker/robustbroker/FitRanksDownwardPinLaw"), (0, u "formOf"), (0, u "(I)Lcom/example/robust_broker/robustbroker/Fit$Form;"), (0, .class_ 29), (0, u "com/example/robust_broker/robustbroker/Fit"), (0, .methodref 28 31), (0, .nameAndType 5 32), (0, u "(Lcom/example/robust_broker/robustbroker/Fit$Form;DDDD)V"), (0, .methodref 28 34), (0, .nameAndType 35 36), (0, u "ranksDownward"), (0, u "()Z"), (3, u "law"), (0, u "(IIIII)Z")] 4

def k1m0 : Method := { name := "<init>", desc := "()V", sig := { parameters := [], returnType := none }, accessFlags := 2, code := none }
def k1c1 : Code := { maxStack := 2, maxLocals := 1, code := method_2_code, exceptionTable := #[], attributes := #[] }
def k1m1 : Method := { name := "formOf", desc := "(I)Lcom/example/robust_broker/robustbroker/Fit$Form;", sig := { parameters := [.int], returnType := some (.object "com/example/robust_broker/robustbroker/Fit$Form") }, accessFlags := 10, code := some k1c1 }
def k1c2 : Code := { maxStack := 11, maxLocals := 16, code := code, exceptionTable := #[], attributes := #[] }
def k1m2 : Method := { name := "law", desc := "(IIIII)Z", sig := { parameters := [.int, .int, .int, .int, .int], returnType := some .boolean }, accessFlags := 9, code := some k1c2 }
/-- com/example/robust_broker/robustbroker/FitRanksDownwardPinLaw -/
def k1 : Class := { plain "com/example/robust_broker/robustbroker/FitRanksDownwardPinLaw" (some 0) with
  accessFlags := 49
  interfaces := #[]
  cf := some (fileOf pool1 23 #[] #[{ accessFlags := 2, nameIndex := 5, descriptorIndex := 6, attributes := #[] }, { accessFlags := 10, nameIndex := 26, descriptorIndex := 27, attributes := #[] }, { accessFlags := 9, nameIndex := 40, descriptorIndex := 41, attributes := #[] }] 49 2 #[] #[])
  fields := #[]
  methods := #[k1m0, k1m1, k1m2]
  instanceTypes := #[]
  staticTypes := #[]
  resolved := Array.replicate 46 none
  statics := none }

def pool2 : Array CpInfo := pool [(1, .class_ 2), (0, u "java/lang/constant/Constable"), (0, .class_ 4), (0, u "java/lang/Object")] 6

/-- java/lang/constant/Constable -/
def k2 : Class := { plain "java/lang/constant/Constable" (some 0) with
  accessFlags := 1537
  interfaces := #[]
  cf := some (fileOf pool2 1 #[] #[] 1537 3 #[] #[])
  fields := #[]
  methods := #[]
  instanceTypes := #[]
  staticTypes := #[]
  resolved := Array.replicate 11 none
  statics := none }

def pool3 : Array CpInfo := pool [(1, .class_ 2), (0, u "java/lang/Comparable"), (0, .class_ 4), (0, u "java/lang/Object")] 7

/-- java/lang/Comparable -/
def k3 : Class := { plain "java/lang/Comparable" (some 0) with
  accessFlags := 1537
  interfaces := #[]
  cf := some (fileOf pool3 1 #[] #[] 1537 3 #[] #[])
  fields := #[]
  methods := #[]
  instanceTypes := #[]
  staticTypes := #[]
  resolved := Array.replicate 12 none
  statics := none }

def pool4 : Array CpInfo := pool [(1, .class_ 2), (0, u "java/io/Serializable"), (0, .class_ 4), (0, u "java/lang/Object")] 2

/-- java/io/Serializable -/
def k4 : Class := { plain "java/io/Serializable" (some 0) with
  accessFlags := 1537
  interfaces := #[]
  cf := some (fileOf pool4 1 #[] #[] 1537 3 #[] #[])
  fields := #[]
  methods := #[]
  instanceTypes := #[]
  staticTypes := #[]
  resolved := Array.replicate 7 none
  statics := none }

def pool5 : Array CpInfo := pool [(2, .class_ 4), (1, u "java/lang/Enum"), (0, u "name"), (0, u "Ljava/lang/String;"), (2, u "ordinal"), (0, u "I"), (1, .class_ 14), (1, u "java/lang/Object"), (4, u "hash"), (86, .class_ 108), (1, u "java/lang/Enum$EnumDesc"), (2, .class_ 112), (0, u "java/lang/constant/Constable"), (0, .class_ 114), (0, u "java/lang/Comparable"), (0, .class_ 116), (0, u "java/io/Serializable")] 87

/-- java/lang/Enum -/
def k5 : Class := { plain "java/lang/Enum" (some 0) with
  accessFlags := 1057
  interfaces := #[2, 3, 4]
  cf := some (fileOf pool5 2 #[.nestMembers #[106]] #[] 1057 12 #[111, 113, 115] #[{ accessFlags := 18, nameIndex := 5, descriptorIndex := 6, attributes := #[] }, { accessFlags := 18, nameIndex := 9, descriptorIndex := 10, attributes := #[] }, { accessFlags := 2, nameIndex := 19, descriptorIndex := 10, attributes := #[] }])
  fields := #[{ name := "name", type := (.object "java/lang/String"), accessFlags := 18, slot := 0, constantValue := 0 }, { name := "ordinal", type := .int, accessFlags := 18, slot := 1, constantValue := 0 }, { name := "hash", type := .int, accessFlags := 2, slot := 2, constantValue := 0 }]
  methods := #[]
  instanceTypes := #[(.object "java/lang/String"), .int, .int]
  staticTypes := #[]
  resolved := Array.replicate 204 none
  statics := none }

def pool6 : Array CpInfo := pool [(1, .class_ 2), (0, u "com/example/robust_broker/robustbroker/Fit$Form"), (2, u "LIN"), (0, u "Lcom/example/robust_broker/robustbroker/Fit$Form;"), (2, u "SQRT"), (2, u "LOG"), (2, u "POW"), (2, u "$VALUES"), (0, u "[Lcom/example/robust_broker/robustbroker/Fit$Form;"), (6, .class_ 28), (1, u "java/lang/Enum"), (8, u "f"), (0, u "Ljava/util/function/DoubleUnaryOperator;"), (2, u "falling"), (0, u "Z"), (39, .class_ 83), (0, u "com/example/robust_broker/robustbroker/Fit")] 32

/-- com/example/robust_broker/robustbroker/Fit$Form -/
def k6 : Class := { plain "com/example/robust_broker/robustbroker/Fit$Form" (some 5) with
  accessFlags := 16433
  interfaces := #[]
  cf := some (fileOf pool6 1 #[.nestHost 82] #[] 16433 26 #[] #[{ accessFlags := 16409, nameIndex := 5, descriptorIndex := 6, attributes := #[] }, { accessFlags := 16409, nameIndex := 9, descriptorIndex := 6, attributes := #[] }, { accessFlags := 16409, nameIndex := 12, descriptorIndex := 6, attributes := #[] }, { accessFlags := 16409, nameIndex := 15, descriptorIndex := 6, attributes := #[] }, { accessFlags := 18, nameIndex := 37, descriptorIndex := 38, attributes := #[] }, { accessFlags := 18, nameIndex := 41, descriptorIndex := 42, attributes := #[] }, { accessFlags := 4122, nameIndex := 18, descriptorIndex := 19, attributes := #[] }])
  fields := #[{ name := "LIN", type := (.object "com/example/robust_broker/robustbroker/Fit$Form"), accessFlags := 16409, slot := 0, constantValue := 0 }, { name := "SQRT", type := (.object "com/example/robust_broker/robustbroker/Fit$Form"), accessFlags := 16409, slot := 1, constantValue := 0 }, { name := "LOG", type := (.object "com/example/robust_broker/robustbroker/Fit$Form"), accessFlags := 16409, slot := 2, constantValue := 0 }, { name := "POW", type := (.object "com/example/robust_broker/robustbroker/Fit$Form"), accessFlags := 16409, slot := 3, constantValue := 0 }, { name := "f", type := (.object "java/util/function/DoubleUnaryOperator"), accessFlags := 18, slot := 3, constantValue := 0 }, { name := "falling", type := .boolean, accessFlags := 18, slot := 4, constantValue := 0 }, { name := "$VALUES", type := (.array (.object "com/example/robust_broker/robustbroker/Fit$Form")), accessFlags := 4122, slot := 4, constantValue := 0 }]
  methods := #[]
  instanceTypes := #[(.object "java/lang/String"), .int, .int, (.object "java/util/function/DoubleUnaryOperator"), .boolean]
  staticTypes := #[(.object "com/example/robust_broker/robustbroker/Fit$Form"), (.object "com/example/robust_broker/robustbroker/Fit$Form"), (.object "com/example/robust_broker/robustbroker/Fit$Form"), (.object "com/example/robust_broker/robustbroker/Fit$Form"), (.array (.object "com/example/robust_broker/robustbroker/Fit$Form"))]
  resolved := Array.replicate 116 none
  statics := some 0 }

def pool7 : Array CpInfo := pool [(1, .methodref 2 3), (0, .class_ 4), (0, .nameAndType 5 6), (0, u "java/lang/Object"), (0, u "<init>"), (0, u "()V"), (0, .class_ 8), (0, u "java/lang/Record")] 13

def k7c0 : Code := { maxStack := 1, maxLocals := 1, code := jdk_30_method_1_code, exceptionTable := #[], attributes := #[] }
def k7m0 : Method := { name := "<init>", desc := "()V", sig := { parameters := [], returnType := none }, accessFlags := 4, code := some k7c0 }
/-- java/lang/Record -/
def k7 : Class := { plain "java/lang/Record" (some 0) with
  accessFlags := 1057
  interfaces := #[]
  cf := some (fileOf pool7 7 #[] #[{ accessFlags := 4, nameIndex := 5, descriptorIndex := 6, attributes := #[] }] 1057 2 #[] #[])
  fields := #[]
  methods := #[k7m0]
  instanceTypes := #[]
  staticTypes := #[]
  resolved := Array.replicate 22 none
  statics := none }

def pool8 : Array CpInfo := pool [(1, .methodref 2 3), (0, .class_ 4), (0, .nameAndType 5 6), (0, u "java/lang/Record"), (0, u "<init>"), (0, u "()V"), (0, .fieldref 8 9), (0, .class_ 10), (0, .nameAndType 11 12), (0, u "com/example/robust_broker/robustbroker/Fit"), (0, u "form"), (0, u "Lcom/example/robust_broker/robustbroker/Fit$Form;"), (0, .fieldref 8 14), (0, .nameAndType 15 16), (0, u "a"), (0, u "D"), (0, .fieldref 8 18), (0, .nameAndType 19 16), (0, u "b"), (0, .fieldref 8 21), (0, .nameAndType 22 16), (0, u "r2"), (0, .fieldref 8 24), (0, .nameAndType 25 16), (0, u "cap"), (1, .class_ 29), (1, u "com/example/robust_broker/robustbroker/Fit$Form"), (8, .fieldref 27 39), (0, .nameAndType 40 41), (0, u "falling"), (0, u "Z"), (13, u "()Z"), (6, u "ranksDownward"), (23, .class_ 87), (0, u "com/example/robust_broker/robustbroker/Fit$Pair"), (39, u "(Lcom/example/robust_broker/robustbroker/Fit$Form;DDDD)V"), (14, u "MIN_PAIRS"), (0, u "I"), (2, u "EQUAL_R2")] 58

def k8c0 : Code := { maxStack := 3, maxLocals := 10, code := prog_13_method_1_code, exceptionTable := #[], attributes := #[] }
def k8m0 : Method := { name := "<init>", desc := "(Lcom/example/robust_broker/robustbroker/Fit$Form;DDDD)V", sig := { parameters := [(.object "com/example/robust_broker/robustbroker/Fit$Form"), .double, .double, .double, .double], returnType := none }, accessFlags := 1, code := some k8c0 }
def k8c1 : Code := { maxStack := 4, maxLocals := 1, code := prog_13_method_3_code, exceptionTable := #[], attributes := #[] }
def k8m1 : Method := { name := "ranksDownward", desc := "()Z", sig := { parameters := [], returnType := some .boolean }, accessFlags := 1, code := some k8c1 }
/-- com/example/robust_broker/robustbroker/Fit -/
def k8 : Class := { plain "com/example/robust_broker/robustbroker/Fit" (some 7) with
  accessFlags := 49
  interfaces := #[]
  cf := some (fileOf pool8 8 #[.nestMembers #[86, 27]] #[{ accessFlags := 1, nameIndex := 5, descriptorIndex := 127, attributes := #[] }, { accessFlags := 1, nameIndex := 62, descriptorIndex := 55, attributes := #[] }] 49 2 #[] #[{ accessFlags := 18, nameIndex := 11, descriptorIndex := 12, attributes := #[] }, { accessFlags := 18, nameIndex := 15, descriptorIndex := 16, attributes := #[] }, { accessFlags := 18, nameIndex := 19, descriptorIndex := 16, attributes := #[] }, { accessFlags := 18, nameIndex := 22, descriptorIndex := 16, attributes := #[] }, { accessFlags := 18, nameIndex := 25, descriptorIndex := 16, attributes := #[] }, { accessFlags := 25, nameIndex := 142, descriptorIndex := 143, attributes := #[] }, { accessFlags := 26, nameIndex := 146, descriptorIndex := 16, attributes := #[] }])
  fields := #[{ name := "form", type := (.object "com/example/robust_broker/robustbroker/Fit$Form"), accessFlags := 18, slot := 0, constantValue := 0 }, { name := "a", type := .double, accessFlags := 18, slot := 1, constantValue := 0 }, { name := "b", type := .double, accessFlags := 18, slot := 2, constantValue := 0 }, { name := "r2", type := .double, accessFlags := 18, slot := 3, constantValue := 0 }, { name := "cap", type := .double, accessFlags := 18, slot := 4, constantValue := 0 }, { name := "MIN_PAIRS", type := .int, accessFlags := 25, slot := 0, constantValue := 0 }, { name := "EQUAL_R2", type := .double, accessFlags := 26, slot := 1, constantValue := 0 }]
  methods := #[k8m0, k8m1]
  instanceTypes := #[(.object "com/example/robust_broker/robustbroker/Fit$Form"), .double, .double, .double, .double]
  staticTypes := #[.int, .double]
  resolved := Array.replicate 38 none ++ #[some (.field 6 5)] ++ Array.replicate 166 none
  statics := none }

def pool9 : Array CpInfo := pool [(1, u "java/lang/Cloneable"), (0, .class_ 1), (0, u "java/lang/Object"), (0, .class_ 3)] 3

/-- java/lang/Cloneable -/
def k9 : Class := { plain "java/lang/Cloneable" (some 0) with
  accessFlags := 1537
  interfaces := #[]
  cf := some (fileOf pool9 2 #[] #[] 1537 4 #[] #[])
  fields := #[]
  methods := #[]
  instanceTypes := #[]
  staticTypes := #[]
  resolved := Array.replicate 8 none
  statics := none }

/-- the primitive byte -/
def k10 : Class := { plain "byte" none with kind := .primitive 'B', accessFlags := 0x411 }
/-- [B -/
def k11 : Class := { plain "[B" (some 0) with kind := .array 10 .byte, interfaces := #[9, 4], accessFlags := 1041 }

/-- the primitive int -/
def k12 : Class := { plain "int" none with kind := .primitive 'I', accessFlags := 0x411 }
/-- [I -/
def k13 : Class := { plain "[I" (some 0) with kind := .array 12 .int, interfaces := #[9, 4], accessFlags := 1041 }

def heap : Heap := #[{ cls := 6, slots := #[.ref 1, .ref 2, .ref 3, .ref 4, .null], vm := .statics 6 },
  { cls := 6, slots := #[.null, .int 0, .int 0, .null, .int 0], vm := .none },
  { cls := 6, slots := #[.null, .int 1, .int 0, .null, .int 0], vm := .none },
  { cls := 6, slots := #[.null, .int 2, .int 0, .null, .int 0], vm := .none },
  { cls := 6, slots := #[.null, .int 3, .int 0, .null, .int 1], vm := .none }]
def classes : Array Class := #[k0, k1, k2, k3, k4, k5, k6, k7, k8, k9, k10, k11, k12, k13]
def interned : List (Array UInt16 × Addr) := []
def slotsUsed : Nat := 25
def theMethod : MethodId := ⟨1, 2⟩
def args0 : Array Value := #[.int 5, .int 6, .int 6, .int 6, .int 6]
def aboutOver (below : List Frame) : State where
  vm := { classes := classes, interned := interned.toArray }
  heap := heap
  slotsUsed := slotsUsed
  threads := #[{ frames := .invoking theMethod args0 :: below }]
def below0 : List Frame := [.native { method := ⟨0, 0⟩, args := #[] }]
def about1 : State := aboutOver below0
def p0 : Program := .bare "" "" ""
def e0 : Env := launch0.env 0 0 0
theorem w_frames : about1.frames = Frame.invoking theMethod args0 :: below0 := rfl
set_option maxRecDepth 65536 in
theorem w_args : argsFit about1.vm theMethod args0 = true := by decide +kernel
set_option maxRecDepth 65536 in
theorem w_heap : heapFits about1 = true := by decide +kernel
set_option maxRecDepth 65536 in
theorem w_runnable : about1.curStatus? = some .runnable := by decide +kernel
set_option maxRecDepth 65536 in
theorem w_alone : about1.alone = true := by decide +kernel
set_option maxRecDepth 65536 in
theorem w_named : about1.methodNamed? x = some theMethod := by decide +kernel
set_option maxRecDepth 65536 in
theorem w_hears : about1.hears theMethod below0 = true := by decide +kernel
set_option maxRecDepth 65536 in
theorem w_ripe : about1.ripe theMethod args0 below0 = true := by decide +kernel
theorem w_running : about1.status = .running := rfl
set_option maxRecDepth 65536 in
theorem w_room : about1.hasRoom e0.platform room_1 = true :=
  launch0.hasRoom_least _ room_1 (by decide +kernel) (by decide +kernel) (by decide +kernel) (by decide +kernel) (by decide +kernel) (by decide +kernel)
theorem allAtoms_all (ts : List Jvm.Cond) (a : Array Jvm.Value) (st : Jvm.State) : (allAtoms ts).before a st = ts.all (fun c => c.before a st) := by
  induction ts with
  | nil => rfl
  | cons c t ih =>
    show (Jvm.Cond.and c (allAtoms t)).before a st = _
    rw [Jvm.Cond.before_and, ih, List.all_cons]
def words1 : List Jvm.Cond := Jvm.Cond.code x code maxLocals ret :: tables_1
/-- a 'code' word, met by the world's own term for the bytes: nothing is compared byte by byte -/
theorem code_word {y : MethodName} {bytes : ByteArray} {mx : Nat} {rt : Option FieldType} {a : Array Value} {s : State} {m : MethodId} {meth : Method} {c : Code} (h1 : s.methodNamed? y = some m) (h2 : s.vm.method? m = some meth) (h3 : meth.code = some c) (h4 : c.code = bytes)
    (h5 : (c.maxLocals == mx && c.exceptionTable.isEmpty && decide (c.maxStack ≤ mostOperands) && decide (meth.sig.returnType = rt) && !meth.locks && decide (parseMethodDescriptor y.desc = some meth.sig)) = true) : (Jvm.Cond.code y bytes mx rt).before a s = true := by
  simp only [Bool.and_eq_true, beq_iff_eq, Bool.not_eq_true', decide_eq_true_eq] at h5
  obtain ⟨⟨⟨⟨⟨g1, g2⟩, g3⟩, g4⟩, g5⟩, g6⟩ := h5
  simp [Cond.before, Cond.holds, Cond.value, h1, h2, h3, h4, g1, g2, g3, g4, g5, g6]
def isCode : Jvm.Cond → Bool
  | .code _ _ _ _ => true
  | _ => false
theorem all_split {L : List Jvm.Cond} {P : Jvm.Cond → Bool} (h1 : L.all (fun c => isCode c || P c) = true) (h2 : ∀ c ∈ L.filter isCode, P c = true) : L.all P = true := by
  refine List.all_eq_true.mpr fun c hc => ?_
  have h := List.all_eq_true.mp h1 c hc
  rcases Bool.eq_false_or_eq_true (isCode c) with hi | hi
  · exact h2 c (List.mem_filter.mpr ⟨hc, hi⟩)
  · simpa [hi] using h
set_option maxRecDepth 65536 in
theorem w_c0 : (Jvm.Cond.code x code maxLocals ret).before args0 about1 = true := code_word (m := ⟨1, 2⟩) (meth := k1m2) (c := k1c2) (by decide +kernel) rfl rfl rfl (by decide +kernel)
set_option maxRecDepth 65536 in
theorem w_c1 : (Jvm.Cond.code ({ cls := "com/example/robust_broker/robustbroker/FitRanksDownwardPinLaw", name := "formOf", desc := "(I)Lcom/example/robust_broker/robustbroker/Fit$Form;" } : Jvm.MethodName) method_2_code (1 : Nat) (Option.some (Jvm.ClassFile.FieldType.object "com/example/robust_broker/robustbroker/Fit$Form"))).before args0 about1 = true := code_word (m := ⟨1, 1⟩) (meth := k1m1) (c := k1c1) (by decide +kernel) rfl rfl rfl (by decide +kernel)
set_option maxRecDepth 65536 in
theorem w_c2 : (Jvm.Cond.code ({ cls := "com/example/robust_broker/robustbroker/Fit", name := "<init>", desc := "(Lcom/example/robust_broker/robustbroker/Fit$Form;DDDD)V" } : Jvm.MethodName) prog_13_method_1_code (10 : Nat) (Option.none : Option Jvm.ClassFile.FieldType)).before args0 about1 = true := code_word (m := ⟨8, 0⟩) (meth := k8m0) (c := k8c0) (by decide +kernel) rfl rfl rfl (by decide +kernel)
set_option maxRecDepth 65536 in
theorem w_c3 : (Jvm.Cond.code ({ cls := "java/lang/Record", name := "<init>", desc := "()V" } : Jvm.MethodName) jdk_30_method_1_code (1 : Nat) (Option.none : Option Jvm.ClassFile.FieldType)).before args0 about1 = true := code_word (m := ⟨7, 0⟩) (meth := k7m0) (c := k7c0) (by decide +kernel) rfl rfl rfl (by decide +kernel)
set_option maxRecDepth 65536 in
theorem w_c4 : (Jvm.Cond.code ({ cls := "java/lang/Object", name := "<init>", desc := "()V" } : Jvm.MethodName) object_method_1_code (1 : Nat) (Option.none : Option Jvm.ClassFile.FieldType)).before args0 about1 = true := code_word (m := ⟨0, 0⟩) (meth := k0m0) (c := k0c0) (by decide +kernel) rfl rfl rfl (by decide +kernel)
set_option maxRecDepth 65536 in
theorem w_c5 : (Jvm.Cond.code ({ cls := "com/example/robust_broker/robustbroker/Fit", name := "ranksDownward", desc := "()Z" } : Jvm.MethodName) prog_13_method_3_code (1 : Nat) (Option.some Jvm.ClassFile.FieldType.boolean)).before args0 about1 = true := code_word (m := ⟨8, 1⟩) (meth := k8m1) (c := k8c1) (by decide +kernel) rfl rfl rfl (by decide +kernel)
def codes1 : List Jvm.Cond := [Jvm.Cond.code x code maxLocals ret, Jvm.Cond.code ({ cls := "com/example/robust_broker/robustbroker/FitRanksDownwardPinLaw", name := "formOf", desc := "(I)Lcom/example/robust_broker/robustbroker/Fit$Form;" } : Jvm.MethodName) method_2_code (1 : Nat) (Option.some (Jvm.ClassFile.FieldType.object "com/example/robust_broker/robustbroker/Fit$Form")), Jvm.Cond.code ({ cls := "com/example/robust_broker/robustbroker/Fit", name := "<init>", desc := "(Lcom/example/robust_broker/robustbroker/Fit$Form;DDDD)V" } : Jvm.MethodName) prog_13_method_1_code (10 : Nat) (Option.none : Option Jvm.ClassFile.FieldType), Jvm.Cond.code ({ cls := "java/lang/Record", name := "<init>", desc := "()V" } : Jvm.MethodName) jdk_30_method_1_code (1 : Nat) (Option.none : Option Jvm.ClassFile.FieldType), Jvm.Cond.code ({ cls := "java/lang/Object", name := "<init>", desc := "()V" } : Jvm.MethodName) object_method_1_code (1 : Nat) (Option.none : Option Jvm.ClassFile.FieldType), Jvm.Cond.code ({ cls := "com/example/robust_broker/robustbroker/Fit", name := "ranksDownward", desc := "()Z" } : Jvm.MethodName) prog_13_method_3_code (1 : Nat) (Option.some Jvm.ClassFile.FieldType.boolean)]
set_option maxRecDepth 65536 in
theorem codes_eq : words1.filter isCode = codes1 := rfl
theorem w_codes : ∀ c ∈ words1.filter isCode, c.before args0 about1 = true := by
  rw [codes_eq]
  intro c hc
  simp only [codes1, List.mem_cons, List.not_mem_nil, or_false] at hc
  rcases hc with rfl | rfl | rfl | rfl | rfl | rfl
  · exact w_c0
  · exact w_c1
  · exact w_c2
  · exact w_c3
  · exact w_c4
  · exact w_c5
set_option maxRecDepth 65536 in
theorem w_t1 : (words1.take 24).all (fun c => isCode c || c.before args0 about1) = true := by decide +kernel
set_option maxRecDepth 65536 in
theorem w_t2 : (words1.drop 24).all (fun c => isCode c || c.before args0 about1) = true := by decide +kernel
theorem w_tables : (allAtoms (Jvm.Cond.code x code maxLocals ret :: tables_1)).before args0 about1 = true := by
  rw [allAtoms_all]
  show words1.all (fun c => c.before args0 about1) = true
  refine all_split ?_ w_codes
  rw [← List.take_append_drop 24 words1, List.all_append, w_t1, w_t2]
  rfl
set_option maxRecDepth 65536 in
theorem w_case : (Jvm.Cond.and given_1 narrow_1).before args0 about1 = true := by decide +kernel
theorem w_applies : (headSpec (Jvm.Cond.code x code maxLocals ret :: tables_1) room_1).applies x e0.platform about1 = true :=
  (Spec.applies_iff w_frames).mpr ⟨w_running, w_runnable, w_alone, w_named, w_hears, w_ripe, w_room, w_tables⟩
theorem atStart : AtStart classFile x code maxLocals ret World_1 tables_1 room_1 Calls_1 rest_1 Pre_1 launch0 p0 e0 about1 theMethod args0 below0 :=
  ⟨lists_1, trivial, launch0.admits_env _ _ _, launch0.least_env, fairChoices_fair.cas, fairChoices_fair.clock, w_frames, w_args, w_heap, w_applies, trivial, trivial, w_case⟩
end start1
theorem witness_1 : WitnessClaimed_1 := ⟨start1.p0, start1.e0, start1.about1, start1.theMethod, start1.args0, start1.below0, start1.atStart⟩
end Jvm.Pilot.@@N@@
