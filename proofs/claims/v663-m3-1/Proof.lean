import JvmDerived
import JvmDerived.Pilot.@@N@@Statement
import JvmDerived.Pilot.@@N@@Code
set_option linter.unusedVariables false
set_option linter.unusedSimpArgs false
namespace Jvm.Pilot.@@N@@
open Jvm Jvm.ClassFile Sem Op Lib Jvm.Free Jvm.Stand Jvm.LawKit Jvm.RoadKit Bundle Jvm.Pilot.@@N@@.Jvm.D
/-! A walk as one goal: from the state U the run comes to an end that answers Q. -/
section Kit
def Go (p : Program) (e : Env) (below : List Frame) (s : State) (Q : Option Value → Heap → List Loc → Prop) (C N : Nat) (U : State) : Prop :=
  ∃ s₂ o, Steps p.tables e below U s₂ ∧ s₂.status = .running ∧ Ended s₂ below o ∧ ∃ v L, o = .returned v ∧ Q v s₂.heap L ∧ FrameEnd s o s₂ L C N
variable {p : Program} {l : Launch} {e : Env} {R : Room} {s : State} {m : MethodId} {args : Array Value} {below : List Frame} {meth : Method} {c : Code} {T : State} {locs : List Loc} {cells slots : Nat} {Q : Option Value → Heap → List Loc → Prop} {C N : Nat}
theorem gob {U U' : State} (h : ∀ t, Steps p.tables e below U' t → Steps p.tables e below U t) (k : Go p e below s Q C N U') : Go p e below s Q C N U := by
  obtain ⟨s₂, o, h1, r⟩ := k
  exact ⟨s₂, o, h _ h1, r⟩
theorem goZ (X : Stand p l e R s m args below meth c T locs cells slots) (hx : p.tables.exec = Jvm.exec) (hlk : meth.locks = false) {t : FieldType} {pc : Nat} {Ls : Array Slot} {z z' : Int32} {rest : List Value} (hret : meth.sig.returnType = some t) (ht : t = .boolean ∨ t = .byte ∨ t = .char ∨ t = .short) (hd : decode c.code pc = .ok (.ireturn, 1)) (hz : nar t z = z') (hq : Q (some (.int z')) T.heap locs) (hc : cells ≤ C) (hn : slots ≤ N) :
    Go p e below s Q C N (T.setTop (mkF m pc Ls (.int z :: rest))) := by
  subst hz
  obtain ⟨fs, hr, hrun, hended, hW, hsame⟩ := X.leave (v := some (.int (nar t z))) (fun h => by rw [hret] at h; cases h) hlk
  exact ⟨_, _, retN X hx hret ht hd hr, hrun, hended, _, _, rfl, hq, ⟨_, rfl⟩, hW, hsame.mono hc hn⟩
theorem goI (X : Stand p l e R s m args below meth c T locs cells slots) (hx : p.tables.exec = Jvm.exec) (hlk : meth.locks = false) {pc : Nat} {Ls : Array Slot} {z : Int32} {rest : List Value} (hret : meth.sig.returnType = some .int) (hd : decode c.code pc = .ok (.ireturn, 1)) (hq : Q (some (.int z)) T.heap locs) (hc : cells ≤ C) (hn : slots ≤ N) :
    Go p e below s Q C N (T.setTop (mkF m pc Ls (.int z :: rest))) := by
  obtain ⟨fs, hr, hrun, hended, hW, hsame⟩ := X.leave (v := some (.int z)) (fun h => by rw [hret] at h; cases h) hlk
  exact ⟨_, _, retOut X hx hret rfl (Or.inl ⟨rfl, Or.inl rfl, z, rfl⟩) hd hr, hrun, hended, _, _, rfl, hq, ⟨_, rfl⟩, hW, hsame.mono hc hn⟩
theorem goJ (X : Stand p l e R s m args below meth c T locs cells slots) (hx : p.tables.exec = Jvm.exec) (hlk : meth.locks = false) {pc : Nat} {Ls : Array Slot} {z : Int64} {rest : List Value} (hret : meth.sig.returnType = some .long) (hd : decode c.code pc = .ok (.lreturn, 1)) (hq : Q (some (.long z)) T.heap locs) (hc : cells ≤ C) (hn : slots ≤ N) :
    Go p e below s Q C N (T.setTop (mkF m pc Ls (.long z :: rest))) := by
  obtain ⟨fs, hr, hrun, hended, hW, hsame⟩ := X.leave (v := some (.long z)) (fun h => by rw [hret] at h; cases h) hlk
  exact ⟨_, _, retOut X hx hret rfl (Or.inr (Or.inl ⟨rfl, rfl, z, rfl⟩)) hd hr, hrun, hended, _, _, rfl, hq, ⟨_, rfl⟩, hW, hsame.mono hc hn⟩
theorem goD (X : Stand p l e R s m args below meth c T locs cells slots) (hx : p.tables.exec = Jvm.exec) (hlk : meth.locks = false) {pc : Nat} {Ls : Array Slot} {z : UInt64} {rest : List Value} (hret : meth.sig.returnType = some .double) (hd : decode c.code pc = .ok (.dreturn, 1)) (hq : Q (some (.double z)) T.heap locs) (hc : cells ≤ C) (hn : slots ≤ N) :
    Go p e below s Q C N (T.setTop (mkF m pc Ls (.double z :: rest))) := by
  obtain ⟨fs, hr, hrun, hended, hW, hsame⟩ := X.leave (v := some (.double z)) (fun h => by rw [hret] at h; cases h) hlk
  exact ⟨_, _, retOut X hx hret rfl (Or.inr (Or.inr (Or.inl ⟨rfl, rfl, z, rfl⟩))) hd hr, hrun, hended, _, _, rfl, hq, ⟨_, rfl⟩, hW, hsame.mono hc hn⟩
theorem goA (X : Stand p l e R s m args below meth c T locs cells slots) (hx : p.tables.exec = Jvm.exec) (hlk : meth.locks = false) {t : FieldType} {pc : Nat} {Ls : Array Slot} {z : Value} {rest : List Value} (hret : meth.sig.returnType = some t) (ht : t.isReference = true) (hv : z.isRef = true) (hd : decode c.code pc = .ok (.areturn, 1)) (hq : Q (some z) T.heap locs) (hc : cells ≤ C) (hn : slots ≤ N) :
    Go p e below s Q C N (T.setTop (mkF m pc Ls (z :: rest))) := by
  obtain ⟨fs, hr, hrun, hended, hW, hsame⟩ := X.leave (v := some z) (fun h => by rw [hret] at h; cases h) hlk
  have hnw : narrow t z = z := by cases z <;> cases t <;> first | rfl | (simp [Value.isRef] at hv) | (simp [FieldType.isReference] at ht)
  exact ⟨_, _, retOut X hx hret hnw (Or.inr (Or.inr (Or.inr (Or.inr ⟨rfl, ht, hv⟩)))) hd hr, hrun, hended, _, _, rfl, hq, ⟨_, rfl⟩, hW, hsame.mono hc hn⟩
theorem goV (X : Stand p l e R s m args below meth c T locs cells slots) (hx : p.tables.exec = Jvm.exec) (hlk : meth.locks = false) {pc : Nat} {Ls : Array Slot} (hret : meth.sig.returnType = none) (hd : decode c.code pc = .ok (.return_, 1)) (hq : Q none T.heap locs) (hc : cells ≤ C) (hn : slots ≤ N) :
    Go p e below s Q C N (T.setTop (mkF m pc Ls [])) := by
  obtain ⟨fs, hr, hrun, hended, hW, hsame⟩ := X.leave (v := none) (fun _ => rfl) hlk
  exact ⟨_, _, X.returnOut hx hret hd hr, hrun, hended, _, _, rfl, hq, ⟨_, rfl⟩, hW, hsame.mono hc hn⟩
theorem lremM {g : JFrame} {target : State} (X : Stand p l e R s m args below meth c T locs cells slots) (hx : p.tables.exec = Jvm.exec) (hg : g.method = m) {x y : Int64} {rest : List Value} (hd : decode c.code g.pc = .ok (.lrem, 1)) (hs : g.stack = .long y :: .long x :: rest) (hy : y ≠ 0)
    (hr : Steps p.tables e below (T.setTop { g with pc := g.pc + 1, stack := .long (x % y) :: rest }) target) : Steps p.tables e below (T.setTop g) target :=
  XS.lrem X.here hx hg hd hs hy (by rw [lrem_mod x y]; exact hr)
theorem own_lrem (x y : Int64) (d : Int) (hy : y.toInt = d) : (0 ≤ x.toInt → (x % y).toInt = x.toInt % d) ∧ (x.toInt < 0 → (x % y).toInt = -((-x.toInt) % d)) := by rw [Int64.toInt_mod, hy]; exact tr _ _
theorem own_lxor (x y : Int64) (hy : 0 ≤ y.toInt) : ((x ^^^ y).toInt < 0 ↔ x.toInt < 0) := by
  have h1 : (x ^^^ y).toBitVec.msb = (x.toBitVec.msb ^^ y.toBitVec.msb) := by rw [Int64.toBitVec_xor, BitVec.msb_xor]
  have h2 := BitVec.msb_eq_toInt (x := (x ^^^ y).toBitVec)
  have h3 := BitVec.msb_eq_toInt (x := x.toBitVec)
  have h4 := BitVec.msb_eq_toInt (x := y.toBitVec)
  have e1 : (x ^^^ y).toBitVec.toInt = (x ^^^ y).toInt := rfl
  have e2 : x.toBitVec.toInt = x.toInt := rfl
  have e3 : y.toBitVec.toInt = y.toInt := rfl
  rw [e1] at h2
  rw [e2] at h3
  rw [e3] at h4
  have h5 : ¬ y.toInt < 0 := by omega
  rw [h2, h3, h4, decide_eq_false h5, Bool.xor_false] at h1
  simpa using h1
theorem pop2L {g : JFrame} {target : State} (X : Stand p l e R s m args below meth c T locs cells slots) (hx : p.tables.exec = Jvm.exec) (hg : g.method = m) {x : Int64} {rest : List Value} (hd : decode c.code g.pc = .ok (.pop2, 1)) (hs : g.stack = .long x :: rest)
    (hr : Steps p.tables e below (T.setTop { g with pc := g.pc + 1, stack := rest }) target) : Steps p.tables e below (T.setTop g) target := by
  subst hg
  jvm_step X.here [X.here.top, hx, hd, hs, Value.category]
  exact hr
theorem own_staKeep {Z : State} {h h' : Heap} {C n d : String} {v : Value} {ws : List Addr} (F : Sta Z h C n d v) (K : Keep h h' ws) (hn : ∀ x ∈ ws, ∀ cell : Cell, h[x]? = some cell → cell.vm.isStatics = false) : Sta Z h' C n d v := by
  obtain ⟨cf, i, k, f, st, cell, h1, h2, h3, h4, h5, h6, h7⟩ := F
  exact ⟨cf, i, k, f, st, cell, h1, h2, h3, h4, K.2.1 _ _ h5 (fun q => by have q2 := hn _ q _ h5; rw [h6] at q2; cases q2), h6, h7⟩
theorem own_lmulR (x y : Int64) (d : Int) (hy : y.toInt = d) : ((x * y).toInt - x.toInt * d) % 18446744073709551616 = 0 := by rw [← hy]; exact c_lmul x y
theorem own_lmulL (x y : Int64) (d : Int) (hx : x.toInt = d) : ((x * y).toInt - d * y.toInt) % 18446744073709551616 = 0 := by rw [← hx]; exact c_lmul x y
theorem own_imulR (x y : Int32) (d : Int) (hy : y.toInt = d) : ((x * y).toInt - x.toInt * d) % 4294967296 = 0 := by rw [← hy]; exact c_imul x y
theorem own_imulL (x y : Int32) (d : Int) (hx : x.toInt = d) : ((x * y).toInt - d * y.toInt) % 4294967296 = 0 := by rw [← hx]; exact c_imul x y
end Kit

theorem own_feq {s : State} {args : Array Value} {t : Term} {C n d : String} {k : Int32} {a : Addr} (ht : t.eval args s none [] s = some (.ref a)) (h : (Jvm.Cond.eq (.field t C n d) (.int k)).value args s none s [] = some true) : Fld s s.heap a C n d (.int k) := by
  obtain ⟨x, y, e1, e2, -, -⟩ := cmp_v (Or.inl h)
  have q : (Term.int k).eval args s none [] s = some (.int k) := rfl
  have e3 : y = .int k := by
    rw [q] at e2
    exact (Option.some.inj e2).symm
  subst e3
  have e4 : x = .int k := by
    cases x <;> simp [Cond.value, e1, q] at h
    rw [h]
  subst e4
  rw [fld_at ht] at e1
  exact Fld.start e1
theorem own_len {s : State} {args : Array Value} {t : Term} {k : Int32} {a : Addr} {cl : Cell} {ty : FieldType} (A : Arr s s.heap a cl ty) (ht : t.eval args s none [] s = some (.ref a)) (h : (Jvm.Cond.eq (.length t) (.int k)).value args s none s [] = some true) : cl.slots.size < 2 ^ 31 ∧ cl.slots.size.toInt32 = k := by
  obtain ⟨x, y, e1, e2, -, -⟩ := cmp_v (Or.inl h)
  have q : (Term.int k).eval args s none [] s = some (.int k) := rfl
  have e3 : y = .int k := by
    rw [q] at e2
    exact (Option.some.inj e2).symm
  subst e3
  have e4 : x = .int k := by
    cases x <;> simp [Cond.value, e1, q] at h
    rw [h]
  subst e4
  have ha := Arr.fin (U := s) (State.Warmed39.refl s).alike A
  by_cases hl : cl.slots.size < 2 ^ 31
  · rw [len_f ht ha hl] at e1
    exact ⟨hl, Value.int.inj (Option.some.inj e1)⟩
  · simp [Term.eval, ht, ha, hl] at e1
theorem own_elem {s : State} {args : Array Value} {t u : Term} {j : Int32} {a b : Addr} {cl : Cell} {ty : FieldType} (A : Arr s s.heap a cl ty) (ht : t.eval args s none [] s = some (.ref a)) (hu : u.eval args s none [] s = some (.ref b)) (hn : ¬ j < 0) (h : (Jvm.Cond.eq (.elem t (.int j)) u).value args s none s [] = some true) : cl.slots[j.toNatClampNeg]? = some (.ref b) := by
  obtain ⟨x, y, e1, e2, -, -⟩ := cmp_v (Or.inl h)
  have e3 : y = .ref b := by
    rw [hu] at e2
    exact (Option.some.inj e2).symm
  subst e3
  have e4 : x = .ref b := by
    cases x <;> simp [Cond.value, e1, hu] at h
    rw [h]
  subst e4
  have ha := Arr.fin (U := s) (State.Warmed39.refl s).alike A
  rw [elem_f ht rfl ha hn] at e1
  exact e1

theorem d2_0 : decode prog_4_method_1_code 0 = .ok (.getstatic 13, 3) := by decide +kernel
theorem d2_3 : decode prog_4_method_1_code 3 = .ok (.invokevirtual 17, 3) := by decide +kernel
theorem d2_6 : decode prog_4_method_1_code 6 = .ok (.checkcast 18, 3) := by decide +kernel
theorem d2_9 : decode prog_4_method_1_code 9 = .ok (.areturn, 1) := by decide +kernel
theorem ef_2 (m : MethodId)  : entryFrame m #[] 0 = mkF m 0 #[] [] := by first | (simp [entryFrame, mkF, argsToLocals, Value.category]; done) | rfl
def Q2 (Z : State) (w_VALUES : Addr) (k_V : ClassId) (w_ETHERNET : Addr) (w_RAW_IP : Addr) (w_LINUX_COOKED : Addr) (h0 : Heap) (n0 : Nat) (v : Option Value) (h : Heap) (L : List Loc) : Prop := ∃ b2 : Addr, v = some (.ref b2) ∧ Fr n0 L ∧ Keep h0 h ([] : List Addr) ∧ h0.size ≤ b2 ∧ Arv Z h b2 k_V (.object "com/example/flomem/flomem/capture/LinkType") (3 : Int32) [(.ref w_ETHERNET), (.ref w_RAW_IP), (.ref w_LINUX_COOKED)] .null ∧ Exa Z h b2 "[Lcom/example/flomem/flomem/capture/LinkType;"
set_option maxRecDepth 65536 in
set_option maxHeartbeats 40000000 in
theorem rm2 (l : Launch) (Z : State) (a0 : Array Value) (hw : ∀ d ∈ tables_1, d.before a0 Z = true) (ws : List Jvm.Cond) (w_VALUES : Addr) (k_V : ClassId) (w_ETHERNET : Addr) (w_RAW_IP : Addr) (w_LINUX_COOKED : Addr) (h0 : Heap) (n0 : Nat) (Z0 : n0 ≤ h0.size) (S_VALUES : Sta Z h0 "com/example/flomem/flomem/capture/LinkType" "$VALUES" "[Lcom/example/flomem/flomem/capture/LinkType;" (.ref w_VALUES)) (V_VALUES : Arv Z h0 w_VALUES k_V (.object "com/example/flomem/flomem/capture/LinkType") (3 : Int32) [(.ref w_ETHERNET), (.ref w_RAW_IP), (.ref w_LINUX_COOKED)] .null) (E_VALUES : Exa Z h0 w_VALUES "[Lcom/example/flomem/flomem/capture/LinkType;") :
    MetFree l (⟨"com/example/flomem/flomem/capture/LinkType", "values", "()[Lcom/example/flomem/flomem/capture/LinkType;"⟩ : MethodName) (head1 (Jvm.Cond.code (⟨"com/example/flomem/flomem/capture/LinkType", "values", "()[Lcom/example/flomem/flomem/capture/LinkType;"⟩ : MethodName) prog_4_method_1_code 0 (some (.array (.object "com/example/flomem/flomem/capture/LinkType"))) :: ws) ({ frames := 1, cells := 1, slots := 3, locals := 14 } : Room)) (fun a U => a = #[] ∧ Z.Warmed39 U.vm ∧ U.heap = h0) (fun _ _ _ _ _ => True) (fun _ U o U' => ∃ v L, o = .returned v ∧ Q2 Z w_VALUES k_V w_ETHERNET w_RAW_IP w_LINUX_COOKED h0 n0 v U'.heap L ∧ FrameEnd U o U' L ({ frames := 1, cells := 1, slots := 3, locals := 14 } : Room).cells ({ frames := 1, cells := 1, slots := 3, locals := 14 } : Room).slots) := by
  refine MetFree.of_bodySF (plainFor_of_name (by first | (simp [plainName, overriddenIn]; done) | decide +kernel)) hisR ?_
  intro p e s m args below meth c s₁ Bd hml0 hP hK
  obtain ⟨rfl, hZ, hh⟩ := hP
  have hx := Bd.exec
  have hby := Bd.bytes
  have hml : c.maxLocals = 0 := hml0
  have hown : s.vm.findClass "com/example/flomem/flomem/capture/LinkType" = some m.cls := findClass_of_methodNamed Bd.named
  have hnm := (name_of_methodNamed Bd.named Bd.method).1
  have hlk := BodyLoose.notSynchronized Bd
  have X0 : Stand p l e ({ frames := 1, cells := 1, slots := 3, locals := 14 } : Room) s m #[] below meth c s₁ [] 0 0 := Stand.of_body Bd
  have e0 : s₁.heap = h0 := by rw [← hh, Bd.state]; rfl
  have N0 := Fr.nil n0
  show Go p e below s (Q2 Z w_VALUES k_V w_ETHERNET w_RAW_IP w_LINUX_COOKED h0 n0) 1 3 (s₁.setTop (entryFrame m #[] 0))
  rw [ef_2]
  show Go _ _ _ _ _ _ _ (s₁.setTop (mkF m 0 #[] []))
  obtain ⟨T1, X1, e1, st1⟩ := getS2 X0 hx hZ hown (host := "") (Or.inl (hw _ (List.mem_of_getElem? (i := 7) rfl))) Via.refl e0 S_VALUES (g := (mkF m 0 #[] [])) rfl (hb hby d2_0)
  refine gob st1 ?_
  show Go _ _ _ _ _ _ _ (T1.setTop (mkF m 3 #[] [(.ref w_VALUES)]))
  obtain ⟨T2, h2, X2, e2, E2, A2, B2, st2⟩ := cloneH X1 hx hZ hown (hw _ (List.mem_of_getElem? (i := 9) rfl)) (hw _ (List.mem_of_getElem? (i := 10) rfl)) (hw _ (List.mem_of_getElem? (i := 14) rfl)) (hw _ (List.mem_of_getElem? (i := 12) rfl)) (hw _ (List.mem_of_getElem? (i := 13) rfl)) (hw _ (List.mem_of_getElem? (i := 15) rfl)) e1 (Arv.arh V_VALUES) E_VALUES (g := (mkF m 3 #[] [(.ref w_VALUES)])) rfl (by rw [hml]; rfl) rfl (hb hby d2_3) (by decide) (W := 0) (cap := 3) (by show 2 * 0 + _ ≤ _; exact Nat.le_of_eq rfl) (by decide) (by decide) (by decide) (by decide)
  obtain ⟨b2, g2⟩ : ∃ z, z = h0.size := ⟨_, rfl⟩
  rw [← g2] at A2 B2 st2
  have n3 : w_VALUES ≠ b2 := Nat.ne_of_lt (Nat.lt_of_lt_of_le V_VALUES.lt (Nat.le_of_eq g2.symm))
  have g4 : n0 ≤ b2 := Nat.le_trans Z0 (Nat.le_of_eq g2.symm)
  have sz_b2 : h0.size ≤ b2 := Nat.le_trans (Keep.refl h0 []).1 (Nat.le_of_eq g2.symm)
  have z5 : n0 ≤ h2.size := Nat.le_trans Z0 E2.1
  have K6 : Keep h0 h2 ([] : List Addr) := (Keep.refl h0 ([] : List Addr)).ext E2
  have V2 : Arv Z h2 b2 k_V (.object "com/example/flomem/flomem/capture/LinkType") (3 : Int32) [(.ref w_ETHERNET), (.ref w_RAW_IP), (.ref w_LINUX_COOKED)] .null := A2
  refine gob st2 ?_
  show Go _ _ _ _ _ _ _ (T2.setTop (mkF m 6 #[] [(.ref b2)]))
  obtain ⟨T7, X7, e7, st7⟩ := castY X2 hx hZ hown (hw _ (List.mem_of_getElem? (i := 20) rfl)) e2 (Ins.self B2) (g := (mkF m 6 #[] [(.ref b2)])) rfl rfl (hb hby d2_6)
  refine gob st7 ?_
  show Go _ _ _ _ _ _ _ (T7.setTop (mkF m 9 #[] [(.ref b2)]))
  refine goA X7 hx hlk Bd.returns rfl rfl (hb hby d2_9) ?_ (by decide) (by decide)
  show Q2 Z w_VALUES k_V w_ETHERNET w_RAW_IP w_LINUX_COOKED h0 n0 (some (.ref b2)) T7.heap _
  rw [e7]
  exact ⟨b2, rfl, N0, K6, sz_b2, V2, B2⟩
theorem d1_0 : decode prog_4_method_4_code 0 = .ok (.invokestatic 44, 3) := by decide +kernel
theorem d1_3 : decode prog_4_method_4_code 3 = .ok (.astore_n 1, 1) := by decide +kernel
theorem d1_4 : decode prog_4_method_4_code 4 = .ok (.aload_n 1, 1) := by decide +kernel
theorem d1_5 : decode prog_4_method_4_code 5 = .ok (.arraylength, 1) := by decide +kernel
theorem d1_6 : decode prog_4_method_4_code 6 = .ok (.istore_n 2, 1) := by decide +kernel
theorem d1_7 : decode prog_4_method_4_code 7 = .ok (.iconst 0, 1) := by decide +kernel
theorem d1_8 : decode prog_4_method_4_code 8 = .ok (.istore_n 3, 1) := by decide +kernel
theorem d1_9 : decode prog_4_method_4_code 9 = .ok (.iload_n 3, 1) := by decide +kernel
theorem d1_10 : decode prog_4_method_4_code 10 = .ok (.iload_n 2, 1) := by decide +kernel
theorem d1_11 : decode prog_4_method_4_code 11 = .ok (.if_icmp .ge 26, 3) := by decide +kernel
theorem d1_14 : decode prog_4_method_4_code 14 = .ok (.aload_n 1, 1) := by decide +kernel
theorem d1_15 : decode prog_4_method_4_code 15 = .ok (.iload_n 3, 1) := by decide +kernel
theorem d1_16 : decode prog_4_method_4_code 16 = .ok (.aaload, 1) := by decide +kernel
theorem d1_17 : decode prog_4_method_4_code 17 = .ok (.astore 4, 2) := by decide +kernel
theorem d1_19 : decode prog_4_method_4_code 19 = .ok (.aload 4, 2) := by decide +kernel
theorem d1_21 : decode prog_4_method_4_code 21 = .ok (.getfield 32, 3) := by decide +kernel
theorem d1_24 : decode prog_4_method_4_code 24 = .ok (.iload_n 0, 1) := by decide +kernel
theorem d1_25 : decode prog_4_method_4_code 25 = .ok (.if_icmp .ne 6, 3) := by decide +kernel
theorem d1_28 : decode prog_4_method_4_code 28 = .ok (.aload 4, 2) := by decide +kernel
theorem d1_30 : decode prog_4_method_4_code 30 = .ok (.areturn, 1) := by decide +kernel
theorem d1_31 : decode prog_4_method_4_code 31 = .ok (.iinc 3 1, 3) := by decide +kernel
theorem d1_34 : decode prog_4_method_4_code 34 = .ok (.goto (-25), 3) := by decide +kernel
theorem d1_37 : decode prog_4_method_4_code 37 = .ok (.aconst_null, 1) := by decide +kernel
theorem d1_38 : decode prog_4_method_4_code 38 = .ok (.areturn, 1) := by decide +kernel
theorem pd_0 : parseMethodDescriptor "()[Lcom/example/flomem/flomem/capture/LinkType;" = some ⟨[], some (.array (.object "com/example/flomem/flomem/capture/LinkType"))⟩ := by decide +kernel
theorem ef_1E (m : MethodId) (x0 : Int32) : entryFrame m #[(.int x0)] 5 = mkF m 0 #[.val (.int x0), .unset, .unset, .unset, .unset] [] := by first | (simp [entryFrame, mkF, argsToLocals, Value.category]; done) | rfl
def Q1E (Z : State) (p0 : Int32) (w_VALUES : Addr) (k_V : ClassId) (w_ETHERNET : Addr) (w_RAW_IP : Addr) (w_LINUX_COOKED : Addr) (h0 : Heap) (n0 : Nat) (v : Option Value) (h : Heap) (L : List Loc) : Prop := ∃ b2 : Addr, v = some (.ref w_ETHERNET) ∧ Fr n0 L ∧ Keep h0 h ([] : List Addr) ∧ h0.size ≤ b2 ∧ Arv Z h b2 k_V (.object "com/example/flomem/flomem/capture/LinkType") (3 : Int32) [(.ref w_ETHERNET), (.ref w_RAW_IP), (.ref w_LINUX_COOKED)] .null ∧ Exa Z h b2 "[Lcom/example/flomem/flomem/capture/LinkType;"
set_option maxRecDepth 65536 in
set_option maxHeartbeats 40000000 in
theorem rm1E (l : Launch) (Z : State) (a0 : Array Value) (hw : ∀ d ∈ tables_1, d.before a0 Z = true) (ws : List Jvm.Cond) (p0 : Int32) (w_VALUES : Addr) (k_V : ClassId) (w_ETHERNET : Addr) (w_RAW_IP : Addr) (w_LINUX_COOKED : Addr) (h0 : Heap) (n0 : Nat) (Z0 : n0 ≤ h0.size) (S_VALUES : Sta Z h0 "com/example/flomem/flomem/capture/LinkType" "$VALUES" "[Lcom/example/flomem/flomem/capture/LinkType;" (.ref w_VALUES)) (V_VALUES : Arv Z h0 w_VALUES k_V (.object "com/example/flomem/flomem/capture/LinkType") (3 : Int32) [(.ref w_ETHERNET), (.ref w_RAW_IP), (.ref w_LINUX_COOKED)] .null) (E_VALUES : Exa Z h0 w_VALUES "[Lcom/example/flomem/flomem/capture/LinkType;") (F_ETHERNET : Fld Z h0 w_ETHERNET "com/example/flomem/flomem/capture/LinkType" "number" "I" (.int (1 : Int32))) (F_RAW_IP : Fld Z h0 w_RAW_IP "com/example/flomem/flomem/capture/LinkType" "number" "I" (.int (101 : Int32))) (F_LINUX_COOKED : Fld Z h0 w_LINUX_COOKED "com/example/flomem/flomem/capture/LinkType" "number" "I" (.int (113 : Int32))) (hn_ETHERNET : (1 : Int32) = p0) :
    MetFree l (⟨"com/example/flomem/flomem/capture/LinkType", "numbered", "(I)Lcom/example/flomem/flomem/capture/LinkType;"⟩ : MethodName) (head1 (Jvm.Cond.code (⟨"com/example/flomem/flomem/capture/LinkType", "numbered", "(I)Lcom/example/flomem/flomem/capture/LinkType;"⟩ : MethodName) prog_4_method_4_code 5 (some (.object "com/example/flomem/flomem/capture/LinkType")) :: ws) ({ frames := 2, cells := 1, slots := 3, locals := 25 } : Room)) (fun a U => a = #[(.int p0)] ∧ Z.Warmed39 U.vm ∧ U.heap = h0) (fun _ _ _ _ _ => True) (fun _ U o U' => ∃ v L, o = .returned v ∧ Q1E Z p0 w_VALUES k_V w_ETHERNET w_RAW_IP w_LINUX_COOKED h0 n0 v U'.heap L ∧ FrameEnd U o U' L ({ frames := 2, cells := 1, slots := 3, locals := 25 } : Room).cells ({ frames := 2, cells := 1, slots := 3, locals := 25 } : Room).slots) := by
  refine MetFree.of_bodySF (plainFor_of_name (by first | (simp [plainName, overriddenIn]; done) | decide +kernel)) hisR ?_
  intro p e s m args below meth c s₁ Bd hml0 hP hK
  obtain ⟨rfl, hZ, hh⟩ := hP
  have hx := Bd.exec
  have hby := Bd.bytes
  have hml : c.maxLocals = 5 := hml0
  have hown : s.vm.findClass "com/example/flomem/flomem/capture/LinkType" = some m.cls := findClass_of_methodNamed Bd.named
  have hnm := (name_of_methodNamed Bd.named Bd.method).1
  have hlk := BodyLoose.notSynchronized Bd
  have X0 : Stand p l e ({ frames := 2, cells := 1, slots := 3, locals := 25 } : Room) s m #[(.int p0)] below meth c s₁ [] 0 0 := Stand.of_body Bd
  have e0 : s₁.heap = h0 := by rw [← hh, Bd.state]; rfl
  have N0 := Fr.nil n0
  show Go p e below s (Q1E Z p0 w_VALUES k_V w_ETHERNET w_RAW_IP w_LINUX_COOKED h0 n0) 1 3 (s₁.setTop (entryFrame m #[(.int p0)] 5))
  rw [ef_1E]
  show Go _ _ _ _ _ _ _ (s₁.setTop (mkF m 0 #[.val (.int p0), .unset, .unset, .unset, .unset] []))
  obtain ⟨_, _, ⟨T1, L1, k1, n1⟩, -, X1, ⟨Lc1, hQ1, l1, y1, z1⟩, st1⟩ := Jvm.LawKit.callS X0 hx (y := (⟨"com/example/flomem/flomem/capture/LinkType", "values", "()[Lcom/example/flomem/flomem/capture/LinkType;"⟩ : MethodName)) hown (mvT hZ (hw _ (List.mem_of_getElem? (i := 4) rfl))) (mvT hZ (hw _ (List.mem_of_getElem? (i := 5) rfl))) (mvT hZ (hw _ (List.mem_of_getElem? (i := 2) rfl))) (mvT hZ (hw _ (List.mem_of_getElem? (i := 6) rfl))) (by decide) (backOf (W := 0) (rm2 l Z a0 hw [] w_VALUES k_V w_ETHERNET w_RAW_IP w_LINUX_COOKED h0 n0 Z0 S_VALUES V_VALUES E_VALUES) hZ (hw _ (List.mem_of_getElem? (i := 6) rfl)) (hw _ (List.mem_of_getElem? (i := 2) rfl)) (by decide) (by decide)) (g := (mkF m 0 #[.val (.int p0), .unset, .unset, .unset, .unset] [])) rfl (by rw [hml]; rfl) (argsL := []) (rest := []) (lenOf pd_0 rfl) rfl (by show 2 * 0 + _ ≤ _; exact Nat.le_of_eq rfl) (hb hby d1_0) (fun _ _ => ⟨rfl, e0, (by decide : 0 + 1 ≤ _), (by decide : 0 + 3 ≤ _)⟩)
  dsimp only [Pt.U, Pt.locs, Pt.cells, Pt.slots] at X1 l1 y1 z1 st1 hQ1
  subst l1 y1 z1
  obtain ⟨b2, rfl, Nq1, K1, hz3, F4, F5⟩ := hQ1
  have N1 := Fr.app N0 Nq1
  have n6 : w_VALUES ≠ b2 := Nat.ne_of_lt (Nat.lt_of_lt_of_le V_VALUES.lt hz3)
  have n7 : w_ETHERNET ≠ b2 := Nat.ne_of_lt (Nat.lt_of_lt_of_le F_ETHERNET.lt hz3)
  have n8 : w_RAW_IP ≠ b2 := Nat.ne_of_lt (Nat.lt_of_lt_of_le F_RAW_IP.lt hz3)
  have n9 : w_LINUX_COOKED ≠ b2 := Nat.ne_of_lt (Nat.lt_of_lt_of_le F_LINUX_COOKED.lt hz3)
  have g10 : n0 ≤ b2 := Nat.le_trans Z0 hz3
  have sz_b2 : h0.size ≤ b2 := Nat.le_trans (Keep.refl h0 []).1 hz3
  have ns11 := (ns0 (h := h0))
  have z12 : n0 ≤ T1.heap.size := Nat.le_trans Z0 K1.1
  have K13 : Keep h0 T1.heap ([] : List Addr) := (Keep.refl h0 ([] : List Addr)).trans K1 all0
  refine gob st1 ?_
  show Go _ _ _ _ _ _ _ (T1.setTop (mkF m 3 #[.val (.int p0), .unset, .unset, .unset, .unset] [(.ref b2)]))
  refine gob (fun _ k => XS.astoreN X1.here hx rfl (hb hby d1_3) rfl rfl (l' := #[.val (.int p0), .val (.ref b2), .unset, .unset, .unset]) rfl k) ?_
  show Go _ _ _ _ _ _ _ (T1.setTop (mkF m 4 #[.val (.int p0), .val (.ref b2), .unset, .unset, .unset] []))
  refine gob (fun _ k => XS.aloadN X1.here hx rfl (hb hby d1_4) rfl rfl k) ?_
  show Go _ _ _ _ _ _ _ (T1.setTop (mkF m 5 #[.val (.int p0), .val (.ref b2), .unset, .unset, .unset] [(.ref b2)]))
  obtain ⟨cl14, Ar14, q14, S14, N14, H14, G14⟩ := id F4
  refine gob (X1.arraylength hx (by rw [(rfl : T1.heap = _)]; exact Ar14.1) (State.isArrayOf_alike hZ.alike Ar14.2.1) (g := (mkF m 5 #[.val (.int p0), .val (.ref b2), .unset, .unset, .unset] [(.ref b2)])) rfl rfl (hb hby d1_5)) ?_
  rw [len_of S14 N14]
  show Go _ _ _ _ _ _ _ (T1.setTop (mkF m 6 #[.val (.int p0), .val (.ref b2), .unset, .unset, .unset] [(.int (3 : Int32))]))
  refine gob (fun _ k => XS.istoreN X1.here hx rfl (hb hby d1_6) rfl (l' := #[.val (.int p0), .val (.ref b2), .val (.int (3 : Int32)), .unset, .unset]) rfl k) ?_
  show Go _ _ _ _ _ _ _ (T1.setTop (mkF m 7 #[.val (.int p0), .val (.ref b2), .val (.int (3 : Int32)), .unset, .unset] []))
  refine gob (fun _ k => XS.iconst X1.here hx rfl (hb hby d1_7) k) ?_
  show Go _ _ _ _ _ _ _ (T1.setTop (mkF m 8 #[.val (.int p0), .val (.ref b2), .val (.int (3 : Int32)), .unset, .unset] [(.int (0 : Int32))]))
  refine gob (fun _ k => XS.istoreN X1.here hx rfl (hb hby d1_8) rfl (l' := #[.val (.int p0), .val (.ref b2), .val (.int (3 : Int32)), .val (.int (0 : Int32)), .unset]) rfl k) ?_
  show Go _ _ _ _ _ _ _ (T1.setTop (mkF m 9 #[.val (.int p0), .val (.ref b2), .val (.int (3 : Int32)), .val (.int (0 : Int32)), .unset] []))
  refine gob (fun _ k => XS.iloadN X1.here hx rfl (hb hby d1_9) rfl k) ?_
  show Go _ _ _ _ _ _ _ (T1.setTop (mkF m 10 #[.val (.int p0), .val (.ref b2), .val (.int (3 : Int32)), .val (.int (0 : Int32)), .unset] [(.int (0 : Int32))]))
  refine gob (fun _ k => XS.iloadN X1.here hx rfl (hb hby d1_10) rfl k) ?_
  show Go _ _ _ _ _ _ _ (T1.setTop (mkF m 11 #[.val (.int p0), .val (.ref b2), .val (.int (3 : Int32)), .val (.int (0 : Int32)), .unset] [(.int (3 : Int32)), (.int (0 : Int32))]))
  refine gob (fun _ k => XS.icmpNo X1.here hx rfl (hb hby d1_11) rfl (tlt (by decide : (0 : Int32) < (3 : Int32))).2.1 k) ?_
  show Go _ _ _ _ _ _ _ (T1.setTop (mkF m 14 #[.val (.int p0), .val (.ref b2), .val (.int (3 : Int32)), .val (.int (0 : Int32)), .unset] []))
  refine gob (fun _ k => XS.aloadN X1.here hx rfl (hb hby d1_14) rfl rfl k) ?_
  show Go _ _ _ _ _ _ _ (T1.setTop (mkF m 15 #[.val (.int p0), .val (.ref b2), .val (.int (3 : Int32)), .val (.int (0 : Int32)), .unset] [(.ref b2)]))
  refine gob (fun _ k => XS.iloadN X1.here hx rfl (hb hby d1_15) rfl k) ?_
  show Go _ _ _ _ _ _ _ (T1.setTop (mkF m 16 #[.val (.int p0), .val (.ref b2), .val (.int (3 : Int32)), .val (.int (0 : Int32)), .unset] [(.int (0 : Int32)), (.ref b2)]))
  obtain ⟨cl15, Ar15, q15, S15, N15, H15, G15⟩ := id F4
  have hin15 : ¬ ((0 : Int32) < 0 ∨ cl15.slots.size ≤ ((0 : Int32)).toNatClampNeg) := inb_of S15 ⟨by decide, by decide⟩
  refine gob (X1.aaload hx (j := (0 : Int32)) (v := (.ref w_ETHERNET)) (by rw [(rfl : T1.heap = _)]; exact Ar15.1) (State.isArrayOf_alike hZ.alike Ar15.2.1) rfl Ar15.2.2 hin15 (Has.at H15 hin15 rfl) (g := (mkF m 16 #[.val (.int p0), .val (.ref b2), .val (.int (3 : Int32)), .val (.int (0 : Int32)), .unset] [(.int (0 : Int32)), (.ref b2)])) rfl rfl (hb hby d1_16)) ?_
  show Go _ _ _ _ _ _ _ (T1.setTop (mkF m 17 #[.val (.int p0), .val (.ref b2), .val (.int (3 : Int32)), .val (.int (0 : Int32)), .unset] [(.ref w_ETHERNET)]))
  refine gob (fun _ k => XS.astore X1.here hx rfl (hb hby d1_17) rfl rfl (l' := #[.val (.int p0), .val (.ref b2), .val (.int (3 : Int32)), .val (.int (0 : Int32)), .val (.ref w_ETHERNET)]) rfl k) ?_
  show Go _ _ _ _ _ _ _ (T1.setTop (mkF m 19 #[.val (.int p0), .val (.ref b2), .val (.int (3 : Int32)), .val (.int (0 : Int32)), .val (.ref w_ETHERNET)] []))
  refine gob (fun _ k => XS.aload X1.here hx rfl (hb hby d1_19) rfl rfl k) ?_
  show Go _ _ _ _ _ _ _ (T1.setTop (mkF m 21 #[.val (.int p0), .val (.ref b2), .val (.int (3 : Int32)), .val (.int (0 : Int32)), .val (.ref w_ETHERNET)] [(.ref w_ETHERNET)]))
  have c16 := (F_ETHERNET.keep K1 nin0)
  obtain ⟨T17, X17, e17, st17⟩ := getF X1 hx hZ hown (host := "") (Or.inl (hw _ (List.mem_of_getElem? (i := 22) rfl))) Via.refl (rfl : T1.heap = _) c16 (g := (mkF m 21 #[.val (.int p0), .val (.ref b2), .val (.int (3 : Int32)), .val (.int (0 : Int32)), .val (.ref w_ETHERNET)] [(.ref w_ETHERNET)])) rfl rfl (hb hby d1_21)
  refine gob st17 ?_
  show Go _ _ _ _ _ _ _ (T17.setTop (mkF m 24 #[.val (.int p0), .val (.ref b2), .val (.int (3 : Int32)), .val (.int (0 : Int32)), .val (.ref w_ETHERNET)] [(.int (1 : Int32))]))
  refine gob (fun _ k => XS.iloadN X17.here hx rfl (hb hby d1_24) rfl k) ?_
  show Go _ _ _ _ _ _ _ (T17.setTop (mkF m 25 #[.val (.int p0), .val (.ref b2), .val (.int (3 : Int32)), .val (.int (0 : Int32)), .val (.ref w_ETHERNET)] [(.int p0), (.int (1 : Int32))]))
  refine gob (fun _ k => XS.icmpNo X17.here hx rfl (hb hby d1_25) rfl (teq hn_ETHERNET).2 k) ?_
  show Go _ _ _ _ _ _ _ (T17.setTop (mkF m 28 #[.val (.int p0), .val (.ref b2), .val (.int (3 : Int32)), .val (.int (0 : Int32)), .val (.ref w_ETHERNET)] []))
  refine gob (fun _ k => XS.aload X17.here hx rfl (hb hby d1_28) rfl rfl k) ?_
  show Go _ _ _ _ _ _ _ (T17.setTop (mkF m 30 #[.val (.int p0), .val (.ref b2), .val (.int (3 : Int32)), .val (.int (0 : Int32)), .val (.ref w_ETHERNET)] [(.ref w_ETHERNET)]))
  refine goA X17 hx hlk Bd.returns rfl rfl (hb hby d1_30) ?_ (by decide) (by decide)
  show Q1E Z p0 w_VALUES k_V w_ETHERNET w_RAW_IP w_LINUX_COOKED h0 n0 (some (.ref w_ETHERNET)) T17.heap _
  rw [e17]
  exact ⟨b2, rfl, N1, K13, sz_b2, F4, F5⟩
theorem d3_0 : decode method_3_code 0 = .ok (.iload_n 0, 1) := by decide +kernel
theorem d3_1 : decode method_3_code 1 = .ok (.iconst 1, 1) := by decide +kernel
theorem d3_2 : decode method_3_code 2 = .ok (.if_icmp .ne 7, 3) := by decide +kernel
theorem d3_5 : decode method_3_code 5 = .ok (.getstatic 18, 3) := by decide +kernel
theorem d3_8 : decode method_3_code 8 = .ok (.areturn, 1) := by decide +kernel
theorem d3_9 : decode method_3_code 9 = .ok (.iload_n 0, 1) := by decide +kernel
theorem d3_10 : decode method_3_code 10 = .ok (.bipush 101, 2) := by decide +kernel
theorem d3_12 : decode method_3_code 12 = .ok (.if_icmp .ne 7, 3) := by decide +kernel
theorem d3_15 : decode method_3_code 15 = .ok (.getstatic 22, 3) := by decide +kernel
theorem d3_18 : decode method_3_code 18 = .ok (.areturn, 1) := by decide +kernel
theorem d3_19 : decode method_3_code 19 = .ok (.iload_n 0, 1) := by decide +kernel
theorem d3_20 : decode method_3_code 20 = .ok (.bipush 113, 2) := by decide +kernel
theorem d3_22 : decode method_3_code 22 = .ok (.if_icmp .ne 7, 3) := by decide +kernel
theorem d3_25 : decode method_3_code 25 = .ok (.getstatic 25, 3) := by decide +kernel
theorem d3_28 : decode method_3_code 28 = .ok (.areturn, 1) := by decide +kernel
theorem d3_29 : decode method_3_code 29 = .ok (.aconst_null, 1) := by decide +kernel
theorem d3_30 : decode method_3_code 30 = .ok (.areturn, 1) := by decide +kernel
theorem ef_3E (m : MethodId) (x0 : Int32) : entryFrame m #[(.int x0)] 1 = mkF m 0 #[.val (.int x0)] [] := by first | (simp [entryFrame, mkF, argsToLocals, Value.category]; done) | rfl
def Q3E (Z : State) (p0 : Int32) (w_ETHERNET : Addr) (w_RAW_IP : Addr) (w_LINUX_COOKED : Addr) (h0 : Heap) (n0 : Nat) (v : Option Value) (h : Heap) (L : List Loc) : Prop := v = some (.ref w_ETHERNET) ∧ Fr n0 L ∧ Keep h0 h ([] : List Addr)
set_option maxRecDepth 65536 in
set_option maxHeartbeats 40000000 in
theorem rm3E (l : Launch) (Z : State) (a0 : Array Value) (hw : ∀ d ∈ tables_1, d.before a0 Z = true) (ws : List Jvm.Cond) (p0 : Int32) (w_ETHERNET : Addr) (w_RAW_IP : Addr) (w_LINUX_COOKED : Addr) (h0 : Heap) (n0 : Nat) (Z0 : n0 ≤ h0.size) (S_ETHERNET : Sta Z h0 "com/example/flomem/flomem/capture/LinkType" "ETHERNET" "Lcom/example/flomem/flomem/capture/LinkType;" (.ref w_ETHERNET)) (S_RAW_IP : Sta Z h0 "com/example/flomem/flomem/capture/LinkType" "RAW_IP" "Lcom/example/flomem/flomem/capture/LinkType;" (.ref w_RAW_IP)) (S_LINUX_COOKED : Sta Z h0 "com/example/flomem/flomem/capture/LinkType" "LINUX_COOKED" "Lcom/example/flomem/flomem/capture/LinkType;" (.ref w_LINUX_COOKED)) (hn_ETHERNET : (1 : Int32) = p0) :
    MetFree l (⟨"com/example/flomem/flomem/capture/LinkTypeNumberedPinLaw", "expectedFor", "(I)Lcom/example/flomem/flomem/capture/LinkType;"⟩ : MethodName) (head1 (Jvm.Cond.code (⟨"com/example/flomem/flomem/capture/LinkTypeNumberedPinLaw", "expectedFor", "(I)Lcom/example/flomem/flomem/capture/LinkType;"⟩ : MethodName) method_3_code 1 (some (.object "com/example/flomem/flomem/capture/LinkType")) :: ws) ({ frames := 0, cells := 0, slots := 0, locals := 0 } : Room)) (fun a U => a = #[(.int p0)] ∧ Z.Warmed39 U.vm ∧ U.heap = h0) (fun _ _ _ _ _ => True) (fun _ U o U' => ∃ v L, o = .returned v ∧ Q3E Z p0 w_ETHERNET w_RAW_IP w_LINUX_COOKED h0 n0 v U'.heap L ∧ FrameEnd U o U' L ({ frames := 0, cells := 0, slots := 0, locals := 0 } : Room).cells ({ frames := 0, cells := 0, slots := 0, locals := 0 } : Room).slots) := by
  refine MetFree.of_bodySF (plainFor_of_name (by first | (simp [plainName, overriddenIn]; done) | decide +kernel)) hisR ?_
  intro p e s m args below meth c s₁ Bd hml0 hP hK
  obtain ⟨rfl, hZ, hh⟩ := hP
  have hx := Bd.exec
  have hby := Bd.bytes
  have hml : c.maxLocals = 1 := hml0
  have hown : s.vm.findClass "com/example/flomem/flomem/capture/LinkTypeNumberedPinLaw" = some m.cls := findClass_of_methodNamed Bd.named
  have hnm := (name_of_methodNamed Bd.named Bd.method).1
  have hlk := BodyLoose.notSynchronized Bd
  have X0 : Stand p l e ({ frames := 0, cells := 0, slots := 0, locals := 0 } : Room) s m #[(.int p0)] below meth c s₁ [] 0 0 := Stand.of_body Bd
  have e0 : s₁.heap = h0 := by rw [← hh, Bd.state]; rfl
  have N0 := Fr.nil n0
  show Go p e below s (Q3E Z p0 w_ETHERNET w_RAW_IP w_LINUX_COOKED h0 n0) 0 0 (s₁.setTop (entryFrame m #[(.int p0)] 1))
  rw [ef_3E]
  have hm_ETHERNET : p0 = (1 : Int32) := Eq.symm hn_ETHERNET
  show Go _ _ _ _ _ _ _ (s₁.setTop (mkF m 0 #[.val (.int p0)] []))
  refine gob (fun _ k => XS.iloadN X0.here hx rfl (hb hby d3_0) rfl k) ?_
  show Go _ _ _ _ _ _ _ (s₁.setTop (mkF m 1 #[.val (.int p0)] [(.int p0)]))
  refine gob (fun _ k => XS.iconst X0.here hx rfl (hb hby d3_1) k) ?_
  show Go _ _ _ _ _ _ _ (s₁.setTop (mkF m 2 #[.val (.int p0)] [(.int (1 : Int32)), (.int p0)]))
  refine gob (fun _ k => XS.icmpNo X0.here hx rfl (hb hby d3_2) rfl (teq hm_ETHERNET).2 k) ?_
  show Go _ _ _ _ _ _ _ (s₁.setTop (mkF m 5 #[.val (.int p0)] []))
  obtain ⟨T1, X1, e1, st1⟩ := getS2 X0 hx hZ hown (host := "") (Or.inl (hw _ (List.mem_of_getElem? (i := 28) rfl))) Via.refl e0 S_ETHERNET (g := (mkF m 5 #[.val (.int p0)] [])) rfl (hb hby d3_5)
  refine gob st1 ?_
  show Go _ _ _ _ _ _ _ (T1.setTop (mkF m 8 #[.val (.int p0)] [(.ref w_ETHERNET)]))
  refine goA X1 hx hlk Bd.returns rfl rfl (hb hby d3_8) ?_ (by decide) (by decide)
  show Q3E Z p0 w_ETHERNET w_RAW_IP w_LINUX_COOKED h0 n0 (some (.ref w_ETHERNET)) T1.heap _
  rw [e1]
  exact ⟨rfl, N0, (Keep.refl h0 ([] : List Addr))⟩
theorem ef_1R (m : MethodId) (x0 : Int32) : entryFrame m #[(.int x0)] 5 = mkF m 0 #[.val (.int x0), .unset, .unset, .unset, .unset] [] := by first | (simp [entryFrame, mkF, argsToLocals, Value.category]; done) | rfl
def Q1R (Z : State) (p0 : Int32) (w_VALUES : Addr) (k_V : ClassId) (w_ETHERNET : Addr) (w_RAW_IP : Addr) (w_LINUX_COOKED : Addr) (h0 : Heap) (n0 : Nat) (v : Option Value) (h : Heap) (L : List Loc) : Prop := ∃ b2 : Addr, v = some (.ref w_RAW_IP) ∧ Fr n0 L ∧ Keep h0 h ([] : List Addr) ∧ h0.size ≤ b2 ∧ Arv Z h b2 k_V (.object "com/example/flomem/flomem/capture/LinkType") (3 : Int32) [(.ref w_ETHERNET), (.ref w_RAW_IP), (.ref w_LINUX_COOKED)] .null ∧ Exa Z h b2 "[Lcom/example/flomem/flomem/capture/LinkType;"
set_option maxRecDepth 65536 in
set_option maxHeartbeats 40000000 in
theorem rm1R (l : Launch) (Z : State) (a0 : Array Value) (hw : ∀ d ∈ tables_1, d.before a0 Z = true) (ws : List Jvm.Cond) (p0 : Int32) (w_VALUES : Addr) (k_V : ClassId) (w_ETHERNET : Addr) (w_RAW_IP : Addr) (w_LINUX_COOKED : Addr) (h0 : Heap) (n0 : Nat) (Z0 : n0 ≤ h0.size) (S_VALUES : Sta Z h0 "com/example/flomem/flomem/capture/LinkType" "$VALUES" "[Lcom/example/flomem/flomem/capture/LinkType;" (.ref w_VALUES)) (V_VALUES : Arv Z h0 w_VALUES k_V (.object "com/example/flomem/flomem/capture/LinkType") (3 : Int32) [(.ref w_ETHERNET), (.ref w_RAW_IP), (.ref w_LINUX_COOKED)] .null) (E_VALUES : Exa Z h0 w_VALUES "[Lcom/example/flomem/flomem/capture/LinkType;") (F_ETHERNET : Fld Z h0 w_ETHERNET "com/example/flomem/flomem/capture/LinkType" "number" "I" (.int (1 : Int32))) (F_RAW_IP : Fld Z h0 w_RAW_IP "com/example/flomem/flomem/capture/LinkType" "number" "I" (.int (101 : Int32))) (F_LINUX_COOKED : Fld Z h0 w_LINUX_COOKED "com/example/flomem/flomem/capture/LinkType" "number" "I" (.int (113 : Int32))) (hn_ETHERNET : ¬ ((1 : Int32) = p0)) (hn_RAW_IP : (101 : Int32) = p0) :
    MetFree l (⟨"com/example/flomem/flomem/capture/LinkType", "numbered", "(I)Lcom/example/flomem/flomem/capture/LinkType;"⟩ : MethodName) (head1 (Jvm.Cond.code (⟨"com/example/flomem/flomem/capture/LinkType", "numbered", "(I)Lcom/example/flomem/flomem/capture/LinkType;"⟩ : MethodName) prog_4_method_4_code 5 (some (.object "com/example/flomem/flomem/capture/LinkType")) :: ws) ({ frames := 2, cells := 1, slots := 3, locals := 25 } : Room)) (fun a U => a = #[(.int p0)] ∧ Z.Warmed39 U.vm ∧ U.heap = h0) (fun _ _ _ _ _ => True) (fun _ U o U' => ∃ v L, o = .returned v ∧ Q1R Z p0 w_VALUES k_V w_ETHERNET w_RAW_IP w_LINUX_COOKED h0 n0 v U'.heap L ∧ FrameEnd U o U' L ({ frames := 2, cells := 1, slots := 3, locals := 25 } : Room).cells ({ frames := 2, cells := 1, slots := 3, locals := 25 } : Room).slots) := by
  refine MetFree.of_bodySF (plainFor_of_name (by first | (simp [plainName, overriddenIn]; done) | decide +kernel)) hisR ?_
  intro p e s m args below meth c s₁ Bd hml0 hP hK
  obtain ⟨rfl, hZ, hh⟩ := hP
  have hx := Bd.exec
  have hby := Bd.bytes
  have hml : c.maxLocals = 5 := hml0
  have hown : s.vm.findClass "com/example/flomem/flomem/capture/LinkType" = some m.cls := findClass_of_methodNamed Bd.named
  have hnm := (name_of_methodNamed Bd.named Bd.method).1
  have hlk := BodyLoose.notSynchronized Bd
  have X0 : Stand p l e ({ frames := 2, cells := 1, slots := 3, locals := 25 } : Room) s m #[(.int p0)] below meth c s₁ [] 0 0 := Stand.of_body Bd
  have e0 : s₁.heap = h0 := by rw [← hh, Bd.state]; rfl
  have N0 := Fr.nil n0
  show Go p e below s (Q1R Z p0 w_VALUES k_V w_ETHERNET w_RAW_IP w_LINUX_COOKED h0 n0) 1 3 (s₁.setTop (entryFrame m #[(.int p0)] 5))
  rw [ef_1R]
  show Go _ _ _ _ _ _ _ (s₁.setTop (mkF m 0 #[.val (.int p0), .unset, .unset, .unset, .unset] []))
  obtain ⟨_, _, ⟨T1, L1, k1, n1⟩, -, X1, ⟨Lc1, hQ1, l1, y1, z1⟩, st1⟩ := Jvm.LawKit.callS X0 hx (y := (⟨"com/example/flomem/flomem/capture/LinkType", "values", "()[Lcom/example/flomem/flomem/capture/LinkType;"⟩ : MethodName)) hown (mvT hZ (hw _ (List.mem_of_getElem? (i := 4) rfl))) (mvT hZ (hw _ (List.mem_of_getElem? (i := 5) rfl))) (mvT hZ (hw _ (List.mem_of_getElem? (i := 2) rfl))) (mvT hZ (hw _ (List.mem_of_getElem? (i := 6) rfl))) (by decide) (backOf (W := 0) (rm2 l Z a0 hw [] w_VALUES k_V w_ETHERNET w_RAW_IP w_LINUX_COOKED h0 n0 Z0 S_VALUES V_VALUES E_VALUES) hZ (hw _ (List.mem_of_getElem? (i := 6) rfl)) (hw _ (List.mem_of_getElem? (i := 2) rfl)) (by decide) (by decide)) (g := (mkF m 0 #[.val (.int p0), .unset, .unset, .unset, .unset] [])) rfl (by rw [hml]; rfl) (argsL := []) (rest := []) (lenOf pd_0 rfl) rfl (by show 2 * 0 + _ ≤ _; exact Nat.le_of_eq rfl) (hb hby d1_0) (fun _ _ => ⟨rfl, e0, (by decide : 0 + 1 ≤ _), (by decide : 0 + 3 ≤ _)⟩)
  dsimp only [Pt.U, Pt.locs, Pt.cells, Pt.slots] at X1 l1 y1 z1 st1 hQ1
  subst l1 y1 z1
  obtain ⟨b2, rfl, Nq1, K1, hz3, F4, F5⟩ := hQ1
  have N1 := Fr.app N0 Nq1
  have n6 : w_VALUES ≠ b2 := Nat.ne_of_lt (Nat.lt_of_lt_of_le V_VALUES.lt hz3)
  have n7 : w_ETHERNET ≠ b2 := Nat.ne_of_lt (Nat.lt_of_lt_of_le F_ETHERNET.lt hz3)
  have n8 : w_RAW_IP ≠ b2 := Nat.ne_of_lt (Nat.lt_of_lt_of_le F_RAW_IP.lt hz3)
  have n9 : w_LINUX_COOKED ≠ b2 := Nat.ne_of_lt (Nat.lt_of_lt_of_le F_LINUX_COOKED.lt hz3)
  have g10 : n0 ≤ b2 := Nat.le_trans Z0 hz3
  have sz_b2 : h0.size ≤ b2 := Nat.le_trans (Keep.refl h0 []).1 hz3
  have ns11 := (ns0 (h := h0))
  have z12 : n0 ≤ T1.heap.size := Nat.le_trans Z0 K1.1
  have K13 : Keep h0 T1.heap ([] : List Addr) := (Keep.refl h0 ([] : List Addr)).trans K1 all0
  refine gob st1 ?_
  show Go _ _ _ _ _ _ _ (T1.setTop (mkF m 3 #[.val (.int p0), .unset, .unset, .unset, .unset] [(.ref b2)]))
  refine gob (fun _ k => XS.astoreN X1.here hx rfl (hb hby d1_3) rfl rfl (l' := #[.val (.int p0), .val (.ref b2), .unset, .unset, .unset]) rfl k) ?_
  show Go _ _ _ _ _ _ _ (T1.setTop (mkF m 4 #[.val (.int p0), .val (.ref b2), .unset, .unset, .unset] []))
  refine gob (fun _ k => XS.aloadN X1.here hx rfl (hb hby d1_4) rfl rfl k) ?_
  show Go _ _ _ _ _ _ _ (T1.setTop (mkF m 5 #[.val (.int p0), .val (.ref b2), .unset, .unset, .unset] [(.ref b2)]))
  obtain ⟨cl14, Ar14, q14, S14, N14, H14, G14⟩ := id F4
  refine gob (X1.arraylength hx (by rw [(rfl : T1.heap = _)]; exact Ar14.1) (State.isArrayOf_alike hZ.alike Ar14.2.1) (g := (mkF m 5 #[.val (.int p0), .val (.ref b2), .unset, .unset, .unset] [(.ref b2)])) rfl rfl (hb hby d1_5)) ?_
  rw [len_of S14 N14]
  show Go _ _ _ _ _ _ _ (T1.setTop (mkF m 6 #[.val (.int p0), .val (.ref b2), .unset, .unset, .unset] [(.int (3 : Int32))]))
  refine gob (fun _ k => XS.istoreN X1.here hx rfl (hb hby d1_6) rfl (l' := #[.val (.int p0), .val (.ref b2), .val (.int (3 : Int32)), .unset, .unset]) rfl k) ?_
  show Go _ _ _ _ _ _ _ (T1.setTop (mkF m 7 #[.val (.int p0), .val (.ref b2), .val (.int (3 : Int32)), .unset, .unset] []))
  refine gob (fun _ k => XS.iconst X1.here hx rfl (hb hby d1_7) k) ?_
  show Go _ _ _ _ _ _ _ (T1.setTop (mkF m 8 #[.val (.int p0), .val (.ref b2), .val (.int (3 : Int32)), .unset, .unset] [(.int (0 : Int32))]))
  refine gob (fun _ k => XS.istoreN X1.here hx rfl (hb hby d1_8) rfl (l' := #[.val (.int p0), .val (.ref b2), .val (.int (3 : Int32)), .val (.int (0 : Int32)), .unset]) rfl k) ?_
  show Go _ _ _ _ _ _ _ (T1.setTop (mkF m 9 #[.val (.int p0), .val (.ref b2), .val (.int (3 : Int32)), .val (.int (0 : Int32)), .unset] []))
  refine gob (fun _ k => XS.iloadN X1.here hx rfl (hb hby d1_9) rfl k) ?_
  show Go _ _ _ _ _ _ _ (T1.setTop (mkF m 10 #[.val (.int p0), .val (.ref b2), .val (.int (3 : Int32)), .val (.int (0 : Int32)), .unset] [(.int (0 : Int32))]))
  refine gob (fun _ k => XS.iloadN X1.here hx rfl (hb hby d1_10) rfl k) ?_
  show Go _ _ _ _ _ _ _ (T1.setTop (mkF m 11 #[.val (.int p0), .val (.ref b2), .val (.int (3 : Int32)), .val (.int (0 : Int32)), .unset] [(.int (3 : Int32)), (.int (0 : Int32))]))
  refine gob (fun _ k => XS.icmpNo X1.here hx rfl (hb hby d1_11) rfl (tlt (by decide : (0 : Int32) < (3 : Int32))).2.1 k) ?_
  show Go _ _ _ _ _ _ _ (T1.setTop (mkF m 14 #[.val (.int p0), .val (.ref b2), .val (.int (3 : Int32)), .val (.int (0 : Int32)), .unset] []))
  refine gob (fun _ k => XS.aloadN X1.here hx rfl (hb hby d1_14) rfl rfl k) ?_
  show Go _ _ _ _ _ _ _ (T1.setTop (mkF m 15 #[.val (.int p0), .val (.ref b2), .val (.int (3 : Int32)), .val (.int (0 : Int32)), .unset] [(.ref b2)]))
  refine gob (fun _ k => XS.iloadN X1.here hx rfl (hb hby d1_15) rfl k) ?_
  show Go _ _ _ _ _ _ _ (T1.setTop (mkF m 16 #[.val (.int p0), .val (.ref b2), .val (.int (3 : Int32)), .val (.int (0 : Int32)), .unset] [(.int (0 : Int32)), (.ref b2)]))
  obtain ⟨cl15, Ar15, q15, S15, N15, H15, G15⟩ := id F4
  have hin15 : ¬ ((0 : Int32) < 0 ∨ cl15.slots.size ≤ ((0 : Int32)).toNatClampNeg) := inb_of S15 ⟨by decide, by decide⟩
  refine gob (X1.aaload hx (j := (0 : Int32)) (v := (.ref w_ETHERNET)) (by rw [(rfl : T1.heap = _)]; exact Ar15.1) (State.isArrayOf_alike hZ.alike Ar15.2.1) rfl Ar15.2.2 hin15 (Has.at H15 hin15 rfl) (g := (mkF m 16 #[.val (.int p0), .val (.ref b2), .val (.int (3 : Int32)), .val (.int (0 : Int32)), .unset] [(.int (0 : Int32)), (.ref b2)])) rfl rfl (hb hby d1_16)) ?_
  show Go _ _ _ _ _ _ _ (T1.setTop (mkF m 17 #[.val (.int p0), .val (.ref b2), .val (.int (3 : Int32)), .val (.int (0 : Int32)), .unset] [(.ref w_ETHERNET)]))
  refine gob (fun _ k => XS.astore X1.here hx rfl (hb hby d1_17) rfl rfl (l' := #[.val (.int p0), .val (.ref b2), .val (.int (3 : Int32)), .val (.int (0 : Int32)), .val (.ref w_ETHERNET)]) rfl k) ?_
  show Go _ _ _ _ _ _ _ (T1.setTop (mkF m 19 #[.val (.int p0), .val (.ref b2), .val (.int (3 : Int32)), .val (.int (0 : Int32)), .val (.ref w_ETHERNET)] []))
  refine gob (fun _ k => XS.aload X1.here hx rfl (hb hby d1_19) rfl rfl k) ?_
  show Go _ _ _ _ _ _ _ (T1.setTop (mkF m 21 #[.val (.int p0), .val (.ref b2), .val (.int (3 : Int32)), .val (.int (0 : Int32)), .val (.ref w_ETHERNET)] [(.ref w_ETHERNET)]))
  have c16 := (F_ETHERNET.keep K1 nin0)
  obtain ⟨T17, X17, e17, st17⟩ := getF X1 hx hZ hown (host := "") (Or.inl (hw _ (List.mem_of_getElem? (i := 22) rfl))) Via.refl (rfl : T1.heap = _) c16 (g := (mkF m 21 #[.val (.int p0), .val (.ref b2), .val (.int (3 : Int32)), .val (.int (0 : Int32)), .val (.ref w_ETHERNET)] [(.ref w_ETHERNET)])) rfl rfl (hb hby d1_21)
  refine gob st17 ?_
  show Go _ _ _ _ _ _ _ (T17.setTop (mkF m 24 #[.val (.int p0), .val (.ref b2), .val (.int (3 : Int32)), .val (.int (0 : Int32)), .val (.ref w_ETHERNET)] [(.int (1 : Int32))]))
  refine gob (fun _ k => XS.iloadN X17.here hx rfl (hb hby d1_24) rfl k) ?_
  show Go _ _ _ _ _ _ _ (T17.setTop (mkF m 25 #[.val (.int p0), .val (.ref b2), .val (.int (3 : Int32)), .val (.int (0 : Int32)), .val (.ref w_ETHERNET)] [(.int p0), (.int (1 : Int32))]))
  refine gob (fun _ k => XS.icmpYes X17.here hx rfl (pc0 := 25) (pc' := 31) rfl (hb hby d1_25) rfl (feq hn_ETHERNET).2 (by decide) (by decide) k) ?_
  show Go _ _ _ _ _ _ _ (T17.setTop (mkF m 31 #[.val (.int p0), .val (.ref b2), .val (.int (3 : Int32)), .val (.int (0 : Int32)), .val (.ref w_ETHERNET)] []))
  refine gob (fun _ k => XS.iinc X17.here hx rfl (hb hby d1_31) rfl (l' := #[.val (.int p0), .val (.ref b2), .val (.int (3 : Int32)), .val (.int (1 : Int32)), .val (.ref w_ETHERNET)]) rfl k) ?_
  show Go _ _ _ _ _ _ _ (T17.setTop (mkF m 34 #[.val (.int p0), .val (.ref b2), .val (.int (3 : Int32)), .val (.int (1 : Int32)), .val (.ref w_ETHERNET)] []))
  refine gob (fun _ k => XS.goto X17.here hx rfl (pc0 := 34) (pc' := 9) rfl (hb hby d1_34) (by decide) (by decide) k) ?_
  show Go _ _ _ _ _ _ _ (T17.setTop (mkF m 9 #[.val (.int p0), .val (.ref b2), .val (.int (3 : Int32)), .val (.int (1 : Int32)), .val (.ref w_ETHERNET)] []))
  refine gob (fun _ k => XS.iloadN X17.here hx rfl (hb hby d1_9) rfl k) ?_
  show Go _ _ _ _ _ _ _ (T17.setTop (mkF m 10 #[.val (.int p0), .val (.ref b2), .val (.int (3 : Int32)), .val (.int (1 : Int32)), .val (.ref w_ETHERNET)] [(.int (1 : Int32))]))
  refine gob (fun _ k => XS.iloadN X17.here hx rfl (hb hby d1_10) rfl k) ?_
  show Go _ _ _ _ _ _ _ (T17.setTop (mkF m 11 #[.val (.int p0), .val (.ref b2), .val (.int (3 : Int32)), .val (.int (1 : Int32)), .val (.ref w_ETHERNET)] [(.int (3 : Int32)), (.int (1 : Int32))]))
  refine gob (fun _ k => XS.icmpNo X17.here hx rfl (hb hby d1_11) rfl (tlt (by decide : (1 : Int32) < (3 : Int32))).2.1 k) ?_
  show Go _ _ _ _ _ _ _ (T17.setTop (mkF m 14 #[.val (.int p0), .val (.ref b2), .val (.int (3 : Int32)), .val (.int (1 : Int32)), .val (.ref w_ETHERNET)] []))
  refine gob (fun _ k => XS.aloadN X17.here hx rfl (hb hby d1_14) rfl rfl k) ?_
  show Go _ _ _ _ _ _ _ (T17.setTop (mkF m 15 #[.val (.int p0), .val (.ref b2), .val (.int (3 : Int32)), .val (.int (1 : Int32)), .val (.ref w_ETHERNET)] [(.ref b2)]))
  refine gob (fun _ k => XS.iloadN X17.here hx rfl (hb hby d1_15) rfl k) ?_
  show Go _ _ _ _ _ _ _ (T17.setTop (mkF m 16 #[.val (.int p0), .val (.ref b2), .val (.int (3 : Int32)), .val (.int (1 : Int32)), .val (.ref w_ETHERNET)] [(.int (1 : Int32)), (.ref b2)]))
  obtain ⟨cl18, Ar18, q18, S18, N18, H18, G18⟩ := id F4
  have hin18 : ¬ ((1 : Int32) < 0 ∨ cl18.slots.size ≤ ((1 : Int32)).toNatClampNeg) := inb_of S18 ⟨by decide, by decide⟩
  refine gob (X17.aaload hx (j := (1 : Int32)) (v := (.ref w_RAW_IP)) (by rw [e17]; exact Ar18.1) (State.isArrayOf_alike hZ.alike Ar18.2.1) rfl Ar18.2.2 hin18 (Has.at H18 hin18 rfl) (g := (mkF m 16 #[.val (.int p0), .val (.ref b2), .val (.int (3 : Int32)), .val (.int (1 : Int32)), .val (.ref w_ETHERNET)] [(.int (1 : Int32)), (.ref b2)])) rfl rfl (hb hby d1_16)) ?_
  show Go _ _ _ _ _ _ _ (T17.setTop (mkF m 17 #[.val (.int p0), .val (.ref b2), .val (.int (3 : Int32)), .val (.int (1 : Int32)), .val (.ref w_ETHERNET)] [(.ref w_RAW_IP)]))
  refine gob (fun _ k => XS.astore X17.here hx rfl (hb hby d1_17) rfl rfl (l' := #[.val (.int p0), .val (.ref b2), .val (.int (3 : Int32)), .val (.int (1 : Int32)), .val (.ref w_RAW_IP)]) rfl k) ?_
  show Go _ _ _ _ _ _ _ (T17.setTop (mkF m 19 #[.val (.int p0), .val (.ref b2), .val (.int (3 : Int32)), .val (.int (1 : Int32)), .val (.ref w_RAW_IP)] []))
  refine gob (fun _ k => XS.aload X17.here hx rfl (hb hby d1_19) rfl rfl k) ?_
  show Go _ _ _ _ _ _ _ (T17.setTop (mkF m 21 #[.val (.int p0), .val (.ref b2), .val (.int (3 : Int32)), .val (.int (1 : Int32)), .val (.ref w_RAW_IP)] [(.ref w_RAW_IP)]))
  have c19 := (F_RAW_IP.keep K1 nin0)
  obtain ⟨T20, X20, e20, st20⟩ := getF X17 hx hZ hown (host := "") (Or.inl (hw _ (List.mem_of_getElem? (i := 22) rfl))) Via.refl e17 c19 (g := (mkF m 21 #[.val (.int p0), .val (.ref b2), .val (.int (3 : Int32)), .val (.int (1 : Int32)), .val (.ref w_RAW_IP)] [(.ref w_RAW_IP)])) rfl rfl (hb hby d1_21)
  refine gob st20 ?_
  show Go _ _ _ _ _ _ _ (T20.setTop (mkF m 24 #[.val (.int p0), .val (.ref b2), .val (.int (3 : Int32)), .val (.int (1 : Int32)), .val (.ref w_RAW_IP)] [(.int (101 : Int32))]))
  refine gob (fun _ k => XS.iloadN X20.here hx rfl (hb hby d1_24) rfl k) ?_
  show Go _ _ _ _ _ _ _ (T20.setTop (mkF m 25 #[.val (.int p0), .val (.ref b2), .val (.int (3 : Int32)), .val (.int (1 : Int32)), .val (.ref w_RAW_IP)] [(.int p0), (.int (101 : Int32))]))
  refine gob (fun _ k => XS.icmpNo X20.here hx rfl (hb hby d1_25) rfl (teq hn_RAW_IP).2 k) ?_
  show Go _ _ _ _ _ _ _ (T20.setTop (mkF m 28 #[.val (.int p0), .val (.ref b2), .val (.int (3 : Int32)), .val (.int (1 : Int32)), .val (.ref w_RAW_IP)] []))
  refine gob (fun _ k => XS.aload X20.here hx rfl (hb hby d1_28) rfl rfl k) ?_
  show Go _ _ _ _ _ _ _ (T20.setTop (mkF m 30 #[.val (.int p0), .val (.ref b2), .val (.int (3 : Int32)), .val (.int (1 : Int32)), .val (.ref w_RAW_IP)] [(.ref w_RAW_IP)]))
  refine goA X20 hx hlk Bd.returns rfl rfl (hb hby d1_30) ?_ (by decide) (by decide)
  show Q1R Z p0 w_VALUES k_V w_ETHERNET w_RAW_IP w_LINUX_COOKED h0 n0 (some (.ref w_RAW_IP)) T20.heap _
  rw [e20]
  exact ⟨b2, rfl, N1, K13, sz_b2, F4, F5⟩
theorem ef_3R (m : MethodId) (x0 : Int32) : entryFrame m #[(.int x0)] 1 = mkF m 0 #[.val (.int x0)] [] := by first | (simp [entryFrame, mkF, argsToLocals, Value.category]; done) | rfl
def Q3R (Z : State) (p0 : Int32) (w_ETHERNET : Addr) (w_RAW_IP : Addr) (w_LINUX_COOKED : Addr) (h0 : Heap) (n0 : Nat) (v : Option Value) (h : Heap) (L : List Loc) : Prop := v = some (.ref w_RAW_IP) ∧ Fr n0 L ∧ Keep h0 h ([] : List Addr)
set_option maxRecDepth 65536 in
set_option maxHeartbeats 40000000 in
theorem rm3R (l : Launch) (Z : State) (a0 : Array Value) (hw : ∀ d ∈ tables_1, d.before a0 Z = true) (ws : List Jvm.Cond) (p0 : Int32) (w_ETHERNET : Addr) (w_RAW_IP : Addr) (w_LINUX_COOKED : Addr) (h0 : Heap) (n0 : Nat) (Z0 : n0 ≤ h0.size) (S_ETHERNET : Sta Z h0 "com/example/flomem/flomem/capture/LinkType" "ETHERNET" "Lcom/example/flomem/flomem/capture/LinkType;" (.ref w_ETHERNET)) (S_RAW_IP : Sta Z h0 "com/example/flomem/flomem/capture/LinkType" "RAW_IP" "Lcom/example/flomem/flomem/capture/LinkType;" (.ref w_RAW_IP)) (S_LINUX_COOKED : Sta Z h0 "com/example/flomem/flomem/capture/LinkType" "LINUX_COOKED" "Lcom/example/flomem/flomem/capture/LinkType;" (.ref w_LINUX_COOKED)) (hn_ETHERNET : ¬ ((1 : Int32) = p0)) (hn_RAW_IP : (101 : Int32) = p0) :
    MetFree l (⟨"com/example/flomem/flomem/capture/LinkTypeNumberedPinLaw", "expectedFor", "(I)Lcom/example/flomem/flomem/capture/LinkType;"⟩ : MethodName) (head1 (Jvm.Cond.code (⟨"com/example/flomem/flomem/capture/LinkTypeNumberedPinLaw", "expectedFor", "(I)Lcom/example/flomem/flomem/capture/LinkType;"⟩ : MethodName) method_3_code 1 (some (.object "com/example/flomem/flomem/capture/LinkType")) :: ws) ({ frames := 0, cells := 0, slots := 0, locals := 0 } : Room)) (fun a U => a = #[(.int p0)] ∧ Z.Warmed39 U.vm ∧ U.heap = h0) (fun _ _ _ _ _ => True) (fun _ U o U' => ∃ v L, o = .returned v ∧ Q3R Z p0 w_ETHERNET w_RAW_IP w_LINUX_COOKED h0 n0 v U'.heap L ∧ FrameEnd U o U' L ({ frames := 0, cells := 0, slots := 0, locals := 0 } : Room).cells ({ frames := 0, cells := 0, slots := 0, locals := 0 } : Room).slots) := by
  refine MetFree.of_bodySF (plainFor_of_name (by first | (simp [plainName, overriddenIn]; done) | decide +kernel)) hisR ?_
  intro p e s m args below meth c s₁ Bd hml0 hP hK
  obtain ⟨rfl, hZ, hh⟩ := hP
  have hx := Bd.exec
  have hby := Bd.bytes
  have hml : c.maxLocals = 1 := hml0
  have hown : s.vm.findClass "com/example/flomem/flomem/capture/LinkTypeNumberedPinLaw" = some m.cls := findClass_of_methodNamed Bd.named
  have hnm := (name_of_methodNamed Bd.named Bd.method).1
  have hlk := BodyLoose.notSynchronized Bd
  have X0 : Stand p l e ({ frames := 0, cells := 0, slots := 0, locals := 0 } : Room) s m #[(.int p0)] below meth c s₁ [] 0 0 := Stand.of_body Bd
  have e0 : s₁.heap = h0 := by rw [← hh, Bd.state]; rfl
  have N0 := Fr.nil n0
  show Go p e below s (Q3R Z p0 w_ETHERNET w_RAW_IP w_LINUX_COOKED h0 n0) 0 0 (s₁.setTop (entryFrame m #[(.int p0)] 1))
  rw [ef_3R]
  have hm_ETHERNET : ¬ (p0 = (1 : Int32)) := fun q => hn_ETHERNET (Eq.symm q)
  have hm_RAW_IP : p0 = (101 : Int32) := Eq.symm hn_RAW_IP
  show Go _ _ _ _ _ _ _ (s₁.setTop (mkF m 0 #[.val (.int p0)] []))
  refine gob (fun _ k => XS.iloadN X0.here hx rfl (hb hby d3_0) rfl k) ?_
  show Go _ _ _ _ _ _ _ (s₁.setTop (mkF m 1 #[.val (.int p0)] [(.int p0)]))
  refine gob (fun _ k => XS.iconst X0.here hx rfl (hb hby d3_1) k) ?_
  show Go _ _ _ _ _ _ _ (s₁.setTop (mkF m 2 #[.val (.int p0)] [(.int (1 : Int32)), (.int p0)]))
  refine gob (fun _ k => XS.icmpYes X0.here hx rfl (pc0 := 2) (pc' := 9) rfl (hb hby d3_2) rfl (feq hm_ETHERNET).2 (by decide) (by decide) k) ?_
  show Go _ _ _ _ _ _ _ (s₁.setTop (mkF m 9 #[.val (.int p0)] []))
  refine gob (fun _ k => XS.iloadN X0.here hx rfl (hb hby d3_9) rfl k) ?_
  show Go _ _ _ _ _ _ _ (s₁.setTop (mkF m 10 #[.val (.int p0)] [(.int p0)]))
  refine gob (fun _ k => XS.bipush X0.here hx rfl (hb hby d3_10) k) ?_
  show Go _ _ _ _ _ _ _ (s₁.setTop (mkF m 12 #[.val (.int p0)] [(.int (101 : Int32)), (.int p0)]))
  refine gob (fun _ k => XS.icmpNo X0.here hx rfl (hb hby d3_12) rfl (teq hm_RAW_IP).2 k) ?_
  show Go _ _ _ _ _ _ _ (s₁.setTop (mkF m 15 #[.val (.int p0)] []))
  obtain ⟨T1, X1, e1, st1⟩ := getS2 X0 hx hZ hown (host := "") (Or.inl (hw _ (List.mem_of_getElem? (i := 30) rfl))) Via.refl e0 S_RAW_IP (g := (mkF m 15 #[.val (.int p0)] [])) rfl (hb hby d3_15)
  refine gob st1 ?_
  show Go _ _ _ _ _ _ _ (T1.setTop (mkF m 18 #[.val (.int p0)] [(.ref w_RAW_IP)]))
  refine goA X1 hx hlk Bd.returns rfl rfl (hb hby d3_18) ?_ (by decide) (by decide)
  show Q3R Z p0 w_ETHERNET w_RAW_IP w_LINUX_COOKED h0 n0 (some (.ref w_RAW_IP)) T1.heap _
  rw [e1]
  exact ⟨rfl, N0, (Keep.refl h0 ([] : List Addr))⟩
theorem ef_1L (m : MethodId) (x0 : Int32) : entryFrame m #[(.int x0)] 5 = mkF m 0 #[.val (.int x0), .unset, .unset, .unset, .unset] [] := by first | (simp [entryFrame, mkF, argsToLocals, Value.category]; done) | rfl
def Q1L (Z : State) (p0 : Int32) (w_VALUES : Addr) (k_V : ClassId) (w_ETHERNET : Addr) (w_RAW_IP : Addr) (w_LINUX_COOKED : Addr) (h0 : Heap) (n0 : Nat) (v : Option Value) (h : Heap) (L : List Loc) : Prop := ∃ b2 : Addr, v = some (.ref w_LINUX_COOKED) ∧ Fr n0 L ∧ Keep h0 h ([] : List Addr) ∧ h0.size ≤ b2 ∧ Arv Z h b2 k_V (.object "com/example/flomem/flomem/capture/LinkType") (3 : Int32) [(.ref w_ETHERNET), (.ref w_RAW_IP), (.ref w_LINUX_COOKED)] .null ∧ Exa Z h b2 "[Lcom/example/flomem/flomem/capture/LinkType;"
set_option maxRecDepth 65536 in
set_option maxHeartbeats 40000000 in
theorem rm1L (l : Launch) (Z : State) (a0 : Array Value) (hw : ∀ d ∈ tables_1, d.before a0 Z = true) (ws : List Jvm.Cond) (p0 : Int32) (w_VALUES : Addr) (k_V : ClassId) (w_ETHERNET : Addr) (w_RAW_IP : Addr) (w_LINUX_COOKED : Addr) (h0 : Heap) (n0 : Nat) (Z0 : n0 ≤ h0.size) (S_VALUES : Sta Z h0 "com/example/flomem/flomem/capture/LinkType" "$VALUES" "[Lcom/example/flomem/flomem/capture/LinkType;" (.ref w_VALUES)) (V_VALUES : Arv Z h0 w_VALUES k_V (.object "com/example/flomem/flomem/capture/LinkType") (3 : Int32) [(.ref w_ETHERNET), (.ref w_RAW_IP), (.ref w_LINUX_COOKED)] .null) (E_VALUES : Exa Z h0 w_VALUES "[Lcom/example/flomem/flomem/capture/LinkType;") (F_ETHERNET : Fld Z h0 w_ETHERNET "com/example/flomem/flomem/capture/LinkType" "number" "I" (.int (1 : Int32))) (F_RAW_IP : Fld Z h0 w_RAW_IP "com/example/flomem/flomem/capture/LinkType" "number" "I" (.int (101 : Int32))) (F_LINUX_COOKED : Fld Z h0 w_LINUX_COOKED "com/example/flomem/flomem/capture/LinkType" "number" "I" (.int (113 : Int32))) (hn_ETHERNET : ¬ ((1 : Int32) = p0)) (hn_RAW_IP : ¬ ((101 : Int32) = p0)) (hn_LINUX_COOKED : (113 : Int32) = p0) :
    MetFree l (⟨"com/example/flomem/flomem/capture/LinkType", "numbered", "(I)Lcom/example/flomem/flomem/capture/LinkType;"⟩ : MethodName) (head1 (Jvm.Cond.code (⟨"com/example/flomem/flomem/capture/LinkType", "numbered", "(I)Lcom/example/flomem/flomem/capture/LinkType;"⟩ : MethodName) prog_4_method_4_code 5 (some (.object "com/example/flomem/flomem/capture/LinkType")) :: ws) ({ frames := 2, cells := 1, slots := 3, locals := 25 } : Room)) (fun a U => a = #[(.int p0)] ∧ Z.Warmed39 U.vm ∧ U.heap = h0) (fun _ _ _ _ _ => True) (fun _ U o U' => ∃ v L, o = .returned v ∧ Q1L Z p0 w_VALUES k_V w_ETHERNET w_RAW_IP w_LINUX_COOKED h0 n0 v U'.heap L ∧ FrameEnd U o U' L ({ frames := 2, cells := 1, slots := 3, locals := 25 } : Room).cells ({ frames := 2, cells := 1, slots := 3, locals := 25 } : Room).slots) := by
  refine MetFree.of_bodySF (plainFor_of_name (by first | (simp [plainName, overriddenIn]; done) | decide +kernel)) hisR ?_
  intro p e s m args below meth c s₁ Bd hml0 hP hK
  obtain ⟨rfl, hZ, hh⟩ := hP
  have hx := Bd.exec
  have hby := Bd.bytes
  have hml : c.maxLocals = 5 := hml0
  have hown : s.vm.findClass "com/example/flomem/flomem/capture/LinkType" = some m.cls := findClass_of_methodNamed Bd.named
  have hnm := (name_of_methodNamed Bd.named Bd.method).1
  have hlk := BodyLoose.notSynchronized Bd
  have X0 : Stand p l e ({ frames := 2, cells := 1, slots := 3, locals := 25 } : Room) s m #[(.int p0)] below meth c s₁ [] 0 0 := Stand.of_body Bd
  have e0 : s₁.heap = h0 := by rw [← hh, Bd.state]; rfl
  have N0 := Fr.nil n0
  show Go p e below s (Q1L Z p0 w_VALUES k_V w_ETHERNET w_RAW_IP w_LINUX_COOKED h0 n0) 1 3 (s₁.setTop (entryFrame m #[(.int p0)] 5))
  rw [ef_1L]
  show Go _ _ _ _ _ _ _ (s₁.setTop (mkF m 0 #[.val (.int p0), .unset, .unset, .unset, .unset] []))
  obtain ⟨_, _, ⟨T1, L1, k1, n1⟩, -, X1, ⟨Lc1, hQ1, l1, y1, z1⟩, st1⟩ := Jvm.LawKit.callS X0 hx (y := (⟨"com/example/flomem/flomem/capture/LinkType", "values", "()[Lcom/example/flomem/flomem/capture/LinkType;"⟩ : MethodName)) hown (mvT hZ (hw _ (List.mem_of_getElem? (i := 4) rfl))) (mvT hZ (hw _ (List.mem_of_getElem? (i := 5) rfl))) (mvT hZ (hw _ (List.mem_of_getElem? (i := 2) rfl))) (mvT hZ (hw _ (List.mem_of_getElem? (i := 6) rfl))) (by decide) (backOf (W := 0) (rm2 l Z a0 hw [] w_VALUES k_V w_ETHERNET w_RAW_IP w_LINUX_COOKED h0 n0 Z0 S_VALUES V_VALUES E_VALUES) hZ (hw _ (List.mem_of_getElem? (i := 6) rfl)) (hw _ (List.mem_of_getElem? (i := 2) rfl)) (by decide) (by decide)) (g := (mkF m 0 #[.val (.int p0), .unset, .unset, .unset, .unset] [])) rfl (by rw [hml]; rfl) (argsL := []) (rest := []) (lenOf pd_0 rfl) rfl (by show 2 * 0 + _ ≤ _; exact Nat.le_of_eq rfl) (hb hby d1_0) (fun _ _ => ⟨rfl, e0, (by decide : 0 + 1 ≤ _), (by decide : 0 + 3 ≤ _)⟩)
  dsimp only [Pt.U, Pt.locs, Pt.cells, Pt.slots] at X1 l1 y1 z1 st1 hQ1
  subst l1 y1 z1
  obtain ⟨b2, rfl, Nq1, K1, hz3, F4, F5⟩ := hQ1
  have N1 := Fr.app N0 Nq1
  have n6 : w_VALUES ≠ b2 := Nat.ne_of_lt (Nat.lt_of_lt_of_le V_VALUES.lt hz3)
  have n7 : w_ETHERNET ≠ b2 := Nat.ne_of_lt (Nat.lt_of_lt_of_le F_ETHERNET.lt hz3)
  have n8 : w_RAW_IP ≠ b2 := Nat.ne_of_lt (Nat.lt_of_lt_of_le F_RAW_IP.lt hz3)
  have n9 : w_LINUX_COOKED ≠ b2 := Nat.ne_of_lt (Nat.lt_of_lt_of_le F_LINUX_COOKED.lt hz3)
  have g10 : n0 ≤ b2 := Nat.le_trans Z0 hz3
  have sz_b2 : h0.size ≤ b2 := Nat.le_trans (Keep.refl h0 []).1 hz3
  have ns11 := (ns0 (h := h0))
  have z12 : n0 ≤ T1.heap.size := Nat.le_trans Z0 K1.1
  have K13 : Keep h0 T1.heap ([] : List Addr) := (Keep.refl h0 ([] : List Addr)).trans K1 all0
  refine gob st1 ?_
  show Go _ _ _ _ _ _ _ (T1.setTop (mkF m 3 #[.val (.int p0), .unset, .unset, .unset, .unset] [(.ref b2)]))
  refine gob (fun _ k => XS.astoreN X1.here hx rfl (hb hby d1_3) rfl rfl (l' := #[.val (.int p0), .val (.ref b2), .unset, .unset, .unset]) rfl k) ?_
  show Go _ _ _ _ _ _ _ (T1.setTop (mkF m 4 #[.val (.int p0), .val (.ref b2), .unset, .unset, .unset] []))
  refine gob (fun _ k => XS.aloadN X1.here hx rfl (hb hby d1_4) rfl rfl k) ?_
  show Go _ _ _ _ _ _ _ (T1.setTop (mkF m 5 #[.val (.int p0), .val (.ref b2), .unset, .unset, .unset] [(.ref b2)]))
  obtain ⟨cl14, Ar14, q14, S14, N14, H14, G14⟩ := id F4
  refine gob (X1.arraylength hx (by rw [(rfl : T1.heap = _)]; exact Ar14.1) (State.isArrayOf_alike hZ.alike Ar14.2.1) (g := (mkF m 5 #[.val (.int p0), .val (.ref b2), .unset, .unset, .unset] [(.ref b2)])) rfl rfl (hb hby d1_5)) ?_
  rw [len_of S14 N14]
  show Go _ _ _ _ _ _ _ (T1.setTop (mkF m 6 #[.val (.int p0), .val (.ref b2), .unset, .unset, .unset] [(.int (3 : Int32))]))
  refine gob (fun _ k => XS.istoreN X1.here hx rfl (hb hby d1_6) rfl (l' := #[.val (.int p0), .val (.ref b2), .val (.int (3 : Int32)), .unset, .unset]) rfl k) ?_
  show Go _ _ _ _ _ _ _ (T1.setTop (mkF m 7 #[.val (.int p0), .val (.ref b2), .val (.int (3 : Int32)), .unset, .unset] []))
  refine gob (fun _ k => XS.iconst X1.here hx rfl (hb hby d1_7) k) ?_
  show Go _ _ _ _ _ _ _ (T1.setTop (mkF m 8 #[.val (.int p0), .val (.ref b2), .val (.int (3 : Int32)), .unset, .unset] [(.int (0 : Int32))]))
  refine gob (fun _ k => XS.istoreN X1.here hx rfl (hb hby d1_8) rfl (l' := #[.val (.int p0), .val (.ref b2), .val (.int (3 : Int32)), .val (.int (0 : Int32)), .unset]) rfl k) ?_
  show Go _ _ _ _ _ _ _ (T1.setTop (mkF m 9 #[.val (.int p0), .val (.ref b2), .val (.int (3 : Int32)), .val (.int (0 : Int32)), .unset] []))
  refine gob (fun _ k => XS.iloadN X1.here hx rfl (hb hby d1_9) rfl k) ?_
  show Go _ _ _ _ _ _ _ (T1.setTop (mkF m 10 #[.val (.int p0), .val (.ref b2), .val (.int (3 : Int32)), .val (.int (0 : Int32)), .unset] [(.int (0 : Int32))]))
  refine gob (fun _ k => XS.iloadN X1.here hx rfl (hb hby d1_10) rfl k) ?_
  show Go _ _ _ _ _ _ _ (T1.setTop (mkF m 11 #[.val (.int p0), .val (.ref b2), .val (.int (3 : Int32)), .val (.int (0 : Int32)), .unset] [(.int (3 : Int32)), (.int (0 : Int32))]))
  refine gob (fun _ k => XS.icmpNo X1.here hx rfl (hb hby d1_11) rfl (tlt (by decide : (0 : Int32) < (3 : Int32))).2.1 k) ?_
  show Go _ _ _ _ _ _ _ (T1.setTop (mkF m 14 #[.val (.int p0), .val (.ref b2), .val (.int (3 : Int32)), .val (.int (0 : Int32)), .unset] []))
  refine gob (fun _ k => XS.aloadN X1.here hx rfl (hb hby d1_14) rfl rfl k) ?_
  show Go _ _ _ _ _ _ _ (T1.setTop (mkF m 15 #[.val (.int p0), .val (.ref b2), .val (.int (3 : Int32)), .val (.int (0 : Int32)), .unset] [(.ref b2)]))
  refine gob (fun _ k => XS.iloadN X1.here hx rfl (hb hby d1_15) rfl k) ?_
  show Go _ _ _ _ _ _ _ (T1.setTop (mkF m 16 #[.val (.int p0), .val (.ref b2), .val (.int (3 : Int32)), .val (.int (0 : Int32)), .unset] [(.int (0 : Int32)), (.ref b2)]))
  obtain ⟨cl15, Ar15, q15, S15, N15, H15, G15⟩ := id F4
  have hin15 : ¬ ((0 : Int32) < 0 ∨ cl15.slots.size ≤ ((0 : Int32)).toNatClampNeg) := inb_of S15 ⟨by decide, by decide⟩
  refine gob (X1.aaload hx (j := (0 : Int32)) (v := (.ref w_ETHERNET)) (by rw [(rfl : T1.heap = _)]; exact Ar15.1) (State.isArrayOf_alike hZ.alike Ar15.2.1) rfl Ar15.2.2 hin15 (Has.at H15 hin15 rfl) (g := (mkF m 16 #[.val (.int p0), .val (.ref b2), .val (.int (3 : Int32)), .val (.int (0 : Int32)), .unset] [(.int (0 : Int32)), (.ref b2)])) rfl rfl (hb hby d1_16)) ?_
  show Go _ _ _ _ _ _ _ (T1.setTop (mkF m 17 #[.val (.int p0), .val (.ref b2), .val (.int (3 : Int32)), .val (.int (0 : Int32)), .unset] [(.ref w_ETHERNET)]))
  refine gob (fun _ k => XS.astore X1.here hx rfl (hb hby d1_17) rfl rfl (l' := #[.val (.int p0), .val (.ref b2), .val (.int (3 : Int32)), .val (.int (0 : Int32)), .val (.ref w_ETHERNET)]) rfl k) ?_
  show Go _ _ _ _ _ _ _ (T1.setTop (mkF m 19 #[.val (.int p0), .val (.ref b2), .val (.int (3 : Int32)), .val (.int (0 : Int32)), .val (.ref w_ETHERNET)] []))
  refine gob (fun _ k => XS.aload X1.here hx rfl (hb hby d1_19) rfl rfl k) ?_
  show Go _ _ _ _ _ _ _ (T1.setTop (mkF m 21 #[.val (.int p0), .val (.ref b2), .val (.int (3 : Int32)), .val (.int (0 : Int32)), .val (.ref w_ETHERNET)] [(.ref w_ETHERNET)]))
  have c16 := (F_ETHERNET.keep K1 nin0)
  obtain ⟨T17, X17, e17, st17⟩ := getF X1 hx hZ hown (host := "") (Or.inl (hw _ (List.mem_of_getElem? (i := 22) rfl))) Via.refl (rfl : T1.heap = _) c16 (g := (mkF m 21 #[.val (.int p0), .val (.ref b2), .val (.int (3 : Int32)), .val (.int (0 : Int32)), .val (.ref w_ETHERNET)] [(.ref w_ETHERNET)])) rfl rfl (hb hby d1_21)
  refine gob st17 ?_
  show Go _ _ _ _ _ _ _ (T17.setTop (mkF m 24 #[.val (.int p0), .val (.ref b2), .val (.int (3 : Int32)), .val (.int (0 : Int32)), .val (.ref w_ETHERNET)] [(.int (1 : Int32))]))
  refine gob (fun _ k => XS.iloadN X17.here hx rfl (hb hby d1_24) rfl k) ?_
  show Go _ _ _ _ _ _ _ (T17.setTop (mkF m 25 #[.val (.int p0), .val (.ref b2), .val (.int (3 : Int32)), .val (.int (0 : Int32)), .val (.ref w_ETHERNET)] [(.int p0), (.int (1 : Int32))]))
  refine gob (fun _ k => XS.icmpYes X17.here hx rfl (pc0 := 25) (pc' := 31) rfl (hb hby d1_25) rfl (feq hn_ETHERNET).2 (by decide) (by decide) k) ?_
  show Go _ _ _ _ _ _ _ (T17.setTop (mkF m 31 #[.val (.int p0), .val (.ref b2), .val (.int (3 : Int32)), .val (.int (0 : Int32)), .val (.ref w_ETHERNET)] []))
  refine gob (fun _ k => XS.iinc X17.here hx rfl (hb hby d1_31) rfl (l' := #[.val (.int p0), .val (.ref b2), .val (.int (3 : Int32)), .val (.int (1 : Int32)), .val (.ref w_ETHERNET)]) rfl k) ?_
  show Go _ _ _ _ _ _ _ (T17.setTop (mkF m 34 #[.val (.int p0), .val (.ref b2), .val (.int (3 : Int32)), .val (.int (1 : Int32)), .val (.ref w_ETHERNET)] []))
  refine gob (fun _ k => XS.goto X17.here hx rfl (pc0 := 34) (pc' := 9) rfl (hb hby d1_34) (by decide) (by decide) k) ?_
  show Go _ _ _ _ _ _ _ (T17.setTop (mkF m 9 #[.val (.int p0), .val (.ref b2), .val (.int (3 : Int32)), .val (.int (1 : Int32)), .val (.ref w_ETHERNET)] []))
  refine gob (fun _ k => XS.iloadN X17.here hx rfl (hb hby d1_9) rfl k) ?_
  show Go _ _ _ _ _ _ _ (T17.setTop (mkF m 10 #[.val (.int p0), .val (.ref b2), .val (.int (3 : Int32)), .val (.int (1 : Int32)), .val (.ref w_ETHERNET)] [(.int (1 : Int32))]))
  refine gob (fun _ k => XS.iloadN X17.here hx rfl (hb hby d1_10) rfl k) ?_
  show Go _ _ _ _ _ _ _ (T17.setTop (mkF m 11 #[.val (.int p0), .val (.ref b2), .val (.int (3 : Int32)), .val (.int (1 : Int32)), .val (.ref w_ETHERNET)] [(.int (3 : Int32)), (.int (1 : Int32))]))
  refine gob (fun _ k => XS.icmpNo X17.here hx rfl (hb hby d1_11) rfl (tlt (by decide : (1 : Int32) < (3 : Int32))).2.1 k) ?_
  show Go _ _ _ _ _ _ _ (T17.setTop (mkF m 14 #[.val (.int p0), .val (.ref b2), .val (.int (3 : Int32)), .val (.int (1 : Int32)), .val (.ref w_ETHERNET)] []))
  refine gob (fun _ k => XS.aloadN X17.here hx rfl (hb hby d1_14) rfl rfl k) ?_
  show Go _ _ _ _ _ _ _ (T17.setTop (mkF m 15 #[.val (.int p0), .val (.ref b2), .val (.int (3 : Int32)), .val (.int (1 : Int32)), .val (.ref w_ETHERNET)] [(.ref b2)]))
  refine gob (fun _ k => XS.iloadN X17.here hx rfl (hb hby d1_15) rfl k) ?_
  show Go _ _ _ _ _ _ _ (T17.setTop (mkF m 16 #[.val (.int p0), .val (.ref b2), .val (.int (3 : Int32)), .val (.int (1 : Int32)), .val (.ref w_ETHERNET)] [(.int (1 : Int32)), (.ref b2)]))
  obtain ⟨cl18, Ar18, q18, S18, N18, H18, G18⟩ := id F4
  have hin18 : ¬ ((1 : Int32) < 0 ∨ cl18.slots.size ≤ ((1 : Int32)).toNatClampNeg) := inb_of S18 ⟨by decide, by decide⟩
  refine gob (X17.aaload hx (j := (1 : Int32)) (v := (.ref w_RAW_IP)) (by rw [e17]; exact Ar18.1) (State.isArrayOf_alike hZ.alike Ar18.2.1) rfl Ar18.2.2 hin18 (Has.at H18 hin18 rfl) (g := (mkF m 16 #[.val (.int p0), .val (.ref b2), .val (.int (3 : Int32)), .val (.int (1 : Int32)), .val (.ref w_ETHERNET)] [(.int (1 : Int32)), (.ref b2)])) rfl rfl (hb hby d1_16)) ?_
  show Go _ _ _ _ _ _ _ (T17.setTop (mkF m 17 #[.val (.int p0), .val (.ref b2), .val (.int (3 : Int32)), .val (.int (1 : Int32)), .val (.ref w_ETHERNET)] [(.ref w_RAW_IP)]))
  refine gob (fun _ k => XS.astore X17.here hx rfl (hb hby d1_17) rfl rfl (l' := #[.val (.int p0), .val (.ref b2), .val (.int (3 : Int32)), .val (.int (1 : Int32)), .val (.ref w_RAW_IP)]) rfl k) ?_
  show Go _ _ _ _ _ _ _ (T17.setTop (mkF m 19 #[.val (.int p0), .val (.ref b2), .val (.int (3 : Int32)), .val (.int (1 : Int32)), .val (.ref w_RAW_IP)] []))
  refine gob (fun _ k => XS.aload X17.here hx rfl (hb hby d1_19) rfl rfl k) ?_
  show Go _ _ _ _ _ _ _ (T17.setTop (mkF m 21 #[.val (.int p0), .val (.ref b2), .val (.int (3 : Int32)), .val (.int (1 : Int32)), .val (.ref w_RAW_IP)] [(.ref w_RAW_IP)]))
  have c19 := (F_RAW_IP.keep K1 nin0)
  obtain ⟨T20, X20, e20, st20⟩ := getF X17 hx hZ hown (host := "") (Or.inl (hw _ (List.mem_of_getElem? (i := 22) rfl))) Via.refl e17 c19 (g := (mkF m 21 #[.val (.int p0), .val (.ref b2), .val (.int (3 : Int32)), .val (.int (1 : Int32)), .val (.ref w_RAW_IP)] [(.ref w_RAW_IP)])) rfl rfl (hb hby d1_21)
  refine gob st20 ?_
  show Go _ _ _ _ _ _ _ (T20.setTop (mkF m 24 #[.val (.int p0), .val (.ref b2), .val (.int (3 : Int32)), .val (.int (1 : Int32)), .val (.ref w_RAW_IP)] [(.int (101 : Int32))]))
  refine gob (fun _ k => XS.iloadN X20.here hx rfl (hb hby d1_24) rfl k) ?_
  show Go _ _ _ _ _ _ _ (T20.setTop (mkF m 25 #[.val (.int p0), .val (.ref b2), .val (.int (3 : Int32)), .val (.int (1 : Int32)), .val (.ref w_RAW_IP)] [(.int p0), (.int (101 : Int32))]))
  refine gob (fun _ k => XS.icmpYes X20.here hx rfl (pc0 := 25) (pc' := 31) rfl (hb hby d1_25) rfl (feq hn_RAW_IP).2 (by decide) (by decide) k) ?_
  show Go _ _ _ _ _ _ _ (T20.setTop (mkF m 31 #[.val (.int p0), .val (.ref b2), .val (.int (3 : Int32)), .val (.int (1 : Int32)), .val (.ref w_RAW_IP)] []))
  refine gob (fun _ k => XS.iinc X20.here hx rfl (hb hby d1_31) rfl (l' := #[.val (.int p0), .val (.ref b2), .val (.int (3 : Int32)), .val (.int (2 : Int32)), .val (.ref w_RAW_IP)]) rfl k) ?_
  show Go _ _ _ _ _ _ _ (T20.setTop (mkF m 34 #[.val (.int p0), .val (.ref b2), .val (.int (3 : Int32)), .val (.int (2 : Int32)), .val (.ref w_RAW_IP)] []))
  refine gob (fun _ k => XS.goto X20.here hx rfl (pc0 := 34) (pc' := 9) rfl (hb hby d1_34) (by decide) (by decide) k) ?_
  show Go _ _ _ _ _ _ _ (T20.setTop (mkF m 9 #[.val (.int p0), .val (.ref b2), .val (.int (3 : Int32)), .val (.int (2 : Int32)), .val (.ref w_RAW_IP)] []))
  refine gob (fun _ k => XS.iloadN X20.here hx rfl (hb hby d1_9) rfl k) ?_
  show Go _ _ _ _ _ _ _ (T20.setTop (mkF m 10 #[.val (.int p0), .val (.ref b2), .val (.int (3 : Int32)), .val (.int (2 : Int32)), .val (.ref w_RAW_IP)] [(.int (2 : Int32))]))
  refine gob (fun _ k => XS.iloadN X20.here hx rfl (hb hby d1_10) rfl k) ?_
  show Go _ _ _ _ _ _ _ (T20.setTop (mkF m 11 #[.val (.int p0), .val (.ref b2), .val (.int (3 : Int32)), .val (.int (2 : Int32)), .val (.ref w_RAW_IP)] [(.int (3 : Int32)), (.int (2 : Int32))]))
  refine gob (fun _ k => XS.icmpNo X20.here hx rfl (hb hby d1_11) rfl (tlt (by decide : (2 : Int32) < (3 : Int32))).2.1 k) ?_
  show Go _ _ _ _ _ _ _ (T20.setTop (mkF m 14 #[.val (.int p0), .val (.ref b2), .val (.int (3 : Int32)), .val (.int (2 : Int32)), .val (.ref w_RAW_IP)] []))
  refine gob (fun _ k => XS.aloadN X20.here hx rfl (hb hby d1_14) rfl rfl k) ?_
  show Go _ _ _ _ _ _ _ (T20.setTop (mkF m 15 #[.val (.int p0), .val (.ref b2), .val (.int (3 : Int32)), .val (.int (2 : Int32)), .val (.ref w_RAW_IP)] [(.ref b2)]))
  refine gob (fun _ k => XS.iloadN X20.here hx rfl (hb hby d1_15) rfl k) ?_
  show Go _ _ _ _ _ _ _ (T20.setTop (mkF m 16 #[.val (.int p0), .val (.ref b2), .val (.int (3 : Int32)), .val (.int (2 : Int32)), .val (.ref w_RAW_IP)] [(.int (2 : Int32)), (.ref b2)]))
  obtain ⟨cl21, Ar21, q21, S21, N21, H21, G21⟩ := id F4
  have hin21 : ¬ ((2 : Int32) < 0 ∨ cl21.slots.size ≤ ((2 : Int32)).toNatClampNeg) := inb_of S21 ⟨by decide, by decide⟩
  refine gob (X20.aaload hx (j := (2 : Int32)) (v := (.ref w_LINUX_COOKED)) (by rw [e20]; exact Ar21.1) (State.isArrayOf_alike hZ.alike Ar21.2.1) rfl Ar21.2.2 hin21 (Has.at H21 hin21 rfl) (g := (mkF m 16 #[.val (.int p0), .val (.ref b2), .val (.int (3 : Int32)), .val (.int (2 : Int32)), .val (.ref w_RAW_IP)] [(.int (2 : Int32)), (.ref b2)])) rfl rfl (hb hby d1_16)) ?_
  show Go _ _ _ _ _ _ _ (T20.setTop (mkF m 17 #[.val (.int p0), .val (.ref b2), .val (.int (3 : Int32)), .val (.int (2 : Int32)), .val (.ref w_RAW_IP)] [(.ref w_LINUX_COOKED)]))
  refine gob (fun _ k => XS.astore X20.here hx rfl (hb hby d1_17) rfl rfl (l' := #[.val (.int p0), .val (.ref b2), .val (.int (3 : Int32)), .val (.int (2 : Int32)), .val (.ref w_LINUX_COOKED)]) rfl k) ?_
  show Go _ _ _ _ _ _ _ (T20.setTop (mkF m 19 #[.val (.int p0), .val (.ref b2), .val (.int (3 : Int32)), .val (.int (2 : Int32)), .val (.ref w_LINUX_COOKED)] []))
  refine gob (fun _ k => XS.aload X20.here hx rfl (hb hby d1_19) rfl rfl k) ?_
  show Go _ _ _ _ _ _ _ (T20.setTop (mkF m 21 #[.val (.int p0), .val (.ref b2), .val (.int (3 : Int32)), .val (.int (2 : Int32)), .val (.ref w_LINUX_COOKED)] [(.ref w_LINUX_COOKED)]))
  have c22 := (F_LINUX_COOKED.keep K1 nin0)
  obtain ⟨T23, X23, e23, st23⟩ := getF X20 hx hZ hown (host := "") (Or.inl (hw _ (List.mem_of_getElem? (i := 22) rfl))) Via.refl e20 c22 (g := (mkF m 21 #[.val (.int p0), .val (.ref b2), .val (.int (3 : Int32)), .val (.int (2 : Int32)), .val (.ref w_LINUX_COOKED)] [(.ref w_LINUX_COOKED)])) rfl rfl (hb hby d1_21)
  refine gob st23 ?_
  show Go _ _ _ _ _ _ _ (T23.setTop (mkF m 24 #[.val (.int p0), .val (.ref b2), .val (.int (3 : Int32)), .val (.int (2 : Int32)), .val (.ref w_LINUX_COOKED)] [(.int (113 : Int32))]))
  refine gob (fun _ k => XS.iloadN X23.here hx rfl (hb hby d1_24) rfl k) ?_
  show Go _ _ _ _ _ _ _ (T23.setTop (mkF m 25 #[.val (.int p0), .val (.ref b2), .val (.int (3 : Int32)), .val (.int (2 : Int32)), .val (.ref w_LINUX_COOKED)] [(.int p0), (.int (113 : Int32))]))
  refine gob (fun _ k => XS.icmpNo X23.here hx rfl (hb hby d1_25) rfl (teq hn_LINUX_COOKED).2 k) ?_
  show Go _ _ _ _ _ _ _ (T23.setTop (mkF m 28 #[.val (.int p0), .val (.ref b2), .val (.int (3 : Int32)), .val (.int (2 : Int32)), .val (.ref w_LINUX_COOKED)] []))
  refine gob (fun _ k => XS.aload X23.here hx rfl (hb hby d1_28) rfl rfl k) ?_
  show Go _ _ _ _ _ _ _ (T23.setTop (mkF m 30 #[.val (.int p0), .val (.ref b2), .val (.int (3 : Int32)), .val (.int (2 : Int32)), .val (.ref w_LINUX_COOKED)] [(.ref w_LINUX_COOKED)]))
  refine goA X23 hx hlk Bd.returns rfl rfl (hb hby d1_30) ?_ (by decide) (by decide)
  show Q1L Z p0 w_VALUES k_V w_ETHERNET w_RAW_IP w_LINUX_COOKED h0 n0 (some (.ref w_LINUX_COOKED)) T23.heap _
  rw [e23]
  exact ⟨b2, rfl, N1, K13, sz_b2, F4, F5⟩
theorem ef_3L (m : MethodId) (x0 : Int32) : entryFrame m #[(.int x0)] 1 = mkF m 0 #[.val (.int x0)] [] := by first | (simp [entryFrame, mkF, argsToLocals, Value.category]; done) | rfl
def Q3L (Z : State) (p0 : Int32) (w_ETHERNET : Addr) (w_RAW_IP : Addr) (w_LINUX_COOKED : Addr) (h0 : Heap) (n0 : Nat) (v : Option Value) (h : Heap) (L : List Loc) : Prop := v = some (.ref w_LINUX_COOKED) ∧ Fr n0 L ∧ Keep h0 h ([] : List Addr)
set_option maxRecDepth 65536 in
set_option maxHeartbeats 40000000 in
theorem rm3L (l : Launch) (Z : State) (a0 : Array Value) (hw : ∀ d ∈ tables_1, d.before a0 Z = true) (ws : List Jvm.Cond) (p0 : Int32) (w_ETHERNET : Addr) (w_RAW_IP : Addr) (w_LINUX_COOKED : Addr) (h0 : Heap) (n0 : Nat) (Z0 : n0 ≤ h0.size) (S_ETHERNET : Sta Z h0 "com/example/flomem/flomem/capture/LinkType" "ETHERNET" "Lcom/example/flomem/flomem/capture/LinkType;" (.ref w_ETHERNET)) (S_RAW_IP : Sta Z h0 "com/example/flomem/flomem/capture/LinkType" "RAW_IP" "Lcom/example/flomem/flomem/capture/LinkType;" (.ref w_RAW_IP)) (S_LINUX_COOKED : Sta Z h0 "com/example/flomem/flomem/capture/LinkType" "LINUX_COOKED" "Lcom/example/flomem/flomem/capture/LinkType;" (.ref w_LINUX_COOKED)) (hn_ETHERNET : ¬ ((1 : Int32) = p0)) (hn_RAW_IP : ¬ ((101 : Int32) = p0)) (hn_LINUX_COOKED : (113 : Int32) = p0) :
    MetFree l (⟨"com/example/flomem/flomem/capture/LinkTypeNumberedPinLaw", "expectedFor", "(I)Lcom/example/flomem/flomem/capture/LinkType;"⟩ : MethodName) (head1 (Jvm.Cond.code (⟨"com/example/flomem/flomem/capture/LinkTypeNumberedPinLaw", "expectedFor", "(I)Lcom/example/flomem/flomem/capture/LinkType;"⟩ : MethodName) method_3_code 1 (some (.object "com/example/flomem/flomem/capture/LinkType")) :: ws) ({ frames := 0, cells := 0, slots := 0, locals := 0 } : Room)) (fun a U => a = #[(.int p0)] ∧ Z.Warmed39 U.vm ∧ U.heap = h0) (fun _ _ _ _ _ => True) (fun _ U o U' => ∃ v L, o = .returned v ∧ Q3L Z p0 w_ETHERNET w_RAW_IP w_LINUX_COOKED h0 n0 v U'.heap L ∧ FrameEnd U o U' L ({ frames := 0, cells := 0, slots := 0, locals := 0 } : Room).cells ({ frames := 0, cells := 0, slots := 0, locals := 0 } : Room).slots) := by
  refine MetFree.of_bodySF (plainFor_of_name (by first | (simp [plainName, overriddenIn]; done) | decide +kernel)) hisR ?_
  intro p e s m args below meth c s₁ Bd hml0 hP hK
  obtain ⟨rfl, hZ, hh⟩ := hP
  have hx := Bd.exec
  have hby := Bd.bytes
  have hml : c.maxLocals = 1 := hml0
  have hown : s.vm.findClass "com/example/flomem/flomem/capture/LinkTypeNumberedPinLaw" = some m.cls := findClass_of_methodNamed Bd.named
  have hnm := (name_of_methodNamed Bd.named Bd.method).1
  have hlk := BodyLoose.notSynchronized Bd
  have X0 : Stand p l e ({ frames := 0, cells := 0, slots := 0, locals := 0 } : Room) s m #[(.int p0)] below meth c s₁ [] 0 0 := Stand.of_body Bd
  have e0 : s₁.heap = h0 := by rw [← hh, Bd.state]; rfl
  have N0 := Fr.nil n0
  show Go p e below s (Q3L Z p0 w_ETHERNET w_RAW_IP w_LINUX_COOKED h0 n0) 0 0 (s₁.setTop (entryFrame m #[(.int p0)] 1))
  rw [ef_3L]
  have hm_ETHERNET : ¬ (p0 = (1 : Int32)) := fun q => hn_ETHERNET (Eq.symm q)
  have hm_RAW_IP : ¬ (p0 = (101 : Int32)) := fun q => hn_RAW_IP (Eq.symm q)
  have hm_LINUX_COOKED : p0 = (113 : Int32) := Eq.symm hn_LINUX_COOKED
  show Go _ _ _ _ _ _ _ (s₁.setTop (mkF m 0 #[.val (.int p0)] []))
  refine gob (fun _ k => XS.iloadN X0.here hx rfl (hb hby d3_0) rfl k) ?_
  show Go _ _ _ _ _ _ _ (s₁.setTop (mkF m 1 #[.val (.int p0)] [(.int p0)]))
  refine gob (fun _ k => XS.iconst X0.here hx rfl (hb hby d3_1) k) ?_
  show Go _ _ _ _ _ _ _ (s₁.setTop (mkF m 2 #[.val (.int p0)] [(.int (1 : Int32)), (.int p0)]))
  refine gob (fun _ k => XS.icmpYes X0.here hx rfl (pc0 := 2) (pc' := 9) rfl (hb hby d3_2) rfl (feq hm_ETHERNET).2 (by decide) (by decide) k) ?_
  show Go _ _ _ _ _ _ _ (s₁.setTop (mkF m 9 #[.val (.int p0)] []))
  refine gob (fun _ k => XS.iloadN X0.here hx rfl (hb hby d3_9) rfl k) ?_
  show Go _ _ _ _ _ _ _ (s₁.setTop (mkF m 10 #[.val (.int p0)] [(.int p0)]))
  refine gob (fun _ k => XS.bipush X0.here hx rfl (hb hby d3_10) k) ?_
  show Go _ _ _ _ _ _ _ (s₁.setTop (mkF m 12 #[.val (.int p0)] [(.int (101 : Int32)), (.int p0)]))
  refine gob (fun _ k => XS.icmpYes X0.here hx rfl (pc0 := 12) (pc' := 19) rfl (hb hby d3_12) rfl (feq hm_RAW_IP).2 (by decide) (by decide) k) ?_
  show Go _ _ _ _ _ _ _ (s₁.setTop (mkF m 19 #[.val (.int p0)] []))
  refine gob (fun _ k => XS.iloadN X0.here hx rfl (hb hby d3_19) rfl k) ?_
  show Go _ _ _ _ _ _ _ (s₁.setTop (mkF m 20 #[.val (.int p0)] [(.int p0)]))
  refine gob (fun _ k => XS.bipush X0.here hx rfl (hb hby d3_20) k) ?_
  show Go _ _ _ _ _ _ _ (s₁.setTop (mkF m 22 #[.val (.int p0)] [(.int (113 : Int32)), (.int p0)]))
  refine gob (fun _ k => XS.icmpNo X0.here hx rfl (hb hby d3_22) rfl (teq hm_LINUX_COOKED).2 k) ?_
  show Go _ _ _ _ _ _ _ (s₁.setTop (mkF m 25 #[.val (.int p0)] []))
  obtain ⟨T1, X1, e1, st1⟩ := getS2 X0 hx hZ hown (host := "") (Or.inl (hw _ (List.mem_of_getElem? (i := 29) rfl))) Via.refl e0 S_LINUX_COOKED (g := (mkF m 25 #[.val (.int p0)] [])) rfl (hb hby d3_25)
  refine gob st1 ?_
  show Go _ _ _ _ _ _ _ (T1.setTop (mkF m 28 #[.val (.int p0)] [(.ref w_LINUX_COOKED)]))
  refine goA X1 hx hlk Bd.returns rfl rfl (hb hby d3_28) ?_ (by decide) (by decide)
  show Q3L Z p0 w_ETHERNET w_RAW_IP w_LINUX_COOKED h0 n0 (some (.ref w_LINUX_COOKED)) T1.heap _
  rw [e1]
  exact ⟨rfl, N0, (Keep.refl h0 ([] : List Addr))⟩
theorem ef_1N (m : MethodId) (x0 : Int32) : entryFrame m #[(.int x0)] 5 = mkF m 0 #[.val (.int x0), .unset, .unset, .unset, .unset] [] := by first | (simp [entryFrame, mkF, argsToLocals, Value.category]; done) | rfl
def Q1N (Z : State) (p0 : Int32) (w_VALUES : Addr) (k_V : ClassId) (w_ETHERNET : Addr) (w_RAW_IP : Addr) (w_LINUX_COOKED : Addr) (h0 : Heap) (n0 : Nat) (v : Option Value) (h : Heap) (L : List Loc) : Prop := ∃ b2 : Addr, v = some .null ∧ Fr n0 L ∧ Keep h0 h ([] : List Addr) ∧ h0.size ≤ b2 ∧ Arv Z h b2 k_V (.object "com/example/flomem/flomem/capture/LinkType") (3 : Int32) [(.ref w_ETHERNET), (.ref w_RAW_IP), (.ref w_LINUX_COOKED)] .null ∧ Exa Z h b2 "[Lcom/example/flomem/flomem/capture/LinkType;"
set_option maxRecDepth 65536 in
set_option maxHeartbeats 40000000 in
theorem rm1N (l : Launch) (Z : State) (a0 : Array Value) (hw : ∀ d ∈ tables_1, d.before a0 Z = true) (ws : List Jvm.Cond) (p0 : Int32) (w_VALUES : Addr) (k_V : ClassId) (w_ETHERNET : Addr) (w_RAW_IP : Addr) (w_LINUX_COOKED : Addr) (h0 : Heap) (n0 : Nat) (Z0 : n0 ≤ h0.size) (S_VALUES : Sta Z h0 "com/example/flomem/flomem/capture/LinkType" "$VALUES" "[Lcom/example/flomem/flomem/capture/LinkType;" (.ref w_VALUES)) (V_VALUES : Arv Z h0 w_VALUES k_V (.object "com/example/flomem/flomem/capture/LinkType") (3 : Int32) [(.ref w_ETHERNET), (.ref w_RAW_IP), (.ref w_LINUX_COOKED)] .null) (E_VALUES : Exa Z h0 w_VALUES "[Lcom/example/flomem/flomem/capture/LinkType;") (F_ETHERNET : Fld Z h0 w_ETHERNET "com/example/flomem/flomem/capture/LinkType" "number" "I" (.int (1 : Int32))) (F_RAW_IP : Fld Z h0 w_RAW_IP "com/example/flomem/flomem/capture/LinkType" "number" "I" (.int (101 : Int32))) (F_LINUX_COOKED : Fld Z h0 w_LINUX_COOKED "com/example/flomem/flomem/capture/LinkType" "number" "I" (.int (113 : Int32))) (hn_ETHERNET : ¬ ((1 : Int32) = p0)) (hn_RAW_IP : ¬ ((101 : Int32) = p0)) (hn_LINUX_COOKED : ¬ ((113 : Int32) = p0)) :
    MetFree l (⟨"com/example/flomem/flomem/capture/LinkType", "numbered", "(I)Lcom/example/flomem/flomem/capture/LinkType;"⟩ : MethodName) (head1 (Jvm.Cond.code (⟨"com/example/flomem/flomem/capture/LinkType", "numbered", "(I)Lcom/example/flomem/flomem/capture/LinkType;"⟩ : MethodName) prog_4_method_4_code 5 (some (.object "com/example/flomem/flomem/capture/LinkType")) :: ws) ({ frames := 2, cells := 1, slots := 3, locals := 25 } : Room)) (fun a U => a = #[(.int p0)] ∧ Z.Warmed39 U.vm ∧ U.heap = h0) (fun _ _ _ _ _ => True) (fun _ U o U' => ∃ v L, o = .returned v ∧ Q1N Z p0 w_VALUES k_V w_ETHERNET w_RAW_IP w_LINUX_COOKED h0 n0 v U'.heap L ∧ FrameEnd U o U' L ({ frames := 2, cells := 1, slots := 3, locals := 25 } : Room).cells ({ frames := 2, cells := 1, slots := 3, locals := 25 } : Room).slots) := by
  refine MetFree.of_bodySF (plainFor_of_name (by first | (simp [plainName, overriddenIn]; done) | decide +kernel)) hisR ?_
  intro p e s m args below meth c s₁ Bd hml0 hP hK
  obtain ⟨rfl, hZ, hh⟩ := hP
  have hx := Bd.exec
  have hby := Bd.bytes
  have hml : c.maxLocals = 5 := hml0
  have hown : s.vm.findClass "com/example/flomem/flomem/capture/LinkType" = some m.cls := findClass_of_methodNamed Bd.named
  have hnm := (name_of_methodNamed Bd.named Bd.method).1
  have hlk := BodyLoose.notSynchronized Bd
  have X0 : Stand p l e ({ frames := 2, cells := 1, slots := 3, locals := 25 } : Room) s m #[(.int p0)] below meth c s₁ [] 0 0 := Stand.of_body Bd
  have e0 : s₁.heap = h0 := by rw [← hh, Bd.state]; rfl
  have N0 := Fr.nil n0
  show Go p e below s (Q1N Z p0 w_VALUES k_V w_ETHERNET w_RAW_IP w_LINUX_COOKED h0 n0) 1 3 (s₁.setTop (entryFrame m #[(.int p0)] 5))
  rw [ef_1N]
  show Go _ _ _ _ _ _ _ (s₁.setTop (mkF m 0 #[.val (.int p0), .unset, .unset, .unset, .unset] []))
  obtain ⟨_, _, ⟨T1, L1, k1, n1⟩, -, X1, ⟨Lc1, hQ1, l1, y1, z1⟩, st1⟩ := Jvm.LawKit.callS X0 hx (y := (⟨"com/example/flomem/flomem/capture/LinkType", "values", "()[Lcom/example/flomem/flomem/capture/LinkType;"⟩ : MethodName)) hown (mvT hZ (hw _ (List.mem_of_getElem? (i := 4) rfl))) (mvT hZ (hw _ (List.mem_of_getElem? (i := 5) rfl))) (mvT hZ (hw _ (List.mem_of_getElem? (i := 2) rfl))) (mvT hZ (hw _ (List.mem_of_getElem? (i := 6) rfl))) (by decide) (backOf (W := 0) (rm2 l Z a0 hw [] w_VALUES k_V w_ETHERNET w_RAW_IP w_LINUX_COOKED h0 n0 Z0 S_VALUES V_VALUES E_VALUES) hZ (hw _ (List.mem_of_getElem? (i := 6) rfl)) (hw _ (List.mem_of_getElem? (i := 2) rfl)) (by decide) (by decide)) (g := (mkF m 0 #[.val (.int p0), .unset, .unset, .unset, .unset] [])) rfl (by rw [hml]; rfl) (argsL := []) (rest := []) (lenOf pd_0 rfl) rfl (by show 2 * 0 + _ ≤ _; exact Nat.le_of_eq rfl) (hb hby d1_0) (fun _ _ => ⟨rfl, e0, (by decide : 0 + 1 ≤ _), (by decide : 0 + 3 ≤ _)⟩)
  dsimp only [Pt.U, Pt.locs, Pt.cells, Pt.slots] at X1 l1 y1 z1 st1 hQ1
  subst l1 y1 z1
  obtain ⟨b2, rfl, Nq1, K1, hz3, F4, F5⟩ := hQ1
  have N1 := Fr.app N0 Nq1
  have n6 : w_VALUES ≠ b2 := Nat.ne_of_lt (Nat.lt_of_lt_of_le V_VALUES.lt hz3)
  have n7 : w_ETHERNET ≠ b2 := Nat.ne_of_lt (Nat.lt_of_lt_of_le F_ETHERNET.lt hz3)
  have n8 : w_RAW_IP ≠ b2 := Nat.ne_of_lt (Nat.lt_of_lt_of_le F_RAW_IP.lt hz3)
  have n9 : w_LINUX_COOKED ≠ b2 := Nat.ne_of_lt (Nat.lt_of_lt_of_le F_LINUX_COOKED.lt hz3)
  have g10 : n0 ≤ b2 := Nat.le_trans Z0 hz3
  have sz_b2 : h0.size ≤ b2 := Nat.le_trans (Keep.refl h0 []).1 hz3
  have ns11 := (ns0 (h := h0))
  have z12 : n0 ≤ T1.heap.size := Nat.le_trans Z0 K1.1
  have K13 : Keep h0 T1.heap ([] : List Addr) := (Keep.refl h0 ([] : List Addr)).trans K1 all0
  refine gob st1 ?_
  show Go _ _ _ _ _ _ _ (T1.setTop (mkF m 3 #[.val (.int p0), .unset, .unset, .unset, .unset] [(.ref b2)]))
  refine gob (fun _ k => XS.astoreN X1.here hx rfl (hb hby d1_3) rfl rfl (l' := #[.val (.int p0), .val (.ref b2), .unset, .unset, .unset]) rfl k) ?_
  show Go _ _ _ _ _ _ _ (T1.setTop (mkF m 4 #[.val (.int p0), .val (.ref b2), .unset, .unset, .unset] []))
  refine gob (fun _ k => XS.aloadN X1.here hx rfl (hb hby d1_4) rfl rfl k) ?_
  show Go _ _ _ _ _ _ _ (T1.setTop (mkF m 5 #[.val (.int p0), .val (.ref b2), .unset, .unset, .unset] [(.ref b2)]))
  obtain ⟨cl14, Ar14, q14, S14, N14, H14, G14⟩ := id F4
  refine gob (X1.arraylength hx (by rw [(rfl : T1.heap = _)]; exact Ar14.1) (State.isArrayOf_alike hZ.alike Ar14.2.1) (g := (mkF m 5 #[.val (.int p0), .val (.ref b2), .unset, .unset, .unset] [(.ref b2)])) rfl rfl (hb hby d1_5)) ?_
  rw [len_of S14 N14]
  show Go _ _ _ _ _ _ _ (T1.setTop (mkF m 6 #[.val (.int p0), .val (.ref b2), .unset, .unset, .unset] [(.int (3 : Int32))]))
  refine gob (fun _ k => XS.istoreN X1.here hx rfl (hb hby d1_6) rfl (l' := #[.val (.int p0), .val (.ref b2), .val (.int (3 : Int32)), .unset, .unset]) rfl k) ?_
  show Go _ _ _ _ _ _ _ (T1.setTop (mkF m 7 #[.val (.int p0), .val (.ref b2), .val (.int (3 : Int32)), .unset, .unset] []))
  refine gob (fun _ k => XS.iconst X1.here hx rfl (hb hby d1_7) k) ?_
  show Go _ _ _ _ _ _ _ (T1.setTop (mkF m 8 #[.val (.int p0), .val (.ref b2), .val (.int (3 : Int32)), .unset, .unset] [(.int (0 : Int32))]))
  refine gob (fun _ k => XS.istoreN X1.here hx rfl (hb hby d1_8) rfl (l' := #[.val (.int p0), .val (.ref b2), .val (.int (3 : Int32)), .val (.int (0 : Int32)), .unset]) rfl k) ?_
  show Go _ _ _ _ _ _ _ (T1.setTop (mkF m 9 #[.val (.int p0), .val (.ref b2), .val (.int (3 : Int32)), .val (.int (0 : Int32)), .unset] []))
  refine gob (fun _ k => XS.iloadN X1.here hx rfl (hb hby d1_9) rfl k) ?_
  show Go _ _ _ _ _ _ _ (T1.setTop (mkF m 10 #[.val (.int p0), .val (.ref b2), .val (.int (3 : Int32)), .val (.int (0 : Int32)), .unset] [(.int (0 : Int32))]))
  refine gob (fun _ k => XS.iloadN X1.here hx rfl (hb hby d1_10) rfl k) ?_
  show Go _ _ _ _ _ _ _ (T1.setTop (mkF m 11 #[.val (.int p0), .val (.ref b2), .val (.int (3 : Int32)), .val (.int (0 : Int32)), .unset] [(.int (3 : Int32)), (.int (0 : Int32))]))
  refine gob (fun _ k => XS.icmpNo X1.here hx rfl (hb hby d1_11) rfl (tlt (by decide : (0 : Int32) < (3 : Int32))).2.1 k) ?_
  show Go _ _ _ _ _ _ _ (T1.setTop (mkF m 14 #[.val (.int p0), .val (.ref b2), .val (.int (3 : Int32)), .val (.int (0 : Int32)), .unset] []))
  refine gob (fun _ k => XS.aloadN X1.here hx rfl (hb hby d1_14) rfl rfl k) ?_
  show Go _ _ _ _ _ _ _ (T1.setTop (mkF m 15 #[.val (.int p0), .val (.ref b2), .val (.int (3 : Int32)), .val (.int (0 : Int32)), .unset] [(.ref b2)]))
  refine gob (fun _ k => XS.iloadN X1.here hx rfl (hb hby d1_15) rfl k) ?_
  show Go _ _ _ _ _ _ _ (T1.setTop (mkF m 16 #[.val (.int p0), .val (.ref b2), .val (.int (3 : Int32)), .val (.int (0 : Int32)), .unset] [(.int (0 : Int32)), (.ref b2)]))
  obtain ⟨cl15, Ar15, q15, S15, N15, H15, G15⟩ := id F4
  have hin15 : ¬ ((0 : Int32) < 0 ∨ cl15.slots.size ≤ ((0 : Int32)).toNatClampNeg) := inb_of S15 ⟨by decide, by decide⟩
  refine gob (X1.aaload hx (j := (0 : Int32)) (v := (.ref w_ETHERNET)) (by rw [(rfl : T1.heap = _)]; exact Ar15.1) (State.isArrayOf_alike hZ.alike Ar15.2.1) rfl Ar15.2.2 hin15 (Has.at H15 hin15 rfl) (g := (mkF m 16 #[.val (.int p0), .val (.ref b2), .val (.int (3 : Int32)), .val (.int (0 : Int32)), .unset] [(.int (0 : Int32)), (.ref b2)])) rfl rfl (hb hby d1_16)) ?_
  show Go _ _ _ _ _ _ _ (T1.setTop (mkF m 17 #[.val (.int p0), .val (.ref b2), .val (.int (3 : Int32)), .val (.int (0 : Int32)), .unset] [(.ref w_ETHERNET)]))
  refine gob (fun _ k => XS.astore X1.here hx rfl (hb hby d1_17) rfl rfl (l' := #[.val (.int p0), .val (.ref b2), .val (.int (3 : Int32)), .val (.int (0 : Int32)), .val (.ref w_ETHERNET)]) rfl k) ?_
  show Go _ _ _ _ _ _ _ (T1.setTop (mkF m 19 #[.val (.int p0), .val (.ref b2), .val (.int (3 : Int32)), .val (.int (0 : Int32)), .val (.ref w_ETHERNET)] []))
  refine gob (fun _ k => XS.aload X1.here hx rfl (hb hby d1_19) rfl rfl k) ?_
  show Go _ _ _ _ _ _ _ (T1.setTop (mkF m 21 #[.val (.int p0), .val (.ref b2), .val (.int (3 : Int32)), .val (.int (0 : Int32)), .val (.ref w_ETHERNET)] [(.ref w_ETHERNET)]))
  have c16 := (F_ETHERNET.keep K1 nin0)
  obtain ⟨T17, X17, e17, st17⟩ := getF X1 hx hZ hown (host := "") (Or.inl (hw _ (List.mem_of_getElem? (i := 22) rfl))) Via.refl (rfl : T1.heap = _) c16 (g := (mkF m 21 #[.val (.int p0), .val (.ref b2), .val (.int (3 : Int32)), .val (.int (0 : Int32)), .val (.ref w_ETHERNET)] [(.ref w_ETHERNET)])) rfl rfl (hb hby d1_21)
  refine gob st17 ?_
  show Go _ _ _ _ _ _ _ (T17.setTop (mkF m 24 #[.val (.int p0), .val (.ref b2), .val (.int (3 : Int32)), .val (.int (0 : Int32)), .val (.ref w_ETHERNET)] [(.int (1 : Int32))]))
  refine gob (fun _ k => XS.iloadN X17.here hx rfl (hb hby d1_24) rfl k) ?_
  show Go _ _ _ _ _ _ _ (T17.setTop (mkF m 25 #[.val (.int p0), .val (.ref b2), .val (.int (3 : Int32)), .val (.int (0 : Int32)), .val (.ref w_ETHERNET)] [(.int p0), (.int (1 : Int32))]))
  refine gob (fun _ k => XS.icmpYes X17.here hx rfl (pc0 := 25) (pc' := 31) rfl (hb hby d1_25) rfl (feq hn_ETHERNET).2 (by decide) (by decide) k) ?_
  show Go _ _ _ _ _ _ _ (T17.setTop (mkF m 31 #[.val (.int p0), .val (.ref b2), .val (.int (3 : Int32)), .val (.int (0 : Int32)), .val (.ref w_ETHERNET)] []))
  refine gob (fun _ k => XS.iinc X17.here hx rfl (hb hby d1_31) rfl (l' := #[.val (.int p0), .val (.ref b2), .val (.int (3 : Int32)), .val (.int (1 : Int32)), .val (.ref w_ETHERNET)]) rfl k) ?_
  show Go _ _ _ _ _ _ _ (T17.setTop (mkF m 34 #[.val (.int p0), .val (.ref b2), .val (.int (3 : Int32)), .val (.int (1 : Int32)), .val (.ref w_ETHERNET)] []))
  refine gob (fun _ k => XS.goto X17.here hx rfl (pc0 := 34) (pc' := 9) rfl (hb hby d1_34) (by decide) (by decide) k) ?_
  show Go _ _ _ _ _ _ _ (T17.setTop (mkF m 9 #[.val (.int p0), .val (.ref b2), .val (.int (3 : Int32)), .val (.int (1 : Int32)), .val (.ref w_ETHERNET)] []))
  refine gob (fun _ k => XS.iloadN X17.here hx rfl (hb hby d1_9) rfl k) ?_
  show Go _ _ _ _ _ _ _ (T17.setTop (mkF m 10 #[.val (.int p0), .val (.ref b2), .val (.int (3 : Int32)), .val (.int (1 : Int32)), .val (.ref w_ETHERNET)] [(.int (1 : Int32))]))
  refine gob (fun _ k => XS.iloadN X17.here hx rfl (hb hby d1_10) rfl k) ?_
  show Go _ _ _ _ _ _ _ (T17.setTop (mkF m 11 #[.val (.int p0), .val (.ref b2), .val (.int (3 : Int32)), .val (.int (1 : Int32)), .val (.ref w_ETHERNET)] [(.int (3 : Int32)), (.int (1 : Int32))]))
  refine gob (fun _ k => XS.icmpNo X17.here hx rfl (hb hby d1_11) rfl (tlt (by decide : (1 : Int32) < (3 : Int32))).2.1 k) ?_
  show Go _ _ _ _ _ _ _ (T17.setTop (mkF m 14 #[.val (.int p0), .val (.ref b2), .val (.int (3 : Int32)), .val (.int (1 : Int32)), .val (.ref w_ETHERNET)] []))
  refine gob (fun _ k => XS.aloadN X17.here hx rfl (hb hby d1_14) rfl rfl k) ?_
  show Go _ _ _ _ _ _ _ (T17.setTop (mkF m 15 #[.val (.int p0), .val (.ref b2), .val (.int (3 : Int32)), .val (.int (1 : Int32)), .val (.ref w_ETHERNET)] [(.ref b2)]))
  refine gob (fun _ k => XS.iloadN X17.here hx rfl (hb hby d1_15) rfl k) ?_
  show Go _ _ _ _ _ _ _ (T17.setTop (mkF m 16 #[.val (.int p0), .val (.ref b2), .val (.int (3 : Int32)), .val (.int (1 : Int32)), .val (.ref w_ETHERNET)] [(.int (1 : Int32)), (.ref b2)]))
  obtain ⟨cl18, Ar18, q18, S18, N18, H18, G18⟩ := id F4
  have hin18 : ¬ ((1 : Int32) < 0 ∨ cl18.slots.size ≤ ((1 : Int32)).toNatClampNeg) := inb_of S18 ⟨by decide, by decide⟩
  refine gob (X17.aaload hx (j := (1 : Int32)) (v := (.ref w_RAW_IP)) (by rw [e17]; exact Ar18.1) (State.isArrayOf_alike hZ.alike Ar18.2.1) rfl Ar18.2.2 hin18 (Has.at H18 hin18 rfl) (g := (mkF m 16 #[.val (.int p0), .val (.ref b2), .val (.int (3 : Int32)), .val (.int (1 : Int32)), .val (.ref w_ETHERNET)] [(.int (1 : Int32)), (.ref b2)])) rfl rfl (hb hby d1_16)) ?_
  show Go _ _ _ _ _ _ _ (T17.setTop (mkF m 17 #[.val (.int p0), .val (.ref b2), .val (.int (3 : Int32)), .val (.int (1 : Int32)), .val (.ref w_ETHERNET)] [(.ref w_RAW_IP)]))
  refine gob (fun _ k => XS.astore X17.here hx rfl (hb hby d1_17) rfl rfl (l' := #[.val (.int p0), .val (.ref b2), .val (.int (3 : Int32)), .val (.int (1 : Int32)), .val (.ref w_RAW_IP)]) rfl k) ?_
  show Go _ _ _ _ _ _ _ (T17.setTop (mkF m 19 #[.val (.int p0), .val (.ref b2), .val (.int (3 : Int32)), .val (.int (1 : Int32)), .val (.ref w_RAW_IP)] []))
  refine gob (fun _ k => XS.aload X17.here hx rfl (hb hby d1_19) rfl rfl k) ?_
  show Go _ _ _ _ _ _ _ (T17.setTop (mkF m 21 #[.val (.int p0), .val (.ref b2), .val (.int (3 : Int32)), .val (.int (1 : Int32)), .val (.ref w_RAW_IP)] [(.ref w_RAW_IP)]))
  have c19 := (F_RAW_IP.keep K1 nin0)
  obtain ⟨T20, X20, e20, st20⟩ := getF X17 hx hZ hown (host := "") (Or.inl (hw _ (List.mem_of_getElem? (i := 22) rfl))) Via.refl e17 c19 (g := (mkF m 21 #[.val (.int p0), .val (.ref b2), .val (.int (3 : Int32)), .val (.int (1 : Int32)), .val (.ref w_RAW_IP)] [(.ref w_RAW_IP)])) rfl rfl (hb hby d1_21)
  refine gob st20 ?_
  show Go _ _ _ _ _ _ _ (T20.setTop (mkF m 24 #[.val (.int p0), .val (.ref b2), .val (.int (3 : Int32)), .val (.int (1 : Int32)), .val (.ref w_RAW_IP)] [(.int (101 : Int32))]))
  refine gob (fun _ k => XS.iloadN X20.here hx rfl (hb hby d1_24) rfl k) ?_
  show Go _ _ _ _ _ _ _ (T20.setTop (mkF m 25 #[.val (.int p0), .val (.ref b2), .val (.int (3 : Int32)), .val (.int (1 : Int32)), .val (.ref w_RAW_IP)] [(.int p0), (.int (101 : Int32))]))
  refine gob (fun _ k => XS.icmpYes X20.here hx rfl (pc0 := 25) (pc' := 31) rfl (hb hby d1_25) rfl (feq hn_RAW_IP).2 (by decide) (by decide) k) ?_
  show Go _ _ _ _ _ _ _ (T20.setTop (mkF m 31 #[.val (.int p0), .val (.ref b2), .val (.int (3 : Int32)), .val (.int (1 : Int32)), .val (.ref w_RAW_IP)] []))
  refine gob (fun _ k => XS.iinc X20.here hx rfl (hb hby d1_31) rfl (l' := #[.val (.int p0), .val (.ref b2), .val (.int (3 : Int32)), .val (.int (2 : Int32)), .val (.ref w_RAW_IP)]) rfl k) ?_
  show Go _ _ _ _ _ _ _ (T20.setTop (mkF m 34 #[.val (.int p0), .val (.ref b2), .val (.int (3 : Int32)), .val (.int (2 : Int32)), .val (.ref w_RAW_IP)] []))
  refine gob (fun _ k => XS.goto X20.here hx rfl (pc0 := 34) (pc' := 9) rfl (hb hby d1_34) (by decide) (by decide) k) ?_
  show Go _ _ _ _ _ _ _ (T20.setTop (mkF m 9 #[.val (.int p0), .val (.ref b2), .val (.int (3 : Int32)), .val (.int (2 : Int32)), .val (.ref w_RAW_IP)] []))
  refine gob (fun _ k => XS.iloadN X20.here hx rfl (hb hby d1_9) rfl k) ?_
  show Go _ _ _ _ _ _ _ (T20.setTop (mkF m 10 #[.val (.int p0), .val (.ref b2), .val (.int (3 : Int32)), .val (.int (2 : Int32)), .val (.ref w_RAW_IP)] [(.int (2 : Int32))]))
  refine gob (fun _ k => XS.iloadN X20.here hx rfl (hb hby d1_10) rfl k) ?_
  show Go _ _ _ _ _ _ _ (T20.setTop (mkF m 11 #[.val (.int p0), .val (.ref b2), .val (.int (3 : Int32)), .val (.int (2 : Int32)), .val (.ref w_RAW_IP)] [(.int (3 : Int32)), (.int (2 : Int32))]))
  refine gob (fun _ k => XS.icmpNo X20.here hx rfl (hb hby d1_11) rfl (tlt (by decide : (2 : Int32) < (3 : Int32))).2.1 k) ?_
  show Go _ _ _ _ _ _ _ (T20.setTop (mkF m 14 #[.val (.int p0), .val (.ref b2), .val (.int (3 : Int32)), .val (.int (2 : Int32)), .val (.ref w_RAW_IP)] []))
  refine gob (fun _ k => XS.aloadN X20.here hx rfl (hb hby d1_14) rfl rfl k) ?_
  show Go _ _ _ _ _ _ _ (T20.setTop (mkF m 15 #[.val (.int p0), .val (.ref b2), .val (.int (3 : Int32)), .val (.int (2 : Int32)), .val (.ref w_RAW_IP)] [(.ref b2)]))
  refine gob (fun _ k => XS.iloadN X20.here hx rfl (hb hby d1_15) rfl k) ?_
  show Go _ _ _ _ _ _ _ (T20.setTop (mkF m 16 #[.val (.int p0), .val (.ref b2), .val (.int (3 : Int32)), .val (.int (2 : Int32)), .val (.ref w_RAW_IP)] [(.int (2 : Int32)), (.ref b2)]))
  obtain ⟨cl21, Ar21, q21, S21, N21, H21, G21⟩ := id F4
  have hin21 : ¬ ((2 : Int32) < 0 ∨ cl21.slots.size ≤ ((2 : Int32)).toNatClampNeg) := inb_of S21 ⟨by decide, by decide⟩
  refine gob (X20.aaload hx (j := (2 : Int32)) (v := (.ref w_LINUX_COOKED)) (by rw [e20]; exact Ar21.1) (State.isArrayOf_alike hZ.alike Ar21.2.1) rfl Ar21.2.2 hin21 (Has.at H21 hin21 rfl) (g := (mkF m 16 #[.val (.int p0), .val (.ref b2), .val (.int (3 : Int32)), .val (.int (2 : Int32)), .val (.ref w_RAW_IP)] [(.int (2 : Int32)), (.ref b2)])) rfl rfl (hb hby d1_16)) ?_
  show Go _ _ _ _ _ _ _ (T20.setTop (mkF m 17 #[.val (.int p0), .val (.ref b2), .val (.int (3 : Int32)), .val (.int (2 : Int32)), .val (.ref w_RAW_IP)] [(.ref w_LINUX_COOKED)]))
  refine gob (fun _ k => XS.astore X20.here hx rfl (hb hby d1_17) rfl rfl (l' := #[.val (.int p0), .val (.ref b2), .val (.int (3 : Int32)), .val (.int (2 : Int32)), .val (.ref w_LINUX_COOKED)]) rfl k) ?_
  show Go _ _ _ _ _ _ _ (T20.setTop (mkF m 19 #[.val (.int p0), .val (.ref b2), .val (.int (3 : Int32)), .val (.int (2 : Int32)), .val (.ref w_LINUX_COOKED)] []))
  refine gob (fun _ k => XS.aload X20.here hx rfl (hb hby d1_19) rfl rfl k) ?_
  show Go _ _ _ _ _ _ _ (T20.setTop (mkF m 21 #[.val (.int p0), .val (.ref b2), .val (.int (3 : Int32)), .val (.int (2 : Int32)), .val (.ref w_LINUX_COOKED)] [(.ref w_LINUX_COOKED)]))
  have c22 := (F_LINUX_COOKED.keep K1 nin0)
  obtain ⟨T23, X23, e23, st23⟩ := getF X20 hx hZ hown (host := "") (Or.inl (hw _ (List.mem_of_getElem? (i := 22) rfl))) Via.refl e20 c22 (g := (mkF m 21 #[.val (.int p0), .val (.ref b2), .val (.int (3 : Int32)), .val (.int (2 : Int32)), .val (.ref w_LINUX_COOKED)] [(.ref w_LINUX_COOKED)])) rfl rfl (hb hby d1_21)
  refine gob st23 ?_
  show Go _ _ _ _ _ _ _ (T23.setTop (mkF m 24 #[.val (.int p0), .val (.ref b2), .val (.int (3 : Int32)), .val (.int (2 : Int32)), .val (.ref w_LINUX_COOKED)] [(.int (113 : Int32))]))
  refine gob (fun _ k => XS.iloadN X23.here hx rfl (hb hby d1_24) rfl k) ?_
  show Go _ _ _ _ _ _ _ (T23.setTop (mkF m 25 #[.val (.int p0), .val (.ref b2), .val (.int (3 : Int32)), .val (.int (2 : Int32)), .val (.ref w_LINUX_COOKED)] [(.int p0), (.int (113 : Int32))]))
  refine gob (fun _ k => XS.icmpYes X23.here hx rfl (pc0 := 25) (pc' := 31) rfl (hb hby d1_25) rfl (feq hn_LINUX_COOKED).2 (by decide) (by decide) k) ?_
  show Go _ _ _ _ _ _ _ (T23.setTop (mkF m 31 #[.val (.int p0), .val (.ref b2), .val (.int (3 : Int32)), .val (.int (2 : Int32)), .val (.ref w_LINUX_COOKED)] []))
  refine gob (fun _ k => XS.iinc X23.here hx rfl (hb hby d1_31) rfl (l' := #[.val (.int p0), .val (.ref b2), .val (.int (3 : Int32)), .val (.int (3 : Int32)), .val (.ref w_LINUX_COOKED)]) rfl k) ?_
  show Go _ _ _ _ _ _ _ (T23.setTop (mkF m 34 #[.val (.int p0), .val (.ref b2), .val (.int (3 : Int32)), .val (.int (3 : Int32)), .val (.ref w_LINUX_COOKED)] []))
  refine gob (fun _ k => XS.goto X23.here hx rfl (pc0 := 34) (pc' := 9) rfl (hb hby d1_34) (by decide) (by decide) k) ?_
  show Go _ _ _ _ _ _ _ (T23.setTop (mkF m 9 #[.val (.int p0), .val (.ref b2), .val (.int (3 : Int32)), .val (.int (3 : Int32)), .val (.ref w_LINUX_COOKED)] []))
  refine gob (fun _ k => XS.iloadN X23.here hx rfl (hb hby d1_9) rfl k) ?_
  show Go _ _ _ _ _ _ _ (T23.setTop (mkF m 10 #[.val (.int p0), .val (.ref b2), .val (.int (3 : Int32)), .val (.int (3 : Int32)), .val (.ref w_LINUX_COOKED)] [(.int (3 : Int32))]))
  refine gob (fun _ k => XS.iloadN X23.here hx rfl (hb hby d1_10) rfl k) ?_
  show Go _ _ _ _ _ _ _ (T23.setTop (mkF m 11 #[.val (.int p0), .val (.ref b2), .val (.int (3 : Int32)), .val (.int (3 : Int32)), .val (.ref w_LINUX_COOKED)] [(.int (3 : Int32)), (.int (3 : Int32))]))
  refine gob (fun _ k => XS.icmpYes X23.here hx rfl (pc0 := 11) (pc' := 37) rfl (hb hby d1_11) rfl (flt (by decide : ¬ ((3 : Int32) < (3 : Int32)))).2.1 (by decide) (by decide) k) ?_
  show Go _ _ _ _ _ _ _ (T23.setTop (mkF m 37 #[.val (.int p0), .val (.ref b2), .val (.int (3 : Int32)), .val (.int (3 : Int32)), .val (.ref w_LINUX_COOKED)] []))
  refine gob (fun _ k => XS.aconstNull X23.here hx rfl (hb hby d1_37) k) ?_
  show Go _ _ _ _ _ _ _ (T23.setTop (mkF m 38 #[.val (.int p0), .val (.ref b2), .val (.int (3 : Int32)), .val (.int (3 : Int32)), .val (.ref w_LINUX_COOKED)] [.null]))
  refine goA X23 hx hlk Bd.returns rfl rfl (hb hby d1_38) ?_ (by decide) (by decide)
  show Q1N Z p0 w_VALUES k_V w_ETHERNET w_RAW_IP w_LINUX_COOKED h0 n0 (some .null) T23.heap _
  rw [e23]
  exact ⟨b2, rfl, N1, K13, sz_b2, F4, F5⟩
theorem ef_3N (m : MethodId) (x0 : Int32) : entryFrame m #[(.int x0)] 1 = mkF m 0 #[.val (.int x0)] [] := by first | (simp [entryFrame, mkF, argsToLocals, Value.category]; done) | rfl
def Q3N (Z : State) (p0 : Int32) (w_ETHERNET : Addr) (w_RAW_IP : Addr) (w_LINUX_COOKED : Addr) (h0 : Heap) (n0 : Nat) (v : Option Value) (h : Heap) (L : List Loc) : Prop := v = some .null ∧ Fr n0 L ∧ Keep h0 h ([] : List Addr)
set_option maxRecDepth 65536 in
set_option maxHeartbeats 40000000 in
theorem rm3N (l : Launch) (Z : State) (a0 : Array Value) (hw : ∀ d ∈ tables_1, d.before a0 Z = true) (ws : List Jvm.Cond) (p0 : Int32) (w_ETHERNET : Addr) (w_RAW_IP : Addr) (w_LINUX_COOKED : Addr) (h0 : Heap) (n0 : Nat) (Z0 : n0 ≤ h0.size) (S_ETHERNET : Sta Z h0 "com/example/flomem/flomem/capture/LinkType" "ETHERNET" "Lcom/example/flomem/flomem/capture/LinkType;" (.ref w_ETHERNET)) (S_RAW_IP : Sta Z h0 "com/example/flomem/flomem/capture/LinkType" "RAW_IP" "Lcom/example/flomem/flomem/capture/LinkType;" (.ref w_RAW_IP)) (S_LINUX_COOKED : Sta Z h0 "com/example/flomem/flomem/capture/LinkType" "LINUX_COOKED" "Lcom/example/flomem/flomem/capture/LinkType;" (.ref w_LINUX_COOKED)) (hn_ETHERNET : ¬ ((1 : Int32) = p0)) (hn_RAW_IP : ¬ ((101 : Int32) = p0)) (hn_LINUX_COOKED : ¬ ((113 : Int32) = p0)) :
    MetFree l (⟨"com/example/flomem/flomem/capture/LinkTypeNumberedPinLaw", "expectedFor", "(I)Lcom/example/flomem/flomem/capture/LinkType;"⟩ : MethodName) (head1 (Jvm.Cond.code (⟨"com/example/flomem/flomem/capture/LinkTypeNumberedPinLaw", "expectedFor", "(I)Lcom/example/flomem/flomem/capture/LinkType;"⟩ : MethodName) method_3_code 1 (some (.object "com/example/flomem/flomem/capture/LinkType")) :: ws) ({ frames := 0, cells := 0, slots := 0, locals := 0 } : Room)) (fun a U => a = #[(.int p0)] ∧ Z.Warmed39 U.vm ∧ U.heap = h0) (fun _ _ _ _ _ => True) (fun _ U o U' => ∃ v L, o = .returned v ∧ Q3N Z p0 w_ETHERNET w_RAW_IP w_LINUX_COOKED h0 n0 v U'.heap L ∧ FrameEnd U o U' L ({ frames := 0, cells := 0, slots := 0, locals := 0 } : Room).cells ({ frames := 0, cells := 0, slots := 0, locals := 0 } : Room).slots) := by
  refine MetFree.of_bodySF (plainFor_of_name (by first | (simp [plainName, overriddenIn]; done) | decide +kernel)) hisR ?_
  intro p e s m args below meth c s₁ Bd hml0 hP hK
  obtain ⟨rfl, hZ, hh⟩ := hP
  have hx := Bd.exec
  have hby := Bd.bytes
  have hml : c.maxLocals = 1 := hml0
  have hown : s.vm.findClass "com/example/flomem/flomem/capture/LinkTypeNumberedPinLaw" = some m.cls := findClass_of_methodNamed Bd.named
  have hnm := (name_of_methodNamed Bd.named Bd.method).1
  have hlk := BodyLoose.notSynchronized Bd
  have X0 : Stand p l e ({ frames := 0, cells := 0, slots := 0, locals := 0 } : Room) s m #[(.int p0)] below meth c s₁ [] 0 0 := Stand.of_body Bd
  have e0 : s₁.heap = h0 := by rw [← hh, Bd.state]; rfl
  have N0 := Fr.nil n0
  show Go p e below s (Q3N Z p0 w_ETHERNET w_RAW_IP w_LINUX_COOKED h0 n0) 0 0 (s₁.setTop (entryFrame m #[(.int p0)] 1))
  rw [ef_3N]
  have hm_ETHERNET : ¬ (p0 = (1 : Int32)) := fun q => hn_ETHERNET (Eq.symm q)
  have hm_RAW_IP : ¬ (p0 = (101 : Int32)) := fun q => hn_RAW_IP (Eq.symm q)
  have hm_LINUX_COOKED : ¬ (p0 = (113 : Int32)) := fun q => hn_LINUX_COOKED (Eq.symm q)
  show Go _ _ _ _ _ _ _ (s₁.setTop (mkF m 0 #[.val (.int p0)] []))
  refine gob (fun _ k => XS.iloadN X0.here hx rfl (hb hby d3_0) rfl k) ?_
  show Go _ _ _ _ _ _ _ (s₁.setTop (mkF m 1 #[.val (.int p0)] [(.int p0)]))
  refine gob (fun _ k => XS.iconst X0.here hx rfl (hb hby d3_1) k) ?_
  show Go _ _ _ _ _ _ _ (s₁.setTop (mkF m 2 #[.val (.int p0)] [(.int (1 : Int32)), (.int p0)]))
  refine gob (fun _ k => XS.icmpYes X0.here hx rfl (pc0 := 2) (pc' := 9) rfl (hb hby d3_2) rfl (feq hm_ETHERNET).2 (by decide) (by decide) k) ?_
  show Go _ _ _ _ _ _ _ (s₁.setTop (mkF m 9 #[.val (.int p0)] []))
  refine gob (fun _ k => XS.iloadN X0.here hx rfl (hb hby d3_9) rfl k) ?_
  show Go _ _ _ _ _ _ _ (s₁.setTop (mkF m 10 #[.val (.int p0)] [(.int p0)]))
  refine gob (fun _ k => XS.bipush X0.here hx rfl (hb hby d3_10) k) ?_
  show Go _ _ _ _ _ _ _ (s₁.setTop (mkF m 12 #[.val (.int p0)] [(.int (101 : Int32)), (.int p0)]))
  refine gob (fun _ k => XS.icmpYes X0.here hx rfl (pc0 := 12) (pc' := 19) rfl (hb hby d3_12) rfl (feq hm_RAW_IP).2 (by decide) (by decide) k) ?_
  show Go _ _ _ _ _ _ _ (s₁.setTop (mkF m 19 #[.val (.int p0)] []))
  refine gob (fun _ k => XS.iloadN X0.here hx rfl (hb hby d3_19) rfl k) ?_
  show Go _ _ _ _ _ _ _ (s₁.setTop (mkF m 20 #[.val (.int p0)] [(.int p0)]))
  refine gob (fun _ k => XS.bipush X0.here hx rfl (hb hby d3_20) k) ?_
  show Go _ _ _ _ _ _ _ (s₁.setTop (mkF m 22 #[.val (.int p0)] [(.int (113 : Int32)), (.int p0)]))
  refine gob (fun _ k => XS.icmpYes X0.here hx rfl (pc0 := 22) (pc' := 29) rfl (hb hby d3_22) rfl (feq hm_LINUX_COOKED).2 (by decide) (by decide) k) ?_
  show Go _ _ _ _ _ _ _ (s₁.setTop (mkF m 29 #[.val (.int p0)] []))
  refine gob (fun _ k => XS.aconstNull X0.here hx rfl (hb hby d3_29) k) ?_
  show Go _ _ _ _ _ _ _ (s₁.setTop (mkF m 30 #[.val (.int p0)] [.null]))
  refine goA X0 hx hlk Bd.returns rfl rfl (hb hby d3_30) ?_ (by decide) (by decide)
  show Q3N Z p0 w_ETHERNET w_RAW_IP w_LINUX_COOKED h0 n0 (some .null) s₁.heap _
  rw [e0]
  exact ⟨rfl, N0, (Keep.refl h0 ([] : List Addr))⟩
theorem pd_1 : parseMethodDescriptor "(I)Lcom/example/flomem/flomem/capture/LinkType;" = some ⟨[.int], some (.object "com/example/flomem/flomem/capture/LinkType")⟩ := by decide +kernel
theorem ef_0 (m : MethodId) (x0 : Int32) (x1 : Int32) : entryFrame m #[(.int x0), (.int x1)] maxLocals = mkF m 0 #[.val (.int x0), .val (.int x1), .unset, .unset, .unset, .unset, .unset] [] := by first | (simp [entryFrame, mkF, argsToLocals, Value.category, maxLocals]; done) | rfl
def Q0 (Z : State) (p0 : Int32) (p1 : Int32) (w_VALUES : Addr) (k_V : ClassId) (w_ETHERNET : Addr) (w_RAW_IP : Addr) (w_LINUX_COOKED : Addr) (h0 : Heap) (n0 : Nat) (v : Option Value) (h : Heap) (L : List Loc) : Prop := v = some (.int 1) ∧ Fr n0 L
set_option maxRecDepth 65536 in
set_option maxHeartbeats 40000000 in
theorem rm0 (l : Launch) (Z : State) (a0 : Array Value) (hw : ∀ d ∈ tables_1, d.before a0 Z = true) (ws : List Jvm.Cond) (p0 : Int32) (p1 : Int32) (w_VALUES : Addr) (k_V : ClassId) (w_ETHERNET : Addr) (w_RAW_IP : Addr) (w_LINUX_COOKED : Addr) (h0 : Heap) (n0 : Nat) (Z0 : n0 ≤ h0.size) (S_VALUES : Sta Z h0 "com/example/flomem/flomem/capture/LinkType" "$VALUES" "[Lcom/example/flomem/flomem/capture/LinkType;" (.ref w_VALUES)) (V_VALUES : Arv Z h0 w_VALUES k_V (.object "com/example/flomem/flomem/capture/LinkType") (3 : Int32) [(.ref w_ETHERNET), (.ref w_RAW_IP), (.ref w_LINUX_COOKED)] .null) (E_VALUES : Exa Z h0 w_VALUES "[Lcom/example/flomem/flomem/capture/LinkType;") (F_ETHERNET : Fld Z h0 w_ETHERNET "com/example/flomem/flomem/capture/LinkType" "number" "I" (.int (1 : Int32))) (F_RAW_IP : Fld Z h0 w_RAW_IP "com/example/flomem/flomem/capture/LinkType" "number" "I" (.int (101 : Int32))) (F_LINUX_COOKED : Fld Z h0 w_LINUX_COOKED "com/example/flomem/flomem/capture/LinkType" "number" "I" (.int (113 : Int32))) (S_ETHERNET : Sta Z h0 "com/example/flomem/flomem/capture/LinkType" "ETHERNET" "Lcom/example/flomem/flomem/capture/LinkType;" (.ref w_ETHERNET)) (S_RAW_IP : Sta Z h0 "com/example/flomem/flomem/capture/LinkType" "RAW_IP" "Lcom/example/flomem/flomem/capture/LinkType;" (.ref w_RAW_IP)) (S_LINUX_COOKED : Sta Z h0 "com/example/flomem/flomem/capture/LinkType" "LINUX_COOKED" "Lcom/example/flomem/flomem/capture/LinkType;" (.ref w_LINUX_COOKED)) :
    MetFree l x (head1 (Jvm.Cond.code x code maxLocals ret :: ws) room_1) (fun a U => a = #[(.int p0), (.int p1)] ∧ Z.Warmed39 U.vm ∧ U.heap = h0) (fun _ _ _ _ _ => True) (fun _ U o U' => ∃ v L, o = .returned v ∧ Q0 Z p0 p1 w_VALUES k_V w_ETHERNET w_RAW_IP w_LINUX_COOKED h0 n0 v U'.heap L ∧ FrameEnd U o U' L 16 128) := by
  refine MetFree.of_bodySF (plainFor_of_name (by first | (simp [plainName, overriddenIn]; done) | decide +kernel)) hisR ?_
  intro p e s m args below meth c s₁ Bd hml0 hP hK
  obtain ⟨rfl, hZ, hh⟩ := hP
  have hx := Bd.exec
  have hby := Bd.bytes
  have hml : c.maxLocals = 7 := hml0
  have hown : s.vm.findClass "com/example/flomem/flomem/capture/LinkTypeNumberedPinLaw" = some m.cls := findClass_of_methodNamed Bd.named
  have hnm := (name_of_methodNamed Bd.named Bd.method).1
  have hlk := BodyLoose.notSynchronized Bd
  have X0 : Stand p l e room_1 s m #[(.int p0), (.int p1)] below meth c s₁ [] 0 0 := Stand.of_body Bd
  have e0 : s₁.heap = h0 := by rw [← hh, Bd.state]; rfl
  have N0 := Fr.nil n0
  show Go p e below s (Q0 Z p0 p1 w_VALUES k_V w_ETHERNET w_RAW_IP w_LINUX_COOKED h0 n0) 16 128 (s₁.setTop (entryFrame m #[(.int p0), (.int p1)] maxLocals))
  rw [ef_0]
  show Go _ _ _ _ _ _ _ (s₁.setTop (mkF m 0 #[.val (.int p0), .val (.int p1), .unset, .unset, .unset, .unset, .unset] []))
  refine gob (fun _ k => XS.iloadN X0.here hx rfl (hb hby at_0) rfl k) ?_
  show Go _ _ _ _ _ _ _ (s₁.setTop (mkF m 1 #[.val (.int p0), .val (.int p1), .unset, .unset, .unset, .unset, .unset] [(.int p0)]))
  refine gob (fun _ k => XS.iconst X0.here hx rfl (hb hby at_1) k) ?_
  show Go _ _ _ _ _ _ _ (s₁.setTop (mkF m 2 #[.val (.int p0), .val (.int p1), .unset, .unset, .unset, .unset, .unset] [(.int (3 : Int32)), (.int p0)]))
  refine gob (fun _ k => XS.iand X0.here hx rfl (hb hby at_2) rfl k) ?_
  show Go _ _ _ _ _ _ _ (s₁.setTop (mkF m 3 #[.val (.int p0), .val (.int p1), .unset, .unset, .unset, .unset, .unset] [(.int (p0 &&& (3 : Int32)))]))
  refine gob (fun _ k => XS.istoreN X0.here hx rfl (hb hby at_3) rfl (l' := #[.val (.int p0), .val (.int p1), .val (.int (p0 &&& (3 : Int32))), .unset, .unset, .unset, .unset]) rfl k) ?_
  show Go _ _ _ _ _ _ _ (s₁.setTop (mkF m 4 #[.val (.int p0), .val (.int p1), .val (.int (p0 &&& (3 : Int32))), .unset, .unset, .unset, .unset] []))
  generalize hx1 : (p0 &&& (3 : Int32)) = x1
  show Go _ _ _ _ _ _ _ (s₁.setTop (mkF m 4 #[.val (.int p0), .val (.int p1), .val (.int x1), .unset, .unset, .unset, .unset] []))
  refine gob (fun _ k => XS.iloadN X0.here hx rfl (hb hby at_4) rfl k) ?_
  show Go _ _ _ _ _ _ _ (s₁.setTop (mkF m 5 #[.val (.int p0), .val (.int p1), .val (.int x1), .unset, .unset, .unset, .unset] [(.int p0)]))
  refine gob (fun _ k => XS.iconst X0.here hx rfl (hb hby at_5) k) ?_
  show Go _ _ _ _ _ _ _ (s₁.setTop (mkF m 6 #[.val (.int p0), .val (.int p1), .val (.int x1), .unset, .unset, .unset, .unset] [(.int (2 : Int32)), (.int p0)]))
  refine gob (fun _ k => XS.iushr X0.here hx rfl (hb hby at_6) rfl k) ?_
  show Go _ _ _ _ _ _ _ (s₁.setTop (mkF m 7 #[.val (.int p0), .val (.int p1), .val (.int x1), .unset, .unset, .unset, .unset] [(.int ((p0.toUInt32 >>> ((2 : Int32) &&& 31).toUInt32).toInt32))]))
  refine gob (fun _ k => XS.iconst X0.here hx rfl (hb hby at_7) k) ?_
  show Go _ _ _ _ _ _ _ (s₁.setTop (mkF m 8 #[.val (.int p0), .val (.int p1), .val (.int x1), .unset, .unset, .unset, .unset] [(.int (3 : Int32)), (.int ((p0.toUInt32 >>> ((2 : Int32) &&& 31).toUInt32).toInt32))]))
  refine gob (fun _ k => iremM X0 hx rfl (hb hby at_8) rfl (by decide) k) ?_
  show Go _ _ _ _ _ _ _ (s₁.setTop (mkF m 9 #[.val (.int p0), .val (.int p1), .val (.int x1), .unset, .unset, .unset, .unset] [(.int (((p0.toUInt32 >>> ((2 : Int32) &&& 31).toUInt32).toInt32) % (3 : Int32)))]))
  refine gob (fun _ k => XS.iconst X0.here hx rfl (hb hby at_9) k) ?_
  show Go _ _ _ _ _ _ _ (s₁.setTop (mkF m 10 #[.val (.int p0), .val (.int p1), .val (.int x1), .unset, .unset, .unset, .unset] [(.int (1 : Int32)), (.int (((p0.toUInt32 >>> ((2 : Int32) &&& 31).toUInt32).toInt32) % (3 : Int32)))]))
  refine gob (fun _ k => XS.isub X0.here hx rfl (hb hby at_10) rfl k) ?_
  show Go _ _ _ _ _ _ _ (s₁.setTop (mkF m 11 #[.val (.int p0), .val (.int p1), .val (.int x1), .unset, .unset, .unset, .unset] [(.int ((((p0.toUInt32 >>> ((2 : Int32) &&& 31).toUInt32).toInt32) % (3 : Int32)) - (1 : Int32)))]))
  refine gob (fun _ k => XS.istoreN X0.here hx rfl (hb hby at_11) rfl (l' := #[.val (.int p0), .val (.int p1), .val (.int x1), .val (.int ((((p0.toUInt32 >>> ((2 : Int32) &&& 31).toUInt32).toInt32) % (3 : Int32)) - (1 : Int32))), .unset, .unset, .unset]) rfl k) ?_
  show Go _ _ _ _ _ _ _ (s₁.setTop (mkF m 12 #[.val (.int p0), .val (.int p1), .val (.int x1), .val (.int ((((p0.toUInt32 >>> ((2 : Int32) &&& 31).toUInt32).toInt32) % (3 : Int32)) - (1 : Int32))), .unset, .unset, .unset] []))
  generalize hx2 : ((((p0.toUInt32 >>> ((2 : Int32) &&& 31).toUInt32).toInt32) % (3 : Int32)) - (1 : Int32)) = x2
  show Go _ _ _ _ _ _ _ (s₁.setTop (mkF m 12 #[.val (.int p0), .val (.int p1), .val (.int x1), .val (.int x2), .unset, .unset, .unset] []))
  refine gob (fun _ k => XS.iloadN X0.here hx rfl (hb hby at_12) rfl k) ?_
  show Go _ _ _ _ _ _ _ (s₁.setTop (mkF m 13 #[.val (.int p0), .val (.int p1), .val (.int x1), .val (.int x2), .unset, .unset, .unset] [(.int x1)]))
  have join55_7 : ∀ (T8 : State) (lj9 : List Loc) (v6 : Int32), Stand p l e room_1 s m #[(.int p0), (.int p1)] below meth c T8 lj9 0 0 → T8.heap = h0 → Fr n0 lj9 → (x1 = (0 : Int32) ∧ v6 = ((1 : Int32) + x2)) ∨ (¬ (x1 = (0 : Int32)) ∧ x1 = (1 : Int32) ∧ v6 = ((101 : Int32) + x2)) ∨ (¬ (x1 = (0 : Int32)) ∧ ¬ (x1 = (1 : Int32)) ∧ x1 = (2 : Int32) ∧ v6 = ((113 : Int32) + x2)) ∨ (¬ (x1 = (0 : Int32)) ∧ ¬ (x1 = (1 : Int32)) ∧ ¬ (x1 = (2 : Int32)) ∧ v6 = p1) → Go p e below s (Q0 Z p0 p1 w_VALUES k_V w_ETHERNET w_RAW_IP w_LINUX_COOKED h0 n0) 16 128 (T8.setTop (mkF m 55 #[.val (.int p0), .val (.int p1), .val (.int x1), .val (.int x2), .val (.int v6), .unset, .unset] [])) := by
    intro T8 lj9 v6 X10 e11 N12 hj13
    show Go _ _ _ _ _ _ _ (T8.setTop (mkF m 55 #[.val (.int p0), .val (.int p1), .val (.int x1), .val (.int x2), .val (.int v6), .unset, .unset] []))
    refine gob (fun _ k => XS.iload X10.here hx rfl (hb hby at_55) rfl k) ?_
    show Go _ _ _ _ _ _ _ (T8.setTop (mkF m 57 #[.val (.int p0), .val (.int p1), .val (.int x1), .val (.int x2), .val (.int v6), .unset, .unset] [(.int v6)]))
    by_cases hc57_14 : (1 : Int32) = v6
    · skip
      show Go _ _ _ _ _ _ _ (T8.setTop (mkF m 57 #[.val (.int p0), .val (.int p1), .val (.int x1), .val (.int x2), .val (.int v6), .unset, .unset] [(.int v6)]))
      obtain ⟨_, _, ⟨T15, L15, k15, n15⟩, -, X15, ⟨Lc15, hQ15, l15, y15, z15⟩, st15⟩ := Jvm.LawKit.callS X10 hx (y := (⟨"com/example/flomem/flomem/capture/LinkType", "numbered", "(I)Lcom/example/flomem/flomem/capture/LinkType;"⟩ : MethodName)) hown (mvT hZ (hw _ (List.mem_of_getElem? (i := 0) rfl))) (mvT hZ (hw _ (List.mem_of_getElem? (i := 1) rfl))) (mvT hZ (hw _ (List.mem_of_getElem? (i := 2) rfl))) (mvT hZ (hw _ (List.mem_of_getElem? (i := 3) rfl))) (by decide) (backOf (W := 0) (rm1E l Z a0 hw [] v6 w_VALUES k_V w_ETHERNET w_RAW_IP w_LINUX_COOKED h0 n0 Z0 S_VALUES V_VALUES E_VALUES F_ETHERNET F_RAW_IP F_LINUX_COOKED hc57_14) hZ (hw _ (List.mem_of_getElem? (i := 3) rfl)) (hw _ (List.mem_of_getElem? (i := 2) rfl)) (by decide) (by decide)) (g := (mkF m 57 #[.val (.int p0), .val (.int p1), .val (.int x1), .val (.int x2), .val (.int v6), .unset, .unset] [(.int v6)])) rfl (by rw [hml]; rfl) (argsL := [(.int v6)]) (rest := []) (lenOf pd_1 rfl) rfl (by show 2 * 0 + _ ≤ _; exact Nat.le_of_eq rfl) (hb hby at_57) (fun _ _ => ⟨rfl, e11, (by decide : 0 + 1 ≤ _), (by decide : 0 + 3 ≤ _)⟩)
      dsimp only [Pt.U, Pt.locs, Pt.cells, Pt.slots] at X15 l15 y15 z15 st15 hQ15
      subst l15 y15 z15
      obtain ⟨b16, rfl, Nq15, K15, hz17, F18, F19⟩ := hQ15
      have N15 := Fr.app N12 Nq15
      have n20 : w_VALUES ≠ b16 := Nat.ne_of_lt (Nat.lt_of_lt_of_le V_VALUES.lt hz17)
      have n21 : w_ETHERNET ≠ b16 := Nat.ne_of_lt (Nat.lt_of_lt_of_le F_ETHERNET.lt hz17)
      have n22 : w_RAW_IP ≠ b16 := Nat.ne_of_lt (Nat.lt_of_lt_of_le F_RAW_IP.lt hz17)
      have n23 : w_LINUX_COOKED ≠ b16 := Nat.ne_of_lt (Nat.lt_of_lt_of_le F_LINUX_COOKED.lt hz17)
      have g24 : n0 ≤ b16 := Nat.le_trans Z0 hz17
      have ns25 := (ns0 (h := h0))
      have z26 : n0 ≤ T15.heap.size := Nat.le_trans Z0 K15.1
      refine gob st15 ?_
      show Go _ _ _ _ _ _ _ (T15.setTop (mkF m 60 #[.val (.int p0), .val (.int p1), .val (.int x1), .val (.int x2), .val (.int v6), .unset, .unset] [(.ref w_ETHERNET)]))
      refine gob (fun _ k => XS.astore X15.here hx rfl (hb hby at_60) rfl rfl (l' := #[.val (.int p0), .val (.int p1), .val (.int x1), .val (.int x2), .val (.int v6), .val (.ref w_ETHERNET), .unset]) rfl k) ?_
      show Go _ _ _ _ _ _ _ (T15.setTop (mkF m 62 #[.val (.int p0), .val (.int p1), .val (.int x1), .val (.int x2), .val (.int v6), .val (.ref w_ETHERNET), .unset] []))
      refine gob (fun _ k => XS.iload X15.here hx rfl (hb hby at_62) rfl k) ?_
      show Go _ _ _ _ _ _ _ (T15.setTop (mkF m 64 #[.val (.int p0), .val (.int p1), .val (.int x1), .val (.int x2), .val (.int v6), .val (.ref w_ETHERNET), .unset] [(.int v6)]))
      have c28 := (own_staKeep S_ETHERNET K15 ns25)
      have c29 := (own_staKeep S_RAW_IP K15 ns25)
      have c30 := (own_staKeep S_LINUX_COOKED K15 ns25)
      obtain ⟨_, _, ⟨T27, L27, k27, n27⟩, -, X27, ⟨Lc27, hQ27, l27, y27, z27⟩, st27⟩ := Jvm.LawKit.callS X15 hx (y := (⟨"com/example/flomem/flomem/capture/LinkTypeNumberedPinLaw", "expectedFor", "(I)Lcom/example/flomem/flomem/capture/LinkType;"⟩ : MethodName)) hown (mvT hZ (hw _ (List.mem_of_getElem? (i := 24) rfl))) (mvT hZ (hw _ (List.mem_of_getElem? (i := 25) rfl))) (mvT hZ (hw _ (List.mem_of_getElem? (i := 26) rfl))) (mvT hZ (hw _ (List.mem_of_getElem? (i := 27) rfl))) (by decide) (backOf (W := 0) (rm3E l Z a0 hw [] v6 w_ETHERNET w_RAW_IP w_LINUX_COOKED T15.heap n0 z26 c28 c29 c30 hc57_14) hZ (hw _ (List.mem_of_getElem? (i := 27) rfl)) (hw _ (List.mem_of_getElem? (i := 26) rfl)) (by decide) (by decide)) (g := (mkF m 64 #[.val (.int p0), .val (.int p1), .val (.int x1), .val (.int x2), .val (.int v6), .val (.ref w_ETHERNET), .unset] [(.int v6)])) rfl (by rw [hml]; rfl) (argsL := [(.int v6)]) (rest := []) (lenOf pd_1 rfl) rfl (by show 2 * 0 + _ ≤ _; exact Nat.le_of_eq rfl) (hb hby at_64) (fun _ _ => ⟨rfl, (rfl : T15.heap = _), (by decide : 1 + 0 ≤ _), (by decide : 3 + 0 ≤ _)⟩)
      dsimp only [Pt.U, Pt.locs, Pt.cells, Pt.slots] at X27 l27 y27 z27 st27 hQ27
      subst l27 y27 z27
      obtain ⟨rfl, Nq27, K27⟩ := hQ27
      have N27 := Fr.app N15 Nq27
      have ns31 := (ns0 (h := T15.heap))
      have z32 : n0 ≤ T27.heap.size := Nat.le_trans z26 K27.1
      refine gob st27 ?_
      show Go _ _ _ _ _ _ _ (T27.setTop (mkF m 67 #[.val (.int p0), .val (.int p1), .val (.int x1), .val (.int x2), .val (.int v6), .val (.ref w_ETHERNET), .unset] [(.ref w_ETHERNET)]))
      refine gob (fun _ k => XS.astore X27.here hx rfl (hb hby at_67) rfl rfl (l' := #[.val (.int p0), .val (.int p1), .val (.int x1), .val (.int x2), .val (.int v6), .val (.ref w_ETHERNET), .val (.ref w_ETHERNET)]) rfl k) ?_
      show Go _ _ _ _ _ _ _ (T27.setTop (mkF m 69 #[.val (.int p0), .val (.int p1), .val (.int x1), .val (.int x2), .val (.int v6), .val (.ref w_ETHERNET), .val (.ref w_ETHERNET)] []))
      refine gob (fun _ k => XS.aload X27.here hx rfl (hb hby at_69) rfl rfl k) ?_
      show Go _ _ _ _ _ _ _ (T27.setTop (mkF m 71 #[.val (.int p0), .val (.int p1), .val (.int x1), .val (.int x2), .val (.int v6), .val (.ref w_ETHERNET), .val (.ref w_ETHERNET)] [(.ref w_ETHERNET)]))
      refine gob (fun _ k => XS.aload X27.here hx rfl (hb hby at_71) rfl rfl k) ?_
      show Go _ _ _ _ _ _ _ (T27.setTop (mkF m 73 #[.val (.int p0), .val (.int p1), .val (.int x1), .val (.int x2), .val (.int v6), .val (.ref w_ETHERNET), .val (.ref w_ETHERNET)] [(.ref w_ETHERNET), (.ref w_ETHERNET)]))
      refine gob (fun _ k => Jvm.RoadKit.acmp (g := (mkF m 73 #[.val (.int p0), .val (.int p1), .val (.int x1), .val (.int x2), .val (.int v6), .val (.ref w_ETHERNET), .val (.ref w_ETHERNET)] [(.ref w_ETHERNET), (.ref w_ETHERNET)])) X27 hx rfl rfl rfl (pc0 := 73) (pc' := 76) (same := true) rfl (hb hby at_73) rfl (decide_eq_true rfl) (by decide) (by decide) k) ?_
      show Go _ _ _ _ _ _ _ (T27.setTop (mkF m 76 #[.val (.int p0), .val (.int p1), .val (.int x1), .val (.int x2), .val (.int v6), .val (.ref w_ETHERNET), .val (.ref w_ETHERNET)] []))
      show Go _ _ _ _ _ _ _ (T27.setTop (mkF m 76 #[.val (.int p0), .val (.int p1), .val (.int x1), .val (.int x2), .val (.int v6), .val (.ref w_ETHERNET), .val (.ref w_ETHERNET)] []))
      refine gob (fun _ k => XS.iconst X27.here hx rfl (hb hby at_76) k) ?_
      show Go _ _ _ _ _ _ _ (T27.setTop (mkF m 77 #[.val (.int p0), .val (.int p1), .val (.int x1), .val (.int x2), .val (.int v6), .val (.ref w_ETHERNET), .val (.ref w_ETHERNET)] [(.int (1 : Int32))]))
      refine gob (fun _ k => XS.goto X27.here hx rfl (pc0 := 77) (pc' := 81) rfl (hb hby at_77) (by decide) (by decide) k) ?_
      show Go _ _ _ _ _ _ _ (T27.setTop (mkF m 81 #[.val (.int p0), .val (.int p1), .val (.int x1), .val (.int x2), .val (.int v6), .val (.ref w_ETHERNET), .val (.ref w_ETHERNET)] [(.int (1 : Int32))]))
      refine goZ X27 hx hlk (t := .boolean) Bd.returns (by simp) (hb hby at_81) (z' := (1 : Int32)) rfl ?_ (by decide) (by decide)
      show Q0 Z p0 p1 w_VALUES k_V w_ETHERNET w_RAW_IP w_LINUX_COOKED h0 n0 (some (.int (1 : Int32))) T27.heap _
      exact ⟨rfl, N27⟩
    · skip
      show Go _ _ _ _ _ _ _ (T8.setTop (mkF m 57 #[.val (.int p0), .val (.int p1), .val (.int x1), .val (.int x2), .val (.int v6), .unset, .unset] [(.int v6)]))
      by_cases hc57_33 : (101 : Int32) = v6
      · skip
        show Go _ _ _ _ _ _ _ (T8.setTop (mkF m 57 #[.val (.int p0), .val (.int p1), .val (.int x1), .val (.int x2), .val (.int v6), .unset, .unset] [(.int v6)]))
        obtain ⟨_, _, ⟨T34, L34, k34, n34⟩, -, X34, ⟨Lc34, hQ34, l34, y34, z34⟩, st34⟩ := Jvm.LawKit.callS X10 hx (y := (⟨"com/example/flomem/flomem/capture/LinkType", "numbered", "(I)Lcom/example/flomem/flomem/capture/LinkType;"⟩ : MethodName)) hown (mvT hZ (hw _ (List.mem_of_getElem? (i := 0) rfl))) (mvT hZ (hw _ (List.mem_of_getElem? (i := 1) rfl))) (mvT hZ (hw _ (List.mem_of_getElem? (i := 2) rfl))) (mvT hZ (hw _ (List.mem_of_getElem? (i := 3) rfl))) (by decide) (backOf (W := 0) (rm1R l Z a0 hw [] v6 w_VALUES k_V w_ETHERNET w_RAW_IP w_LINUX_COOKED h0 n0 Z0 S_VALUES V_VALUES E_VALUES F_ETHERNET F_RAW_IP F_LINUX_COOKED hc57_14 hc57_33) hZ (hw _ (List.mem_of_getElem? (i := 3) rfl)) (hw _ (List.mem_of_getElem? (i := 2) rfl)) (by decide) (by decide)) (g := (mkF m 57 #[.val (.int p0), .val (.int p1), .val (.int x1), .val (.int x2), .val (.int v6), .unset, .unset] [(.int v6)])) rfl (by rw [hml]; rfl) (argsL := [(.int v6)]) (rest := []) (lenOf pd_1 rfl) rfl (by show 2 * 0 + _ ≤ _; exact Nat.le_of_eq rfl) (hb hby at_57) (fun _ _ => ⟨rfl, e11, (by decide : 0 + 1 ≤ _), (by decide : 0 + 3 ≤ _)⟩)
        dsimp only [Pt.U, Pt.locs, Pt.cells, Pt.slots] at X34 l34 y34 z34 st34 hQ34
        subst l34 y34 z34
        obtain ⟨b35, rfl, Nq34, K34, hz36, F37, F38⟩ := hQ34
        have N34 := Fr.app N12 Nq34
        have n39 : w_VALUES ≠ b35 := Nat.ne_of_lt (Nat.lt_of_lt_of_le V_VALUES.lt hz36)
        have n40 : w_ETHERNET ≠ b35 := Nat.ne_of_lt (Nat.lt_of_lt_of_le F_ETHERNET.lt hz36)
        have n41 : w_RAW_IP ≠ b35 := Nat.ne_of_lt (Nat.lt_of_lt_of_le F_RAW_IP.lt hz36)
        have n42 : w_LINUX_COOKED ≠ b35 := Nat.ne_of_lt (Nat.lt_of_lt_of_le F_LINUX_COOKED.lt hz36)
        have g43 : n0 ≤ b35 := Nat.le_trans Z0 hz36
        have ns44 := (ns0 (h := h0))
        have z45 : n0 ≤ T34.heap.size := Nat.le_trans Z0 K34.1
        refine gob st34 ?_
        show Go _ _ _ _ _ _ _ (T34.setTop (mkF m 60 #[.val (.int p0), .val (.int p1), .val (.int x1), .val (.int x2), .val (.int v6), .unset, .unset] [(.ref w_RAW_IP)]))
        refine gob (fun _ k => XS.astore X34.here hx rfl (hb hby at_60) rfl rfl (l' := #[.val (.int p0), .val (.int p1), .val (.int x1), .val (.int x2), .val (.int v6), .val (.ref w_RAW_IP), .unset]) rfl k) ?_
        show Go _ _ _ _ _ _ _ (T34.setTop (mkF m 62 #[.val (.int p0), .val (.int p1), .val (.int x1), .val (.int x2), .val (.int v6), .val (.ref w_RAW_IP), .unset] []))
        refine gob (fun _ k => XS.iload X34.here hx rfl (hb hby at_62) rfl k) ?_
        show Go _ _ _ _ _ _ _ (T34.setTop (mkF m 64 #[.val (.int p0), .val (.int p1), .val (.int x1), .val (.int x2), .val (.int v6), .val (.ref w_RAW_IP), .unset] [(.int v6)]))
        have c47 := (own_staKeep S_ETHERNET K34 ns44)
        have c48 := (own_staKeep S_RAW_IP K34 ns44)
        have c49 := (own_staKeep S_LINUX_COOKED K34 ns44)
        obtain ⟨_, _, ⟨T46, L46, k46, n46⟩, -, X46, ⟨Lc46, hQ46, l46, y46, z46⟩, st46⟩ := Jvm.LawKit.callS X34 hx (y := (⟨"com/example/flomem/flomem/capture/LinkTypeNumberedPinLaw", "expectedFor", "(I)Lcom/example/flomem/flomem/capture/LinkType;"⟩ : MethodName)) hown (mvT hZ (hw _ (List.mem_of_getElem? (i := 24) rfl))) (mvT hZ (hw _ (List.mem_of_getElem? (i := 25) rfl))) (mvT hZ (hw _ (List.mem_of_getElem? (i := 26) rfl))) (mvT hZ (hw _ (List.mem_of_getElem? (i := 27) rfl))) (by decide) (backOf (W := 0) (rm3R l Z a0 hw [] v6 w_ETHERNET w_RAW_IP w_LINUX_COOKED T34.heap n0 z45 c47 c48 c49 hc57_14 hc57_33) hZ (hw _ (List.mem_of_getElem? (i := 27) rfl)) (hw _ (List.mem_of_getElem? (i := 26) rfl)) (by decide) (by decide)) (g := (mkF m 64 #[.val (.int p0), .val (.int p1), .val (.int x1), .val (.int x2), .val (.int v6), .val (.ref w_RAW_IP), .unset] [(.int v6)])) rfl (by rw [hml]; rfl) (argsL := [(.int v6)]) (rest := []) (lenOf pd_1 rfl) rfl (by show 2 * 0 + _ ≤ _; exact Nat.le_of_eq rfl) (hb hby at_64) (fun _ _ => ⟨rfl, (rfl : T34.heap = _), (by decide : 1 + 0 ≤ _), (by decide : 3 + 0 ≤ _)⟩)
        dsimp only [Pt.U, Pt.locs, Pt.cells, Pt.slots] at X46 l46 y46 z46 st46 hQ46
        subst l46 y46 z46
        obtain ⟨rfl, Nq46, K46⟩ := hQ46
        have N46 := Fr.app N34 Nq46
        have ns50 := (ns0 (h := T34.heap))
        have z51 : n0 ≤ T46.heap.size := Nat.le_trans z45 K46.1
        refine gob st46 ?_
        show Go _ _ _ _ _ _ _ (T46.setTop (mkF m 67 #[.val (.int p0), .val (.int p1), .val (.int x1), .val (.int x2), .val (.int v6), .val (.ref w_RAW_IP), .unset] [(.ref w_RAW_IP)]))
        refine gob (fun _ k => XS.astore X46.here hx rfl (hb hby at_67) rfl rfl (l' := #[.val (.int p0), .val (.int p1), .val (.int x1), .val (.int x2), .val (.int v6), .val (.ref w_RAW_IP), .val (.ref w_RAW_IP)]) rfl k) ?_
        show Go _ _ _ _ _ _ _ (T46.setTop (mkF m 69 #[.val (.int p0), .val (.int p1), .val (.int x1), .val (.int x2), .val (.int v6), .val (.ref w_RAW_IP), .val (.ref w_RAW_IP)] []))
        refine gob (fun _ k => XS.aload X46.here hx rfl (hb hby at_69) rfl rfl k) ?_
        show Go _ _ _ _ _ _ _ (T46.setTop (mkF m 71 #[.val (.int p0), .val (.int p1), .val (.int x1), .val (.int x2), .val (.int v6), .val (.ref w_RAW_IP), .val (.ref w_RAW_IP)] [(.ref w_RAW_IP)]))
        refine gob (fun _ k => XS.aload X46.here hx rfl (hb hby at_71) rfl rfl k) ?_
        show Go _ _ _ _ _ _ _ (T46.setTop (mkF m 73 #[.val (.int p0), .val (.int p1), .val (.int x1), .val (.int x2), .val (.int v6), .val (.ref w_RAW_IP), .val (.ref w_RAW_IP)] [(.ref w_RAW_IP), (.ref w_RAW_IP)]))
        refine gob (fun _ k => Jvm.RoadKit.acmp (g := (mkF m 73 #[.val (.int p0), .val (.int p1), .val (.int x1), .val (.int x2), .val (.int v6), .val (.ref w_RAW_IP), .val (.ref w_RAW_IP)] [(.ref w_RAW_IP), (.ref w_RAW_IP)])) X46 hx rfl rfl rfl (pc0 := 73) (pc' := 76) (same := true) rfl (hb hby at_73) rfl (decide_eq_true rfl) (by decide) (by decide) k) ?_
        show Go _ _ _ _ _ _ _ (T46.setTop (mkF m 76 #[.val (.int p0), .val (.int p1), .val (.int x1), .val (.int x2), .val (.int v6), .val (.ref w_RAW_IP), .val (.ref w_RAW_IP)] []))
        show Go _ _ _ _ _ _ _ (T46.setTop (mkF m 76 #[.val (.int p0), .val (.int p1), .val (.int x1), .val (.int x2), .val (.int v6), .val (.ref w_RAW_IP), .val (.ref w_RAW_IP)] []))
        refine gob (fun _ k => XS.iconst X46.here hx rfl (hb hby at_76) k) ?_
        show Go _ _ _ _ _ _ _ (T46.setTop (mkF m 77 #[.val (.int p0), .val (.int p1), .val (.int x1), .val (.int x2), .val (.int v6), .val (.ref w_RAW_IP), .val (.ref w_RAW_IP)] [(.int (1 : Int32))]))
        refine gob (fun _ k => XS.goto X46.here hx rfl (pc0 := 77) (pc' := 81) rfl (hb hby at_77) (by decide) (by decide) k) ?_
        show Go _ _ _ _ _ _ _ (T46.setTop (mkF m 81 #[.val (.int p0), .val (.int p1), .val (.int x1), .val (.int x2), .val (.int v6), .val (.ref w_RAW_IP), .val (.ref w_RAW_IP)] [(.int (1 : Int32))]))
        refine goZ X46 hx hlk (t := .boolean) Bd.returns (by simp) (hb hby at_81) (z' := (1 : Int32)) rfl ?_ (by decide) (by decide)
        show Q0 Z p0 p1 w_VALUES k_V w_ETHERNET w_RAW_IP w_LINUX_COOKED h0 n0 (some (.int (1 : Int32))) T46.heap _
        exact ⟨rfl, N46⟩
      · skip
        show Go _ _ _ _ _ _ _ (T8.setTop (mkF m 57 #[.val (.int p0), .val (.int p1), .val (.int x1), .val (.int x2), .val (.int v6), .unset, .unset] [(.int v6)]))
        by_cases hc57_52 : (113 : Int32) = v6
        · skip
          show Go _ _ _ _ _ _ _ (T8.setTop (mkF m 57 #[.val (.int p0), .val (.int p1), .val (.int x1), .val (.int x2), .val (.int v6), .unset, .unset] [(.int v6)]))
          obtain ⟨_, _, ⟨T53, L53, k53, n53⟩, -, X53, ⟨Lc53, hQ53, l53, y53, z53⟩, st53⟩ := Jvm.LawKit.callS X10 hx (y := (⟨"com/example/flomem/flomem/capture/LinkType", "numbered", "(I)Lcom/example/flomem/flomem/capture/LinkType;"⟩ : MethodName)) hown (mvT hZ (hw _ (List.mem_of_getElem? (i := 0) rfl))) (mvT hZ (hw _ (List.mem_of_getElem? (i := 1) rfl))) (mvT hZ (hw _ (List.mem_of_getElem? (i := 2) rfl))) (mvT hZ (hw _ (List.mem_of_getElem? (i := 3) rfl))) (by decide) (backOf (W := 0) (rm1L l Z a0 hw [] v6 w_VALUES k_V w_ETHERNET w_RAW_IP w_LINUX_COOKED h0 n0 Z0 S_VALUES V_VALUES E_VALUES F_ETHERNET F_RAW_IP F_LINUX_COOKED hc57_14 hc57_33 hc57_52) hZ (hw _ (List.mem_of_getElem? (i := 3) rfl)) (hw _ (List.mem_of_getElem? (i := 2) rfl)) (by decide) (by decide)) (g := (mkF m 57 #[.val (.int p0), .val (.int p1), .val (.int x1), .val (.int x2), .val (.int v6), .unset, .unset] [(.int v6)])) rfl (by rw [hml]; rfl) (argsL := [(.int v6)]) (rest := []) (lenOf pd_1 rfl) rfl (by show 2 * 0 + _ ≤ _; exact Nat.le_of_eq rfl) (hb hby at_57) (fun _ _ => ⟨rfl, e11, (by decide : 0 + 1 ≤ _), (by decide : 0 + 3 ≤ _)⟩)
          dsimp only [Pt.U, Pt.locs, Pt.cells, Pt.slots] at X53 l53 y53 z53 st53 hQ53
          subst l53 y53 z53
          obtain ⟨b54, rfl, Nq53, K53, hz55, F56, F57⟩ := hQ53
          have N53 := Fr.app N12 Nq53
          have n58 : w_VALUES ≠ b54 := Nat.ne_of_lt (Nat.lt_of_lt_of_le V_VALUES.lt hz55)
          have n59 : w_ETHERNET ≠ b54 := Nat.ne_of_lt (Nat.lt_of_lt_of_le F_ETHERNET.lt hz55)
          have n60 : w_RAW_IP ≠ b54 := Nat.ne_of_lt (Nat.lt_of_lt_of_le F_RAW_IP.lt hz55)
          have n61 : w_LINUX_COOKED ≠ b54 := Nat.ne_of_lt (Nat.lt_of_lt_of_le F_LINUX_COOKED.lt hz55)
          have g62 : n0 ≤ b54 := Nat.le_trans Z0 hz55
          have ns63 := (ns0 (h := h0))
          have z64 : n0 ≤ T53.heap.size := Nat.le_trans Z0 K53.1
          refine gob st53 ?_
          show Go _ _ _ _ _ _ _ (T53.setTop (mkF m 60 #[.val (.int p0), .val (.int p1), .val (.int x1), .val (.int x2), .val (.int v6), .unset, .unset] [(.ref w_LINUX_COOKED)]))
          refine gob (fun _ k => XS.astore X53.here hx rfl (hb hby at_60) rfl rfl (l' := #[.val (.int p0), .val (.int p1), .val (.int x1), .val (.int x2), .val (.int v6), .val (.ref w_LINUX_COOKED), .unset]) rfl k) ?_
          show Go _ _ _ _ _ _ _ (T53.setTop (mkF m 62 #[.val (.int p0), .val (.int p1), .val (.int x1), .val (.int x2), .val (.int v6), .val (.ref w_LINUX_COOKED), .unset] []))
          refine gob (fun _ k => XS.iload X53.here hx rfl (hb hby at_62) rfl k) ?_
          show Go _ _ _ _ _ _ _ (T53.setTop (mkF m 64 #[.val (.int p0), .val (.int p1), .val (.int x1), .val (.int x2), .val (.int v6), .val (.ref w_LINUX_COOKED), .unset] [(.int v6)]))
          have c66 := (own_staKeep S_ETHERNET K53 ns63)
          have c67 := (own_staKeep S_RAW_IP K53 ns63)
          have c68 := (own_staKeep S_LINUX_COOKED K53 ns63)
          obtain ⟨_, _, ⟨T65, L65, k65, n65⟩, -, X65, ⟨Lc65, hQ65, l65, y65, z65⟩, st65⟩ := Jvm.LawKit.callS X53 hx (y := (⟨"com/example/flomem/flomem/capture/LinkTypeNumberedPinLaw", "expectedFor", "(I)Lcom/example/flomem/flomem/capture/LinkType;"⟩ : MethodName)) hown (mvT hZ (hw _ (List.mem_of_getElem? (i := 24) rfl))) (mvT hZ (hw _ (List.mem_of_getElem? (i := 25) rfl))) (mvT hZ (hw _ (List.mem_of_getElem? (i := 26) rfl))) (mvT hZ (hw _ (List.mem_of_getElem? (i := 27) rfl))) (by decide) (backOf (W := 0) (rm3L l Z a0 hw [] v6 w_ETHERNET w_RAW_IP w_LINUX_COOKED T53.heap n0 z64 c66 c67 c68 hc57_14 hc57_33 hc57_52) hZ (hw _ (List.mem_of_getElem? (i := 27) rfl)) (hw _ (List.mem_of_getElem? (i := 26) rfl)) (by decide) (by decide)) (g := (mkF m 64 #[.val (.int p0), .val (.int p1), .val (.int x1), .val (.int x2), .val (.int v6), .val (.ref w_LINUX_COOKED), .unset] [(.int v6)])) rfl (by rw [hml]; rfl) (argsL := [(.int v6)]) (rest := []) (lenOf pd_1 rfl) rfl (by show 2 * 0 + _ ≤ _; exact Nat.le_of_eq rfl) (hb hby at_64) (fun _ _ => ⟨rfl, (rfl : T53.heap = _), (by decide : 1 + 0 ≤ _), (by decide : 3 + 0 ≤ _)⟩)
          dsimp only [Pt.U, Pt.locs, Pt.cells, Pt.slots] at X65 l65 y65 z65 st65 hQ65
          subst l65 y65 z65
          obtain ⟨rfl, Nq65, K65⟩ := hQ65
          have N65 := Fr.app N53 Nq65
          have ns69 := (ns0 (h := T53.heap))
          have z70 : n0 ≤ T65.heap.size := Nat.le_trans z64 K65.1
          refine gob st65 ?_
          show Go _ _ _ _ _ _ _ (T65.setTop (mkF m 67 #[.val (.int p0), .val (.int p1), .val (.int x1), .val (.int x2), .val (.int v6), .val (.ref w_LINUX_COOKED), .unset] [(.ref w_LINUX_COOKED)]))
          refine gob (fun _ k => XS.astore X65.here hx rfl (hb hby at_67) rfl rfl (l' := #[.val (.int p0), .val (.int p1), .val (.int x1), .val (.int x2), .val (.int v6), .val (.ref w_LINUX_COOKED), .val (.ref w_LINUX_COOKED)]) rfl k) ?_
          show Go _ _ _ _ _ _ _ (T65.setTop (mkF m 69 #[.val (.int p0), .val (.int p1), .val (.int x1), .val (.int x2), .val (.int v6), .val (.ref w_LINUX_COOKED), .val (.ref w_LINUX_COOKED)] []))
          refine gob (fun _ k => XS.aload X65.here hx rfl (hb hby at_69) rfl rfl k) ?_
          show Go _ _ _ _ _ _ _ (T65.setTop (mkF m 71 #[.val (.int p0), .val (.int p1), .val (.int x1), .val (.int x2), .val (.int v6), .val (.ref w_LINUX_COOKED), .val (.ref w_LINUX_COOKED)] [(.ref w_LINUX_COOKED)]))
          refine gob (fun _ k => XS.aload X65.here hx rfl (hb hby at_71) rfl rfl k) ?_
          show Go _ _ _ _ _ _ _ (T65.setTop (mkF m 73 #[.val (.int p0), .val (.int p1), .val (.int x1), .val (.int x2), .val (.int v6), .val (.ref w_LINUX_COOKED), .val (.ref w_LINUX_COOKED)] [(.ref w_LINUX_COOKED), (.ref w_LINUX_COOKED)]))
          refine gob (fun _ k => Jvm.RoadKit.acmp (g := (mkF m 73 #[.val (.int p0), .val (.int p1), .val (.int x1), .val (.int x2), .val (.int v6), .val (.ref w_LINUX_COOKED), .val (.ref w_LINUX_COOKED)] [(.ref w_LINUX_COOKED), (.ref w_LINUX_COOKED)])) X65 hx rfl rfl rfl (pc0 := 73) (pc' := 76) (same := true) rfl (hb hby at_73) rfl (decide_eq_true rfl) (by decide) (by decide) k) ?_
          show Go _ _ _ _ _ _ _ (T65.setTop (mkF m 76 #[.val (.int p0), .val (.int p1), .val (.int x1), .val (.int x2), .val (.int v6), .val (.ref w_LINUX_COOKED), .val (.ref w_LINUX_COOKED)] []))
          show Go _ _ _ _ _ _ _ (T65.setTop (mkF m 76 #[.val (.int p0), .val (.int p1), .val (.int x1), .val (.int x2), .val (.int v6), .val (.ref w_LINUX_COOKED), .val (.ref w_LINUX_COOKED)] []))
          refine gob (fun _ k => XS.iconst X65.here hx rfl (hb hby at_76) k) ?_
          show Go _ _ _ _ _ _ _ (T65.setTop (mkF m 77 #[.val (.int p0), .val (.int p1), .val (.int x1), .val (.int x2), .val (.int v6), .val (.ref w_LINUX_COOKED), .val (.ref w_LINUX_COOKED)] [(.int (1 : Int32))]))
          refine gob (fun _ k => XS.goto X65.here hx rfl (pc0 := 77) (pc' := 81) rfl (hb hby at_77) (by decide) (by decide) k) ?_
          show Go _ _ _ _ _ _ _ (T65.setTop (mkF m 81 #[.val (.int p0), .val (.int p1), .val (.int x1), .val (.int x2), .val (.int v6), .val (.ref w_LINUX_COOKED), .val (.ref w_LINUX_COOKED)] [(.int (1 : Int32))]))
          refine goZ X65 hx hlk (t := .boolean) Bd.returns (by simp) (hb hby at_81) (z' := (1 : Int32)) rfl ?_ (by decide) (by decide)
          show Q0 Z p0 p1 w_VALUES k_V w_ETHERNET w_RAW_IP w_LINUX_COOKED h0 n0 (some (.int (1 : Int32))) T65.heap _
          exact ⟨rfl, N65⟩
        · skip
          show Go _ _ _ _ _ _ _ (T8.setTop (mkF m 57 #[.val (.int p0), .val (.int p1), .val (.int x1), .val (.int x2), .val (.int v6), .unset, .unset] [(.int v6)]))
          obtain ⟨_, _, ⟨T71, L71, k71, n71⟩, -, X71, ⟨Lc71, hQ71, l71, y71, z71⟩, st71⟩ := Jvm.LawKit.callS X10 hx (y := (⟨"com/example/flomem/flomem/capture/LinkType", "numbered", "(I)Lcom/example/flomem/flomem/capture/LinkType;"⟩ : MethodName)) hown (mvT hZ (hw _ (List.mem_of_getElem? (i := 0) rfl))) (mvT hZ (hw _ (List.mem_of_getElem? (i := 1) rfl))) (mvT hZ (hw _ (List.mem_of_getElem? (i := 2) rfl))) (mvT hZ (hw _ (List.mem_of_getElem? (i := 3) rfl))) (by decide) (backOf (W := 0) (rm1N l Z a0 hw [] v6 w_VALUES k_V w_ETHERNET w_RAW_IP w_LINUX_COOKED h0 n0 Z0 S_VALUES V_VALUES E_VALUES F_ETHERNET F_RAW_IP F_LINUX_COOKED hc57_14 hc57_33 hc57_52) hZ (hw _ (List.mem_of_getElem? (i := 3) rfl)) (hw _ (List.mem_of_getElem? (i := 2) rfl)) (by decide) (by decide)) (g := (mkF m 57 #[.val (.int p0), .val (.int p1), .val (.int x1), .val (.int x2), .val (.int v6), .unset, .unset] [(.int v6)])) rfl (by rw [hml]; rfl) (argsL := [(.int v6)]) (rest := []) (lenOf pd_1 rfl) rfl (by show 2 * 0 + _ ≤ _; exact Nat.le_of_eq rfl) (hb hby at_57) (fun _ _ => ⟨rfl, e11, (by decide : 0 + 1 ≤ _), (by decide : 0 + 3 ≤ _)⟩)
          dsimp only [Pt.U, Pt.locs, Pt.cells, Pt.slots] at X71 l71 y71 z71 st71 hQ71
          subst l71 y71 z71
          obtain ⟨b72, rfl, Nq71, K71, hz73, F74, F75⟩ := hQ71
          have N71 := Fr.app N12 Nq71
          have n76 : w_VALUES ≠ b72 := Nat.ne_of_lt (Nat.lt_of_lt_of_le V_VALUES.lt hz73)
          have n77 : w_ETHERNET ≠ b72 := Nat.ne_of_lt (Nat.lt_of_lt_of_le F_ETHERNET.lt hz73)
          have n78 : w_RAW_IP ≠ b72 := Nat.ne_of_lt (Nat.lt_of_lt_of_le F_RAW_IP.lt hz73)
          have n79 : w_LINUX_COOKED ≠ b72 := Nat.ne_of_lt (Nat.lt_of_lt_of_le F_LINUX_COOKED.lt hz73)
          have g80 : n0 ≤ b72 := Nat.le_trans Z0 hz73
          have ns81 := (ns0 (h := h0))
          have z82 : n0 ≤ T71.heap.size := Nat.le_trans Z0 K71.1
          refine gob st71 ?_
          show Go _ _ _ _ _ _ _ (T71.setTop (mkF m 60 #[.val (.int p0), .val (.int p1), .val (.int x1), .val (.int x2), .val (.int v6), .unset, .unset] [.null]))
          refine gob (fun _ k => XS.astore X71.here hx rfl (hb hby at_60) rfl rfl (l' := #[.val (.int p0), .val (.int p1), .val (.int x1), .val (.int x2), .val (.int v6), .val .null, .unset]) rfl k) ?_
          show Go _ _ _ _ _ _ _ (T71.setTop (mkF m 62 #[.val (.int p0), .val (.int p1), .val (.int x1), .val (.int x2), .val (.int v6), .val .null, .unset] []))
          refine gob (fun _ k => XS.iload X71.here hx rfl (hb hby at_62) rfl k) ?_
          show Go _ _ _ _ _ _ _ (T71.setTop (mkF m 64 #[.val (.int p0), .val (.int p1), .val (.int x1), .val (.int x2), .val (.int v6), .val .null, .unset] [(.int v6)]))
          have c84 := (own_staKeep S_ETHERNET K71 ns81)
          have c85 := (own_staKeep S_RAW_IP K71 ns81)
          have c86 := (own_staKeep S_LINUX_COOKED K71 ns81)
          obtain ⟨_, _, ⟨T83, L83, k83, n83⟩, -, X83, ⟨Lc83, hQ83, l83, y83, z83⟩, st83⟩ := Jvm.LawKit.callS X71 hx (y := (⟨"com/example/flomem/flomem/capture/LinkTypeNumberedPinLaw", "expectedFor", "(I)Lcom/example/flomem/flomem/capture/LinkType;"⟩ : MethodName)) hown (mvT hZ (hw _ (List.mem_of_getElem? (i := 24) rfl))) (mvT hZ (hw _ (List.mem_of_getElem? (i := 25) rfl))) (mvT hZ (hw _ (List.mem_of_getElem? (i := 26) rfl))) (mvT hZ (hw _ (List.mem_of_getElem? (i := 27) rfl))) (by decide) (backOf (W := 0) (rm3N l Z a0 hw [] v6 w_ETHERNET w_RAW_IP w_LINUX_COOKED T71.heap n0 z82 c84 c85 c86 hc57_14 hc57_33 hc57_52) hZ (hw _ (List.mem_of_getElem? (i := 27) rfl)) (hw _ (List.mem_of_getElem? (i := 26) rfl)) (by decide) (by decide)) (g := (mkF m 64 #[.val (.int p0), .val (.int p1), .val (.int x1), .val (.int x2), .val (.int v6), .val .null, .unset] [(.int v6)])) rfl (by rw [hml]; rfl) (argsL := [(.int v6)]) (rest := []) (lenOf pd_1 rfl) rfl (by show 2 * 0 + _ ≤ _; exact Nat.le_of_eq rfl) (hb hby at_64) (fun _ _ => ⟨rfl, (rfl : T71.heap = _), (by decide : 1 + 0 ≤ _), (by decide : 3 + 0 ≤ _)⟩)
          dsimp only [Pt.U, Pt.locs, Pt.cells, Pt.slots] at X83 l83 y83 z83 st83 hQ83
          subst l83 y83 z83
          obtain ⟨rfl, Nq83, K83⟩ := hQ83
          have N83 := Fr.app N71 Nq83
          have ns87 := (ns0 (h := T71.heap))
          have z88 : n0 ≤ T83.heap.size := Nat.le_trans z82 K83.1
          refine gob st83 ?_
          show Go _ _ _ _ _ _ _ (T83.setTop (mkF m 67 #[.val (.int p0), .val (.int p1), .val (.int x1), .val (.int x2), .val (.int v6), .val .null, .unset] [.null]))
          refine gob (fun _ k => XS.astore X83.here hx rfl (hb hby at_67) rfl rfl (l' := #[.val (.int p0), .val (.int p1), .val (.int x1), .val (.int x2), .val (.int v6), .val .null, .val .null]) rfl k) ?_
          show Go _ _ _ _ _ _ _ (T83.setTop (mkF m 69 #[.val (.int p0), .val (.int p1), .val (.int x1), .val (.int x2), .val (.int v6), .val .null, .val .null] []))
          refine gob (fun _ k => XS.aload X83.here hx rfl (hb hby at_69) rfl rfl k) ?_
          show Go _ _ _ _ _ _ _ (T83.setTop (mkF m 71 #[.val (.int p0), .val (.int p1), .val (.int x1), .val (.int x2), .val (.int v6), .val .null, .val .null] [.null]))
          refine gob (fun _ k => XS.aload X83.here hx rfl (hb hby at_71) rfl rfl k) ?_
          show Go _ _ _ _ _ _ _ (T83.setTop (mkF m 73 #[.val (.int p0), .val (.int p1), .val (.int x1), .val (.int x2), .val (.int v6), .val .null, .val .null] [.null, .null]))
          refine gob (fun _ k => Jvm.RoadKit.acmp (g := (mkF m 73 #[.val (.int p0), .val (.int p1), .val (.int x1), .val (.int x2), .val (.int v6), .val .null, .val .null] [.null, .null])) X83 hx rfl rfl rfl (pc0 := 73) (pc' := 76) (same := true) rfl (hb hby at_73) rfl (decide_eq_true rfl) (by decide) (by decide) k) ?_
          show Go _ _ _ _ _ _ _ (T83.setTop (mkF m 76 #[.val (.int p0), .val (.int p1), .val (.int x1), .val (.int x2), .val (.int v6), .val .null, .val .null] []))
          show Go _ _ _ _ _ _ _ (T83.setTop (mkF m 76 #[.val (.int p0), .val (.int p1), .val (.int x1), .val (.int x2), .val (.int v6), .val .null, .val .null] []))
          refine gob (fun _ k => XS.iconst X83.here hx rfl (hb hby at_76) k) ?_
          show Go _ _ _ _ _ _ _ (T83.setTop (mkF m 77 #[.val (.int p0), .val (.int p1), .val (.int x1), .val (.int x2), .val (.int v6), .val .null, .val .null] [(.int (1 : Int32))]))
          refine gob (fun _ k => XS.goto X83.here hx rfl (pc0 := 77) (pc' := 81) rfl (hb hby at_77) (by decide) (by decide) k) ?_
          show Go _ _ _ _ _ _ _ (T83.setTop (mkF m 81 #[.val (.int p0), .val (.int p1), .val (.int x1), .val (.int x2), .val (.int v6), .val .null, .val .null] [(.int (1 : Int32))]))
          refine goZ X83 hx hlk (t := .boolean) Bd.returns (by simp) (hb hby at_81) (z' := (1 : Int32)) rfl ?_ (by decide) (by decide)
          show Q0 Z p0 p1 w_VALUES k_V w_ETHERNET w_RAW_IP w_LINUX_COOKED h0 n0 (some (.int (1 : Int32))) T83.heap _
          exact ⟨rfl, N83⟩
  by_cases hc13_89 : x1 = (0 : Int32)
  · skip
    refine gob (fun _ k => XS.ifNo X0.here hx rfl (hb hby at_13) rfl ((if0 _ _).trans (teq hc13_89).2) k) ?_
    show Go _ _ _ _ _ _ _ (s₁.setTop (mkF m 16 #[.val (.int p0), .val (.int p1), .val (.int x1), .val (.int x2), .unset, .unset, .unset] []))
    refine gob (fun _ k => XS.iconst X0.here hx rfl (hb hby at_16) k) ?_
    show Go _ _ _ _ _ _ _ (s₁.setTop (mkF m 17 #[.val (.int p0), .val (.int p1), .val (.int x1), .val (.int x2), .unset, .unset, .unset] [(.int (1 : Int32))]))
    refine gob (fun _ k => XS.iloadN X0.here hx rfl (hb hby at_17) rfl k) ?_
    show Go _ _ _ _ _ _ _ (s₁.setTop (mkF m 18 #[.val (.int p0), .val (.int p1), .val (.int x1), .val (.int x2), .unset, .unset, .unset] [(.int x2), (.int (1 : Int32))]))
    refine gob (fun _ k => XS.iadd X0.here hx rfl (hb hby at_18) rfl k) ?_
    show Go _ _ _ _ _ _ _ (s₁.setTop (mkF m 19 #[.val (.int p0), .val (.int p1), .val (.int x1), .val (.int x2), .unset, .unset, .unset] [(.int ((1 : Int32) + x2))]))
    refine gob (fun _ k => XS.istore X0.here hx rfl (hb hby at_19) rfl (l' := #[.val (.int p0), .val (.int p1), .val (.int x1), .val (.int x2), .val (.int ((1 : Int32) + x2)), .unset, .unset]) rfl k) ?_
    show Go _ _ _ _ _ _ _ (s₁.setTop (mkF m 21 #[.val (.int p0), .val (.int p1), .val (.int x1), .val (.int x2), .val (.int ((1 : Int32) + x2)), .unset, .unset] []))
    refine gob (fun _ k => XS.goto X0.here hx rfl (pc0 := 21) (pc' := 55) rfl (hb hby at_21) (by decide) (by decide) k) ?_
    show Go _ _ _ _ _ _ _ (s₁.setTop (mkF m 55 #[.val (.int p0), .val (.int p1), .val (.int x1), .val (.int x2), .val (.int ((1 : Int32) + x2)), .unset, .unset] []))
    exact join55_7 _ _ (((1 : Int32) + x2)) X0 e0 N0 (Or.inl ⟨hc13_89, rfl⟩)
  · skip
    refine gob (fun _ k => XS.ifYes X0.here hx rfl (pc0 := 13) (pc' := 24) rfl (hb hby at_13) rfl ((if0 _ _).trans (feq hc13_89).2) (by decide) (by decide) k) ?_
    show Go _ _ _ _ _ _ _ (s₁.setTop (mkF m 24 #[.val (.int p0), .val (.int p1), .val (.int x1), .val (.int x2), .unset, .unset, .unset] []))
    refine gob (fun _ k => XS.iloadN X0.here hx rfl (hb hby at_24) rfl k) ?_
    show Go _ _ _ _ _ _ _ (s₁.setTop (mkF m 25 #[.val (.int p0), .val (.int p1), .val (.int x1), .val (.int x2), .unset, .unset, .unset] [(.int x1)]))
    refine gob (fun _ k => XS.iconst X0.here hx rfl (hb hby at_25) k) ?_
    show Go _ _ _ _ _ _ _ (s₁.setTop (mkF m 26 #[.val (.int p0), .val (.int p1), .val (.int x1), .val (.int x2), .unset, .unset, .unset] [(.int (1 : Int32)), (.int x1)]))
    by_cases hc26_90 : x1 = (1 : Int32)
    · skip
      refine gob (fun _ k => XS.icmpNo X0.here hx rfl (hb hby at_26) rfl (teq hc26_90).2 k) ?_
      show Go _ _ _ _ _ _ _ (s₁.setTop (mkF m 29 #[.val (.int p0), .val (.int p1), .val (.int x1), .val (.int x2), .unset, .unset, .unset] []))
      refine gob (fun _ k => XS.bipush X0.here hx rfl (hb hby at_29) k) ?_
      show Go _ _ _ _ _ _ _ (s₁.setTop (mkF m 31 #[.val (.int p0), .val (.int p1), .val (.int x1), .val (.int x2), .unset, .unset, .unset] [(.int (101 : Int32))]))
      refine gob (fun _ k => XS.iloadN X0.here hx rfl (hb hby at_31) rfl k) ?_
      show Go _ _ _ _ _ _ _ (s₁.setTop (mkF m 32 #[.val (.int p0), .val (.int p1), .val (.int x1), .val (.int x2), .unset, .unset, .unset] [(.int x2), (.int (101 : Int32))]))
      refine gob (fun _ k => XS.iadd X0.here hx rfl (hb hby at_32) rfl k) ?_
      show Go _ _ _ _ _ _ _ (s₁.setTop (mkF m 33 #[.val (.int p0), .val (.int p1), .val (.int x1), .val (.int x2), .unset, .unset, .unset] [(.int ((101 : Int32) + x2))]))
      refine gob (fun _ k => XS.istore X0.here hx rfl (hb hby at_33) rfl (l' := #[.val (.int p0), .val (.int p1), .val (.int x1), .val (.int x2), .val (.int ((101 : Int32) + x2)), .unset, .unset]) rfl k) ?_
      show Go _ _ _ _ _ _ _ (s₁.setTop (mkF m 35 #[.val (.int p0), .val (.int p1), .val (.int x1), .val (.int x2), .val (.int ((101 : Int32) + x2)), .unset, .unset] []))
      refine gob (fun _ k => XS.goto X0.here hx rfl (pc0 := 35) (pc' := 55) rfl (hb hby at_35) (by decide) (by decide) k) ?_
      show Go _ _ _ _ _ _ _ (s₁.setTop (mkF m 55 #[.val (.int p0), .val (.int p1), .val (.int x1), .val (.int x2), .val (.int ((101 : Int32) + x2)), .unset, .unset] []))
      exact join55_7 _ _ (((101 : Int32) + x2)) X0 e0 N0 (Or.inr (Or.inl ⟨hc13_89, hc26_90, rfl⟩))
    · skip
      refine gob (fun _ k => XS.icmpYes X0.here hx rfl (pc0 := 26) (pc' := 38) rfl (hb hby at_26) rfl (feq hc26_90).2 (by decide) (by decide) k) ?_
      show Go _ _ _ _ _ _ _ (s₁.setTop (mkF m 38 #[.val (.int p0), .val (.int p1), .val (.int x1), .val (.int x2), .unset, .unset, .unset] []))
      refine gob (fun _ k => XS.iloadN X0.here hx rfl (hb hby at_38) rfl k) ?_
      show Go _ _ _ _ _ _ _ (s₁.setTop (mkF m 39 #[.val (.int p0), .val (.int p1), .val (.int x1), .val (.int x2), .unset, .unset, .unset] [(.int x1)]))
      refine gob (fun _ k => XS.iconst X0.here hx rfl (hb hby at_39) k) ?_
      show Go _ _ _ _ _ _ _ (s₁.setTop (mkF m 40 #[.val (.int p0), .val (.int p1), .val (.int x1), .val (.int x2), .unset, .unset, .unset] [(.int (2 : Int32)), (.int x1)]))
      by_cases hc40_91 : x1 = (2 : Int32)
      · skip
        refine gob (fun _ k => XS.icmpNo X0.here hx rfl (hb hby at_40) rfl (teq hc40_91).2 k) ?_
        show Go _ _ _ _ _ _ _ (s₁.setTop (mkF m 43 #[.val (.int p0), .val (.int p1), .val (.int x1), .val (.int x2), .unset, .unset, .unset] []))
        refine gob (fun _ k => XS.bipush X0.here hx rfl (hb hby at_43) k) ?_
        show Go _ _ _ _ _ _ _ (s₁.setTop (mkF m 45 #[.val (.int p0), .val (.int p1), .val (.int x1), .val (.int x2), .unset, .unset, .unset] [(.int (113 : Int32))]))
        refine gob (fun _ k => XS.iloadN X0.here hx rfl (hb hby at_45) rfl k) ?_
        show Go _ _ _ _ _ _ _ (s₁.setTop (mkF m 46 #[.val (.int p0), .val (.int p1), .val (.int x1), .val (.int x2), .unset, .unset, .unset] [(.int x2), (.int (113 : Int32))]))
        refine gob (fun _ k => XS.iadd X0.here hx rfl (hb hby at_46) rfl k) ?_
        show Go _ _ _ _ _ _ _ (s₁.setTop (mkF m 47 #[.val (.int p0), .val (.int p1), .val (.int x1), .val (.int x2), .unset, .unset, .unset] [(.int ((113 : Int32) + x2))]))
        refine gob (fun _ k => XS.istore X0.here hx rfl (hb hby at_47) rfl (l' := #[.val (.int p0), .val (.int p1), .val (.int x1), .val (.int x2), .val (.int ((113 : Int32) + x2)), .unset, .unset]) rfl k) ?_
        show Go _ _ _ _ _ _ _ (s₁.setTop (mkF m 49 #[.val (.int p0), .val (.int p1), .val (.int x1), .val (.int x2), .val (.int ((113 : Int32) + x2)), .unset, .unset] []))
        refine gob (fun _ k => XS.goto X0.here hx rfl (pc0 := 49) (pc' := 55) rfl (hb hby at_49) (by decide) (by decide) k) ?_
        show Go _ _ _ _ _ _ _ (s₁.setTop (mkF m 55 #[.val (.int p0), .val (.int p1), .val (.int x1), .val (.int x2), .val (.int ((113 : Int32) + x2)), .unset, .unset] []))
        exact join55_7 _ _ (((113 : Int32) + x2)) X0 e0 N0 (Or.inr (Or.inr (Or.inl ⟨hc13_89, hc26_90, hc40_91, rfl⟩)))
      · skip
        refine gob (fun _ k => XS.icmpYes X0.here hx rfl (pc0 := 40) (pc' := 52) rfl (hb hby at_40) rfl (feq hc40_91).2 (by decide) (by decide) k) ?_
        show Go _ _ _ _ _ _ _ (s₁.setTop (mkF m 52 #[.val (.int p0), .val (.int p1), .val (.int x1), .val (.int x2), .unset, .unset, .unset] []))
        refine gob (fun _ k => XS.iloadN X0.here hx rfl (hb hby at_52) rfl k) ?_
        show Go _ _ _ _ _ _ _ (s₁.setTop (mkF m 53 #[.val (.int p0), .val (.int p1), .val (.int x1), .val (.int x2), .unset, .unset, .unset] [(.int p1)]))
        refine gob (fun _ k => XS.istore X0.here hx rfl (hb hby at_53) rfl (l' := #[.val (.int p0), .val (.int p1), .val (.int x1), .val (.int x2), .val (.int p1), .unset, .unset]) rfl k) ?_
        show Go _ _ _ _ _ _ _ (s₁.setTop (mkF m 55 #[.val (.int p0), .val (.int p1), .val (.int x1), .val (.int x2), .val (.int p1), .unset, .unset] []))
        exact join55_7 _ _ (p1) X0 e0 N0 (Or.inr (Or.inr (Or.inr ⟨hc13_89, hc26_90, hc40_91, rfl⟩)))
set_option maxRecDepth 65536 in
set_option maxHeartbeats 40000000 in
theorem comes_1 {Post : Tables → Env → Array Value → State → Outcome → State → Prop} (hpost : ∀ tb e args s v u, (limb_1_1.after args s (.returned v) u = true ∧ limb_1_2.after args s (.returned v) u = true ∧ True) → FrameEnd s (.returned v) u (Jvm.fieldLocs frame_1_writes args s ++ Jvm.arrayLocs frame_1_arrays args s ++ Jvm.staticLocs frame_1_statics s) 16 128 → Post tb e args s (.returned v) u) :
    ArmFor flags0 classFile x code maxLocals ret World_1 tables_1 room_1 Calls_1 rest_1 Pre_1 Post := by
  intro l hfl _ _ p e ha hc hk s m args below hf hA hF happ hP
  obtain ⟨hcalls, hrest, hpre⟩ := hP
  obtain ⟨-, -, -, hnamed, -, -, -, hat⟩ := (Spec.applies_iff hf).mp happ
  obtain ⟨hg, hn⟩ := and_e (Cond.before_iff.mp (show (Jvm.Cond.and given_1 narrow_1).before args s = true from hpre))
  obtain ⟨g1, g2⟩ := and_e hg
  obtain ⟨g3, g4⟩ := and_e g2
  obtain ⟨w0, w1, rfl⟩ : ∃ w0 w1 : Value, args = #[w0, w1] := by
    have hs : args.size = 2 := by simpa [Cond.value, given_1] using g1
    obtain ⟨L⟩ := args
    match L, hs with
    | [w0, w1], _ => exact ⟨w0, w1, rfl⟩
  have hw := fun d (hd : d ∈ tables_1) => atoms_spec (ws := Jvm.Cond.code x code maxLocals ret :: tables_1) hat d (List.mem_cons_of_mem _ hd)
  have hfit : Fit s := fun {y c} hc i hi => by
    obtain ⟨ha, rfl⟩ := Array.getElem?_eq_some_iff.mp hc
    have q := List.all_eq_true.mp ((Array.all_eq_true_iff_forall_mem.mp hF) _ (Array.getElem_mem ha)) i (List.mem_range.mpr hi)
    simpa [Array.getElem?_eq_getElem hi] using q
  obtain ⟨i0, ei0⟩ := is_v g3
  obtain rfl : w0 = (.int i0) := Option.some.inj ei0
  obtain ⟨i1, ei1⟩ := is_v g4
  obtain rfl : w1 = (.int i1) := Option.some.inj ei1
  obtain ⟨g5, g6⟩ := and_e hn
  obtain ⟨g7, g8⟩ := and_e g6
  obtain ⟨g9, g10⟩ := and_e g8
  obtain ⟨g11, g12⟩ := and_e g10
  obtain ⟨g13, g14⟩ := and_e g12
  obtain ⟨g15, g16⟩ := and_e g14
  obtain ⟨g17, g18⟩ := and_e g16
  obtain ⟨g19, g20⟩ := and_e g18
  obtain ⟨g21, g22⟩ := and_e g20
  obtain ⟨g23, g24⟩ := and_e g22
  obtain ⟨g25, g26⟩ := and_e g24
  obtain ⟨w_VALUES, ev_V⟩ := exa_v g7
  have E_VALUES := Exa.start ev_V g7
  obtain ⟨clV, A_V⟩ := Arr.start ev_V g5
  have S_VALUES : Sta s s.heap "com/example/flomem/flomem/capture/LinkType" "$VALUES" "[Lcom/example/flomem/flomem/capture/LinkType;" (.ref w_VALUES) := Sta.start ev_V (Or.inr ⟨(hw _ (List.mem_of_getElem? (i := 2) rfl)), (hw _ (List.mem_of_getElem? (i := 8) rfl))⟩)
  have L_V := own_len A_V ev_V g9
  obtain ⟨w_ETHERNET, ev_ETHERNET⟩ := exa_v g11
  have S_ETHERNET : Sta s s.heap "com/example/flomem/flomem/capture/LinkType" "ETHERNET" "Lcom/example/flomem/flomem/capture/LinkType;" (.ref w_ETHERNET) := Sta.start ev_ETHERNET (Or.inr ⟨(hw _ (List.mem_of_getElem? (i := 2) rfl)), (hw _ (List.mem_of_getElem? (i := 16) rfl))⟩)
  have F_ETHERNET := own_feq ev_ETHERNET g23
  have L_ETHERNET := own_elem A_V ev_V ev_ETHERNET (by decide) g13
  obtain ⟨w_RAW_IP, ev_RAW_IP⟩ := exa_v g15
  have S_RAW_IP : Sta s s.heap "com/example/flomem/flomem/capture/LinkType" "RAW_IP" "Lcom/example/flomem/flomem/capture/LinkType;" (.ref w_RAW_IP) := Sta.start ev_RAW_IP (Or.inr ⟨(hw _ (List.mem_of_getElem? (i := 2) rfl)), (hw _ (List.mem_of_getElem? (i := 17) rfl))⟩)
  have F_RAW_IP := own_feq ev_RAW_IP g25
  have L_RAW_IP := own_elem A_V ev_V ev_RAW_IP (by decide) g17
  obtain ⟨w_LINUX_COOKED, ev_LINUX_COOKED⟩ := exa_v g19
  have S_LINUX_COOKED : Sta s s.heap "com/example/flomem/flomem/capture/LinkType" "LINUX_COOKED" "Lcom/example/flomem/flomem/capture/LinkType;" (.ref w_LINUX_COOKED) := Sta.start ev_LINUX_COOKED (Or.inr ⟨(hw _ (List.mem_of_getElem? (i := 2) rfl)), (hw _ (List.mem_of_getElem? (i := 18) rfl))⟩)
  have F_LINUX_COOKED := own_feq ev_LINUX_COOKED g26
  have L_LINUX_COOKED := own_elem A_V ev_V ev_LINUX_COOKED (by decide) g21
  have V_VALUES : Arv s s.heap w_VALUES clV.cls (.object "com/example/flomem/flomem/capture/LinkType") (3 : Int32) [(.ref w_ETHERNET), (.ref w_RAW_IP), (.ref w_LINUX_COOKED)] .null := Arv.start hfit A_V L_V.1 L_V.2 (by decide) rfl ⟨L_ETHERNET, L_RAW_IP, L_LINUX_COOKED, trivial⟩
  obtain ⟨n, o, h1, h2, h3, _, L, rfl, ⟨rfl, N⟩, hq⟩ := rm0 l s _ hw tables_1 i0 i1 w_VALUES clV.cls w_ETHERNET w_RAW_IP w_LINUX_COOKED s.heap s.heap.size (Nat.le_refl _) S_VALUES V_VALUES E_VALUES F_ETHERNET F_RAW_IP F_LINUX_COOKED S_ETHERNET S_RAW_IP S_LINUX_COOKED p e ha hc hk s m _ below hf ((Spec.applies_iff_loose hf).mp happ).1 ⟨rfl, State.Warmed39.refl s, rfl⟩ trivial
  exact ⟨n, _, h1, h2, h3, hpost _ _ _ _ _ _ ⟨Cond.after_iff.mpr rfl, Cond.after_iff.mpr (eq_i res_at (Term.int_eval (1)) rfl), trivial⟩ ⟨hq.1, hq.2.1, (hq.2.2.sift fun y hy => Or.inr (N y hy)).mono (by decide) (by decide)⟩⟩
theorem main_1_1 : Claimed_1_1 := comes_1 fun _ _ _ _ _ _ h hF => ⟨h.1, hF⟩
theorem main_1_2 : Claimed_1_2 := comes_1 fun _ _ _ _ _ _ h hF => ⟨h.2.1, hF⟩
end Jvm.Pilot.@@N@@
namespace Jvm.Pilot.@@N@@
open Jvm Jvm.ClassFile Sem Op Lib Jvm.Free Jvm.Stand Jvm.Pilot.@@N@@.Jvm.D
/-! MADE BY PROGRAM (witnessworld.py) out of the Statement's table words and the real class files: 13 classes; the members and pool entries that the words name. The judged class is class 1, her method 1. -/
namespace start1
open Jvm.ClassFile
def u (s : String) : CpInfo := .utf8 (stringToUtf16 s)
/-- a pool by its gaps: so many unusable entries, then the entry; so many at the end -/
def gap : Nat → List CpInfo → List CpInfo
  | 0, r => r
  | n + 1, r => .unusable :: gap n r
def poolList (es : List (Nat × CpInfo)) (last : Nat) : List CpInfo := es.foldr (fun e r => gap e.1 (e.2 :: r)) (gap last [])
def pool (es : List (Nat × CpInfo)) (last : Nat) : Array CpInfo := ⟨poolList es last⟩
def fileOf (pool : Array CpInfo) (this : Nat) (attrs : Array Attribute := #[]) (ms : Array MethodInfo := #[]) (fl : Nat := 33) (sup : Nat := 0) (ifs : Array Nat := #[]) (fds : Array FieldInfo := #[]) : ClassFile where
  minorVersion := 0
  majorVersion := 65
  constantPool := pool
  accessFlags := fl
  thisClass := this
  superClass := sup
  interfaces := ifs
  fields := fds
  methods := ms
  attributes := attrs
def plain (name : String) (sup : Option ClassId) : Class where
  name := name
  kind := .ordinary
  loader := none
  accessFlags := 33
  super := sup
  interfaces := #[]
  cf := none
  fields := #[]
  methods := #[]
  instanceTypes := #[]
  staticTypes := #[]
  resolved := #[]
  callSites := []
  init := .initialized
  statics := none
  mirror := none

def pool0 : Array CpInfo := pool [(5, u "<init>"), (0, u "()V"), (1, .class_ 10), (1, u "java/lang/Object"), (85, u "clone"), (0, u "()Ljava/lang/Object;")] 26

def k0m0 : Method := { name := "<init>", desc := "()V", sig := { parameters := [], returnType := none }, accessFlags := 1, code := none }
def k0m1 : Method := { name := "clone", desc := "()Ljava/lang/Object;", sig := { parameters := [], returnType := some (.object "java/lang/Object") }, accessFlags := 260, code := none }
/-- java/lang/Object -/
def k0 : Class := { plain "java/lang/Object" none with
  accessFlags := 33
  interfaces := #[]
  cf := some (fileOf pool0 8 #[] #[{ accessFlags := 1, nameIndex := 5, descriptorIndex := 6, attributes := #[] }, { accessFlags := 260, nameIndex := 96, descriptorIndex := 97, attributes := #[] }] 33 0 #[] #[])
  fields := #[]
  methods := #[k0m0, k0m1]
  instanceTypes := #[]
  staticTypes := #[]
  resolved := Array.replicate 124 none
  statics := none }

def pool1 : Array CpInfo := pool [(2, .class_ 4), (1, u "java/lang/Object"), (0, u "<init>"), (0, u "()V"), (0, .methodref 8 9), (0, .class_ 10), (0, .nameAndType 11 12), (0, u "com/example/flomem/flomem/capture/LinkType"), (0, u "numbered"), (0, u "(I)Lcom/example/flomem/flomem/capture/LinkType;"), (0, .methodref 14 15), (0, .class_ 16), (0, .nameAndType 17 12), (0, u "com/example/flomem/flomem/capture/LinkTypeNumberedPinLaw"), (0, u "expectedFor"), (0, .fieldref 8 19), (0, .nameAndType 20 21), (0, u "ETHERNET"), (0, u "Lcom/example/flomem/flomem/capture/LinkType;"), (0, .fieldref 8 23), (0, .nameAndType 24 21), (0, u "RAW_IP"), (0, .fieldref 8 26), (0, .nameAndType 27 21), (0, u "LINUX_COOKED"), (2, u "law"), (0, u "(II)Z")] 3

def k1m0 : Method := { name := "<init>", desc := "()V", sig := { parameters := [], returnType := none }, accessFlags := 1, code := none }
def k1c1 : Code := { maxStack := 2, maxLocals := 7, code := code, exceptionTable := #[], attributes := #[] }
def k1m1 : Method := { name := "law", desc := "(II)Z", sig := { parameters := [.int, .int], returnType := some .boolean }, accessFlags := 9, code := some k1c1 }
def k1c2 : Code := { maxStack := 2, maxLocals := 1, code := method_3_code, exceptionTable := #[], attributes := #[] }
def k1m2 : Method := { name := "expectedFor", desc := "(I)Lcom/example/flomem/flomem/capture/LinkType;", sig := { parameters := [.int], returnType := some (.object "com/example/flomem/flomem/capture/LinkType") }, accessFlags := 10, code := some k1c2 }
/-- com/example/flomem/flomem/capture/LinkTypeNumberedPinLaw -/
def k1 : Class := { plain "com/example/flomem/flomem/capture/LinkTypeNumberedPinLaw" (some 0) with
  accessFlags := 49
  interfaces := #[]
  cf := some (fileOf pool1 14 #[] #[{ accessFlags := 1, nameIndex := 5, descriptorIndex := 6, attributes := #[] }, { accessFlags := 9, nameIndex := 30, descriptorIndex := 31, attributes := #[] }, { accessFlags := 10, nameIndex := 17, descriptorIndex := 12, attributes := #[] }] 49 2 #[] #[])
  fields := #[]
  methods := #[k1m0, k1m1, k1m2]
  instanceTypes := #[]
  staticTypes := #[]
  resolved := Array.replicate 35 none
  statics := none }

def pool2 : Array CpInfo := pool [(1, .class_ 2), (0, u "java/lang/constant/Constable"), (0, .class_ 4), (0, u "java/lang/Object")] 6

/-- java/lang/constant/Constable -/
def k2 : Class := { plain "java/lang/constant/Constable" (some 0) with
  accessFlags := 1537
  interfaces := #[]
  cf := some (fileOf pool2 1 #[] #[] 1537 3 #[] #[])
  fields := #[]
  methods := #[]
  instanceTypes := #[]
  staticTypes := #[]
  resolved := Array.replicate 11 none
  statics := none }

def pool3 : Array CpInfo := pool [(1, .class_ 2), (0, u "java/lang/Comparable"), (0, .class_ 4), (0, u "java/lang/Object")] 7

/-- java/lang/Comparable -/
def k3 : Class := { plain "java/lang/Comparable" (some 0) with
  accessFlags := 1537
  interfaces := #[]
  cf := some (fileOf pool3 1 #[] #[] 1537 3 #[] #[])
  fields := #[]
  methods := #[]
  instanceTypes := #[]
  staticTypes := #[]
  resolved := Array.replicate 12 none
  statics := none }

def pool4 : Array CpInfo := pool [(1, .class_ 2), (0, u "java/io/Serializable"), (0, .class_ 4), (0, u "java/lang/Object")] 2

/-- java/io/Serializable -/
def k4 : Class := { plain "java/io/Serializable" (some 0) with
  accessFlags := 1537
  interfaces := #[]
  cf := some (fileOf pool4 1 #[] #[] 1537 3 #[] #[])
  fields := #[]
  methods := #[]
  instanceTypes := #[]
  staticTypes := #[]
  resolved := Array.replicate 7 none
  statics := none }

def pool5 : Array CpInfo := pool [(2, .class_ 4), (1, u "java/lang/Enum"), (0, u "name"), (0, u "Ljava/lang/String;"), (2, u "ordinal"), (0, u "I"), (1, .class_ 14), (1, u "java/lang/Object"), (4, u "hash"), (86, .class_ 108), (1, u "java/lang/Enum$EnumDesc"), (2, .class_ 112), (0, u "java/lang/constant/Constable"), (0, .class_ 114), (0, u "java/lang/Comparable"), (0, .class_ 116), (0, u "java/io/Serializable")] 87

/-- java/lang/Enum -/
def k5 : Class := { plain "java/lang/Enum" (some 0) with
  accessFlags := 1057
  interfaces := #[2, 3, 4]
  cf := some (fileOf pool5 2 #[.nestMembers #[106]] #[] 1057 12 #[111, 113, 115] #[{ accessFlags := 18, nameIndex := 5, descriptorIndex := 6, attributes := #[] }, { accessFlags := 18, nameIndex := 9, descriptorIndex := 10, attributes := #[] }, { accessFlags := 2, nameIndex := 19, descriptorIndex := 10, attributes := #[] }])
  fields := #[{ name := "name", type := (.object "java/lang/String"), accessFlags := 18, slot := 0, constantValue := 0 }, { name := "ordinal", type := .int, accessFlags := 18, slot := 1, constantValue := 0 }, { name := "hash", type := .int, accessFlags := 2, slot := 2, constantValue := 0 }]
  methods := #[]
  instanceTypes := #[(.object "java/lang/String"), .int, .int]
  staticTypes := #[]
  resolved := Array.replicate 204 none
  statics := none }

def pool6 : Array CpInfo := pool [(1, .class_ 2), (0, u "com/example/flomem/flomem/capture/LinkType"), (2, u "ETHERNET"), (0, u "Lcom/example/flomem/flomem/capture/LinkType;"), (2, u "RAW_IP"), (2, u "LINUX_COOKED"), (0, .fieldref 1 14), (0, .nameAndType 15 16), (0, u "$VALUES"), (0, u "[Lcom/example/flomem/flomem/capture/LinkType;"), (0, .methodref 18 19), (0, .class_ 16), (0, .nameAndType 20 21), (0, u "clone"), (0, u "()Ljava/lang/Object;"), (1, .class_ 25), (1, u "java/lang/Enum"), (6, .fieldref 1 33), (0, .nameAndType 34 35), (0, u "number"), (0, u "I"), (2, u "description"), (0, u "Ljava/lang/String;"), (2, u "decoder"), (0, u "Lcom/example/flomem/flomem/capture/LinkType$Decoder;"), (0, .methodref 1 45), (0, .nameAndType 46 47), (0, u "values"), (0, u "()[Lcom/example/flomem/flomem/capture/LinkType;"), (30, .class_ 80), (1, u "com/example/flomem/flomem/capture/LinkType$Decoder"), (31, u "numbered"), (0, u "(I)Lcom/example/flomem/flomem/capture/LinkType;")] 53

def k6c0 : Code := { maxStack := 1, maxLocals := 0, code := prog_4_method_1_code, exceptionTable := #[], attributes := #[] }
def k6m0 : Method := { name := "values", desc := "()[Lcom/example/flomem/flomem/capture/LinkType;", sig := { parameters := [], returnType := some (.array (.object "com/example/flomem/flomem/capture/LinkType")) }, accessFlags := 9, code := some k6c0 }
def k6c1 : Code := { maxStack := 2, maxLocals := 5, code := prog_4_method_4_code, exceptionTable := #[], attributes := #[] }
def k6m1 : Method := { name := "numbered", desc := "(I)Lcom/example/flomem/flomem/capture/LinkType;", sig := { parameters := [.int], returnType := some (.object "com/example/flomem/flomem/capture/LinkType") }, accessFlags := 8, code := some k6c1 }
/-- com/example/flomem/flomem/capture/LinkType -/
def k6 : Class := { plain "com/example/flomem/flomem/capture/LinkType" (some 5) with
  accessFlags := 16432
  interfaces := #[]
  cf := some (fileOf pool6 1 #[.nestMembers #[78]] #[{ accessFlags := 9, nameIndex := 46, descriptorIndex := 47, attributes := #[] }, { accessFlags := 8, nameIndex := 112, descriptorIndex := 113, attributes := #[] }] 16432 23 #[] #[{ accessFlags := 16409, nameIndex := 5, descriptorIndex := 6, attributes := #[] }, { accessFlags := 16409, nameIndex := 9, descriptorIndex := 6, attributes := #[] }, { accessFlags := 16409, nameIndex := 12, descriptorIndex := 6, attributes := #[] }, { accessFlags := 18, nameIndex := 34, descriptorIndex := 35, attributes := #[] }, { accessFlags := 18, nameIndex := 38, descriptorIndex := 39, attributes := #[] }, { accessFlags := 18, nameIndex := 42, descriptorIndex := 43, attributes := #[] }, { accessFlags := 4122, nameIndex := 15, descriptorIndex := 16, attributes := #[] }])
  fields := #[{ name := "ETHERNET", type := (.object "com/example/flomem/flomem/capture/LinkType"), accessFlags := 16409, slot := 0, constantValue := 0 }, { name := "RAW_IP", type := (.object "com/example/flomem/flomem/capture/LinkType"), accessFlags := 16409, slot := 1, constantValue := 0 }, { name := "LINUX_COOKED", type := (.object "com/example/flomem/flomem/capture/LinkType"), accessFlags := 16409, slot := 2, constantValue := 0 }, { name := "number", type := .int, accessFlags := 18, slot := 3, constantValue := 0 }, { name := "description", type := (.object "java/lang/String"), accessFlags := 18, slot := 4, constantValue := 0 }, { name := "decoder", type := (.object "com/example/flomem/flomem/capture/LinkType$Decoder"), accessFlags := 18, slot := 5, constantValue := 0 }, { name := "$VALUES", type := (.array (.object "com/example/flomem/flomem/capture/LinkType")), accessFlags := 4122, slot := 3, constantValue := 0 }]
  methods := #[k6m0, k6m1]
  instanceTypes := #[(.object "java/lang/String"), .int, .int, .int, (.object "java/lang/String"), (.object "com/example/flomem/flomem/capture/LinkType$Decoder")]
  staticTypes := #[(.object "com/example/flomem/flomem/capture/LinkType"), (.object "com/example/flomem/flomem/capture/LinkType"), (.object "com/example/flomem/flomem/capture/LinkType"), (.array (.object "com/example/flomem/flomem/capture/LinkType"))]
  resolved := Array.replicate 167 none
  statics := some 0 }

def pool7 : Array CpInfo := pool [(1, .class_ 2), (0, u "java/lang/Cloneable"), (0, .class_ 4), (0, u "java/lang/Object")] 2

/-- java/lang/Cloneable -/
def k7 : Class := { plain "java/lang/Cloneable" (some 0) with
  accessFlags := 1537
  interfaces := #[]
  cf := some (fileOf pool7 1 #[] #[] 1537 3 #[] #[])
  fields := #[]
  methods := #[]
  instanceTypes := #[]
  staticTypes := #[]
  resolved := Array.replicate 7 none
  statics := none }

/-- the primitive byte -/
def k8 : Class := { plain "byte" none with kind := .primitive 'B', accessFlags := 0x411 }
/-- [B -/
def k9 : Class := { plain "[B" (some 0) with kind := .array 8 .byte, interfaces := #[7, 4], accessFlags := 1041 }

/-- the primitive int -/
def k10 : Class := { plain "int" none with kind := .primitive 'I', accessFlags := 0x411 }
/-- [I -/
def k11 : Class := { plain "[I" (some 0) with kind := .array 10 .int, interfaces := #[7, 4], accessFlags := 1041 }

/-- [Lcom/example/flomem/flomem/capture/LinkType; -/
def k12 : Class := { plain "[Lcom/example/flomem/flomem/capture/LinkType;" (some 0) with kind := .array 6 (.object "com/example/flomem/flomem/capture/LinkType"), interfaces := #[7, 4], accessFlags := 1041 }

def heap : Heap := #[{ cls := 6, slots := #[.ref 2, .ref 3, .ref 4, .ref 1], vm := .statics 6 },
  { cls := 12, slots := #[.ref 2, .ref 3, .ref 4], vm := .none },
  { cls := 6, slots := #[.null, .int 0, .int 0, .int 1, .null, .null], vm := .none },
  { cls := 6, slots := #[.null, .int 1, .int 0, .int 101, .null, .null], vm := .none },
  { cls := 6, slots := #[.null, .int 2, .int 0, .int 113, .null, .null], vm := .none }]
def classes : Array Class := #[k0, k1, k2, k3, k4, k5, k6, k7, k8, k9, k10, k11, k12]
def interned : List (Array UInt16 × Addr) := []
def slotsUsed : Nat := 25
def theMethod : MethodId := ⟨1, 1⟩
def args0 : Array Value := #[.int 5, .int 6]
def aboutOver (below : List Frame) : State where
  vm := { classes := classes, interned := interned.toArray }
  heap := heap
  slotsUsed := slotsUsed
  threads := #[{ frames := .invoking theMethod args0 :: below }]
def below0 : List Frame := [.native { method := ⟨0, 0⟩, args := #[] }]
def about1 : State := aboutOver below0
def p0 : Program := .bare "" "" ""
def e0 : Env := launch0.env 0 0 0
theorem w_frames : about1.frames = Frame.invoking theMethod args0 :: below0 := rfl
set_option maxRecDepth 65536 in
theorem w_args : argsFit about1.vm theMethod args0 = true := by decide +kernel
set_option maxRecDepth 65536 in
theorem w_heap : heapFits about1 = true := by decide +kernel
set_option maxRecDepth 65536 in
theorem w_runnable : about1.curStatus? = some .runnable := by decide +kernel
set_option maxRecDepth 65536 in
theorem w_alone : about1.alone = true := by decide +kernel
set_option maxRecDepth 65536 in
theorem w_named : about1.methodNamed? x = some theMethod := by decide +kernel
set_option maxRecDepth 65536 in
theorem w_hears : about1.hears theMethod below0 = true := by decide +kernel
set_option maxRecDepth 65536 in
theorem w_ripe : about1.ripe theMethod args0 below0 = true := by decide +kernel
theorem w_running : about1.status = .running := rfl
set_option maxRecDepth 65536 in
theorem w_room : about1.hasRoom e0.platform room_1 = true :=
  launch0.hasRoom_least _ room_1 (by decide +kernel) (by decide +kernel) (by decide +kernel) (by decide +kernel) (by decide +kernel) (by decide +kernel)
theorem allAtoms_all (ts : List Jvm.Cond) (a : Array Jvm.Value) (st : Jvm.State) : (allAtoms ts).before a st = ts.all (fun c => c.before a st) := by
  induction ts with
  | nil => rfl
  | cons c t ih =>
    show (Jvm.Cond.and c (allAtoms t)).before a st = _
    rw [Jvm.Cond.before_and, ih, List.all_cons]
def words1 : List Jvm.Cond := Jvm.Cond.code x code maxLocals ret :: tables_1
/-- a 'code' word, met by the world's own term for the bytes: nothing is compared byte by byte -/
theorem code_word {y : MethodName} {bytes : ByteArray} {mx : Nat} {rt : Option FieldType} {a : Array Value} {s : State} {m : MethodId} {meth : Method} {c : Code} (h1 : s.methodNamed? y = some m) (h2 : s.vm.method? m = some meth) (h3 : meth.code = some c) (h4 : c.code = bytes)
    (h5 : (c.maxLocals == mx && c.exceptionTable.isEmpty && decide (c.maxStack ≤ mostOperands) && decide (meth.sig.returnType = rt) && !meth.locks && decide (parseMethodDescriptor y.desc = some meth.sig)) = true) : (Jvm.Cond.code y bytes mx rt).before a s = true := by
  simp only [Bool.and_eq_true, beq_iff_eq, Bool.not_eq_true', decide_eq_true_eq] at h5
  obtain ⟨⟨⟨⟨⟨g1, g2⟩, g3⟩, g4⟩, g5⟩, g6⟩ := h5
  simp [Cond.before, Cond.holds, Cond.value, h1, h2, h3, h4, g1, g2, g3, g4, g5, g6]
def isCode : Jvm.Cond → Bool
  | .code _ _ _ _ => true
  | _ => false
theorem all_split {L : List Jvm.Cond} {P : Jvm.Cond → Bool} (h1 : L.all (fun c => isCode c || P c) = true) (h2 : ∀ c ∈ L.filter isCode, P c = true) : L.all P = true := by
  refine List.all_eq_true.mpr fun c hc => ?_
  have h := List.all_eq_true.mp h1 c hc
  rcases Bool.eq_false_or_eq_true (isCode c) with hi | hi
  · exact h2 c (List.mem_filter.mpr ⟨hc, hi⟩)
  · simpa [hi] using h
set_option maxRecDepth 65536 in
theorem w_c0 : (Jvm.Cond.code x code maxLocals ret).before args0 about1 = true := code_word (m := ⟨1, 1⟩) (meth := k1m1) (c := k1c1) (by decide +kernel) rfl rfl rfl (by decide +kernel)
set_option maxRecDepth 65536 in
theorem w_c1 : (Jvm.Cond.code ({ cls := "com/example/flomem/flomem/capture/LinkType", name := "numbered", desc := "(I)Lcom/example/flomem/flomem/capture/LinkType;" } : Jvm.MethodName) prog_4_method_4_code (5 : Nat) (Option.some (Jvm.ClassFile.FieldType.object "com/example/flomem/flomem/capture/LinkType"))).before args0 about1 = true := code_word (m := ⟨6, 1⟩) (meth := k6m1) (c := k6c1) (by decide +kernel) rfl rfl rfl (by decide +kernel)
set_option maxRecDepth 65536 in
theorem w_c2 : (Jvm.Cond.code ({ cls := "com/example/flomem/flomem/capture/LinkType", name := "values", desc := "()[Lcom/example/flomem/flomem/capture/LinkType;" } : Jvm.MethodName) prog_4_method_1_code (0 : Nat) (Option.some (Jvm.ClassFile.FieldType.array (Jvm.ClassFile.FieldType.object "com/example/flomem/flomem/capture/LinkType")))).before args0 about1 = true := code_word (m := ⟨6, 0⟩) (meth := k6m0) (c := k6c0) (by decide +kernel) rfl rfl rfl (by decide +kernel)
set_option maxRecDepth 65536 in
theorem w_c3 : (Jvm.Cond.code ({ cls := "com/example/flomem/flomem/capture/LinkTypeNumberedPinLaw", name := "expectedFor", desc := "(I)Lcom/example/flomem/flomem/capture/LinkType;" } : Jvm.MethodName) method_3_code (1 : Nat) (Option.some (Jvm.ClassFile.FieldType.object "com/example/flomem/flomem/capture/LinkType"))).before args0 about1 = true := code_word (m := ⟨1, 2⟩) (meth := k1m2) (c := k1c2) (by decide +kernel) rfl rfl rfl (by decide +kernel)
def codes1 : List Jvm.Cond := [Jvm.Cond.code x code maxLocals ret, Jvm.Cond.code ({ cls := "com/example/flomem/flomem/capture/LinkType", name := "numbered", desc := "(I)Lcom/example/flomem/flomem/capture/LinkType;" } : Jvm.MethodName) prog_4_method_4_code (5 : Nat) (Option.some (Jvm.ClassFile.FieldType.object "com/example/flomem/flomem/capture/LinkType")), Jvm.Cond.code ({ cls := "com/example/flomem/flomem/capture/LinkType", name := "values", desc := "()[Lcom/example/flomem/flomem/capture/LinkType;" } : Jvm.MethodName) prog_4_method_1_code (0 : Nat) (Option.some (Jvm.ClassFile.FieldType.array (Jvm.ClassFile.FieldType.object "com/example/flomem/flomem/capture/LinkType"))), Jvm.Cond.code ({ cls := "com/example/flomem/flomem/capture/LinkTypeNumberedPinLaw", name := "expectedFor", desc := "(I)Lcom/example/flomem/flomem/capture/LinkType;" } : Jvm.MethodName) method_3_code (1 : Nat) (Option.some (Jvm.ClassFile.FieldType.object "com/example/flomem/flomem/capture/LinkType"))]
set_option maxRecDepth 65536 in
theorem codes_eq : words1.filter isCode = codes1 := rfl
theorem w_codes : ∀ c ∈ words1.filter isCode, c.before args0 about1 = true := by
  rw [codes_eq]
  intro c hc
  simp only [codes1, List.mem_cons, List.not_mem_nil, or_false] at hc
  rcases hc with rfl | rfl | rfl | rfl
  · exact w_c0
  · exact w_c1
  · exact w_c2
  · exact w_c3
set_option maxRecDepth 65536 in
theorem w_t1 : (words1.take 24).all (fun c => isCode c || c.before args0 about1) = true := by decide +kernel
set_option maxRecDepth 65536 in
theorem w_t2 : (words1.drop 24).all (fun c => isCode c || c.before args0 about1) = true := by decide +kernel
theorem w_tables : (allAtoms (Jvm.Cond.code x code maxLocals ret :: tables_1)).before args0 about1 = true := by
  rw [allAtoms_all]
  show words1.all (fun c => c.before args0 about1) = true
  refine all_split ?_ w_codes
  rw [← List.take_append_drop 24 words1, List.all_append, w_t1, w_t2]
  rfl
set_option maxRecDepth 65536 in
theorem w_case : (Jvm.Cond.and given_1 narrow_1).before args0 about1 = true := by decide +kernel
theorem w_applies : (headSpec (Jvm.Cond.code x code maxLocals ret :: tables_1) room_1).applies x e0.platform about1 = true :=
  (Spec.applies_iff w_frames).mpr ⟨w_running, w_runnable, w_alone, w_named, w_hears, w_ripe, w_room, w_tables⟩
theorem atStart : AtStart classFile x code maxLocals ret World_1 tables_1 room_1 Calls_1 rest_1 Pre_1 launch0 p0 e0 about1 theMethod args0 below0 :=
  ⟨lists_1, trivial, launch0.admits_env _ _ _, launch0.least_env, fairChoices_fair.cas, fairChoices_fair.clock, w_frames, w_args, w_heap, w_applies, trivial, trivial, w_case⟩
end start1
theorem witness_1 : WitnessClaimed_1 := ⟨start1.p0, start1.e0, start1.about1, start1.theMethod, start1.args0, start1.below0, start1.atStart⟩
end Jvm.Pilot.@@N@@
