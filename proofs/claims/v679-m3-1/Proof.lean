import JvmDerived
import JvmDerived.Pilot.@@N@@Statement
import JvmDerived.Pilot.@@N@@Code
set_option linter.unusedVariables false
set_option linter.unusedSimpArgs false
namespace Jvm.Pilot.@@N@@
open Jvm Jvm.ClassFile Sem Op Lib Jvm.Free Jvm.Stand Jvm.LawKit Jvm.RoadKit Bundle Jvm.Pilot.@@N@@.Jvm.D
/-! A walk as one goal: from the state U the run comes to an end that answers Q. -/
section Kit
def Go (p : Program) (e : Env) (below : List Frame) (s : State) (Q : Option Value → Heap → List Loc → Prop) (C N : Nat) (U : State) : Prop :=
  ∃ s₂ o, Steps p.tables e below U s₂ ∧ s₂.status = .running ∧ Ended s₂ below o ∧ ∃ v L, o = .returned v ∧ Q v s₂.heap L ∧ FrameEnd s o s₂ L C N
variable {p : Program} {l : Launch} {e : Env} {R : Room} {s : State} {m : MethodId} {args : Array Value} {below : List Frame} {meth : Method} {c : Code} {T : State} {locs : List Loc} {cells slots : Nat} {Q : Option Value → Heap → List Loc → Prop} {C N : Nat}
theorem gob {U U' : State} (h : ∀ t, Steps p.tables e below U' t → Steps p.tables e below U t) (k : Go p e below s Q C N U') : Go p e below s Q C N U := by
  obtain ⟨s₂, o, h1, r⟩ := k
  exact ⟨s₂, o, h _ h1, r⟩
theorem goZ (X : Stand p l e R s m args below meth c T locs cells slots) (hx : p.tables.exec = Jvm.exec) (hlk : meth.locks = false) {t : FieldType} {pc : Nat} {Ls : Array Slot} {z z' : Int32} {rest : List Value} (hret : meth.sig.returnType = some t) (ht : t = .boolean ∨ t = .byte ∨ t = .char ∨ t = .short) (hd : decode c.code pc = .ok (.ireturn, 1)) (hz : nar t z = z') (hq : Q (some (.int z')) T.heap locs) (hc : cells ≤ C) (hn : slots ≤ N) :
    Go p e below s Q C N (T.setTop (mkF m pc Ls (.int z :: rest))) := by
  subst hz
  obtain ⟨fs, hr, hrun, hended, hW, hsame⟩ := X.leave (v := some (.int (nar t z))) (fun h => by rw [hret] at h; cases h) hlk
  exact ⟨_, _, retN X hx hret ht hd hr, hrun, hended, _, _, rfl, hq, ⟨_, rfl⟩, hW, hsame.mono hc hn⟩
theorem goI (X : Stand p l e R s m args below meth c T locs cells slots) (hx : p.tables.exec = Jvm.exec) (hlk : meth.locks = false) {pc : Nat} {Ls : Array Slot} {z : Int32} {rest : List Value} (hret : meth.sig.returnType = some .int) (hd : decode c.code pc = .ok (.ireturn, 1)) (hq : Q (some (.int z)) T.heap locs) (hc : cells ≤ C) (hn : slots ≤ N) :
    Go p e below s Q C N (T.setTop (mkF m pc Ls (.int z :: rest))) := by
  obtain ⟨fs, hr, hrun, hended, hW, hsame⟩ := X.leave (v := some (.int z)) (fun h => by rw [hret] at h; cases h) hlk
  exact ⟨_, _, retOut X hx hret rfl (Or.inl ⟨rfl, Or.inl rfl, z, rfl⟩) hd hr, hrun, hended, _, _, rfl, hq, ⟨_, rfl⟩, hW, hsame.mono hc hn⟩
theorem goJ (X : Stand p l e R s m args below meth c T locs cells slots) (hx : p.tables.exec = Jvm.exec) (hlk : meth.locks = false) {pc : Nat} {Ls : Array Slot} {z : Int64} {rest : List Value} (hret : meth.sig.returnType = some .long) (hd : decode c.code pc = .ok (.lreturn, 1)) (hq : Q (some (.long z)) T.heap locs) (hc : cells ≤ C) (hn : slots ≤ N) :
    Go p e below s Q C N (T.setTop (mkF m pc Ls (.long z :: rest))) := by
  obtain ⟨fs, hr, hrun, hended, hW, hsame⟩ := X.leave (v := some (.long z)) (fun h => by rw [hret] at h; cases h) hlk
  exact ⟨_, _, retOut X hx hret rfl (Or.inr (Or.inl ⟨rfl, rfl, z, rfl⟩)) hd hr, hrun, hended, _, _, rfl, hq, ⟨_, rfl⟩, hW, hsame.mono hc hn⟩
theorem goD (X : Stand p l e R s m args below meth c T locs cells slots) (hx : p.tables.exec = Jvm.exec) (hlk : meth.locks = false) {pc : Nat} {Ls : Array Slot} {z : UInt64} {rest : List Value} (hret : meth.sig.returnType = some .double) (hd : decode c.code pc = .ok (.dreturn, 1)) (hq : Q (some (.double z)) T.heap locs) (hc : cells ≤ C) (hn : slots ≤ N) :
    Go p e below s Q C N (T.setTop (mkF m pc Ls (.double z :: rest))) := by
  obtain ⟨fs, hr, hrun, hended, hW, hsame⟩ := X.leave (v := some (.double z)) (fun h => by rw [hret] at h; cases h) hlk
  exact ⟨_, _, retOut X hx hret rfl (Or.inr (Or.inr (Or.inl ⟨rfl, rfl, z, rfl⟩))) hd hr, hrun, hended, _, _, rfl, hq, ⟨_, rfl⟩, hW, hsame.mono hc hn⟩
theorem goA (X : Stand p l e R s m args below meth c T locs cells slots) (hx : p.tables.exec = Jvm.exec) (hlk : meth.locks = false) {t : FieldType} {pc : Nat} {Ls : Array Slot} {z : Value} {rest : List Value} (hret : meth.sig.returnType = some t) (ht : t.isReference = true) (hv : z.isRef = true) (hd : decode c.code pc = .ok (.areturn, 1)) (hq : Q (some z) T.heap locs) (hc : cells ≤ C) (hn : slots ≤ N) :
    Go p e below s Q C N (T.setTop (mkF m pc Ls (z :: rest))) := by
  obtain ⟨fs, hr, hrun, hended, hW, hsame⟩ := X.leave (v := some z) (fun h => by rw [hret] at h; cases h) hlk
  have hnw : narrow t z = z := by cases z <;> cases t <;> first | rfl | (simp [Value.isRef] at hv) | (simp [FieldType.isReference] at ht)
  exact ⟨_, _, retOut X hx hret hnw (Or.inr (Or.inr (Or.inr (Or.inr ⟨rfl, ht, hv⟩)))) hd hr, hrun, hended, _, _, rfl, hq, ⟨_, rfl⟩, hW, hsame.mono hc hn⟩
theorem goV (X : Stand p l e R s m args below meth c T locs cells slots) (hx : p.tables.exec = Jvm.exec) (hlk : meth.locks = false) {pc : Nat} {Ls : Array Slot} (hret : meth.sig.returnType = none) (hd : decode c.code pc = .ok (.return_, 1)) (hq : Q none T.heap locs) (hc : cells ≤ C) (hn : slots ≤ N) :
    Go p e below s Q C N (T.setTop (mkF m pc Ls [])) := by
  obtain ⟨fs, hr, hrun, hended, hW, hsame⟩ := X.leave (v := none) (fun _ => rfl) hlk
  exact ⟨_, _, X.returnOut hx hret hd hr, hrun, hended, _, _, rfl, hq, ⟨_, rfl⟩, hW, hsame.mono hc hn⟩
theorem lremM {g : JFrame} {target : State} (X : Stand p l e R s m args below meth c T locs cells slots) (hx : p.tables.exec = Jvm.exec) (hg : g.method = m) {x y : Int64} {rest : List Value} (hd : decode c.code g.pc = .ok (.lrem, 1)) (hs : g.stack = .long y :: .long x :: rest) (hy : y ≠ 0)
    (hr : Steps p.tables e below (T.setTop { g with pc := g.pc + 1, stack := .long (x % y) :: rest }) target) : Steps p.tables e below (T.setTop g) target :=
  XS.lrem X.here hx hg hd hs hy (by rw [lrem_mod x y]; exact hr)
theorem own_lrem (x y : Int64) (d : Int) (hy : y.toInt = d) : (0 ≤ x.toInt → (x % y).toInt = x.toInt % d) ∧ (x.toInt < 0 → (x % y).toInt = -((-x.toInt) % d)) := by rw [Int64.toInt_mod, hy]; exact tr _ _
theorem own_lxor (x y : Int64) (hy : 0 ≤ y.toInt) : ((x ^^^ y).toInt < 0 ↔ x.toInt < 0) := by
  have h1 : (x ^^^ y).toBitVec.msb = (x.toBitVec.msb ^^ y.toBitVec.msb) := by rw [Int64.toBitVec_xor, BitVec.msb_xor]
  have h2 := BitVec.msb_eq_toInt (x := (x ^^^ y).toBitVec)
  have h3 := BitVec.msb_eq_toInt (x := x.toBitVec)
  have h4 := BitVec.msb_eq_toInt (x := y.toBitVec)
  have e1 : (x ^^^ y).toBitVec.toInt = (x ^^^ y).toInt := rfl
  have e2 : x.toBitVec.toInt = x.toInt := rfl
  have e3 : y.toBitVec.toInt = y.toInt := rfl
  rw [e1] at h2
  rw [e2] at h3
  rw [e3] at h4
  have h5 : ¬ y.toInt < 0 := by omega
  rw [h2, h3, h4, decide_eq_false h5, Bool.xor_false] at h1
  simpa using h1
theorem pop2L {g : JFrame} {target : State} (X : Stand p l e R s m args below meth c T locs cells slots) (hx : p.tables.exec = Jvm.exec) (hg : g.method = m) {x : Int64} {rest : List Value} (hd : decode c.code g.pc = .ok (.pop2, 1)) (hs : g.stack = .long x :: rest)
    (hr : Steps p.tables e below (T.setTop { g with pc := g.pc + 1, stack := rest }) target) : Steps p.tables e below (T.setTop g) target := by
  subst hg
  jvm_step X.here [X.here.top, hx, hd, hs, Value.category]
  exact hr
theorem own_staKeep {Z : State} {h h' : Heap} {C n d : String} {v : Value} {ws : List Addr} (F : Sta Z h C n d v) (K : Keep h h' ws) (hn : ∀ x ∈ ws, ∀ cell : Cell, h[x]? = some cell → cell.vm.isStatics = false) : Sta Z h' C n d v := by
  obtain ⟨cf, i, k, f, st, cell, h1, h2, h3, h4, h5, h6, h7⟩ := F
  exact ⟨cf, i, k, f, st, cell, h1, h2, h3, h4, K.2.1 _ _ h5 (fun q => by have q2 := hn _ q _ h5; rw [h6] at q2; cases q2), h6, h7⟩
theorem own_lmulR (x y : Int64) (d : Int) (hy : y.toInt = d) : ((x * y).toInt - x.toInt * d) % 18446744073709551616 = 0 := by rw [← hy]; exact c_lmul x y
theorem own_lmulL (x y : Int64) (d : Int) (hx : x.toInt = d) : ((x * y).toInt - d * y.toInt) % 18446744073709551616 = 0 := by rw [← hx]; exact c_lmul x y
theorem own_imulR (x y : Int32) (d : Int) (hy : y.toInt = d) : ((x * y).toInt - x.toInt * d) % 4294967296 = 0 := by rw [← hy]; exact c_imul x y
theorem own_imulL (x y : Int32) (d : Int) (hx : x.toInt = d) : ((x * y).toInt - d * y.toInt) % 4294967296 = 0 := by rw [← hx]; exact c_imul x y
end Kit

theorem own_nat {j : Int32} {k : Nat} (h : j.toInt = k) : j.toNatClampNeg = k := by
  have q : ¬ j < 0 := by
    rw [Int32.lt_iff_toInt_lt]
    have : (0 : Int32).toInt = 0 := by decide
    omega
  have := nat_of q
  omega
theorem own_idx (j z : Int32) (k : Int) (hz : k ≤ z.toInt) (h1 : 0 ≤ j.toInt) (h2 : j.toInt < k) : ¬ j < 0 ∧ j < z := by
  rw [Int32.lt_iff_toInt_lt, Int32.lt_iff_toInt_lt]
  have : (0 : Int32).toInt = 0 := by decide
  omega
theorem own_at1 (a0 : Int32) (dv : Value) (j : Int32) (k : Int) (hk : k ≤ 1) (h1 : 0 ≤ j.toInt) (h2 : j.toInt < k) :
    ∃ w : Int32, ((j.toInt = 0 ∧ w = a0)) ∧ ([(.int a0)] : List Value).getD j.toNatClampNeg dv = .int w := by
  have h : j.toInt = (0 : Nat) := by omega
  rcases h with h <;> (rw [own_nat h]; refine ⟨_, ?_, rfl⟩; simp [h])
theorem own_at2 (a0 a1 : Int32) (dv : Value) (j : Int32) (k : Int) (hk : k ≤ 2) (h1 : 0 ≤ j.toInt) (h2 : j.toInt < k) :
    ∃ w : Int32, ((j.toInt = 0 ∧ w = a0) ∨ (j.toInt = 1 ∧ w = a1)) ∧ ([(.int a0), (.int a1)] : List Value).getD j.toNatClampNeg dv = .int w := by
  have h : j.toInt = (0 : Nat) ∨ j.toInt = (1 : Nat) := by omega
  rcases h with h | h <;> (rw [own_nat h]; refine ⟨_, ?_, rfl⟩; simp [h])
theorem own_at3 (a0 a1 a2 : Int32) (dv : Value) (j : Int32) (k : Int) (hk : k ≤ 3) (h1 : 0 ≤ j.toInt) (h2 : j.toInt < k) :
    ∃ w : Int32, ((j.toInt = 0 ∧ w = a0) ∨ (j.toInt = 1 ∧ w = a1) ∨ (j.toInt = 2 ∧ w = a2)) ∧ ([(.int a0), (.int a1), (.int a2)] : List Value).getD j.toNatClampNeg dv = .int w := by
  have h : j.toInt = (0 : Nat) ∨ j.toInt = (1 : Nat) ∨ j.toInt = (2 : Nat) := by omega
  rcases h with h | h | h <;> (rw [own_nat h]; refine ⟨_, ?_, rfl⟩; simp [h])
theorem own_at4 (a0 a1 a2 a3 : Int32) (dv : Value) (j : Int32) (k : Int) (hk : k ≤ 4) (h1 : 0 ≤ j.toInt) (h2 : j.toInt < k) :
    ∃ w : Int32, ((j.toInt = 0 ∧ w = a0) ∨ (j.toInt = 1 ∧ w = a1) ∨ (j.toInt = 2 ∧ w = a2) ∨ (j.toInt = 3 ∧ w = a3)) ∧ ([(.int a0), (.int a1), (.int a2), (.int a3)] : List Value).getD j.toNatClampNeg dv = .int w := by
  have h : j.toInt = (0 : Nat) ∨ j.toInt = (1 : Nat) ∨ j.toInt = (2 : Nat) ∨ j.toInt = (3 : Nat) := by omega
  rcases h with h | h | h | h <;> (rw [own_nat h]; refine ⟨_, ?_, rfl⟩; simp [h])
theorem own_at5 (a0 a1 a2 a3 a4 : Int32) (dv : Value) (j : Int32) (k : Int) (hk : k ≤ 5) (h1 : 0 ≤ j.toInt) (h2 : j.toInt < k) :
    ∃ w : Int32, ((j.toInt = 0 ∧ w = a0) ∨ (j.toInt = 1 ∧ w = a1) ∨ (j.toInt = 2 ∧ w = a2) ∨ (j.toInt = 3 ∧ w = a3) ∨ (j.toInt = 4 ∧ w = a4)) ∧ ([(.int a0), (.int a1), (.int a2), (.int a3), (.int a4)] : List Value).getD j.toNatClampNeg dv = .int w := by
  have h : j.toInt = (0 : Nat) ∨ j.toInt = (1 : Nat) ∨ j.toInt = (2 : Nat) ∨ j.toInt = (3 : Nat) ∨ j.toInt = (4 : Nat) := by omega
  rcases h with h | h | h | h | h <;> (rw [own_nat h]; refine ⟨_, ?_, rfl⟩; simp [h])
theorem own_at6 (a0 a1 a2 a3 a4 a5 : Int32) (dv : Value) (j : Int32) (k : Int) (hk : k ≤ 6) (h1 : 0 ≤ j.toInt) (h2 : j.toInt < k) :
    ∃ w : Int32, ((j.toInt = 0 ∧ w = a0) ∨ (j.toInt = 1 ∧ w = a1) ∨ (j.toInt = 2 ∧ w = a2) ∨ (j.toInt = 3 ∧ w = a3) ∨ (j.toInt = 4 ∧ w = a4) ∨ (j.toInt = 5 ∧ w = a5)) ∧ ([(.int a0), (.int a1), (.int a2), (.int a3), (.int a4), (.int a5)] : List Value).getD j.toNatClampNeg dv = .int w := by
  have h : j.toInt = (0 : Nat) ∨ j.toInt = (1 : Nat) ∨ j.toInt = (2 : Nat) ∨ j.toInt = (3 : Nat) ∨ j.toInt = (4 : Nat) ∨ j.toInt = (5 : Nat) := by omega
  rcases h with h | h | h | h | h | h <;> (rw [own_nat h]; refine ⟨_, ?_, rfl⟩; simp [h])
theorem own_at8 (a0 a1 a2 a3 a4 a5 a6 a7 : Int32) (dv : Value) (j : Int32) (k : Int) (hk : k ≤ 8) (h1 : 0 ≤ j.toInt) (h2 : j.toInt < k) :
    ∃ w : Int32, ((j.toInt = 0 ∧ w = a0) ∨ (j.toInt = 1 ∧ w = a1) ∨ (j.toInt = 2 ∧ w = a2) ∨ (j.toInt = 3 ∧ w = a3) ∨ (j.toInt = 4 ∧ w = a4) ∨ (j.toInt = 5 ∧ w = a5) ∨ (j.toInt = 6 ∧ w = a6) ∨ (j.toInt = 7 ∧ w = a7)) ∧ ([(.int a0), (.int a1), (.int a2), (.int a3), (.int a4), (.int a5), (.int a6), (.int a7)] : List Value).getD j.toNatClampNeg dv = .int w := by
  have h : j.toInt = (0 : Nat) ∨ j.toInt = (1 : Nat) ∨ j.toInt = (2 : Nat) ∨ j.toInt = (3 : Nat) ∨ j.toInt = (4 : Nat) ∨ j.toInt = (5 : Nat) ∨ j.toInt = (6 : Nat) ∨ j.toInt = (7 : Nat) := by omega
  rcases h with h | h | h | h | h | h | h | h <;> (rw [own_nat h]; refine ⟨_, ?_, rfl⟩; simp [h])

theorem d1_0 : decode prog_26_method_1_code 0 = .ok (.aload_n 0, 1) := by decide +kernel
theorem d1_1 : decode prog_26_method_1_code 1 = .ok (.invokespecial 1, 3) := by decide +kernel
theorem d1_4 : decode prog_26_method_1_code 4 = .ok (.aload_n 0, 1) := by decide +kernel
theorem d1_5 : decode prog_26_method_1_code 5 = .ok (.iconst 2, 1) := by decide +kernel
theorem d1_6 : decode prog_26_method_1_code 6 = .ok (.newarray .int, 2) := by decide +kernel
theorem d1_8 : decode prog_26_method_1_code 8 = .ok (.putfield 7, 3) := by decide +kernel
theorem d1_11 : decode prog_26_method_1_code 11 = .ok (.aload_n 0, 1) := by decide +kernel
theorem d1_12 : decode prog_26_method_1_code 12 = .ok (.iconst 2, 1) := by decide +kernel
theorem d1_13 : decode prog_26_method_1_code 13 = .ok (.newarray .int, 2) := by decide +kernel
theorem d1_15 : decode prog_26_method_1_code 15 = .ok (.putfield 13, 3) := by decide +kernel
theorem d1_18 : decode prog_26_method_1_code 18 = .ok (.return_, 1) := by decide +kernel
theorem ef_1 (m : MethodId) (x0 : Addr) : entryFrame m #[(.ref x0)] 1 = mkF m 0 #[.val (.ref x0)] [] := by first | (simp [entryFrame, mkF, argsToLocals, Value.category]; done) | rfl
def Q1 (Z : State) (o0 : Addr) (h0 : Heap) (n0 : Nat) (v : Option Value) (h : Heap) (L : List Loc) : Prop := ∃ b2 : Addr, ∃ b12 : Addr, ∃ k2 : ClassId, ∃ k12 : ClassId, v = none ∧ Fr n0 L ∧ Keep h0 h ([o0] : List Addr) ∧ h0.size ≤ b2 ∧ h0.size ≤ b12 ∧ b2 ≠ b12 ∧ Fld Z h o0 "com/example/robust_broker/robustbroker/Postings" "size" "I" (.int (0 : Int32)) ∧ Fld Z h o0 "com/example/robust_broker/robustbroker/Postings" "collectionFrequency" "J" (.long (0 : Int64)) ∧ Exa Z h b2 "[I" ∧ Arv Z h b2 k2 .int (2 : Int32) [(.int (0 : Int32)), (.int (0 : Int32))] (.int (0 : Int32)) ∧ Fld Z h o0 "com/example/robust_broker/robustbroker/Postings" "documents" "[I" (.ref b2) ∧ Exa Z h b12 "[I" ∧ Arv Z h b12 k12 .int (2 : Int32) [(.int (0 : Int32)), (.int (0 : Int32))] (.int (0 : Int32)) ∧ Fld Z h o0 "com/example/robust_broker/robustbroker/Postings" "frequencies" "[I" (.ref b12)
set_option maxRecDepth 65536 in
set_option maxHeartbeats 40000000 in
theorem rm1 (l : Launch) (Z : State) (a0 : Array Value) (hw : ∀ d ∈ tables_1, d.before a0 Z = true) (ws : List Jvm.Cond) (o0 : Addr) (h0 : Heap) (n0 : Nat) (Z0 : n0 ≤ h0.size) (F_size : Fld Z h0 o0 "com/example/robust_broker/robustbroker/Postings" "size" "I" (.int (0 : Int32))) (F_collectionFrequency : Fld Z h0 o0 "com/example/robust_broker/robustbroker/Postings" "collectionFrequency" "J" (.long (0 : Int64))) (E_o0 : Exa Z h0 o0 "com/example/robust_broker/robustbroker/Postings") (F_documents_o0 : Fld Z h0 o0 "com/example/robust_broker/robustbroker/Postings" "documents" "[I" .null) (g_o0 : n0 ≤ o0) (F_frequencies_o0 : Fld Z h0 o0 "com/example/robust_broker/robustbroker/Postings" "frequencies" "[I" .null) :
    MetFree l (⟨"com/example/robust_broker/robustbroker/Postings", "<init>", "()V"⟩ : MethodName) (head1 (Jvm.Cond.code (⟨"com/example/robust_broker/robustbroker/Postings", "<init>", "()V"⟩ : MethodName) prog_26_method_1_code 1 none :: ws) ({ frames := 1, cells := 2, slots := 4, locals := 12 } : Room)) (fun a U => a = #[(.ref o0)] ∧ Z.Warmed39 U.vm ∧ U.heap = h0) (fun _ _ _ _ _ => True) (fun _ U o U' => ∃ v L, o = .returned v ∧ Q1 Z o0 h0 n0 v U'.heap L ∧ FrameEnd U o U' L ({ frames := 1, cells := 2, slots := 4, locals := 12 } : Room).cells ({ frames := 1, cells := 2, slots := 4, locals := 12 } : Room).slots) := by
  refine MetFree.of_bodySF (plainFor_of_name (by first | (simp [plainName, overriddenIn]; done) | decide +kernel)) hisR ?_
  intro p e s m args below meth c s₁ Bd hml0 hP hK
  obtain ⟨rfl, hZ, hh⟩ := hP
  have hx := Bd.exec
  have hby := Bd.bytes
  have hml : c.maxLocals = 1 := hml0
  have hown : s.vm.findClass "com/example/robust_broker/robustbroker/Postings" = some m.cls := findClass_of_methodNamed Bd.named
  have hnm := (name_of_methodNamed Bd.named Bd.method).1
  have hlk := BodyLoose.notSynchronized Bd
  have X0 : Stand p l e ({ frames := 1, cells := 2, slots := 4, locals := 12 } : Room) s m #[(.ref o0)] below meth c s₁ [] 0 0 := Stand.of_body Bd
  have e0 : s₁.heap = h0 := by rw [← hh, Bd.state]; rfl
  have N0 := Fr.nil n0
  show Go p e below s (Q1 Z o0 h0 n0) 2 4 (s₁.setTop (entryFrame m #[(.ref o0)] 1))
  rw [ef_1]
  show Go _ _ _ _ _ _ _ (s₁.setTop (mkF m 0 #[.val (.ref o0)] []))
  refine gob (fun _ k => XS.aloadN X0.here hx rfl (hb hby d1_0) rfl rfl k) ?_
  show Go _ _ _ _ _ _ _ (s₁.setTop (mkF m 1 #[.val (.ref o0)] [(.ref o0)]))
  obtain ⟨T1, X1, e1, st1⟩ := initO X0 hx hZ hown (hw _ (List.mem_of_getElem? (i := 8) rfl)) (hw _ (List.mem_of_getElem? (i := 9) rfl)) (hw _ (List.mem_of_getElem? (i := 10) rfl)) e0 (g := (mkF m 1 #[.val (.ref o0)] [(.ref o0)])) rfl (by rw [hml]; rfl) rfl (hb hby d1_1) (by decide) (W := 0) (by show 2 * 0 + _ ≤ _; exact Nat.le_of_eq rfl) (by decide)
  refine gob st1 ?_
  show Go _ _ _ _ _ _ _ (T1.setTop (mkF m 4 #[.val (.ref o0)] []))
  refine gob (fun _ k => XS.aloadN X1.here hx rfl (hb hby d1_4) rfl rfl k) ?_
  show Go _ _ _ _ _ _ _ (T1.setTop (mkF m 5 #[.val (.ref o0)] [(.ref o0)]))
  refine gob (fun _ k => XS.iconst X1.here hx rfl (hb hby d1_5) k) ?_
  show Go _ _ _ _ _ _ _ (T1.setTop (mkF m 6 #[.val (.ref o0)] [(.int (2 : Int32)), (.ref o0)]))
  obtain ⟨T2, h2, k2, X2, e2, E2, A2, B2, st2⟩ := newPE X1 hx hZ (hw _ (List.mem_of_getElem? (i := 11) rfl)) e1 (g := (mkF m 6 #[.val (.ref o0)] [(.int (2 : Int32)), (.ref o0)])) rfl (hb hby d1_6) rfl (by decide) (cap := 2) (by decide) (by decide) (by decide) (by decide) (ad := "[I") (by decide)
  obtain ⟨b2, g2⟩ : ∃ z, z = h0.size := ⟨_, rfl⟩
  rw [← g2] at A2 B2 st2
  have n3 : o0 ≠ b2 := Nat.ne_of_lt (Nat.lt_of_lt_of_le F_size.lt (Nat.le_of_eq g2.symm))
  have g4 : n0 ≤ b2 := Nat.le_trans Z0 (Nat.le_of_eq g2.symm)
  have sz_b2 : h0.size ≤ b2 := Nat.le_trans (Keep.refl h0 []).1 (Nat.le_of_eq g2.symm)
  have z5 : n0 ≤ h2.size := Nat.le_trans Z0 E2.1
  have K6 : Keep h0 h2 ([o0] : List Addr) := (Keep.refl h0 ([o0] : List Addr)).ext E2
  have V2 : Arv Z h2 b2 k2 .int (2 : Int32) [(.int (0 : Int32)), (.int (0 : Int32))] (.int (0 : Int32)) := (Arv.new A2 (by decide)).pad (pad_rep [] (.int (0 : Int32)) 2)
  refine gob st2 ?_
  show Go _ _ _ _ _ _ _ (T2.setTop (mkF m 8 #[.val (.ref o0)] [(.ref b2), (.ref o0)]))
  have c7 := (F_documents_o0.ext E2)
  have c8 := (E_o0.ext E2)
  obtain ⟨T9, h9, X9, e9, W9, st9⟩ := putF X2 hx hZ hown (host := "") (Or.inl (hw _ (List.mem_of_getElem? (i := 12) rfl))) Via.refl e2 c7 c8 (Or.inl (hw _ (List.mem_of_getElem? (i := 13) rfl))) (hw _ (List.mem_of_getElem? (i := 3) rfl)) (ty := (.array .int)) (by decide) rfl rfl (g := (mkF m 8 #[.val (.ref o0)] [(.ref b2), (.ref o0)])) rfl rfl (hb hby d1_8)
  refine gob st9 ?_
  have z10 : n0 ≤ h9.size := Nat.le_trans z5 (Keep.of_wr W9).1
  have N9 := Fr.snoc X9 N0 g_o0
  have K11 : Keep h0 h9 ([o0] : List Addr) := K6.wr W9 (Or.inl (List.mem_of_getElem? (i := 0) rfl))
  have Fw9 := c7.same W9
  show Go _ _ _ _ _ _ _ (T9.setTop (mkF m 11 #[.val (.ref o0)] []))
  refine gob (fun _ k => XS.aloadN X9.here hx rfl (hb hby d1_11) rfl rfl k) ?_
  show Go _ _ _ _ _ _ _ (T9.setTop (mkF m 12 #[.val (.ref o0)] [(.ref o0)]))
  refine gob (fun _ k => XS.iconst X9.here hx rfl (hb hby d1_12) k) ?_
  show Go _ _ _ _ _ _ _ (T9.setTop (mkF m 13 #[.val (.ref o0)] [(.int (2 : Int32)), (.ref o0)]))
  obtain ⟨T12, h12, k12, X12, e12, E12, A12, B12, st12⟩ := newPE X9 hx hZ (hw _ (List.mem_of_getElem? (i := 11) rfl)) e9 (g := (mkF m 13 #[.val (.ref o0)] [(.int (2 : Int32)), (.ref o0)])) rfl (hb hby d1_13) rfl (by decide) (cap := 2) (by decide) (by decide) (by decide) (by decide) (ad := "[I") (by decide)
  obtain ⟨b12, g12⟩ : ∃ z, z = h9.size := ⟨_, rfl⟩
  rw [← g12] at A12 B12 st12
  have c13 := ((F_size.ext E2).other W9 (Or.inr (slot_ne (Or.inl (hw _ (List.mem_of_getElem? (i := 22) rfl))) (Or.inl (hw _ (List.mem_of_getElem? (i := 13) rfl))) (by decide) (t := .int) (t' := (.array .int)) (by decide) (by decide))))
  have n14 : o0 ≠ b12 := Nat.ne_of_lt (Nat.lt_of_lt_of_le c13.lt (Nat.le_of_eq g12.symm))
  have c15 := (B2.wr W9)
  have n16 : b2 ≠ b12 := Nat.ne_of_lt (Nat.lt_of_lt_of_le c15.lt (Nat.le_of_eq g12.symm))
  have g17 : n0 ≤ b12 := Nat.le_trans z10 (Nat.le_of_eq g12.symm)
  have sz_b12 : h0.size ≤ b12 := Nat.le_trans K11.1 (Nat.le_of_eq g12.symm)
  have z18 : n0 ≤ h12.size := Nat.le_trans z10 E12.1
  have K19 : Keep h0 h12 ([o0] : List Addr) := K11.ext E12
  have V12 : Arv Z h12 b12 k12 .int (2 : Int32) [(.int (0 : Int32)), (.int (0 : Int32))] (.int (0 : Int32)) := (Arv.new A12 (by decide)).pad (pad_rep [] (.int (0 : Int32)) 2)
  refine gob st12 ?_
  show Go _ _ _ _ _ _ _ (T12.setTop (mkF m 15 #[.val (.ref o0)] [(.ref b12), (.ref o0)]))
  have c20 := (((F_frequencies_o0.ext E2).other W9 (Or.inr (slot_ne (Or.inl (hw _ (List.mem_of_getElem? (i := 15) rfl))) (Or.inl (hw _ (List.mem_of_getElem? (i := 13) rfl))) (by decide) (t := (.array .int)) (t' := (.array .int)) (by decide) (by decide)))).ext E12)
  have c21 := ((c8.wr W9).ext E12)
  obtain ⟨T22, h22, X22, e22, W22, st22⟩ := putF X12 hx hZ hown (host := "") (Or.inl (hw _ (List.mem_of_getElem? (i := 14) rfl))) Via.refl e12 c20 c21 (Or.inl (hw _ (List.mem_of_getElem? (i := 15) rfl))) (hw _ (List.mem_of_getElem? (i := 3) rfl)) (ty := (.array .int)) (by decide) rfl rfl (g := (mkF m 15 #[.val (.ref o0)] [(.ref b12), (.ref o0)])) rfl rfl (hb hby d1_15)
  refine gob st22 ?_
  have z23 : n0 ≤ h22.size := Nat.le_trans z18 (Keep.of_wr W22).1
  have N22 := Fr.snoc X22 N9 g_o0
  have K24 : Keep h0 h22 ([o0] : List Addr) := K19.wr W22 (Or.inl (List.mem_of_getElem? (i := 0) rfl))
  have Fw22 := c20.same W22
  show Go _ _ _ _ _ _ _ (T22.setTop (mkF m 18 #[.val (.ref o0)] []))
  refine goV X22 hx hlk Bd.returns (hb hby d1_18) ?_ (by decide) (by decide)
  show Q1 Z o0 h0 n0 (none) T22.heap _
  have c25 := ((c13.ext E12).other W22 (Or.inr (slot_ne (Or.inl (hw _ (List.mem_of_getElem? (i := 22) rfl))) (Or.inl (hw _ (List.mem_of_getElem? (i := 15) rfl))) (by decide) (t := .int) (t' := (.array .int)) (by decide) (by decide))))
  have c26 := ((((F_collectionFrequency.ext E2).other W9 (Or.inr (slot_ne (Or.inl (hw _ (List.mem_of_getElem? (i := 46) rfl))) (Or.inl (hw _ (List.mem_of_getElem? (i := 13) rfl))) (by decide) (t := .long) (t' := (.array .int)) (by decide) (by decide)))).ext E12).other W22 (Or.inr (slot_ne (Or.inl (hw _ (List.mem_of_getElem? (i := 46) rfl))) (Or.inl (hw _ (List.mem_of_getElem? (i := 15) rfl))) (by decide) (t := .long) (t' := (.array .int)) (by decide) (by decide))))
  have c27 := ((c15.ext E12).wr W22)
  have c28 := (((V2.other W9 (Ne.symm n3)).ext E12).other W22 (Ne.symm n3))
  have c29 := ((Fw9.ext E12).other W22 (Or.inr (slot_ne (Or.inl (hw _ (List.mem_of_getElem? (i := 13) rfl))) (Or.inl (hw _ (List.mem_of_getElem? (i := 15) rfl))) (by decide) (t := (.array .int)) (t' := (.array .int)) (by decide) (by decide))))
  have c30 := (B12.wr W22)
  have c31 := (V12.other W22 (Ne.symm n14))
  rw [e22]
  exact ⟨b2, b12, k2, k12, rfl, N22, K24, sz_b2, sz_b12, n16, c25, c26, c27, c28, c29, c30, c31, Fw22⟩
theorem d6_0 : decode prog_26_method_4_code 0 = .ok (.aload_n 0, 1) := by decide +kernel
theorem d6_1 : decode prog_26_method_4_code 1 = .ok (.getfield 16, 3) := by decide +kernel
theorem d6_4 : decode prog_26_method_4_code 4 = .ok (.ireturn, 1) := by decide +kernel
theorem ef_6 (m : MethodId) (x0 : Addr) : entryFrame m #[(.ref x0)] 1 = mkF m 0 #[.val (.ref x0)] [] := by first | (simp [entryFrame, mkF, argsToLocals, Value.category]; done) | rfl
def Q6 (Z : State) (o0 : Addr) (w1 : Int32) (h0 : Heap) (n0 : Nat) (v : Option Value) (h : Heap) (L : List Loc) : Prop := ∃ r : Int32, v = some (.int r) ∧ ((r = w1)) ∧ Fr n0 L ∧ h = h0
set_option maxRecDepth 65536 in
set_option maxHeartbeats 40000000 in
theorem rm6 (l : Launch) (Z : State) (a0 : Array Value) (hw : ∀ d ∈ tables_1, d.before a0 Z = true) (ws : List Jvm.Cond) (o0 : Addr) (w1 : Int32) (h0 : Heap) (n0 : Nat) (Z0 : n0 ≤ h0.size) (F_size_o0 : Fld Z h0 o0 "com/example/robust_broker/robustbroker/Postings" "size" "I" (.int w1)) :
    MetFree l (⟨"com/example/robust_broker/robustbroker/Postings", "size", "()I"⟩ : MethodName) (head1 (Jvm.Cond.code (⟨"com/example/robust_broker/robustbroker/Postings", "size", "()I"⟩ : MethodName) prog_26_method_4_code 1 (some .int) :: ws) ({ frames := 0, cells := 0, slots := 0, locals := 0 } : Room)) (fun a U => a = #[(.ref o0)] ∧ Z.Warmed39 U.vm ∧ U.heap = h0) (fun _ _ _ _ _ => True) (fun _ U o U' => ∃ v L, o = .returned v ∧ Q6 Z o0 w1 h0 n0 v U'.heap L ∧ FrameEnd U o U' L ({ frames := 0, cells := 0, slots := 0, locals := 0 } : Room).cells ({ frames := 0, cells := 0, slots := 0, locals := 0 } : Room).slots) := by
  refine MetFree.of_bodySF (plainFor_of_name (by first | (simp [plainName, overriddenIn]; done) | decide +kernel)) hisR ?_
  intro p e s m args below meth c s₁ Bd hml0 hP hK
  obtain ⟨rfl, hZ, hh⟩ := hP
  have hx := Bd.exec
  have hby := Bd.bytes
  have hml : c.maxLocals = 1 := hml0
  have hown : s.vm.findClass "com/example/robust_broker/robustbroker/Postings" = some m.cls := findClass_of_methodNamed Bd.named
  have hnm := (name_of_methodNamed Bd.named Bd.method).1
  have hlk := BodyLoose.notSynchronized Bd
  have X0 : Stand p l e ({ frames := 0, cells := 0, slots := 0, locals := 0 } : Room) s m #[(.ref o0)] below meth c s₁ [] 0 0 := Stand.of_body Bd
  have e0 : s₁.heap = h0 := by rw [← hh, Bd.state]; rfl
  have N0 := Fr.nil n0
  show Go p e below s (Q6 Z o0 w1 h0 n0) 0 0 (s₁.setTop (entryFrame m #[(.ref o0)] 1))
  rw [ef_6]
  show Go _ _ _ _ _ _ _ (s₁.setTop (mkF m 0 #[.val (.ref o0)] []))
  refine gob (fun _ k => XS.aloadN X0.here hx rfl (hb hby d6_0) rfl rfl k) ?_
  show Go _ _ _ _ _ _ _ (s₁.setTop (mkF m 1 #[.val (.ref o0)] [(.ref o0)]))
  obtain ⟨T2, X2, e2, st2⟩ := getF X0 hx hZ hown (host := "") (Or.inl (hw _ (List.mem_of_getElem? (i := 21) rfl))) Via.refl e0 F_size_o0 (g := (mkF m 1 #[.val (.ref o0)] [(.ref o0)])) rfl rfl (hb hby d6_1)
  refine gob st2 ?_
  show Go _ _ _ _ _ _ _ (T2.setTop (mkF m 4 #[.val (.ref o0)] [(.int w1)]))
  refine goI X2 hx hlk Bd.returns (hb hby d6_4) ?_ (by decide) (by decide)
  show Q6 Z o0 w1 h0 n0 (some (.int w1)) T2.heap _
  exact ⟨w1, rfl, rfl, N0, e2⟩
theorem d7_0 : decode prog_26_method_7_code 0 = .ok (.aload_n 0, 1) := by decide +kernel
theorem d7_1 : decode prog_26_method_7_code 1 = .ok (.getfield 26, 3) := by decide +kernel
theorem d7_4 : decode prog_26_method_7_code 4 = .ok (.lreturn, 1) := by decide +kernel
theorem ef_7 (m : MethodId) (x0 : Addr) : entryFrame m #[(.ref x0)] 1 = mkF m 0 #[.val (.ref x0)] [] := by first | (simp [entryFrame, mkF, argsToLocals, Value.category]; done) | rfl
def Q7 (Z : State) (o0 : Addr) (w1 : Int64) (h0 : Heap) (n0 : Nat) (v : Option Value) (h : Heap) (L : List Loc) : Prop := ∃ r : Int64, v = some (.long r) ∧ ((r = w1)) ∧ Fr n0 L ∧ h = h0
set_option maxRecDepth 65536 in
set_option maxHeartbeats 40000000 in
theorem rm7 (l : Launch) (Z : State) (a0 : Array Value) (hw : ∀ d ∈ tables_1, d.before a0 Z = true) (ws : List Jvm.Cond) (o0 : Addr) (w1 : Int64) (h0 : Heap) (n0 : Nat) (Z0 : n0 ≤ h0.size) (F_collectionFrequency_o0 : Fld Z h0 o0 "com/example/robust_broker/robustbroker/Postings" "collectionFrequency" "J" (.long w1)) :
    MetFree l (⟨"com/example/robust_broker/robustbroker/Postings", "collectionFrequency", "()J"⟩ : MethodName) (head1 (Jvm.Cond.code (⟨"com/example/robust_broker/robustbroker/Postings", "collectionFrequency", "()J"⟩ : MethodName) prog_26_method_7_code 1 (some .long) :: ws) ({ frames := 0, cells := 0, slots := 0, locals := 0 } : Room)) (fun a U => a = #[(.ref o0)] ∧ Z.Warmed39 U.vm ∧ U.heap = h0) (fun _ _ _ _ _ => True) (fun _ U o U' => ∃ v L, o = .returned v ∧ Q7 Z o0 w1 h0 n0 v U'.heap L ∧ FrameEnd U o U' L ({ frames := 0, cells := 0, slots := 0, locals := 0 } : Room).cells ({ frames := 0, cells := 0, slots := 0, locals := 0 } : Room).slots) := by
  refine MetFree.of_bodySF (plainFor_of_name (by first | (simp [plainName, overriddenIn]; done) | decide +kernel)) hisR ?_
  intro p e s m args below meth c s₁ Bd hml0 hP hK
  obtain ⟨rfl, hZ, hh⟩ := hP
  have hx := Bd.exec
  have hby := Bd.bytes
  have hml : c.maxLocals = 1 := hml0
  have hown : s.vm.findClass "com/example/robust_broker/robustbroker/Postings" = some m.cls := findClass_of_methodNamed Bd.named
  have hnm := (name_of_methodNamed Bd.named Bd.method).1
  have hlk := BodyLoose.notSynchronized Bd
  have X0 : Stand p l e ({ frames := 0, cells := 0, slots := 0, locals := 0 } : Room) s m #[(.ref o0)] below meth c s₁ [] 0 0 := Stand.of_body Bd
  have e0 : s₁.heap = h0 := by rw [← hh, Bd.state]; rfl
  have N0 := Fr.nil n0
  show Go p e below s (Q7 Z o0 w1 h0 n0) 0 0 (s₁.setTop (entryFrame m #[(.ref o0)] 1))
  rw [ef_7]
  show Go _ _ _ _ _ _ _ (s₁.setTop (mkF m 0 #[.val (.ref o0)] []))
  refine gob (fun _ k => XS.aloadN X0.here hx rfl (hb hby d7_0) rfl rfl k) ?_
  show Go _ _ _ _ _ _ _ (s₁.setTop (mkF m 1 #[.val (.ref o0)] [(.ref o0)]))
  obtain ⟨T2, X2, e2, st2⟩ := getF X0 hx hZ hown (host := "") (Or.inl (hw _ (List.mem_of_getElem? (i := 45) rfl))) Via.refl e0 F_collectionFrequency_o0 (g := (mkF m 1 #[.val (.ref o0)] [(.ref o0)])) rfl rfl (hb hby d7_1)
  refine gob st2 ?_
  show Go _ _ _ _ _ _ _ (T2.setTop (mkF m 4 #[.val (.ref o0)] [(.long w1)]))
  refine goJ X2 hx hlk Bd.returns (hb hby d7_4) ?_ (by decide) (by decide)
  show Q7 Z o0 w1 h0 n0 (some (.long w1)) T2.heap _
  exact ⟨w1, rfl, rfl, N0, e2⟩
theorem d5_0 : decode jdk_29_method_69_code 0 = .ok (.iload_n 0, 1) := by decide +kernel
theorem d5_1 : decode jdk_29_method_69_code 1 = .ok (.iload_n 1, 1) := by decide +kernel
theorem d5_2 : decode jdk_29_method_69_code 2 = .ok (.if_icmp .gt 7, 3) := by decide +kernel
theorem d5_5 : decode jdk_29_method_69_code 5 = .ok (.iload_n 0, 1) := by decide +kernel
theorem d5_6 : decode jdk_29_method_69_code 6 = .ok (.goto 4, 3) := by decide +kernel
theorem d5_9 : decode jdk_29_method_69_code 9 = .ok (.iload_n 1, 1) := by decide +kernel
theorem d5_10 : decode jdk_29_method_69_code 10 = .ok (.ireturn, 1) := by decide +kernel
theorem ef_min_2_0 (m : MethodId)  : entryFrame m #[(.int (2 : Int32)), (.int (0 : Int32))] 2 = mkF m 0 #[.val (.int (2 : Int32)), .val (.int (0 : Int32))] [] := by first | (simp [entryFrame, mkF, argsToLocals, Value.category]; done) | rfl
def Qmin_2_0 (Z : State)  (h0 : Heap) (n0 : Nat) (v : Option Value) (h : Heap) (L : List Loc) : Prop := v = some (.int (0 : Int32)) ∧ Fr n0 L ∧ h = h0
set_option maxRecDepth 65536 in
set_option maxHeartbeats 40000000 in
theorem rmmin_2_0 (l : Launch) (Z : State) (a0 : Array Value) (hw : ∀ d ∈ tables_1, d.before a0 Z = true) (ws : List Jvm.Cond)  (h0 : Heap) (n0 : Nat) (Z0 : n0 ≤ h0.size) :
    MetFree l (⟨"java/lang/Math", "min", "(II)I"⟩ : MethodName) (head1 (Jvm.Cond.code (⟨"java/lang/Math", "min", "(II)I"⟩ : MethodName) jdk_29_method_69_code 2 (some .int) :: ws) ({ frames := 0, cells := 0, slots := 0, locals := 0 } : Room)) (fun a U => a = #[(.int (2 : Int32)), (.int (0 : Int32))] ∧ Z.Warmed39 U.vm ∧ U.heap = h0) (fun _ _ _ _ _ => True) (fun _ U o U' => ∃ v L, o = .returned v ∧ Qmin_2_0 Z  h0 n0 v U'.heap L ∧ FrameEnd U o U' L ({ frames := 0, cells := 0, slots := 0, locals := 0 } : Room).cells ({ frames := 0, cells := 0, slots := 0, locals := 0 } : Room).slots) := by
  refine MetFree.of_bodySF (Jvm.Free.JP.mathPlain rfl (by decide +kernel)) hisR ?_
  intro p e s m args below meth c s₁ Bd hml0 hP hK
  obtain ⟨rfl, hZ, hh⟩ := hP
  have hx := Bd.exec
  have hby := Bd.bytes
  have hml : c.maxLocals = 2 := hml0
  have hown : s.vm.findClass "java/lang/Math" = some m.cls := findClass_of_methodNamed Bd.named
  have hnm := (name_of_methodNamed Bd.named Bd.method).1
  have hlk := BodyLoose.notSynchronized Bd
  have X0 : Stand p l e ({ frames := 0, cells := 0, slots := 0, locals := 0 } : Room) s m #[(.int (2 : Int32)), (.int (0 : Int32))] below meth c s₁ [] 0 0 := Stand.of_body Bd
  have e0 : s₁.heap = h0 := by rw [← hh, Bd.state]; rfl
  have N0 := Fr.nil n0
  show Go p e below s (Qmin_2_0 Z  h0 n0) 0 0 (s₁.setTop (entryFrame m #[(.int (2 : Int32)), (.int (0 : Int32))] 2))
  rw [ef_min_2_0]
  show Go _ _ _ _ _ _ _ (s₁.setTop (mkF m 0 #[.val (.int (2 : Int32)), .val (.int (0 : Int32))] []))
  refine gob (fun _ k => XS.iloadN X0.here hx rfl (hb hby d5_0) rfl k) ?_
  show Go _ _ _ _ _ _ _ (s₁.setTop (mkF m 1 #[.val (.int (2 : Int32)), .val (.int (0 : Int32))] [(.int (2 : Int32))]))
  refine gob (fun _ k => XS.iloadN X0.here hx rfl (hb hby d5_1) rfl k) ?_
  show Go _ _ _ _ _ _ _ (s₁.setTop (mkF m 2 #[.val (.int (2 : Int32)), .val (.int (0 : Int32))] [(.int (0 : Int32)), (.int (2 : Int32))]))
  refine gob (fun _ k => XS.icmpYes X0.here hx rfl (pc0 := 2) (pc' := 9) rfl (hb hby d5_2) rfl (tlt (by decide : (0 : Int32) < (2 : Int32))).2.2.1 (by decide) (by decide) k) ?_
  show Go _ _ _ _ _ _ _ (s₁.setTop (mkF m 9 #[.val (.int (2 : Int32)), .val (.int (0 : Int32))] []))
  refine gob (fun _ k => XS.iloadN X0.here hx rfl (hb hby d5_9) rfl k) ?_
  show Go _ _ _ _ _ _ _ (s₁.setTop (mkF m 10 #[.val (.int (2 : Int32)), .val (.int (0 : Int32))] [(.int (0 : Int32))]))
  refine goI X0 hx hlk Bd.returns (hb hby d5_10) ?_ (by decide) (by decide)
  show Qmin_2_0 Z  h0 n0 (some (.int (0 : Int32))) s₁.heap _
  exact ⟨rfl, N0, e0⟩
theorem ef_min_1_2 (m : MethodId)  : entryFrame m #[(.int (1 : Int32)), (.int (2 : Int32))] 2 = mkF m 0 #[.val (.int (1 : Int32)), .val (.int (2 : Int32))] [] := by first | (simp [entryFrame, mkF, argsToLocals, Value.category]; done) | rfl
def Qmin_1_2 (Z : State)  (h0 : Heap) (n0 : Nat) (v : Option Value) (h : Heap) (L : List Loc) : Prop := v = some (.int (1 : Int32)) ∧ Fr n0 L ∧ h = h0
set_option maxRecDepth 65536 in
set_option maxHeartbeats 40000000 in
theorem rmmin_1_2 (l : Launch) (Z : State) (a0 : Array Value) (hw : ∀ d ∈ tables_1, d.before a0 Z = true) (ws : List Jvm.Cond)  (h0 : Heap) (n0 : Nat) (Z0 : n0 ≤ h0.size) :
    MetFree l (⟨"java/lang/Math", "min", "(II)I"⟩ : MethodName) (head1 (Jvm.Cond.code (⟨"java/lang/Math", "min", "(II)I"⟩ : MethodName) jdk_29_method_69_code 2 (some .int) :: ws) ({ frames := 0, cells := 0, slots := 0, locals := 0 } : Room)) (fun a U => a = #[(.int (1 : Int32)), (.int (2 : Int32))] ∧ Z.Warmed39 U.vm ∧ U.heap = h0) (fun _ _ _ _ _ => True) (fun _ U o U' => ∃ v L, o = .returned v ∧ Qmin_1_2 Z  h0 n0 v U'.heap L ∧ FrameEnd U o U' L ({ frames := 0, cells := 0, slots := 0, locals := 0 } : Room).cells ({ frames := 0, cells := 0, slots := 0, locals := 0 } : Room).slots) := by
  refine MetFree.of_bodySF (Jvm.Free.JP.mathPlain rfl (by decide +kernel)) hisR ?_
  intro p e s m args below meth c s₁ Bd hml0 hP hK
  obtain ⟨rfl, hZ, hh⟩ := hP
  have hx := Bd.exec
  have hby := Bd.bytes
  have hml : c.maxLocals = 2 := hml0
  have hown : s.vm.findClass "java/lang/Math" = some m.cls := findClass_of_methodNamed Bd.named
  have hnm := (name_of_methodNamed Bd.named Bd.method).1
  have hlk := BodyLoose.notSynchronized Bd
  have X0 : Stand p l e ({ frames := 0, cells := 0, slots := 0, locals := 0 } : Room) s m #[(.int (1 : Int32)), (.int (2 : Int32))] below meth c s₁ [] 0 0 := Stand.of_body Bd
  have e0 : s₁.heap = h0 := by rw [← hh, Bd.state]; rfl
  have N0 := Fr.nil n0
  show Go p e below s (Qmin_1_2 Z  h0 n0) 0 0 (s₁.setTop (entryFrame m #[(.int (1 : Int32)), (.int (2 : Int32))] 2))
  rw [ef_min_1_2]
  show Go _ _ _ _ _ _ _ (s₁.setTop (mkF m 0 #[.val (.int (1 : Int32)), .val (.int (2 : Int32))] []))
  refine gob (fun _ k => XS.iloadN X0.here hx rfl (hb hby d5_0) rfl k) ?_
  show Go _ _ _ _ _ _ _ (s₁.setTop (mkF m 1 #[.val (.int (1 : Int32)), .val (.int (2 : Int32))] [(.int (1 : Int32))]))
  refine gob (fun _ k => XS.iloadN X0.here hx rfl (hb hby d5_1) rfl k) ?_
  show Go _ _ _ _ _ _ _ (s₁.setTop (mkF m 2 #[.val (.int (1 : Int32)), .val (.int (2 : Int32))] [(.int (2 : Int32)), (.int (1 : Int32))]))
  refine gob (fun _ k => XS.icmpNo X0.here hx rfl (hb hby d5_2) rfl (flt (by decide : ¬ ((2 : Int32) < (1 : Int32)))).2.2.1 k) ?_
  show Go _ _ _ _ _ _ _ (s₁.setTop (mkF m 5 #[.val (.int (1 : Int32)), .val (.int (2 : Int32))] []))
  refine gob (fun _ k => XS.iloadN X0.here hx rfl (hb hby d5_5) rfl k) ?_
  show Go _ _ _ _ _ _ _ (s₁.setTop (mkF m 6 #[.val (.int (1 : Int32)), .val (.int (2 : Int32))] [(.int (1 : Int32))]))
  refine gob (fun _ k => XS.goto X0.here hx rfl (pc0 := 6) (pc' := 10) rfl (hb hby d5_6) (by decide) (by decide) k) ?_
  show Go _ _ _ _ _ _ _ (s₁.setTop (mkF m 10 #[.val (.int (1 : Int32)), .val (.int (2 : Int32))] [(.int (1 : Int32))]))
  refine goI X0 hx hlk Bd.returns (hb hby d5_10) ?_ (by decide) (by decide)
  show Qmin_1_2 Z  h0 n0 (some (.int (1 : Int32))) s₁.heap _
  exact ⟨rfl, N0, e0⟩
theorem ef_min_2_1 (m : MethodId)  : entryFrame m #[(.int (2 : Int32)), (.int (1 : Int32))] 2 = mkF m 0 #[.val (.int (2 : Int32)), .val (.int (1 : Int32))] [] := by first | (simp [entryFrame, mkF, argsToLocals, Value.category]; done) | rfl
def Qmin_2_1 (Z : State)  (h0 : Heap) (n0 : Nat) (v : Option Value) (h : Heap) (L : List Loc) : Prop := v = some (.int (1 : Int32)) ∧ Fr n0 L ∧ h = h0
set_option maxRecDepth 65536 in
set_option maxHeartbeats 40000000 in
theorem rmmin_2_1 (l : Launch) (Z : State) (a0 : Array Value) (hw : ∀ d ∈ tables_1, d.before a0 Z = true) (ws : List Jvm.Cond)  (h0 : Heap) (n0 : Nat) (Z0 : n0 ≤ h0.size) :
    MetFree l (⟨"java/lang/Math", "min", "(II)I"⟩ : MethodName) (head1 (Jvm.Cond.code (⟨"java/lang/Math", "min", "(II)I"⟩ : MethodName) jdk_29_method_69_code 2 (some .int) :: ws) ({ frames := 0, cells := 0, slots := 0, locals := 0 } : Room)) (fun a U => a = #[(.int (2 : Int32)), (.int (1 : Int32))] ∧ Z.Warmed39 U.vm ∧ U.heap = h0) (fun _ _ _ _ _ => True) (fun _ U o U' => ∃ v L, o = .returned v ∧ Qmin_2_1 Z  h0 n0 v U'.heap L ∧ FrameEnd U o U' L ({ frames := 0, cells := 0, slots := 0, locals := 0 } : Room).cells ({ frames := 0, cells := 0, slots := 0, locals := 0 } : Room).slots) := by
  refine MetFree.of_bodySF (Jvm.Free.JP.mathPlain rfl (by decide +kernel)) hisR ?_
  intro p e s m args below meth c s₁ Bd hml0 hP hK
  obtain ⟨rfl, hZ, hh⟩ := hP
  have hx := Bd.exec
  have hby := Bd.bytes
  have hml : c.maxLocals = 2 := hml0
  have hown : s.vm.findClass "java/lang/Math" = some m.cls := findClass_of_methodNamed Bd.named
  have hnm := (name_of_methodNamed Bd.named Bd.method).1
  have hlk := BodyLoose.notSynchronized Bd
  have X0 : Stand p l e ({ frames := 0, cells := 0, slots := 0, locals := 0 } : Room) s m #[(.int (2 : Int32)), (.int (1 : Int32))] below meth c s₁ [] 0 0 := Stand.of_body Bd
  have e0 : s₁.heap = h0 := by rw [← hh, Bd.state]; rfl
  have N0 := Fr.nil n0
  show Go p e below s (Qmin_2_1 Z  h0 n0) 0 0 (s₁.setTop (entryFrame m #[(.int (2 : Int32)), (.int (1 : Int32))] 2))
  rw [ef_min_2_1]
  show Go _ _ _ _ _ _ _ (s₁.setTop (mkF m 0 #[.val (.int (2 : Int32)), .val (.int (1 : Int32))] []))
  refine gob (fun _ k => XS.iloadN X0.here hx rfl (hb hby d5_0) rfl k) ?_
  show Go _ _ _ _ _ _ _ (s₁.setTop (mkF m 1 #[.val (.int (2 : Int32)), .val (.int (1 : Int32))] [(.int (2 : Int32))]))
  refine gob (fun _ k => XS.iloadN X0.here hx rfl (hb hby d5_1) rfl k) ?_
  show Go _ _ _ _ _ _ _ (s₁.setTop (mkF m 2 #[.val (.int (2 : Int32)), .val (.int (1 : Int32))] [(.int (1 : Int32)), (.int (2 : Int32))]))
  refine gob (fun _ k => XS.icmpYes X0.here hx rfl (pc0 := 2) (pc' := 9) rfl (hb hby d5_2) rfl (tlt (by decide : (1 : Int32) < (2 : Int32))).2.2.1 (by decide) (by decide) k) ?_
  show Go _ _ _ _ _ _ _ (s₁.setTop (mkF m 9 #[.val (.int (2 : Int32)), .val (.int (1 : Int32))] []))
  refine gob (fun _ k => XS.iloadN X0.here hx rfl (hb hby d5_9) rfl k) ?_
  show Go _ _ _ _ _ _ _ (s₁.setTop (mkF m 10 #[.val (.int (2 : Int32)), .val (.int (1 : Int32))] [(.int (1 : Int32))]))
  refine goI X0 hx hlk Bd.returns (hb hby d5_10) ?_ (by decide) (by decide)
  show Qmin_2_1 Z  h0 n0 (some (.int (1 : Int32))) s₁.heap _
  exact ⟨rfl, N0, e0⟩
theorem ef_min_2_4 (m : MethodId)  : entryFrame m #[(.int (2 : Int32)), (.int (4 : Int32))] 2 = mkF m 0 #[.val (.int (2 : Int32)), .val (.int (4 : Int32))] [] := by first | (simp [entryFrame, mkF, argsToLocals, Value.category]; done) | rfl
def Qmin_2_4 (Z : State)  (h0 : Heap) (n0 : Nat) (v : Option Value) (h : Heap) (L : List Loc) : Prop := v = some (.int (2 : Int32)) ∧ Fr n0 L ∧ h = h0
set_option maxRecDepth 65536 in
set_option maxHeartbeats 40000000 in
theorem rmmin_2_4 (l : Launch) (Z : State) (a0 : Array Value) (hw : ∀ d ∈ tables_1, d.before a0 Z = true) (ws : List Jvm.Cond)  (h0 : Heap) (n0 : Nat) (Z0 : n0 ≤ h0.size) :
    MetFree l (⟨"java/lang/Math", "min", "(II)I"⟩ : MethodName) (head1 (Jvm.Cond.code (⟨"java/lang/Math", "min", "(II)I"⟩ : MethodName) jdk_29_method_69_code 2 (some .int) :: ws) ({ frames := 0, cells := 0, slots := 0, locals := 0 } : Room)) (fun a U => a = #[(.int (2 : Int32)), (.int (4 : Int32))] ∧ Z.Warmed39 U.vm ∧ U.heap = h0) (fun _ _ _ _ _ => True) (fun _ U o U' => ∃ v L, o = .returned v ∧ Qmin_2_4 Z  h0 n0 v U'.heap L ∧ FrameEnd U o U' L ({ frames := 0, cells := 0, slots := 0, locals := 0 } : Room).cells ({ frames := 0, cells := 0, slots := 0, locals := 0 } : Room).slots) := by
  refine MetFree.of_bodySF (Jvm.Free.JP.mathPlain rfl (by decide +kernel)) hisR ?_
  intro p e s m args below meth c s₁ Bd hml0 hP hK
  obtain ⟨rfl, hZ, hh⟩ := hP
  have hx := Bd.exec
  have hby := Bd.bytes
  have hml : c.maxLocals = 2 := hml0
  have hown : s.vm.findClass "java/lang/Math" = some m.cls := findClass_of_methodNamed Bd.named
  have hnm := (name_of_methodNamed Bd.named Bd.method).1
  have hlk := BodyLoose.notSynchronized Bd
  have X0 : Stand p l e ({ frames := 0, cells := 0, slots := 0, locals := 0 } : Room) s m #[(.int (2 : Int32)), (.int (4 : Int32))] below meth c s₁ [] 0 0 := Stand.of_body Bd
  have e0 : s₁.heap = h0 := by rw [← hh, Bd.state]; rfl
  have N0 := Fr.nil n0
  show Go p e below s (Qmin_2_4 Z  h0 n0) 0 0 (s₁.setTop (entryFrame m #[(.int (2 : Int32)), (.int (4 : Int32))] 2))
  rw [ef_min_2_4]
  show Go _ _ _ _ _ _ _ (s₁.setTop (mkF m 0 #[.val (.int (2 : Int32)), .val (.int (4 : Int32))] []))
  refine gob (fun _ k => XS.iloadN X0.here hx rfl (hb hby d5_0) rfl k) ?_
  show Go _ _ _ _ _ _ _ (s₁.setTop (mkF m 1 #[.val (.int (2 : Int32)), .val (.int (4 : Int32))] [(.int (2 : Int32))]))
  refine gob (fun _ k => XS.iloadN X0.here hx rfl (hb hby d5_1) rfl k) ?_
  show Go _ _ _ _ _ _ _ (s₁.setTop (mkF m 2 #[.val (.int (2 : Int32)), .val (.int (4 : Int32))] [(.int (4 : Int32)), (.int (2 : Int32))]))
  refine gob (fun _ k => XS.icmpNo X0.here hx rfl (hb hby d5_2) rfl (flt (by decide : ¬ ((4 : Int32) < (2 : Int32)))).2.2.1 k) ?_
  show Go _ _ _ _ _ _ _ (s₁.setTop (mkF m 5 #[.val (.int (2 : Int32)), .val (.int (4 : Int32))] []))
  refine gob (fun _ k => XS.iloadN X0.here hx rfl (hb hby d5_5) rfl k) ?_
  show Go _ _ _ _ _ _ _ (s₁.setTop (mkF m 6 #[.val (.int (2 : Int32)), .val (.int (4 : Int32))] [(.int (2 : Int32))]))
  refine gob (fun _ k => XS.goto X0.here hx rfl (pc0 := 6) (pc' := 10) rfl (hb hby d5_6) (by decide) (by decide) k) ?_
  show Go _ _ _ _ _ _ _ (s₁.setTop (mkF m 10 #[.val (.int (2 : Int32)), .val (.int (4 : Int32))] [(.int (2 : Int32))]))
  refine goI X0 hx hlk Bd.returns (hb hby d5_10) ?_ (by decide) (by decide)
  show Qmin_2_4 Z  h0 n0 (some (.int (2 : Int32))) s₁.heap _
  exact ⟨rfl, N0, e0⟩
theorem ef_min_4_3 (m : MethodId)  : entryFrame m #[(.int (4 : Int32)), (.int (3 : Int32))] 2 = mkF m 0 #[.val (.int (4 : Int32)), .val (.int (3 : Int32))] [] := by first | (simp [entryFrame, mkF, argsToLocals, Value.category]; done) | rfl
def Qmin_4_3 (Z : State)  (h0 : Heap) (n0 : Nat) (v : Option Value) (h : Heap) (L : List Loc) : Prop := v = some (.int (3 : Int32)) ∧ Fr n0 L ∧ h = h0
set_option maxRecDepth 65536 in
set_option maxHeartbeats 40000000 in
theorem rmmin_4_3 (l : Launch) (Z : State) (a0 : Array Value) (hw : ∀ d ∈ tables_1, d.before a0 Z = true) (ws : List Jvm.Cond)  (h0 : Heap) (n0 : Nat) (Z0 : n0 ≤ h0.size) :
    MetFree l (⟨"java/lang/Math", "min", "(II)I"⟩ : MethodName) (head1 (Jvm.Cond.code (⟨"java/lang/Math", "min", "(II)I"⟩ : MethodName) jdk_29_method_69_code 2 (some .int) :: ws) ({ frames := 0, cells := 0, slots := 0, locals := 0 } : Room)) (fun a U => a = #[(.int (4 : Int32)), (.int (3 : Int32))] ∧ Z.Warmed39 U.vm ∧ U.heap = h0) (fun _ _ _ _ _ => True) (fun _ U o U' => ∃ v L, o = .returned v ∧ Qmin_4_3 Z  h0 n0 v U'.heap L ∧ FrameEnd U o U' L ({ frames := 0, cells := 0, slots := 0, locals := 0 } : Room).cells ({ frames := 0, cells := 0, slots := 0, locals := 0 } : Room).slots) := by
  refine MetFree.of_bodySF (Jvm.Free.JP.mathPlain rfl (by decide +kernel)) hisR ?_
  intro p e s m args below meth c s₁ Bd hml0 hP hK
  obtain ⟨rfl, hZ, hh⟩ := hP
  have hx := Bd.exec
  have hby := Bd.bytes
  have hml : c.maxLocals = 2 := hml0
  have hown : s.vm.findClass "java/lang/Math" = some m.cls := findClass_of_methodNamed Bd.named
  have hnm := (name_of_methodNamed Bd.named Bd.method).1
  have hlk := BodyLoose.notSynchronized Bd
  have X0 : Stand p l e ({ frames := 0, cells := 0, slots := 0, locals := 0 } : Room) s m #[(.int (4 : Int32)), (.int (3 : Int32))] below meth c s₁ [] 0 0 := Stand.of_body Bd
  have e0 : s₁.heap = h0 := by rw [← hh, Bd.state]; rfl
  have N0 := Fr.nil n0
  show Go p e below s (Qmin_4_3 Z  h0 n0) 0 0 (s₁.setTop (entryFrame m #[(.int (4 : Int32)), (.int (3 : Int32))] 2))
  rw [ef_min_4_3]
  show Go _ _ _ _ _ _ _ (s₁.setTop (mkF m 0 #[.val (.int (4 : Int32)), .val (.int (3 : Int32))] []))
  refine gob (fun _ k => XS.iloadN X0.here hx rfl (hb hby d5_0) rfl k) ?_
  show Go _ _ _ _ _ _ _ (s₁.setTop (mkF m 1 #[.val (.int (4 : Int32)), .val (.int (3 : Int32))] [(.int (4 : Int32))]))
  refine gob (fun _ k => XS.iloadN X0.here hx rfl (hb hby d5_1) rfl k) ?_
  show Go _ _ _ _ _ _ _ (s₁.setTop (mkF m 2 #[.val (.int (4 : Int32)), .val (.int (3 : Int32))] [(.int (3 : Int32)), (.int (4 : Int32))]))
  refine gob (fun _ k => XS.icmpYes X0.here hx rfl (pc0 := 2) (pc' := 9) rfl (hb hby d5_2) rfl (tlt (by decide : (3 : Int32) < (4 : Int32))).2.2.1 (by decide) (by decide) k) ?_
  show Go _ _ _ _ _ _ _ (s₁.setTop (mkF m 9 #[.val (.int (4 : Int32)), .val (.int (3 : Int32))] []))
  refine gob (fun _ k => XS.iloadN X0.here hx rfl (hb hby d5_9) rfl k) ?_
  show Go _ _ _ _ _ _ _ (s₁.setTop (mkF m 10 #[.val (.int (4 : Int32)), .val (.int (3 : Int32))] [(.int (3 : Int32))]))
  refine goI X0 hx hlk Bd.returns (hb hby d5_10) ?_ (by decide) (by decide)
  show Qmin_4_3 Z  h0 n0 (some (.int (3 : Int32))) s₁.heap _
  exact ⟨rfl, N0, e0⟩
theorem ef_min_3_6 (m : MethodId)  : entryFrame m #[(.int (3 : Int32)), (.int (6 : Int32))] 2 = mkF m 0 #[.val (.int (3 : Int32)), .val (.int (6 : Int32))] [] := by first | (simp [entryFrame, mkF, argsToLocals, Value.category]; done) | rfl
def Qmin_3_6 (Z : State)  (h0 : Heap) (n0 : Nat) (v : Option Value) (h : Heap) (L : List Loc) : Prop := v = some (.int (3 : Int32)) ∧ Fr n0 L ∧ h = h0
set_option maxRecDepth 65536 in
set_option maxHeartbeats 40000000 in
theorem rmmin_3_6 (l : Launch) (Z : State) (a0 : Array Value) (hw : ∀ d ∈ tables_1, d.before a0 Z = true) (ws : List Jvm.Cond)  (h0 : Heap) (n0 : Nat) (Z0 : n0 ≤ h0.size) :
    MetFree l (⟨"java/lang/Math", "min", "(II)I"⟩ : MethodName) (head1 (Jvm.Cond.code (⟨"java/lang/Math", "min", "(II)I"⟩ : MethodName) jdk_29_method_69_code 2 (some .int) :: ws) ({ frames := 0, cells := 0, slots := 0, locals := 0 } : Room)) (fun a U => a = #[(.int (3 : Int32)), (.int (6 : Int32))] ∧ Z.Warmed39 U.vm ∧ U.heap = h0) (fun _ _ _ _ _ => True) (fun _ U o U' => ∃ v L, o = .returned v ∧ Qmin_3_6 Z  h0 n0 v U'.heap L ∧ FrameEnd U o U' L ({ frames := 0, cells := 0, slots := 0, locals := 0 } : Room).cells ({ frames := 0, cells := 0, slots := 0, locals := 0 } : Room).slots) := by
  refine MetFree.of_bodySF (Jvm.Free.JP.mathPlain rfl (by decide +kernel)) hisR ?_
  intro p e s m args below meth c s₁ Bd hml0 hP hK
  obtain ⟨rfl, hZ, hh⟩ := hP
  have hx := Bd.exec
  have hby := Bd.bytes
  have hml : c.maxLocals = 2 := hml0
  have hown : s.vm.findClass "java/lang/Math" = some m.cls := findClass_of_methodNamed Bd.named
  have hnm := (name_of_methodNamed Bd.named Bd.method).1
  have hlk := BodyLoose.notSynchronized Bd
  have X0 : Stand p l e ({ frames := 0, cells := 0, slots := 0, locals := 0 } : Room) s m #[(.int (3 : Int32)), (.int (6 : Int32))] below meth c s₁ [] 0 0 := Stand.of_body Bd
  have e0 : s₁.heap = h0 := by rw [← hh, Bd.state]; rfl
  have N0 := Fr.nil n0
  show Go p e below s (Qmin_3_6 Z  h0 n0) 0 0 (s₁.setTop (entryFrame m #[(.int (3 : Int32)), (.int (6 : Int32))] 2))
  rw [ef_min_3_6]
  show Go _ _ _ _ _ _ _ (s₁.setTop (mkF m 0 #[.val (.int (3 : Int32)), .val (.int (6 : Int32))] []))
  refine gob (fun _ k => XS.iloadN X0.here hx rfl (hb hby d5_0) rfl k) ?_
  show Go _ _ _ _ _ _ _ (s₁.setTop (mkF m 1 #[.val (.int (3 : Int32)), .val (.int (6 : Int32))] [(.int (3 : Int32))]))
  refine gob (fun _ k => XS.iloadN X0.here hx rfl (hb hby d5_1) rfl k) ?_
  show Go _ _ _ _ _ _ _ (s₁.setTop (mkF m 2 #[.val (.int (3 : Int32)), .val (.int (6 : Int32))] [(.int (6 : Int32)), (.int (3 : Int32))]))
  refine gob (fun _ k => XS.icmpNo X0.here hx rfl (hb hby d5_2) rfl (flt (by decide : ¬ ((6 : Int32) < (3 : Int32)))).2.2.1 k) ?_
  show Go _ _ _ _ _ _ _ (s₁.setTop (mkF m 5 #[.val (.int (3 : Int32)), .val (.int (6 : Int32))] []))
  refine gob (fun _ k => XS.iloadN X0.here hx rfl (hb hby d5_5) rfl k) ?_
  show Go _ _ _ _ _ _ _ (s₁.setTop (mkF m 6 #[.val (.int (3 : Int32)), .val (.int (6 : Int32))] [(.int (3 : Int32))]))
  refine gob (fun _ k => XS.goto X0.here hx rfl (pc0 := 6) (pc' := 10) rfl (hb hby d5_6) (by decide) (by decide) k) ?_
  show Go _ _ _ _ _ _ _ (s₁.setTop (mkF m 10 #[.val (.int (3 : Int32)), .val (.int (6 : Int32))] [(.int (3 : Int32))]))
  refine goI X0 hx hlk Bd.returns (hb hby d5_10) ?_ (by decide) (by decide)
  show Qmin_3_6 Z  h0 n0 (some (.int (3 : Int32))) s₁.heap _
  exact ⟨rfl, N0, e0⟩
theorem d4_0 : decode jdk_65_method_123_code 0 = .ok (.iload_n 1, 1) := by decide +kernel
theorem d4_1 : decode jdk_65_method_123_code 1 = .ok (.aload_n 0, 1) := by decide +kernel
theorem d4_2 : decode jdk_65_method_123_code 2 = .ok (.arraylength, 1) := by decide +kernel
theorem d4_3 : decode jdk_65_method_123_code 3 = .ok (.if_icmp .ne 11, 3) := by decide +kernel
theorem d4_6 : decode jdk_65_method_123_code 6 = .ok (.aload_n 0, 1) := by decide +kernel
theorem d4_7 : decode jdk_65_method_123_code 7 = .ok (.invokevirtual 316, 3) := by decide +kernel
theorem d4_10 : decode jdk_65_method_123_code 10 = .ok (.checkcast 317, 3) := by decide +kernel
theorem d4_13 : decode jdk_65_method_123_code 13 = .ok (.areturn, 1) := by decide +kernel
theorem d4_14 : decode jdk_65_method_123_code 14 = .ok (.iload_n 1, 1) := by decide +kernel
theorem d4_15 : decode jdk_65_method_123_code 15 = .ok (.newarray .int, 2) := by decide +kernel
theorem d4_17 : decode jdk_65_method_123_code 17 = .ok (.astore_n 2, 1) := by decide +kernel
theorem d4_18 : decode jdk_65_method_123_code 18 = .ok (.aload_n 0, 1) := by decide +kernel
theorem d4_19 : decode jdk_65_method_123_code 19 = .ok (.iconst 0, 1) := by decide +kernel
theorem d4_20 : decode jdk_65_method_123_code 20 = .ok (.aload_n 2, 1) := by decide +kernel
theorem d4_21 : decode jdk_65_method_123_code 21 = .ok (.iconst 0, 1) := by decide +kernel
theorem d4_22 : decode jdk_65_method_123_code 22 = .ok (.aload_n 0, 1) := by decide +kernel
theorem d4_23 : decode jdk_65_method_123_code 23 = .ok (.arraylength, 1) := by decide +kernel
theorem d4_24 : decode jdk_65_method_123_code 24 = .ok (.iload_n 1, 1) := by decide +kernel
theorem d4_25 : decode jdk_65_method_123_code 25 = .ok (.invokestatic 304, 3) := by decide +kernel
theorem d4_28 : decode jdk_65_method_123_code 28 = .ok (.invokestatic 150, 3) := by decide +kernel
theorem d4_31 : decode jdk_65_method_123_code 31 = .ok (.aload_n 2, 1) := by decide +kernel
theorem d4_32 : decode jdk_65_method_123_code 32 = .ok (.areturn, 1) := by decide +kernel
theorem pd_0 : parseMethodDescriptor "(II)I" = some ⟨[.int, .int], some .int⟩ := by decide +kernel
theorem ef_cp_2_0_0 (m : MethodId) (x0 : Addr) : entryFrame m #[(.ref x0), (.int (0 : Int32))] 3 = mkF m 0 #[.val (.ref x0), .val (.int (0 : Int32)), .unset] [] := by first | (simp [entryFrame, mkF, argsToLocals, Value.category]; done) | rfl
def Qcp_2_0_0 (Z : State) (o0 : Addr) (k_a : ClassId) (h0 : Heap) (n0 : Nat) (v : Option Value) (h : Heap) (L : List Loc) : Prop := ∃ b2 : Addr, ∃ k2 : ClassId, v = some (.ref b2) ∧ Fr n0 L ∧ Keep h0 h ([] : List Addr) ∧ h0.size ≤ b2 ∧ Exa Z h b2 "[I" ∧ Arv Z h b2 k2 .int (0 : Int32) [] (.int (0 : Int32))
set_option maxRecDepth 65536 in
set_option maxHeartbeats 40000000 in
theorem rmcp_2_0_0 (l : Launch) (Z : State) (a0 : Array Value) (hw : ∀ d ∈ tables_1, d.before a0 Z = true) (ws : List Jvm.Cond) (o0 : Addr) (k_a : ClassId) (h0 : Heap) (n0 : Nat) (Z0 : n0 ≤ h0.size) (V_a : Arv Z h0 o0 k_a .int (2 : Int32) [(.int (0 : Int32)), (.int (0 : Int32))] (.int (0 : Int32))) (E_a : Exa Z h0 o0 "[I") :
    MetFree l (⟨"java/util/Arrays", "copyOf", "([II)[I"⟩ : MethodName) (head1 (Jvm.Cond.code (⟨"java/util/Arrays", "copyOf", "([II)[I"⟩ : MethodName) jdk_65_method_123_code 3 (some (.array .int)) :: ws) ({ frames := 1, cells := 1, slots := 0, locals := 18 } : Room)) (fun a U => a = #[(.ref o0), (.int (0 : Int32))] ∧ Z.Warmed39 U.vm ∧ U.heap = h0) (fun _ _ _ _ _ => True) (fun _ U o U' => ∃ v L, o = .returned v ∧ Qcp_2_0_0 Z o0 k_a h0 n0 v U'.heap L ∧ FrameEnd U o U' L ({ frames := 1, cells := 1, slots := 0, locals := 18 } : Room).cells ({ frames := 1, cells := 1, slots := 0, locals := 18 } : Room).slots) := by
  refine MetFree.of_bodySF (plainFor_of_name (by first | (simp [plainName, overriddenIn]; done) | decide +kernel)) hisR ?_
  intro p e s m args below meth c s₁ Bd hml0 hP hK
  obtain ⟨rfl, hZ, hh⟩ := hP
  have hx := Bd.exec
  have hby := Bd.bytes
  have hml : c.maxLocals = 3 := hml0
  have hown : s.vm.findClass "java/util/Arrays" = some m.cls := findClass_of_methodNamed Bd.named
  have hnm := (name_of_methodNamed Bd.named Bd.method).1
  have hlk := BodyLoose.notSynchronized Bd
  have X0 : Stand p l e ({ frames := 1, cells := 1, slots := 0, locals := 18 } : Room) s m #[(.ref o0), (.int (0 : Int32))] below meth c s₁ [] 0 0 := Stand.of_body Bd
  have e0 : s₁.heap = h0 := by rw [← hh, Bd.state]; rfl
  have N0 := Fr.nil n0
  show Go p e below s (Qcp_2_0_0 Z o0 k_a h0 n0) 1 0 (s₁.setTop (entryFrame m #[(.ref o0), (.int (0 : Int32))] 3))
  rw [ef_cp_2_0_0]
  show Go _ _ _ _ _ _ _ (s₁.setTop (mkF m 0 #[.val (.ref o0), .val (.int (0 : Int32)), .unset] []))
  refine gob (fun _ k => XS.iloadN X0.here hx rfl (hb hby d4_0) rfl k) ?_
  show Go _ _ _ _ _ _ _ (s₁.setTop (mkF m 1 #[.val (.ref o0), .val (.int (0 : Int32)), .unset] [(.int (0 : Int32))]))
  refine gob (fun _ k => XS.aloadN X0.here hx rfl (hb hby d4_1) rfl rfl k) ?_
  show Go _ _ _ _ _ _ _ (s₁.setTop (mkF m 2 #[.val (.ref o0), .val (.int (0 : Int32)), .unset] [(.ref o0), (.int (0 : Int32))]))
  obtain ⟨cl1, Ar1, aq1, S1, N1, H1, G1⟩ := id V_a
  refine gob (X0.arraylength hx (by rw [e0]; exact Ar1.1) (State.isArrayOf_alike hZ.alike Ar1.2.1) (g := (mkF m 2 #[.val (.ref o0), .val (.int (0 : Int32)), .unset] [(.ref o0), (.int (0 : Int32))])) rfl rfl (hb hby d4_2)) ?_
  rw [len_of S1 N1]
  show Go _ _ _ _ _ _ _ (s₁.setTop (mkF m 3 #[.val (.ref o0), .val (.int (0 : Int32)), .unset] [(.int (2 : Int32)), (.int (0 : Int32))]))
  refine gob (fun _ k => XS.icmpYes X0.here hx rfl (pc0 := 3) (pc' := 14) rfl (hb hby d4_3) rfl (feq (by decide : ¬ ((0 : Int32) = (2 : Int32)))).2 (by decide) (by decide) k) ?_
  show Go _ _ _ _ _ _ _ (s₁.setTop (mkF m 14 #[.val (.ref o0), .val (.int (0 : Int32)), .unset] []))
  refine gob (fun _ k => XS.iloadN X0.here hx rfl (hb hby d4_14) rfl k) ?_
  show Go _ _ _ _ _ _ _ (s₁.setTop (mkF m 15 #[.val (.ref o0), .val (.int (0 : Int32)), .unset] [(.int (0 : Int32))]))
  obtain ⟨T2, h2, k2, X2, e2, E2, A2, B2, st2⟩ := newPE X0 hx hZ (hw _ (List.mem_of_getElem? (i := 11) rfl)) e0 (g := (mkF m 15 #[.val (.ref o0), .val (.int (0 : Int32)), .unset] [(.int (0 : Int32))])) rfl (hb hby d4_15) rfl (by decide) (cap := 0) (by decide) (by decide) (by decide) (by decide) (ad := "[I") (by decide)
  obtain ⟨b2, g2⟩ : ∃ z, z = h0.size := ⟨_, rfl⟩
  rw [← g2] at A2 B2 st2
  have n3 : o0 ≠ b2 := Nat.ne_of_lt (Nat.lt_of_lt_of_le V_a.lt (Nat.le_of_eq g2.symm))
  have g4 : n0 ≤ b2 := Nat.le_trans Z0 (Nat.le_of_eq g2.symm)
  have sz_b2 : h0.size ≤ b2 := Nat.le_trans (Keep.refl h0 []).1 (Nat.le_of_eq g2.symm)
  have z5 : n0 ≤ h2.size := Nat.le_trans Z0 E2.1
  have K6 : Keep h0 h2 ([] : List Addr) := (Keep.refl h0 ([] : List Addr)).ext E2
  have V2 : Arv Z h2 b2 k2 .int (0 : Int32) [] (.int (0 : Int32)) := Arv.new A2 (by decide)
  refine gob st2 ?_
  show Go _ _ _ _ _ _ _ (T2.setTop (mkF m 17 #[.val (.ref o0), .val (.int (0 : Int32)), .unset] [(.ref b2)]))
  refine gob (fun _ k => XS.astoreN X2.here hx rfl (hb hby d4_17) rfl rfl (l' := #[.val (.ref o0), .val (.int (0 : Int32)), .val (.ref b2)]) rfl k) ?_
  show Go _ _ _ _ _ _ _ (T2.setTop (mkF m 18 #[.val (.ref o0), .val (.int (0 : Int32)), .val (.ref b2)] []))
  refine gob (fun _ k => XS.aloadN X2.here hx rfl (hb hby d4_18) rfl rfl k) ?_
  show Go _ _ _ _ _ _ _ (T2.setTop (mkF m 19 #[.val (.ref o0), .val (.int (0 : Int32)), .val (.ref b2)] [(.ref o0)]))
  refine gob (fun _ k => XS.iconst X2.here hx rfl (hb hby d4_19) k) ?_
  show Go _ _ _ _ _ _ _ (T2.setTop (mkF m 20 #[.val (.ref o0), .val (.int (0 : Int32)), .val (.ref b2)] [(.int (0 : Int32)), (.ref o0)]))
  refine gob (fun _ k => XS.aloadN X2.here hx rfl (hb hby d4_20) rfl rfl k) ?_
  show Go _ _ _ _ _ _ _ (T2.setTop (mkF m 21 #[.val (.ref o0), .val (.int (0 : Int32)), .val (.ref b2)] [(.ref b2), (.int (0 : Int32)), (.ref o0)]))
  refine gob (fun _ k => XS.iconst X2.here hx rfl (hb hby d4_21) k) ?_
  show Go _ _ _ _ _ _ _ (T2.setTop (mkF m 22 #[.val (.ref o0), .val (.int (0 : Int32)), .val (.ref b2)] [(.int (0 : Int32)), (.ref b2), (.int (0 : Int32)), (.ref o0)]))
  refine gob (fun _ k => XS.aloadN X2.here hx rfl (hb hby d4_22) rfl rfl k) ?_
  show Go _ _ _ _ _ _ _ (T2.setTop (mkF m 23 #[.val (.ref o0), .val (.int (0 : Int32)), .val (.ref b2)] [(.ref o0), (.int (0 : Int32)), (.ref b2), (.int (0 : Int32)), (.ref o0)]))
  have c8 := (V_a.ext E2)
  obtain ⟨cl7, Ar7, aq7, S7, N7, H7, G7⟩ := id c8
  refine gob (X2.arraylength hx (by rw [e2]; exact Ar7.1) (State.isArrayOf_alike hZ.alike Ar7.2.1) (g := (mkF m 23 #[.val (.ref o0), .val (.int (0 : Int32)), .val (.ref b2)] [(.ref o0), (.int (0 : Int32)), (.ref b2), (.int (0 : Int32)), (.ref o0)])) rfl rfl (hb hby d4_23)) ?_
  rw [len_of S7 N7]
  show Go _ _ _ _ _ _ _ (T2.setTop (mkF m 24 #[.val (.ref o0), .val (.int (0 : Int32)), .val (.ref b2)] [(.int (2 : Int32)), (.int (0 : Int32)), (.ref b2), (.int (0 : Int32)), (.ref o0)]))
  refine gob (fun _ k => XS.iloadN X2.here hx rfl (hb hby d4_24) rfl k) ?_
  show Go _ _ _ _ _ _ _ (T2.setTop (mkF m 25 #[.val (.ref o0), .val (.int (0 : Int32)), .val (.ref b2)] [(.int (0 : Int32)), (.int (2 : Int32)), (.int (0 : Int32)), (.ref b2), (.int (0 : Int32)), (.ref o0)]))
  obtain ⟨_, _, ⟨T9, L9, k9, n9⟩, -, X9, ⟨Lc9, hQ9, l9, y9, z9⟩, st9⟩ := Jvm.LawKit.callS X2 hx (y := (⟨"java/lang/Math", "min", "(II)I"⟩ : MethodName)) hown (mvT hZ (hw _ (List.mem_of_getElem? (i := 27) rfl))) (mvT hZ (hw _ (List.mem_of_getElem? (i := 28) rfl))) (mvT hZ (hw _ (List.mem_of_getElem? (i := 29) rfl))) (mvT hZ (hw _ (List.mem_of_getElem? (i := 30) rfl))) (by decide) (backOf (W := 4) (rmmin_2_0 l Z a0 hw []  h2 n0 z5 ) hZ (hw _ (List.mem_of_getElem? (i := 30) rfl)) (hw _ (List.mem_of_getElem? (i := 29) rfl)) (by decide) (by decide)) (g := (mkF m 25 #[.val (.ref o0), .val (.int (0 : Int32)), .val (.ref b2)] [(.int (0 : Int32)), (.int (2 : Int32)), (.int (0 : Int32)), (.ref b2), (.int (0 : Int32)), (.ref o0)])) rfl (by rw [hml]; rfl) (argsL := [(.int (2 : Int32)), (.int (0 : Int32))]) (rest := [(.int (0 : Int32)), (.ref b2), (.int (0 : Int32)), (.ref o0)]) (lenOf pd_0 rfl) rfl (by show 2 * 0 + _ ≤ _; exact Nat.le_of_eq rfl) (hb hby d4_25) (fun _ _ => ⟨rfl, e2, (by decide : 1 + 0 ≤ _), (by decide : 0 + 0 ≤ _)⟩)
  dsimp only [Pt.U, Pt.locs, Pt.cells, Pt.slots] at X9 l9 y9 z9 st9 hQ9
  subst l9 y9 z9
  obtain ⟨rfl, Nq9, e9⟩ := hQ9
  have N9 := Fr.app N0 Nq9
  refine gob st9 ?_
  show Go _ _ _ _ _ _ _ (T9.setTop (mkF m 28 #[.val (.ref o0), .val (.int (0 : Int32)), .val (.ref b2)] [(.int (0 : Int32)), (.int (0 : Int32)), (.ref b2), (.int (0 : Int32)), (.ref o0)]))
  obtain ⟨T10, h10, L10, X10, e10, N10, K10, A10, st10⟩ := cpA X9 hx hZ hown (hw _ (List.mem_of_getElem? (i := 31) rfl)) (hw _ (List.mem_of_getElem? (i := 34) rfl)) (hw _ (List.mem_of_getElem? (i := 32) rfl)) (hw _ (List.mem_of_getElem? (i := 33) rfl)) e9 c8 V2 (Or.inl ⟨rfl, rfl⟩) (sp := (0 : Int32)) (dp := (0 : Int32)) (nn := (0 : Int32)) (us := []) (by decide) (by decide) (by decide) (by decide) (by decide) rfl (by decide) N9 g4 (g := (mkF m 28 #[.val (.ref o0), .val (.int (0 : Int32)), .val (.ref b2)] [(.int (0 : Int32)), (.int (0 : Int32)), (.ref b2), (.int (0 : Int32)), (.ref o0)])) rfl (by rw [hml]; rfl) rfl (hb hby d4_28) (by decide) (W := 0) (by show 2 * 0 + _ ≤ _; exact Nat.le_of_eq rfl) (by decide)
  have z11 : n0 ≤ h10.size := Nat.le_trans z5 K10.1
  have K12 : Keep h0 h10 ([] : List Addr) := K6.trans K10 (allS (Or.inr sz_b2) all0)
  have V10 : Arv Z h10 b2 k2 .int (0 : Int32) [] (.int (0 : Int32)) := A10
  refine gob st10 ?_
  show Go _ _ _ _ _ _ _ (T10.setTop (mkF m 31 #[.val (.ref o0), .val (.int (0 : Int32)), .val (.ref b2)] []))
  refine gob (fun _ k => XS.aloadN X10.here hx rfl (hb hby d4_31) rfl rfl k) ?_
  show Go _ _ _ _ _ _ _ (T10.setTop (mkF m 32 #[.val (.ref o0), .val (.int (0 : Int32)), .val (.ref b2)] [(.ref b2)]))
  refine goA X10 hx hlk Bd.returns rfl rfl (hb hby d4_32) ?_ (by decide) (by decide)
  show Qcp_2_0_0 Z o0 k_a h0 n0 (some (.ref b2)) T10.heap _
  have c13 := (B2.keep K10)
  rw [e10]
  exact ⟨b2, k2, rfl, N10, K12, sz_b2, c13, V10⟩
theorem ef_cp_2_1_1 (m : MethodId) (x0 : Addr) : entryFrame m #[(.ref x0), (.int (1 : Int32))] 3 = mkF m 0 #[.val (.ref x0), .val (.int (1 : Int32)), .unset] [] := by first | (simp [entryFrame, mkF, argsToLocals, Value.category]; done) | rfl
def Qcp_2_1_1 (Z : State) (o0 : Addr) (k_a : ClassId) (y0 : Int32) (h0 : Heap) (n0 : Nat) (v : Option Value) (h : Heap) (L : List Loc) : Prop := ∃ b2 : Addr, ∃ k2 : ClassId, v = some (.ref b2) ∧ Fr n0 L ∧ Keep h0 h ([] : List Addr) ∧ h0.size ≤ b2 ∧ Exa Z h b2 "[I" ∧ Arv Z h b2 k2 .int (1 : Int32) [(.int y0)] (.int (0 : Int32))
set_option maxRecDepth 65536 in
set_option maxHeartbeats 40000000 in
theorem rmcp_2_1_1 (l : Launch) (Z : State) (a0 : Array Value) (hw : ∀ d ∈ tables_1, d.before a0 Z = true) (ws : List Jvm.Cond) (o0 : Addr) (k_a : ClassId) (y0 : Int32) (h0 : Heap) (n0 : Nat) (Z0 : n0 ≤ h0.size) (V_a : Arv Z h0 o0 k_a .int (2 : Int32) [(.int y0), (.int (0 : Int32))] (.int (0 : Int32))) (E_a : Exa Z h0 o0 "[I") :
    MetFree l (⟨"java/util/Arrays", "copyOf", "([II)[I"⟩ : MethodName) (head1 (Jvm.Cond.code (⟨"java/util/Arrays", "copyOf", "([II)[I"⟩ : MethodName) jdk_65_method_123_code 3 (some (.array .int)) :: ws) ({ frames := 1, cells := 1, slots := 1, locals := 18 } : Room)) (fun a U => a = #[(.ref o0), (.int (1 : Int32))] ∧ Z.Warmed39 U.vm ∧ U.heap = h0) (fun _ _ _ _ _ => True) (fun _ U o U' => ∃ v L, o = .returned v ∧ Qcp_2_1_1 Z o0 k_a y0 h0 n0 v U'.heap L ∧ FrameEnd U o U' L ({ frames := 1, cells := 1, slots := 1, locals := 18 } : Room).cells ({ frames := 1, cells := 1, slots := 1, locals := 18 } : Room).slots) := by
  refine MetFree.of_bodySF (plainFor_of_name (by first | (simp [plainName, overriddenIn]; done) | decide +kernel)) hisR ?_
  intro p e s m args below meth c s₁ Bd hml0 hP hK
  obtain ⟨rfl, hZ, hh⟩ := hP
  have hx := Bd.exec
  have hby := Bd.bytes
  have hml : c.maxLocals = 3 := hml0
  have hown : s.vm.findClass "java/util/Arrays" = some m.cls := findClass_of_methodNamed Bd.named
  have hnm := (name_of_methodNamed Bd.named Bd.method).1
  have hlk := BodyLoose.notSynchronized Bd
  have X0 : Stand p l e ({ frames := 1, cells := 1, slots := 1, locals := 18 } : Room) s m #[(.ref o0), (.int (1 : Int32))] below meth c s₁ [] 0 0 := Stand.of_body Bd
  have e0 : s₁.heap = h0 := by rw [← hh, Bd.state]; rfl
  have N0 := Fr.nil n0
  show Go p e below s (Qcp_2_1_1 Z o0 k_a y0 h0 n0) 1 1 (s₁.setTop (entryFrame m #[(.ref o0), (.int (1 : Int32))] 3))
  rw [ef_cp_2_1_1]
  show Go _ _ _ _ _ _ _ (s₁.setTop (mkF m 0 #[.val (.ref o0), .val (.int (1 : Int32)), .unset] []))
  refine gob (fun _ k => XS.iloadN X0.here hx rfl (hb hby d4_0) rfl k) ?_
  show Go _ _ _ _ _ _ _ (s₁.setTop (mkF m 1 #[.val (.ref o0), .val (.int (1 : Int32)), .unset] [(.int (1 : Int32))]))
  refine gob (fun _ k => XS.aloadN X0.here hx rfl (hb hby d4_1) rfl rfl k) ?_
  show Go _ _ _ _ _ _ _ (s₁.setTop (mkF m 2 #[.val (.ref o0), .val (.int (1 : Int32)), .unset] [(.ref o0), (.int (1 : Int32))]))
  obtain ⟨cl1, Ar1, aq1, S1, N1, H1, G1⟩ := id V_a
  refine gob (X0.arraylength hx (by rw [e0]; exact Ar1.1) (State.isArrayOf_alike hZ.alike Ar1.2.1) (g := (mkF m 2 #[.val (.ref o0), .val (.int (1 : Int32)), .unset] [(.ref o0), (.int (1 : Int32))])) rfl rfl (hb hby d4_2)) ?_
  rw [len_of S1 N1]
  show Go _ _ _ _ _ _ _ (s₁.setTop (mkF m 3 #[.val (.ref o0), .val (.int (1 : Int32)), .unset] [(.int (2 : Int32)), (.int (1 : Int32))]))
  refine gob (fun _ k => XS.icmpYes X0.here hx rfl (pc0 := 3) (pc' := 14) rfl (hb hby d4_3) rfl (feq (by decide : ¬ ((1 : Int32) = (2 : Int32)))).2 (by decide) (by decide) k) ?_
  show Go _ _ _ _ _ _ _ (s₁.setTop (mkF m 14 #[.val (.ref o0), .val (.int (1 : Int32)), .unset] []))
  refine gob (fun _ k => XS.iloadN X0.here hx rfl (hb hby d4_14) rfl k) ?_
  show Go _ _ _ _ _ _ _ (s₁.setTop (mkF m 15 #[.val (.ref o0), .val (.int (1 : Int32)), .unset] [(.int (1 : Int32))]))
  obtain ⟨T2, h2, k2, X2, e2, E2, A2, B2, st2⟩ := newPE X0 hx hZ (hw _ (List.mem_of_getElem? (i := 11) rfl)) e0 (g := (mkF m 15 #[.val (.ref o0), .val (.int (1 : Int32)), .unset] [(.int (1 : Int32))])) rfl (hb hby d4_15) rfl (by decide) (cap := 1) (by decide) (by decide) (by decide) (by decide) (ad := "[I") (by decide)
  obtain ⟨b2, g2⟩ : ∃ z, z = h0.size := ⟨_, rfl⟩
  rw [← g2] at A2 B2 st2
  have n3 : o0 ≠ b2 := Nat.ne_of_lt (Nat.lt_of_lt_of_le V_a.lt (Nat.le_of_eq g2.symm))
  have g4 : n0 ≤ b2 := Nat.le_trans Z0 (Nat.le_of_eq g2.symm)
  have sz_b2 : h0.size ≤ b2 := Nat.le_trans (Keep.refl h0 []).1 (Nat.le_of_eq g2.symm)
  have z5 : n0 ≤ h2.size := Nat.le_trans Z0 E2.1
  have K6 : Keep h0 h2 ([] : List Addr) := (Keep.refl h0 ([] : List Addr)).ext E2
  have V2 : Arv Z h2 b2 k2 .int (1 : Int32) [(.int (0 : Int32))] (.int (0 : Int32)) := (Arv.new A2 (by decide)).pad (pad_rep [] (.int (0 : Int32)) 1)
  refine gob st2 ?_
  show Go _ _ _ _ _ _ _ (T2.setTop (mkF m 17 #[.val (.ref o0), .val (.int (1 : Int32)), .unset] [(.ref b2)]))
  refine gob (fun _ k => XS.astoreN X2.here hx rfl (hb hby d4_17) rfl rfl (l' := #[.val (.ref o0), .val (.int (1 : Int32)), .val (.ref b2)]) rfl k) ?_
  show Go _ _ _ _ _ _ _ (T2.setTop (mkF m 18 #[.val (.ref o0), .val (.int (1 : Int32)), .val (.ref b2)] []))
  refine gob (fun _ k => XS.aloadN X2.here hx rfl (hb hby d4_18) rfl rfl k) ?_
  show Go _ _ _ _ _ _ _ (T2.setTop (mkF m 19 #[.val (.ref o0), .val (.int (1 : Int32)), .val (.ref b2)] [(.ref o0)]))
  refine gob (fun _ k => XS.iconst X2.here hx rfl (hb hby d4_19) k) ?_
  show Go _ _ _ _ _ _ _ (T2.setTop (mkF m 20 #[.val (.ref o0), .val (.int (1 : Int32)), .val (.ref b2)] [(.int (0 : Int32)), (.ref o0)]))
  refine gob (fun _ k => XS.aloadN X2.here hx rfl (hb hby d4_20) rfl rfl k) ?_
  show Go _ _ _ _ _ _ _ (T2.setTop (mkF m 21 #[.val (.ref o0), .val (.int (1 : Int32)), .val (.ref b2)] [(.ref b2), (.int (0 : Int32)), (.ref o0)]))
  refine gob (fun _ k => XS.iconst X2.here hx rfl (hb hby d4_21) k) ?_
  show Go _ _ _ _ _ _ _ (T2.setTop (mkF m 22 #[.val (.ref o0), .val (.int (1 : Int32)), .val (.ref b2)] [(.int (0 : Int32)), (.ref b2), (.int (0 : Int32)), (.ref o0)]))
  refine gob (fun _ k => XS.aloadN X2.here hx rfl (hb hby d4_22) rfl rfl k) ?_
  show Go _ _ _ _ _ _ _ (T2.setTop (mkF m 23 #[.val (.ref o0), .val (.int (1 : Int32)), .val (.ref b2)] [(.ref o0), (.int (0 : Int32)), (.ref b2), (.int (0 : Int32)), (.ref o0)]))
  have c8 := (V_a.ext E2)
  obtain ⟨cl7, Ar7, aq7, S7, N7, H7, G7⟩ := id c8
  refine gob (X2.arraylength hx (by rw [e2]; exact Ar7.1) (State.isArrayOf_alike hZ.alike Ar7.2.1) (g := (mkF m 23 #[.val (.ref o0), .val (.int (1 : Int32)), .val (.ref b2)] [(.ref o0), (.int (0 : Int32)), (.ref b2), (.int (0 : Int32)), (.ref o0)])) rfl rfl (hb hby d4_23)) ?_
  rw [len_of S7 N7]
  show Go _ _ _ _ _ _ _ (T2.setTop (mkF m 24 #[.val (.ref o0), .val (.int (1 : Int32)), .val (.ref b2)] [(.int (2 : Int32)), (.int (0 : Int32)), (.ref b2), (.int (0 : Int32)), (.ref o0)]))
  refine gob (fun _ k => XS.iloadN X2.here hx rfl (hb hby d4_24) rfl k) ?_
  show Go _ _ _ _ _ _ _ (T2.setTop (mkF m 25 #[.val (.ref o0), .val (.int (1 : Int32)), .val (.ref b2)] [(.int (1 : Int32)), (.int (2 : Int32)), (.int (0 : Int32)), (.ref b2), (.int (0 : Int32)), (.ref o0)]))
  obtain ⟨_, _, ⟨T9, L9, k9, n9⟩, -, X9, ⟨Lc9, hQ9, l9, y9, z9⟩, st9⟩ := Jvm.LawKit.callS X2 hx (y := (⟨"java/lang/Math", "min", "(II)I"⟩ : MethodName)) hown (mvT hZ (hw _ (List.mem_of_getElem? (i := 27) rfl))) (mvT hZ (hw _ (List.mem_of_getElem? (i := 28) rfl))) (mvT hZ (hw _ (List.mem_of_getElem? (i := 29) rfl))) (mvT hZ (hw _ (List.mem_of_getElem? (i := 30) rfl))) (by decide) (backOf (W := 4) (rmmin_2_1 l Z a0 hw []  h2 n0 z5 ) hZ (hw _ (List.mem_of_getElem? (i := 30) rfl)) (hw _ (List.mem_of_getElem? (i := 29) rfl)) (by decide) (by decide)) (g := (mkF m 25 #[.val (.ref o0), .val (.int (1 : Int32)), .val (.ref b2)] [(.int (1 : Int32)), (.int (2 : Int32)), (.int (0 : Int32)), (.ref b2), (.int (0 : Int32)), (.ref o0)])) rfl (by rw [hml]; rfl) (argsL := [(.int (2 : Int32)), (.int (1 : Int32))]) (rest := [(.int (0 : Int32)), (.ref b2), (.int (0 : Int32)), (.ref o0)]) (lenOf pd_0 rfl) rfl (by show 2 * 0 + _ ≤ _; exact Nat.le_of_eq rfl) (hb hby d4_25) (fun _ _ => ⟨rfl, e2, (by decide : 1 + 0 ≤ _), (by decide : 1 + 0 ≤ _)⟩)
  dsimp only [Pt.U, Pt.locs, Pt.cells, Pt.slots] at X9 l9 y9 z9 st9 hQ9
  subst l9 y9 z9
  obtain ⟨rfl, Nq9, e9⟩ := hQ9
  have N9 := Fr.app N0 Nq9
  refine gob st9 ?_
  show Go _ _ _ _ _ _ _ (T9.setTop (mkF m 28 #[.val (.ref o0), .val (.int (1 : Int32)), .val (.ref b2)] [(.int (1 : Int32)), (.int (0 : Int32)), (.ref b2), (.int (0 : Int32)), (.ref o0)]))
  obtain ⟨T10, h10, L10, X10, e10, N10, K10, A10, st10⟩ := cpA X9 hx hZ hown (hw _ (List.mem_of_getElem? (i := 31) rfl)) (hw _ (List.mem_of_getElem? (i := 34) rfl)) (hw _ (List.mem_of_getElem? (i := 32) rfl)) (hw _ (List.mem_of_getElem? (i := 33) rfl)) e9 c8 V2 (Or.inl ⟨rfl, rfl⟩) (sp := (0 : Int32)) (dp := (0 : Int32)) (nn := (1 : Int32)) (us := [(.int y0)]) (by decide) (by decide) (by decide) (by decide) (by decide) rfl (by decide) N9 g4 (g := (mkF m 28 #[.val (.ref o0), .val (.int (1 : Int32)), .val (.ref b2)] [(.int (1 : Int32)), (.int (0 : Int32)), (.ref b2), (.int (0 : Int32)), (.ref o0)])) rfl (by rw [hml]; rfl) rfl (hb hby d4_28) (by decide) (W := 0) (by show 2 * 0 + _ ≤ _; exact Nat.le_of_eq rfl) (by decide)
  have z11 : n0 ≤ h10.size := Nat.le_trans z5 K10.1
  have K12 : Keep h0 h10 ([] : List Addr) := K6.trans K10 (allS (Or.inr sz_b2) all0)
  have V10 : Arv Z h10 b2 k2 .int (1 : Int32) [(.int y0)] (.int (0 : Int32)) := A10
  refine gob st10 ?_
  show Go _ _ _ _ _ _ _ (T10.setTop (mkF m 31 #[.val (.ref o0), .val (.int (1 : Int32)), .val (.ref b2)] []))
  refine gob (fun _ k => XS.aloadN X10.here hx rfl (hb hby d4_31) rfl rfl k) ?_
  show Go _ _ _ _ _ _ _ (T10.setTop (mkF m 32 #[.val (.ref o0), .val (.int (1 : Int32)), .val (.ref b2)] [(.ref b2)]))
  refine goA X10 hx hlk Bd.returns rfl rfl (hb hby d4_32) ?_ (by decide) (by decide)
  show Qcp_2_1_1 Z o0 k_a y0 h0 n0 (some (.ref b2)) T10.heap _
  have c13 := (B2.keep K10)
  rw [e10]
  exact ⟨b2, k2, rfl, N10, K12, sz_b2, c13, V10⟩
theorem ef_cp_2_2_2 (m : MethodId) (x0 : Addr) : entryFrame m #[(.ref x0), (.int (2 : Int32))] 3 = mkF m 0 #[.val (.ref x0), .val (.int (2 : Int32)), .unset] [] := by first | (simp [entryFrame, mkF, argsToLocals, Value.category]; done) | rfl
def Qcp_2_2_2 (Z : State) (o0 : Addr) (k_a : ClassId) (y0 : Int32) (y1 : Int32) (h0 : Heap) (n0 : Nat) (v : Option Value) (h : Heap) (L : List Loc) : Prop := ∃ b2 : Addr, v = some (.ref b2) ∧ Fr n0 L ∧ Keep h0 h ([] : List Addr) ∧ h0.size ≤ b2 ∧ Arv Z h b2 k_a .int (2 : Int32) [(.int y0), (.int y1)] (.int (0 : Int32)) ∧ Exa Z h b2 "[I"
set_option maxRecDepth 65536 in
set_option maxHeartbeats 40000000 in
theorem rmcp_2_2_2 (l : Launch) (Z : State) (a0 : Array Value) (hw : ∀ d ∈ tables_1, d.before a0 Z = true) (ws : List Jvm.Cond) (o0 : Addr) (k_a : ClassId) (y0 : Int32) (y1 : Int32) (h0 : Heap) (n0 : Nat) (Z0 : n0 ≤ h0.size) (V_a : Arv Z h0 o0 k_a .int (2 : Int32) [(.int y0), (.int y1)] (.int (0 : Int32))) (E_a : Exa Z h0 o0 "[I") :
    MetFree l (⟨"java/util/Arrays", "copyOf", "([II)[I"⟩ : MethodName) (head1 (Jvm.Cond.code (⟨"java/util/Arrays", "copyOf", "([II)[I"⟩ : MethodName) jdk_65_method_123_code 3 (some (.array .int)) :: ws) ({ frames := 1, cells := 1, slots := 2, locals := 14 } : Room)) (fun a U => a = #[(.ref o0), (.int (2 : Int32))] ∧ Z.Warmed39 U.vm ∧ U.heap = h0) (fun _ _ _ _ _ => True) (fun _ U o U' => ∃ v L, o = .returned v ∧ Qcp_2_2_2 Z o0 k_a y0 y1 h0 n0 v U'.heap L ∧ FrameEnd U o U' L ({ frames := 1, cells := 1, slots := 2, locals := 14 } : Room).cells ({ frames := 1, cells := 1, slots := 2, locals := 14 } : Room).slots) := by
  refine MetFree.of_bodySF (plainFor_of_name (by first | (simp [plainName, overriddenIn]; done) | decide +kernel)) hisR ?_
  intro p e s m args below meth c s₁ Bd hml0 hP hK
  obtain ⟨rfl, hZ, hh⟩ := hP
  have hx := Bd.exec
  have hby := Bd.bytes
  have hml : c.maxLocals = 3 := hml0
  have hown : s.vm.findClass "java/util/Arrays" = some m.cls := findClass_of_methodNamed Bd.named
  have hnm := (name_of_methodNamed Bd.named Bd.method).1
  have hlk := BodyLoose.notSynchronized Bd
  have X0 : Stand p l e ({ frames := 1, cells := 1, slots := 2, locals := 14 } : Room) s m #[(.ref o0), (.int (2 : Int32))] below meth c s₁ [] 0 0 := Stand.of_body Bd
  have e0 : s₁.heap = h0 := by rw [← hh, Bd.state]; rfl
  have N0 := Fr.nil n0
  show Go p e below s (Qcp_2_2_2 Z o0 k_a y0 y1 h0 n0) 1 2 (s₁.setTop (entryFrame m #[(.ref o0), (.int (2 : Int32))] 3))
  rw [ef_cp_2_2_2]
  show Go _ _ _ _ _ _ _ (s₁.setTop (mkF m 0 #[.val (.ref o0), .val (.int (2 : Int32)), .unset] []))
  refine gob (fun _ k => XS.iloadN X0.here hx rfl (hb hby d4_0) rfl k) ?_
  show Go _ _ _ _ _ _ _ (s₁.setTop (mkF m 1 #[.val (.ref o0), .val (.int (2 : Int32)), .unset] [(.int (2 : Int32))]))
  refine gob (fun _ k => XS.aloadN X0.here hx rfl (hb hby d4_1) rfl rfl k) ?_
  show Go _ _ _ _ _ _ _ (s₁.setTop (mkF m 2 #[.val (.ref o0), .val (.int (2 : Int32)), .unset] [(.ref o0), (.int (2 : Int32))]))
  obtain ⟨cl1, Ar1, aq1, S1, N1, H1, G1⟩ := id V_a
  refine gob (X0.arraylength hx (by rw [e0]; exact Ar1.1) (State.isArrayOf_alike hZ.alike Ar1.2.1) (g := (mkF m 2 #[.val (.ref o0), .val (.int (2 : Int32)), .unset] [(.ref o0), (.int (2 : Int32))])) rfl rfl (hb hby d4_2)) ?_
  rw [len_of S1 N1]
  show Go _ _ _ _ _ _ _ (s₁.setTop (mkF m 3 #[.val (.ref o0), .val (.int (2 : Int32)), .unset] [(.int (2 : Int32)), (.int (2 : Int32))]))
  refine gob (fun _ k => XS.icmpNo X0.here hx rfl (hb hby d4_3) rfl (teq (by decide : (2 : Int32) = (2 : Int32))).2 k) ?_
  show Go _ _ _ _ _ _ _ (s₁.setTop (mkF m 6 #[.val (.ref o0), .val (.int (2 : Int32)), .unset] []))
  refine gob (fun _ k => XS.aloadN X0.here hx rfl (hb hby d4_6) rfl rfl k) ?_
  show Go _ _ _ _ _ _ _ (s₁.setTop (mkF m 7 #[.val (.ref o0), .val (.int (2 : Int32)), .unset] [(.ref o0)]))
  obtain ⟨T2, h2, X2, e2, E2, A2, B2, st2⟩ := cloneH X0 hx hZ hown (hw _ (List.mem_of_getElem? (i := 62) rfl)) (hw _ (List.mem_of_getElem? (i := 63) rfl)) (hw _ (List.mem_of_getElem? (i := 67) rfl)) (hw _ (List.mem_of_getElem? (i := 65) rfl)) (hw _ (List.mem_of_getElem? (i := 66) rfl)) (hw _ (List.mem_of_getElem? (i := 68) rfl)) e0 (Arv.arh V_a) E_a (g := (mkF m 7 #[.val (.ref o0), .val (.int (2 : Int32)), .unset] [(.ref o0)])) rfl (by rw [hml]; rfl) rfl (hb hby d4_7) (by decide) (W := 0) (cap := 2) (by show 2 * 0 + _ ≤ _; exact Nat.le_of_eq rfl) (by decide) (by decide) (by decide) (by decide)
  obtain ⟨b2, g2⟩ : ∃ z, z = h0.size := ⟨_, rfl⟩
  rw [← g2] at A2 B2 st2
  have n3 : o0 ≠ b2 := Nat.ne_of_lt (Nat.lt_of_lt_of_le V_a.lt (Nat.le_of_eq g2.symm))
  have g4 : n0 ≤ b2 := Nat.le_trans Z0 (Nat.le_of_eq g2.symm)
  have sz_b2 : h0.size ≤ b2 := Nat.le_trans (Keep.refl h0 []).1 (Nat.le_of_eq g2.symm)
  have z5 : n0 ≤ h2.size := Nat.le_trans Z0 E2.1
  have K6 : Keep h0 h2 ([] : List Addr) := (Keep.refl h0 ([] : List Addr)).ext E2
  have V2 : Arv Z h2 b2 k_a .int (2 : Int32) [(.int y0), (.int y1)] (.int (0 : Int32)) := A2
  refine gob st2 ?_
  show Go _ _ _ _ _ _ _ (T2.setTop (mkF m 10 #[.val (.ref o0), .val (.int (2 : Int32)), .unset] [(.ref b2)]))
  obtain ⟨T7, X7, e7, st7⟩ := castY X2 hx hZ hown (hw _ (List.mem_of_getElem? (i := 69) rfl)) e2 (Ins.self B2) (g := (mkF m 10 #[.val (.ref o0), .val (.int (2 : Int32)), .unset] [(.ref b2)])) rfl rfl (hb hby d4_10)
  refine gob st7 ?_
  show Go _ _ _ _ _ _ _ (T7.setTop (mkF m 13 #[.val (.ref o0), .val (.int (2 : Int32)), .unset] [(.ref b2)]))
  refine goA X7 hx hlk Bd.returns rfl rfl (hb hby d4_13) ?_ (by decide) (by decide)
  show Qcp_2_2_2 Z o0 k_a y0 y1 h0 n0 (some (.ref b2)) T7.heap _
  rw [e7]
  exact ⟨b2, rfl, N0, K6, sz_b2, V2, B2⟩
theorem ef_cp_4_3_3 (m : MethodId) (x0 : Addr) : entryFrame m #[(.ref x0), (.int (3 : Int32))] 3 = mkF m 0 #[.val (.ref x0), .val (.int (3 : Int32)), .unset] [] := by first | (simp [entryFrame, mkF, argsToLocals, Value.category]; done) | rfl
def Qcp_4_3_3 (Z : State) (o0 : Addr) (k_a : ClassId) (y0 : Int32) (y1 : Int32) (y2 : Int32) (h0 : Heap) (n0 : Nat) (v : Option Value) (h : Heap) (L : List Loc) : Prop := ∃ b2 : Addr, ∃ k2 : ClassId, v = some (.ref b2) ∧ Fr n0 L ∧ Keep h0 h ([] : List Addr) ∧ h0.size ≤ b2 ∧ Exa Z h b2 "[I" ∧ Arv Z h b2 k2 .int (3 : Int32) [(.int y0), (.int y1), (.int y2)] (.int (0 : Int32))
set_option maxRecDepth 65536 in
set_option maxHeartbeats 40000000 in
theorem rmcp_4_3_3 (l : Launch) (Z : State) (a0 : Array Value) (hw : ∀ d ∈ tables_1, d.before a0 Z = true) (ws : List Jvm.Cond) (o0 : Addr) (k_a : ClassId) (y0 : Int32) (y1 : Int32) (y2 : Int32) (h0 : Heap) (n0 : Nat) (Z0 : n0 ≤ h0.size) (V_a : Arv Z h0 o0 k_a .int (4 : Int32) [(.int y0), (.int y1), (.int y2), (.int (0 : Int32))] (.int (0 : Int32))) (E_a : Exa Z h0 o0 "[I") :
    MetFree l (⟨"java/util/Arrays", "copyOf", "([II)[I"⟩ : MethodName) (head1 (Jvm.Cond.code (⟨"java/util/Arrays", "copyOf", "([II)[I"⟩ : MethodName) jdk_65_method_123_code 3 (some (.array .int)) :: ws) ({ frames := 1, cells := 1, slots := 3, locals := 18 } : Room)) (fun a U => a = #[(.ref o0), (.int (3 : Int32))] ∧ Z.Warmed39 U.vm ∧ U.heap = h0) (fun _ _ _ _ _ => True) (fun _ U o U' => ∃ v L, o = .returned v ∧ Qcp_4_3_3 Z o0 k_a y0 y1 y2 h0 n0 v U'.heap L ∧ FrameEnd U o U' L ({ frames := 1, cells := 1, slots := 3, locals := 18 } : Room).cells ({ frames := 1, cells := 1, slots := 3, locals := 18 } : Room).slots) := by
  refine MetFree.of_bodySF (plainFor_of_name (by first | (simp [plainName, overriddenIn]; done) | decide +kernel)) hisR ?_
  intro p e s m args below meth c s₁ Bd hml0 hP hK
  obtain ⟨rfl, hZ, hh⟩ := hP
  have hx := Bd.exec
  have hby := Bd.bytes
  have hml : c.maxLocals = 3 := hml0
  have hown : s.vm.findClass "java/util/Arrays" = some m.cls := findClass_of_methodNamed Bd.named
  have hnm := (name_of_methodNamed Bd.named Bd.method).1
  have hlk := BodyLoose.notSynchronized Bd
  have X0 : Stand p l e ({ frames := 1, cells := 1, slots := 3, locals := 18 } : Room) s m #[(.ref o0), (.int (3 : Int32))] below meth c s₁ [] 0 0 := Stand.of_body Bd
  have e0 : s₁.heap = h0 := by rw [← hh, Bd.state]; rfl
  have N0 := Fr.nil n0
  show Go p e below s (Qcp_4_3_3 Z o0 k_a y0 y1 y2 h0 n0) 1 3 (s₁.setTop (entryFrame m #[(.ref o0), (.int (3 : Int32))] 3))
  rw [ef_cp_4_3_3]
  show Go _ _ _ _ _ _ _ (s₁.setTop (mkF m 0 #[.val (.ref o0), .val (.int (3 : Int32)), .unset] []))
  refine gob (fun _ k => XS.iloadN X0.here hx rfl (hb hby d4_0) rfl k) ?_
  show Go _ _ _ _ _ _ _ (s₁.setTop (mkF m 1 #[.val (.ref o0), .val (.int (3 : Int32)), .unset] [(.int (3 : Int32))]))
  refine gob (fun _ k => XS.aloadN X0.here hx rfl (hb hby d4_1) rfl rfl k) ?_
  show Go _ _ _ _ _ _ _ (s₁.setTop (mkF m 2 #[.val (.ref o0), .val (.int (3 : Int32)), .unset] [(.ref o0), (.int (3 : Int32))]))
  obtain ⟨cl1, Ar1, aq1, S1, N1, H1, G1⟩ := id V_a
  refine gob (X0.arraylength hx (by rw [e0]; exact Ar1.1) (State.isArrayOf_alike hZ.alike Ar1.2.1) (g := (mkF m 2 #[.val (.ref o0), .val (.int (3 : Int32)), .unset] [(.ref o0), (.int (3 : Int32))])) rfl rfl (hb hby d4_2)) ?_
  rw [len_of S1 N1]
  show Go _ _ _ _ _ _ _ (s₁.setTop (mkF m 3 #[.val (.ref o0), .val (.int (3 : Int32)), .unset] [(.int (4 : Int32)), (.int (3 : Int32))]))
  refine gob (fun _ k => XS.icmpYes X0.here hx rfl (pc0 := 3) (pc' := 14) rfl (hb hby d4_3) rfl (feq (by decide : ¬ ((3 : Int32) = (4 : Int32)))).2 (by decide) (by decide) k) ?_
  show Go _ _ _ _ _ _ _ (s₁.setTop (mkF m 14 #[.val (.ref o0), .val (.int (3 : Int32)), .unset] []))
  refine gob (fun _ k => XS.iloadN X0.here hx rfl (hb hby d4_14) rfl k) ?_
  show Go _ _ _ _ _ _ _ (s₁.setTop (mkF m 15 #[.val (.ref o0), .val (.int (3 : Int32)), .unset] [(.int (3 : Int32))]))
  obtain ⟨T2, h2, k2, X2, e2, E2, A2, B2, st2⟩ := newPE X0 hx hZ (hw _ (List.mem_of_getElem? (i := 11) rfl)) e0 (g := (mkF m 15 #[.val (.ref o0), .val (.int (3 : Int32)), .unset] [(.int (3 : Int32))])) rfl (hb hby d4_15) rfl (by decide) (cap := 3) (by decide) (by decide) (by decide) (by decide) (ad := "[I") (by decide)
  obtain ⟨b2, g2⟩ : ∃ z, z = h0.size := ⟨_, rfl⟩
  rw [← g2] at A2 B2 st2
  have n3 : o0 ≠ b2 := Nat.ne_of_lt (Nat.lt_of_lt_of_le V_a.lt (Nat.le_of_eq g2.symm))
  have g4 : n0 ≤ b2 := Nat.le_trans Z0 (Nat.le_of_eq g2.symm)
  have sz_b2 : h0.size ≤ b2 := Nat.le_trans (Keep.refl h0 []).1 (Nat.le_of_eq g2.symm)
  have z5 : n0 ≤ h2.size := Nat.le_trans Z0 E2.1
  have K6 : Keep h0 h2 ([] : List Addr) := (Keep.refl h0 ([] : List Addr)).ext E2
  have V2 : Arv Z h2 b2 k2 .int (3 : Int32) [(.int (0 : Int32)), (.int (0 : Int32)), (.int (0 : Int32))] (.int (0 : Int32)) := (Arv.new A2 (by decide)).pad (pad_rep [] (.int (0 : Int32)) 3)
  refine gob st2 ?_
  show Go _ _ _ _ _ _ _ (T2.setTop (mkF m 17 #[.val (.ref o0), .val (.int (3 : Int32)), .unset] [(.ref b2)]))
  refine gob (fun _ k => XS.astoreN X2.here hx rfl (hb hby d4_17) rfl rfl (l' := #[.val (.ref o0), .val (.int (3 : Int32)), .val (.ref b2)]) rfl k) ?_
  show Go _ _ _ _ _ _ _ (T2.setTop (mkF m 18 #[.val (.ref o0), .val (.int (3 : Int32)), .val (.ref b2)] []))
  refine gob (fun _ k => XS.aloadN X2.here hx rfl (hb hby d4_18) rfl rfl k) ?_
  show Go _ _ _ _ _ _ _ (T2.setTop (mkF m 19 #[.val (.ref o0), .val (.int (3 : Int32)), .val (.ref b2)] [(.ref o0)]))
  refine gob (fun _ k => XS.iconst X2.here hx rfl (hb hby d4_19) k) ?_
  show Go _ _ _ _ _ _ _ (T2.setTop (mkF m 20 #[.val (.ref o0), .val (.int (3 : Int32)), .val (.ref b2)] [(.int (0 : Int32)), (.ref o0)]))
  refine gob (fun _ k => XS.aloadN X2.here hx rfl (hb hby d4_20) rfl rfl k) ?_
  show Go _ _ _ _ _ _ _ (T2.setTop (mkF m 21 #[.val (.ref o0), .val (.int (3 : Int32)), .val (.ref b2)] [(.ref b2), (.int (0 : Int32)), (.ref o0)]))
  refine gob (fun _ k => XS.iconst X2.here hx rfl (hb hby d4_21) k) ?_
  show Go _ _ _ _ _ _ _ (T2.setTop (mkF m 22 #[.val (.ref o0), .val (.int (3 : Int32)), .val (.ref b2)] [(.int (0 : Int32)), (.ref b2), (.int (0 : Int32)), (.ref o0)]))
  refine gob (fun _ k => XS.aloadN X2.here hx rfl (hb hby d4_22) rfl rfl k) ?_
  show Go _ _ _ _ _ _ _ (T2.setTop (mkF m 23 #[.val (.ref o0), .val (.int (3 : Int32)), .val (.ref b2)] [(.ref o0), (.int (0 : Int32)), (.ref b2), (.int (0 : Int32)), (.ref o0)]))
  have c8 := (V_a.ext E2)
  obtain ⟨cl7, Ar7, aq7, S7, N7, H7, G7⟩ := id c8
  refine gob (X2.arraylength hx (by rw [e2]; exact Ar7.1) (State.isArrayOf_alike hZ.alike Ar7.2.1) (g := (mkF m 23 #[.val (.ref o0), .val (.int (3 : Int32)), .val (.ref b2)] [(.ref o0), (.int (0 : Int32)), (.ref b2), (.int (0 : Int32)), (.ref o0)])) rfl rfl (hb hby d4_23)) ?_
  rw [len_of S7 N7]
  show Go _ _ _ _ _ _ _ (T2.setTop (mkF m 24 #[.val (.ref o0), .val (.int (3 : Int32)), .val (.ref b2)] [(.int (4 : Int32)), (.int (0 : Int32)), (.ref b2), (.int (0 : Int32)), (.ref o0)]))
  refine gob (fun _ k => XS.iloadN X2.here hx rfl (hb hby d4_24) rfl k) ?_
  show Go _ _ _ _ _ _ _ (T2.setTop (mkF m 25 #[.val (.ref o0), .val (.int (3 : Int32)), .val (.ref b2)] [(.int (3 : Int32)), (.int (4 : Int32)), (.int (0 : Int32)), (.ref b2), (.int (0 : Int32)), (.ref o0)]))
  obtain ⟨_, _, ⟨T9, L9, k9, n9⟩, -, X9, ⟨Lc9, hQ9, l9, y9, z9⟩, st9⟩ := Jvm.LawKit.callS X2 hx (y := (⟨"java/lang/Math", "min", "(II)I"⟩ : MethodName)) hown (mvT hZ (hw _ (List.mem_of_getElem? (i := 27) rfl))) (mvT hZ (hw _ (List.mem_of_getElem? (i := 28) rfl))) (mvT hZ (hw _ (List.mem_of_getElem? (i := 29) rfl))) (mvT hZ (hw _ (List.mem_of_getElem? (i := 30) rfl))) (by decide) (backOf (W := 4) (rmmin_4_3 l Z a0 hw []  h2 n0 z5 ) hZ (hw _ (List.mem_of_getElem? (i := 30) rfl)) (hw _ (List.mem_of_getElem? (i := 29) rfl)) (by decide) (by decide)) (g := (mkF m 25 #[.val (.ref o0), .val (.int (3 : Int32)), .val (.ref b2)] [(.int (3 : Int32)), (.int (4 : Int32)), (.int (0 : Int32)), (.ref b2), (.int (0 : Int32)), (.ref o0)])) rfl (by rw [hml]; rfl) (argsL := [(.int (4 : Int32)), (.int (3 : Int32))]) (rest := [(.int (0 : Int32)), (.ref b2), (.int (0 : Int32)), (.ref o0)]) (lenOf pd_0 rfl) rfl (by show 2 * 0 + _ ≤ _; exact Nat.le_of_eq rfl) (hb hby d4_25) (fun _ _ => ⟨rfl, e2, (by decide : 1 + 0 ≤ _), (by decide : 3 + 0 ≤ _)⟩)
  dsimp only [Pt.U, Pt.locs, Pt.cells, Pt.slots] at X9 l9 y9 z9 st9 hQ9
  subst l9 y9 z9
  obtain ⟨rfl, Nq9, e9⟩ := hQ9
  have N9 := Fr.app N0 Nq9
  refine gob st9 ?_
  show Go _ _ _ _ _ _ _ (T9.setTop (mkF m 28 #[.val (.ref o0), .val (.int (3 : Int32)), .val (.ref b2)] [(.int (3 : Int32)), (.int (0 : Int32)), (.ref b2), (.int (0 : Int32)), (.ref o0)]))
  obtain ⟨T10, h10, L10, X10, e10, N10, K10, A10, st10⟩ := cpA X9 hx hZ hown (hw _ (List.mem_of_getElem? (i := 31) rfl)) (hw _ (List.mem_of_getElem? (i := 34) rfl)) (hw _ (List.mem_of_getElem? (i := 32) rfl)) (hw _ (List.mem_of_getElem? (i := 33) rfl)) e9 c8 V2 (Or.inl ⟨rfl, rfl⟩) (sp := (0 : Int32)) (dp := (0 : Int32)) (nn := (3 : Int32)) (us := [(.int y0), (.int y1), (.int y2)]) (by decide) (by decide) (by decide) (by decide) (by decide) rfl (by decide) N9 g4 (g := (mkF m 28 #[.val (.ref o0), .val (.int (3 : Int32)), .val (.ref b2)] [(.int (3 : Int32)), (.int (0 : Int32)), (.ref b2), (.int (0 : Int32)), (.ref o0)])) rfl (by rw [hml]; rfl) rfl (hb hby d4_28) (by decide) (W := 0) (by show 2 * 0 + _ ≤ _; exact Nat.le_of_eq rfl) (by decide)
  have z11 : n0 ≤ h10.size := Nat.le_trans z5 K10.1
  have K12 : Keep h0 h10 ([] : List Addr) := K6.trans K10 (allS (Or.inr sz_b2) all0)
  have V10 : Arv Z h10 b2 k2 .int (3 : Int32) [(.int y0), (.int y1), (.int y2)] (.int (0 : Int32)) := A10
  refine gob st10 ?_
  show Go _ _ _ _ _ _ _ (T10.setTop (mkF m 31 #[.val (.ref o0), .val (.int (3 : Int32)), .val (.ref b2)] []))
  refine gob (fun _ k => XS.aloadN X10.here hx rfl (hb hby d4_31) rfl rfl k) ?_
  show Go _ _ _ _ _ _ _ (T10.setTop (mkF m 32 #[.val (.ref o0), .val (.int (3 : Int32)), .val (.ref b2)] [(.ref b2)]))
  refine goA X10 hx hlk Bd.returns rfl rfl (hb hby d4_32) ?_ (by decide) (by decide)
  show Qcp_4_3_3 Z o0 k_a y0 y1 y2 h0 n0 (some (.ref b2)) T10.heap _
  have c13 := (B2.keep K10)
  rw [e10]
  exact ⟨b2, k2, rfl, N10, K12, sz_b2, c13, V10⟩
theorem ef_cp_2_2_4 (m : MethodId) (x0 : Addr) : entryFrame m #[(.ref x0), (.int (4 : Int32))] 3 = mkF m 0 #[.val (.ref x0), .val (.int (4 : Int32)), .unset] [] := by first | (simp [entryFrame, mkF, argsToLocals, Value.category]; done) | rfl
def Qcp_2_2_4 (Z : State) (o0 : Addr) (k_a : ClassId) (y0 : Int32) (y1 : Int32) (h0 : Heap) (n0 : Nat) (v : Option Value) (h : Heap) (L : List Loc) : Prop := ∃ b2 : Addr, ∃ k2 : ClassId, v = some (.ref b2) ∧ Fr n0 L ∧ Keep h0 h ([] : List Addr) ∧ h0.size ≤ b2 ∧ Exa Z h b2 "[I" ∧ Arv Z h b2 k2 .int (4 : Int32) [(.int y0), (.int y1), (.int (0 : Int32)), (.int (0 : Int32))] (.int (0 : Int32))
set_option maxRecDepth 65536 in
set_option maxHeartbeats 40000000 in
theorem rmcp_2_2_4 (l : Launch) (Z : State) (a0 : Array Value) (hw : ∀ d ∈ tables_1, d.before a0 Z = true) (ws : List Jvm.Cond) (o0 : Addr) (k_a : ClassId) (y0 : Int32) (y1 : Int32) (h0 : Heap) (n0 : Nat) (Z0 : n0 ≤ h0.size) (V_a : Arv Z h0 o0 k_a .int (2 : Int32) [(.int y0), (.int y1)] (.int (0 : Int32))) (E_a : Exa Z h0 o0 "[I") :
    MetFree l (⟨"java/util/Arrays", "copyOf", "([II)[I"⟩ : MethodName) (head1 (Jvm.Cond.code (⟨"java/util/Arrays", "copyOf", "([II)[I"⟩ : MethodName) jdk_65_method_123_code 3 (some (.array .int)) :: ws) ({ frames := 1, cells := 1, slots := 4, locals := 18 } : Room)) (fun a U => a = #[(.ref o0), (.int (4 : Int32))] ∧ Z.Warmed39 U.vm ∧ U.heap = h0) (fun _ _ _ _ _ => True) (fun _ U o U' => ∃ v L, o = .returned v ∧ Qcp_2_2_4 Z o0 k_a y0 y1 h0 n0 v U'.heap L ∧ FrameEnd U o U' L ({ frames := 1, cells := 1, slots := 4, locals := 18 } : Room).cells ({ frames := 1, cells := 1, slots := 4, locals := 18 } : Room).slots) := by
  refine MetFree.of_bodySF (plainFor_of_name (by first | (simp [plainName, overriddenIn]; done) | decide +kernel)) hisR ?_
  intro p e s m args below meth c s₁ Bd hml0 hP hK
  obtain ⟨rfl, hZ, hh⟩ := hP
  have hx := Bd.exec
  have hby := Bd.bytes
  have hml : c.maxLocals = 3 := hml0
  have hown : s.vm.findClass "java/util/Arrays" = some m.cls := findClass_of_methodNamed Bd.named
  have hnm := (name_of_methodNamed Bd.named Bd.method).1
  have hlk := BodyLoose.notSynchronized Bd
  have X0 : Stand p l e ({ frames := 1, cells := 1, slots := 4, locals := 18 } : Room) s m #[(.ref o0), (.int (4 : Int32))] below meth c s₁ [] 0 0 := Stand.of_body Bd
  have e0 : s₁.heap = h0 := by rw [← hh, Bd.state]; rfl
  have N0 := Fr.nil n0
  show Go p e below s (Qcp_2_2_4 Z o0 k_a y0 y1 h0 n0) 1 4 (s₁.setTop (entryFrame m #[(.ref o0), (.int (4 : Int32))] 3))
  rw [ef_cp_2_2_4]
  show Go _ _ _ _ _ _ _ (s₁.setTop (mkF m 0 #[.val (.ref o0), .val (.int (4 : Int32)), .unset] []))
  refine gob (fun _ k => XS.iloadN X0.here hx rfl (hb hby d4_0) rfl k) ?_
  show Go _ _ _ _ _ _ _ (s₁.setTop (mkF m 1 #[.val (.ref o0), .val (.int (4 : Int32)), .unset] [(.int (4 : Int32))]))
  refine gob (fun _ k => XS.aloadN X0.here hx rfl (hb hby d4_1) rfl rfl k) ?_
  show Go _ _ _ _ _ _ _ (s₁.setTop (mkF m 2 #[.val (.ref o0), .val (.int (4 : Int32)), .unset] [(.ref o0), (.int (4 : Int32))]))
  obtain ⟨cl1, Ar1, aq1, S1, N1, H1, G1⟩ := id V_a
  refine gob (X0.arraylength hx (by rw [e0]; exact Ar1.1) (State.isArrayOf_alike hZ.alike Ar1.2.1) (g := (mkF m 2 #[.val (.ref o0), .val (.int (4 : Int32)), .unset] [(.ref o0), (.int (4 : Int32))])) rfl rfl (hb hby d4_2)) ?_
  rw [len_of S1 N1]
  show Go _ _ _ _ _ _ _ (s₁.setTop (mkF m 3 #[.val (.ref o0), .val (.int (4 : Int32)), .unset] [(.int (2 : Int32)), (.int (4 : Int32))]))
  refine gob (fun _ k => XS.icmpYes X0.here hx rfl (pc0 := 3) (pc' := 14) rfl (hb hby d4_3) rfl (feq (by decide : ¬ ((4 : Int32) = (2 : Int32)))).2 (by decide) (by decide) k) ?_
  show Go _ _ _ _ _ _ _ (s₁.setTop (mkF m 14 #[.val (.ref o0), .val (.int (4 : Int32)), .unset] []))
  refine gob (fun _ k => XS.iloadN X0.here hx rfl (hb hby d4_14) rfl k) ?_
  show Go _ _ _ _ _ _ _ (s₁.setTop (mkF m 15 #[.val (.ref o0), .val (.int (4 : Int32)), .unset] [(.int (4 : Int32))]))
  obtain ⟨T2, h2, k2, X2, e2, E2, A2, B2, st2⟩ := newPE X0 hx hZ (hw _ (List.mem_of_getElem? (i := 11) rfl)) e0 (g := (mkF m 15 #[.val (.ref o0), .val (.int (4 : Int32)), .unset] [(.int (4 : Int32))])) rfl (hb hby d4_15) rfl (by decide) (cap := 4) (by decide) (by decide) (by decide) (by decide) (ad := "[I") (by decide)
  obtain ⟨b2, g2⟩ : ∃ z, z = h0.size := ⟨_, rfl⟩
  rw [← g2] at A2 B2 st2
  have n3 : o0 ≠ b2 := Nat.ne_of_lt (Nat.lt_of_lt_of_le V_a.lt (Nat.le_of_eq g2.symm))
  have g4 : n0 ≤ b2 := Nat.le_trans Z0 (Nat.le_of_eq g2.symm)
  have sz_b2 : h0.size ≤ b2 := Nat.le_trans (Keep.refl h0 []).1 (Nat.le_of_eq g2.symm)
  have z5 : n0 ≤ h2.size := Nat.le_trans Z0 E2.1
  have K6 : Keep h0 h2 ([] : List Addr) := (Keep.refl h0 ([] : List Addr)).ext E2
  have V2 : Arv Z h2 b2 k2 .int (4 : Int32) [(.int (0 : Int32)), (.int (0 : Int32)), (.int (0 : Int32)), (.int (0 : Int32))] (.int (0 : Int32)) := (Arv.new A2 (by decide)).pad (pad_rep [] (.int (0 : Int32)) 4)
  refine gob st2 ?_
  show Go _ _ _ _ _ _ _ (T2.setTop (mkF m 17 #[.val (.ref o0), .val (.int (4 : Int32)), .unset] [(.ref b2)]))
  refine gob (fun _ k => XS.astoreN X2.here hx rfl (hb hby d4_17) rfl rfl (l' := #[.val (.ref o0), .val (.int (4 : Int32)), .val (.ref b2)]) rfl k) ?_
  show Go _ _ _ _ _ _ _ (T2.setTop (mkF m 18 #[.val (.ref o0), .val (.int (4 : Int32)), .val (.ref b2)] []))
  refine gob (fun _ k => XS.aloadN X2.here hx rfl (hb hby d4_18) rfl rfl k) ?_
  show Go _ _ _ _ _ _ _ (T2.setTop (mkF m 19 #[.val (.ref o0), .val (.int (4 : Int32)), .val (.ref b2)] [(.ref o0)]))
  refine gob (fun _ k => XS.iconst X2.here hx rfl (hb hby d4_19) k) ?_
  show Go _ _ _ _ _ _ _ (T2.setTop (mkF m 20 #[.val (.ref o0), .val (.int (4 : Int32)), .val (.ref b2)] [(.int (0 : Int32)), (.ref o0)]))
  refine gob (fun _ k => XS.aloadN X2.here hx rfl (hb hby d4_20) rfl rfl k) ?_
  show Go _ _ _ _ _ _ _ (T2.setTop (mkF m 21 #[.val (.ref o0), .val (.int (4 : Int32)), .val (.ref b2)] [(.ref b2), (.int (0 : Int32)), (.ref o0)]))
  refine gob (fun _ k => XS.iconst X2.here hx rfl (hb hby d4_21) k) ?_
  show Go _ _ _ _ _ _ _ (T2.setTop (mkF m 22 #[.val (.ref o0), .val (.int (4 : Int32)), .val (.ref b2)] [(.int (0 : Int32)), (.ref b2), (.int (0 : Int32)), (.ref o0)]))
  refine gob (fun _ k => XS.aloadN X2.here hx rfl (hb hby d4_22) rfl rfl k) ?_
  show Go _ _ _ _ _ _ _ (T2.setTop (mkF m 23 #[.val (.ref o0), .val (.int (4 : Int32)), .val (.ref b2)] [(.ref o0), (.int (0 : Int32)), (.ref b2), (.int (0 : Int32)), (.ref o0)]))
  have c8 := (V_a.ext E2)
  obtain ⟨cl7, Ar7, aq7, S7, N7, H7, G7⟩ := id c8
  refine gob (X2.arraylength hx (by rw [e2]; exact Ar7.1) (State.isArrayOf_alike hZ.alike Ar7.2.1) (g := (mkF m 23 #[.val (.ref o0), .val (.int (4 : Int32)), .val (.ref b2)] [(.ref o0), (.int (0 : Int32)), (.ref b2), (.int (0 : Int32)), (.ref o0)])) rfl rfl (hb hby d4_23)) ?_
  rw [len_of S7 N7]
  show Go _ _ _ _ _ _ _ (T2.setTop (mkF m 24 #[.val (.ref o0), .val (.int (4 : Int32)), .val (.ref b2)] [(.int (2 : Int32)), (.int (0 : Int32)), (.ref b2), (.int (0 : Int32)), (.ref o0)]))
  refine gob (fun _ k => XS.iloadN X2.here hx rfl (hb hby d4_24) rfl k) ?_
  show Go _ _ _ _ _ _ _ (T2.setTop (mkF m 25 #[.val (.ref o0), .val (.int (4 : Int32)), .val (.ref b2)] [(.int (4 : Int32)), (.int (2 : Int32)), (.int (0 : Int32)), (.ref b2), (.int (0 : Int32)), (.ref o0)]))
  obtain ⟨_, _, ⟨T9, L9, k9, n9⟩, -, X9, ⟨Lc9, hQ9, l9, y9, z9⟩, st9⟩ := Jvm.LawKit.callS X2 hx (y := (⟨"java/lang/Math", "min", "(II)I"⟩ : MethodName)) hown (mvT hZ (hw _ (List.mem_of_getElem? (i := 27) rfl))) (mvT hZ (hw _ (List.mem_of_getElem? (i := 28) rfl))) (mvT hZ (hw _ (List.mem_of_getElem? (i := 29) rfl))) (mvT hZ (hw _ (List.mem_of_getElem? (i := 30) rfl))) (by decide) (backOf (W := 4) (rmmin_2_4 l Z a0 hw []  h2 n0 z5 ) hZ (hw _ (List.mem_of_getElem? (i := 30) rfl)) (hw _ (List.mem_of_getElem? (i := 29) rfl)) (by decide) (by decide)) (g := (mkF m 25 #[.val (.ref o0), .val (.int (4 : Int32)), .val (.ref b2)] [(.int (4 : Int32)), (.int (2 : Int32)), (.int (0 : Int32)), (.ref b2), (.int (0 : Int32)), (.ref o0)])) rfl (by rw [hml]; rfl) (argsL := [(.int (2 : Int32)), (.int (4 : Int32))]) (rest := [(.int (0 : Int32)), (.ref b2), (.int (0 : Int32)), (.ref o0)]) (lenOf pd_0 rfl) rfl (by show 2 * 0 + _ ≤ _; exact Nat.le_of_eq rfl) (hb hby d4_25) (fun _ _ => ⟨rfl, e2, (by decide : 1 + 0 ≤ _), (by decide : 4 + 0 ≤ _)⟩)
  dsimp only [Pt.U, Pt.locs, Pt.cells, Pt.slots] at X9 l9 y9 z9 st9 hQ9
  subst l9 y9 z9
  obtain ⟨rfl, Nq9, e9⟩ := hQ9
  have N9 := Fr.app N0 Nq9
  refine gob st9 ?_
  show Go _ _ _ _ _ _ _ (T9.setTop (mkF m 28 #[.val (.ref o0), .val (.int (4 : Int32)), .val (.ref b2)] [(.int (2 : Int32)), (.int (0 : Int32)), (.ref b2), (.int (0 : Int32)), (.ref o0)]))
  obtain ⟨T10, h10, L10, X10, e10, N10, K10, A10, st10⟩ := cpA X9 hx hZ hown (hw _ (List.mem_of_getElem? (i := 31) rfl)) (hw _ (List.mem_of_getElem? (i := 34) rfl)) (hw _ (List.mem_of_getElem? (i := 32) rfl)) (hw _ (List.mem_of_getElem? (i := 33) rfl)) e9 c8 V2 (Or.inl ⟨rfl, rfl⟩) (sp := (0 : Int32)) (dp := (0 : Int32)) (nn := (2 : Int32)) (us := [(.int y0), (.int y1)]) (by decide) (by decide) (by decide) (by decide) (by decide) rfl (by decide) N9 g4 (g := (mkF m 28 #[.val (.ref o0), .val (.int (4 : Int32)), .val (.ref b2)] [(.int (2 : Int32)), (.int (0 : Int32)), (.ref b2), (.int (0 : Int32)), (.ref o0)])) rfl (by rw [hml]; rfl) rfl (hb hby d4_28) (by decide) (W := 0) (by show 2 * 0 + _ ≤ _; exact Nat.le_of_eq rfl) (by decide)
  have z11 : n0 ≤ h10.size := Nat.le_trans z5 K10.1
  have K12 : Keep h0 h10 ([] : List Addr) := K6.trans K10 (allS (Or.inr sz_b2) all0)
  have V10 : Arv Z h10 b2 k2 .int (4 : Int32) [(.int y0), (.int y1), (.int (0 : Int32)), (.int (0 : Int32))] (.int (0 : Int32)) := A10
  refine gob st10 ?_
  show Go _ _ _ _ _ _ _ (T10.setTop (mkF m 31 #[.val (.ref o0), .val (.int (4 : Int32)), .val (.ref b2)] []))
  refine gob (fun _ k => XS.aloadN X10.here hx rfl (hb hby d4_31) rfl rfl k) ?_
  show Go _ _ _ _ _ _ _ (T10.setTop (mkF m 32 #[.val (.ref o0), .val (.int (4 : Int32)), .val (.ref b2)] [(.ref b2)]))
  refine goA X10 hx hlk Bd.returns rfl rfl (hb hby d4_32) ?_ (by decide) (by decide)
  show Qcp_2_2_4 Z o0 k_a y0 y1 h0 n0 (some (.ref b2)) T10.heap _
  have c13 := (B2.keep K10)
  rw [e10]
  exact ⟨b2, k2, rfl, N10, K12, sz_b2, c13, V10⟩
theorem ef_cp_1_1_2 (m : MethodId) (x0 : Addr) : entryFrame m #[(.ref x0), (.int (2 : Int32))] 3 = mkF m 0 #[.val (.ref x0), .val (.int (2 : Int32)), .unset] [] := by first | (simp [entryFrame, mkF, argsToLocals, Value.category]; done) | rfl
def Qcp_1_1_2 (Z : State) (o0 : Addr) (k_a : ClassId) (y0 : Int32) (h0 : Heap) (n0 : Nat) (v : Option Value) (h : Heap) (L : List Loc) : Prop := ∃ b2 : Addr, ∃ k2 : ClassId, v = some (.ref b2) ∧ Fr n0 L ∧ Keep h0 h ([] : List Addr) ∧ h0.size ≤ b2 ∧ Exa Z h b2 "[I" ∧ Arv Z h b2 k2 .int (2 : Int32) [(.int y0), (.int (0 : Int32))] (.int (0 : Int32))
set_option maxRecDepth 65536 in
set_option maxHeartbeats 40000000 in
theorem rmcp_1_1_2 (l : Launch) (Z : State) (a0 : Array Value) (hw : ∀ d ∈ tables_1, d.before a0 Z = true) (ws : List Jvm.Cond) (o0 : Addr) (k_a : ClassId) (y0 : Int32) (h0 : Heap) (n0 : Nat) (Z0 : n0 ≤ h0.size) (V_a : Arv Z h0 o0 k_a .int (1 : Int32) [(.int y0)] (.int (0 : Int32))) (E_a : Exa Z h0 o0 "[I") :
    MetFree l (⟨"java/util/Arrays", "copyOf", "([II)[I"⟩ : MethodName) (head1 (Jvm.Cond.code (⟨"java/util/Arrays", "copyOf", "([II)[I"⟩ : MethodName) jdk_65_method_123_code 3 (some (.array .int)) :: ws) ({ frames := 1, cells := 1, slots := 2, locals := 18 } : Room)) (fun a U => a = #[(.ref o0), (.int (2 : Int32))] ∧ Z.Warmed39 U.vm ∧ U.heap = h0) (fun _ _ _ _ _ => True) (fun _ U o U' => ∃ v L, o = .returned v ∧ Qcp_1_1_2 Z o0 k_a y0 h0 n0 v U'.heap L ∧ FrameEnd U o U' L ({ frames := 1, cells := 1, slots := 2, locals := 18 } : Room).cells ({ frames := 1, cells := 1, slots := 2, locals := 18 } : Room).slots) := by
  refine MetFree.of_bodySF (plainFor_of_name (by first | (simp [plainName, overriddenIn]; done) | decide +kernel)) hisR ?_
  intro p e s m args below meth c s₁ Bd hml0 hP hK
  obtain ⟨rfl, hZ, hh⟩ := hP
  have hx := Bd.exec
  have hby := Bd.bytes
  have hml : c.maxLocals = 3 := hml0
  have hown : s.vm.findClass "java/util/Arrays" = some m.cls := findClass_of_methodNamed Bd.named
  have hnm := (name_of_methodNamed Bd.named Bd.method).1
  have hlk := BodyLoose.notSynchronized Bd
  have X0 : Stand p l e ({ frames := 1, cells := 1, slots := 2, locals := 18 } : Room) s m #[(.ref o0), (.int (2 : Int32))] below meth c s₁ [] 0 0 := Stand.of_body Bd
  have e0 : s₁.heap = h0 := by rw [← hh, Bd.state]; rfl
  have N0 := Fr.nil n0
  show Go p e below s (Qcp_1_1_2 Z o0 k_a y0 h0 n0) 1 2 (s₁.setTop (entryFrame m #[(.ref o0), (.int (2 : Int32))] 3))
  rw [ef_cp_1_1_2]
  show Go _ _ _ _ _ _ _ (s₁.setTop (mkF m 0 #[.val (.ref o0), .val (.int (2 : Int32)), .unset] []))
  refine gob (fun _ k => XS.iloadN X0.here hx rfl (hb hby d4_0) rfl k) ?_
  show Go _ _ _ _ _ _ _ (s₁.setTop (mkF m 1 #[.val (.ref o0), .val (.int (2 : Int32)), .unset] [(.int (2 : Int32))]))
  refine gob (fun _ k => XS.aloadN X0.here hx rfl (hb hby d4_1) rfl rfl k) ?_
  show Go _ _ _ _ _ _ _ (s₁.setTop (mkF m 2 #[.val (.ref o0), .val (.int (2 : Int32)), .unset] [(.ref o0), (.int (2 : Int32))]))
  obtain ⟨cl1, Ar1, aq1, S1, N1, H1, G1⟩ := id V_a
  refine gob (X0.arraylength hx (by rw [e0]; exact Ar1.1) (State.isArrayOf_alike hZ.alike Ar1.2.1) (g := (mkF m 2 #[.val (.ref o0), .val (.int (2 : Int32)), .unset] [(.ref o0), (.int (2 : Int32))])) rfl rfl (hb hby d4_2)) ?_
  rw [len_of S1 N1]
  show Go _ _ _ _ _ _ _ (s₁.setTop (mkF m 3 #[.val (.ref o0), .val (.int (2 : Int32)), .unset] [(.int (1 : Int32)), (.int (2 : Int32))]))
  refine gob (fun _ k => XS.icmpYes X0.here hx rfl (pc0 := 3) (pc' := 14) rfl (hb hby d4_3) rfl (feq (by decide : ¬ ((2 : Int32) = (1 : Int32)))).2 (by decide) (by decide) k) ?_
  show Go _ _ _ _ _ _ _ (s₁.setTop (mkF m 14 #[.val (.ref o0), .val (.int (2 : Int32)), .unset] []))
  refine gob (fun _ k => XS.iloadN X0.here hx rfl (hb hby d4_14) rfl k) ?_
  show Go _ _ _ _ _ _ _ (s₁.setTop (mkF m 15 #[.val (.ref o0), .val (.int (2 : Int32)), .unset] [(.int (2 : Int32))]))
  obtain ⟨T2, h2, k2, X2, e2, E2, A2, B2, st2⟩ := newPE X0 hx hZ (hw _ (List.mem_of_getElem? (i := 11) rfl)) e0 (g := (mkF m 15 #[.val (.ref o0), .val (.int (2 : Int32)), .unset] [(.int (2 : Int32))])) rfl (hb hby d4_15) rfl (by decide) (cap := 2) (by decide) (by decide) (by decide) (by decide) (ad := "[I") (by decide)
  obtain ⟨b2, g2⟩ : ∃ z, z = h0.size := ⟨_, rfl⟩
  rw [← g2] at A2 B2 st2
  have n3 : o0 ≠ b2 := Nat.ne_of_lt (Nat.lt_of_lt_of_le V_a.lt (Nat.le_of_eq g2.symm))
  have g4 : n0 ≤ b2 := Nat.le_trans Z0 (Nat.le_of_eq g2.symm)
  have sz_b2 : h0.size ≤ b2 := Nat.le_trans (Keep.refl h0 []).1 (Nat.le_of_eq g2.symm)
  have z5 : n0 ≤ h2.size := Nat.le_trans Z0 E2.1
  have K6 : Keep h0 h2 ([] : List Addr) := (Keep.refl h0 ([] : List Addr)).ext E2
  have V2 : Arv Z h2 b2 k2 .int (2 : Int32) [(.int (0 : Int32)), (.int (0 : Int32))] (.int (0 : Int32)) := (Arv.new A2 (by decide)).pad (pad_rep [] (.int (0 : Int32)) 2)
  refine gob st2 ?_
  show Go _ _ _ _ _ _ _ (T2.setTop (mkF m 17 #[.val (.ref o0), .val (.int (2 : Int32)), .unset] [(.ref b2)]))
  refine gob (fun _ k => XS.astoreN X2.here hx rfl (hb hby d4_17) rfl rfl (l' := #[.val (.ref o0), .val (.int (2 : Int32)), .val (.ref b2)]) rfl k) ?_
  show Go _ _ _ _ _ _ _ (T2.setTop (mkF m 18 #[.val (.ref o0), .val (.int (2 : Int32)), .val (.ref b2)] []))
  refine gob (fun _ k => XS.aloadN X2.here hx rfl (hb hby d4_18) rfl rfl k) ?_
  show Go _ _ _ _ _ _ _ (T2.setTop (mkF m 19 #[.val (.ref o0), .val (.int (2 : Int32)), .val (.ref b2)] [(.ref o0)]))
  refine gob (fun _ k => XS.iconst X2.here hx rfl (hb hby d4_19) k) ?_
  show Go _ _ _ _ _ _ _ (T2.setTop (mkF m 20 #[.val (.ref o0), .val (.int (2 : Int32)), .val (.ref b2)] [(.int (0 : Int32)), (.ref o0)]))
  refine gob (fun _ k => XS.aloadN X2.here hx rfl (hb hby d4_20) rfl rfl k) ?_
  show Go _ _ _ _ _ _ _ (T2.setTop (mkF m 21 #[.val (.ref o0), .val (.int (2 : Int32)), .val (.ref b2)] [(.ref b2), (.int (0 : Int32)), (.ref o0)]))
  refine gob (fun _ k => XS.iconst X2.here hx rfl (hb hby d4_21) k) ?_
  show Go _ _ _ _ _ _ _ (T2.setTop (mkF m 22 #[.val (.ref o0), .val (.int (2 : Int32)), .val (.ref b2)] [(.int (0 : Int32)), (.ref b2), (.int (0 : Int32)), (.ref o0)]))
  refine gob (fun _ k => XS.aloadN X2.here hx rfl (hb hby d4_22) rfl rfl k) ?_
  show Go _ _ _ _ _ _ _ (T2.setTop (mkF m 23 #[.val (.ref o0), .val (.int (2 : Int32)), .val (.ref b2)] [(.ref o0), (.int (0 : Int32)), (.ref b2), (.int (0 : Int32)), (.ref o0)]))
  have c8 := (V_a.ext E2)
  obtain ⟨cl7, Ar7, aq7, S7, N7, H7, G7⟩ := id c8
  refine gob (X2.arraylength hx (by rw [e2]; exact Ar7.1) (State.isArrayOf_alike hZ.alike Ar7.2.1) (g := (mkF m 23 #[.val (.ref o0), .val (.int (2 : Int32)), .val (.ref b2)] [(.ref o0), (.int (0 : Int32)), (.ref b2), (.int (0 : Int32)), (.ref o0)])) rfl rfl (hb hby d4_23)) ?_
  rw [len_of S7 N7]
  show Go _ _ _ _ _ _ _ (T2.setTop (mkF m 24 #[.val (.ref o0), .val (.int (2 : Int32)), .val (.ref b2)] [(.int (1 : Int32)), (.int (0 : Int32)), (.ref b2), (.int (0 : Int32)), (.ref o0)]))
  refine gob (fun _ k => XS.iloadN X2.here hx rfl (hb hby d4_24) rfl k) ?_
  show Go _ _ _ _ _ _ _ (T2.setTop (mkF m 25 #[.val (.ref o0), .val (.int (2 : Int32)), .val (.ref b2)] [(.int (2 : Int32)), (.int (1 : Int32)), (.int (0 : Int32)), (.ref b2), (.int (0 : Int32)), (.ref o0)]))
  obtain ⟨_, _, ⟨T9, L9, k9, n9⟩, -, X9, ⟨Lc9, hQ9, l9, y9, z9⟩, st9⟩ := Jvm.LawKit.callS X2 hx (y := (⟨"java/lang/Math", "min", "(II)I"⟩ : MethodName)) hown (mvT hZ (hw _ (List.mem_of_getElem? (i := 27) rfl))) (mvT hZ (hw _ (List.mem_of_getElem? (i := 28) rfl))) (mvT hZ (hw _ (List.mem_of_getElem? (i := 29) rfl))) (mvT hZ (hw _ (List.mem_of_getElem? (i := 30) rfl))) (by decide) (backOf (W := 4) (rmmin_1_2 l Z a0 hw []  h2 n0 z5 ) hZ (hw _ (List.mem_of_getElem? (i := 30) rfl)) (hw _ (List.mem_of_getElem? (i := 29) rfl)) (by decide) (by decide)) (g := (mkF m 25 #[.val (.ref o0), .val (.int (2 : Int32)), .val (.ref b2)] [(.int (2 : Int32)), (.int (1 : Int32)), (.int (0 : Int32)), (.ref b2), (.int (0 : Int32)), (.ref o0)])) rfl (by rw [hml]; rfl) (argsL := [(.int (1 : Int32)), (.int (2 : Int32))]) (rest := [(.int (0 : Int32)), (.ref b2), (.int (0 : Int32)), (.ref o0)]) (lenOf pd_0 rfl) rfl (by show 2 * 0 + _ ≤ _; exact Nat.le_of_eq rfl) (hb hby d4_25) (fun _ _ => ⟨rfl, e2, (by decide : 1 + 0 ≤ _), (by decide : 2 + 0 ≤ _)⟩)
  dsimp only [Pt.U, Pt.locs, Pt.cells, Pt.slots] at X9 l9 y9 z9 st9 hQ9
  subst l9 y9 z9
  obtain ⟨rfl, Nq9, e9⟩ := hQ9
  have N9 := Fr.app N0 Nq9
  refine gob st9 ?_
  show Go _ _ _ _ _ _ _ (T9.setTop (mkF m 28 #[.val (.ref o0), .val (.int (2 : Int32)), .val (.ref b2)] [(.int (1 : Int32)), (.int (0 : Int32)), (.ref b2), (.int (0 : Int32)), (.ref o0)]))
  obtain ⟨T10, h10, L10, X10, e10, N10, K10, A10, st10⟩ := cpA X9 hx hZ hown (hw _ (List.mem_of_getElem? (i := 31) rfl)) (hw _ (List.mem_of_getElem? (i := 34) rfl)) (hw _ (List.mem_of_getElem? (i := 32) rfl)) (hw _ (List.mem_of_getElem? (i := 33) rfl)) e9 c8 V2 (Or.inl ⟨rfl, rfl⟩) (sp := (0 : Int32)) (dp := (0 : Int32)) (nn := (1 : Int32)) (us := [(.int y0)]) (by decide) (by decide) (by decide) (by decide) (by decide) rfl (by decide) N9 g4 (g := (mkF m 28 #[.val (.ref o0), .val (.int (2 : Int32)), .val (.ref b2)] [(.int (1 : Int32)), (.int (0 : Int32)), (.ref b2), (.int (0 : Int32)), (.ref o0)])) rfl (by rw [hml]; rfl) rfl (hb hby d4_28) (by decide) (W := 0) (by show 2 * 0 + _ ≤ _; exact Nat.le_of_eq rfl) (by decide)
  have z11 : n0 ≤ h10.size := Nat.le_trans z5 K10.1
  have K12 : Keep h0 h10 ([] : List Addr) := K6.trans K10 (allS (Or.inr sz_b2) all0)
  have V10 : Arv Z h10 b2 k2 .int (2 : Int32) [(.int y0), (.int (0 : Int32))] (.int (0 : Int32)) := A10
  refine gob st10 ?_
  show Go _ _ _ _ _ _ _ (T10.setTop (mkF m 31 #[.val (.ref o0), .val (.int (2 : Int32)), .val (.ref b2)] []))
  refine gob (fun _ k => XS.aloadN X10.here hx rfl (hb hby d4_31) rfl rfl k) ?_
  show Go _ _ _ _ _ _ _ (T10.setTop (mkF m 32 #[.val (.ref o0), .val (.int (2 : Int32)), .val (.ref b2)] [(.ref b2)]))
  refine goA X10 hx hlk Bd.returns rfl rfl (hb hby d4_32) ?_ (by decide) (by decide)
  show Qcp_1_1_2 Z o0 k_a y0 h0 n0 (some (.ref b2)) T10.heap _
  have c13 := (B2.keep K10)
  rw [e10]
  exact ⟨b2, k2, rfl, N10, K12, sz_b2, c13, V10⟩
theorem ef_cp_3_3_6 (m : MethodId) (x0 : Addr) : entryFrame m #[(.ref x0), (.int (6 : Int32))] 3 = mkF m 0 #[.val (.ref x0), .val (.int (6 : Int32)), .unset] [] := by first | (simp [entryFrame, mkF, argsToLocals, Value.category]; done) | rfl
def Qcp_3_3_6 (Z : State) (o0 : Addr) (k_a : ClassId) (y0 : Int32) (y1 : Int32) (y2 : Int32) (h0 : Heap) (n0 : Nat) (v : Option Value) (h : Heap) (L : List Loc) : Prop := ∃ b2 : Addr, ∃ k2 : ClassId, v = some (.ref b2) ∧ Fr n0 L ∧ Keep h0 h ([] : List Addr) ∧ h0.size ≤ b2 ∧ Exa Z h b2 "[I" ∧ Arv Z h b2 k2 .int (6 : Int32) [(.int y0), (.int y1), (.int y2), (.int (0 : Int32)), (.int (0 : Int32)), (.int (0 : Int32))] (.int (0 : Int32))
set_option maxRecDepth 65536 in
set_option maxHeartbeats 40000000 in
theorem rmcp_3_3_6 (l : Launch) (Z : State) (a0 : Array Value) (hw : ∀ d ∈ tables_1, d.before a0 Z = true) (ws : List Jvm.Cond) (o0 : Addr) (k_a : ClassId) (y0 : Int32) (y1 : Int32) (y2 : Int32) (h0 : Heap) (n0 : Nat) (Z0 : n0 ≤ h0.size) (V_a : Arv Z h0 o0 k_a .int (3 : Int32) [(.int y0), (.int y1), (.int y2)] (.int (0 : Int32))) (E_a : Exa Z h0 o0 "[I") :
    MetFree l (⟨"java/util/Arrays", "copyOf", "([II)[I"⟩ : MethodName) (head1 (Jvm.Cond.code (⟨"java/util/Arrays", "copyOf", "([II)[I"⟩ : MethodName) jdk_65_method_123_code 3 (some (.array .int)) :: ws) ({ frames := 1, cells := 1, slots := 6, locals := 18 } : Room)) (fun a U => a = #[(.ref o0), (.int (6 : Int32))] ∧ Z.Warmed39 U.vm ∧ U.heap = h0) (fun _ _ _ _ _ => True) (fun _ U o U' => ∃ v L, o = .returned v ∧ Qcp_3_3_6 Z o0 k_a y0 y1 y2 h0 n0 v U'.heap L ∧ FrameEnd U o U' L ({ frames := 1, cells := 1, slots := 6, locals := 18 } : Room).cells ({ frames := 1, cells := 1, slots := 6, locals := 18 } : Room).slots) := by
  refine MetFree.of_bodySF (plainFor_of_name (by first | (simp [plainName, overriddenIn]; done) | decide +kernel)) hisR ?_
  intro p e s m args below meth c s₁ Bd hml0 hP hK
  obtain ⟨rfl, hZ, hh⟩ := hP
  have hx := Bd.exec
  have hby := Bd.bytes
  have hml : c.maxLocals = 3 := hml0
  have hown : s.vm.findClass "java/util/Arrays" = some m.cls := findClass_of_methodNamed Bd.named
  have hnm := (name_of_methodNamed Bd.named Bd.method).1
  have hlk := BodyLoose.notSynchronized Bd
  have X0 : Stand p l e ({ frames := 1, cells := 1, slots := 6, locals := 18 } : Room) s m #[(.ref o0), (.int (6 : Int32))] below meth c s₁ [] 0 0 := Stand.of_body Bd
  have e0 : s₁.heap = h0 := by rw [← hh, Bd.state]; rfl
  have N0 := Fr.nil n0
  show Go p e below s (Qcp_3_3_6 Z o0 k_a y0 y1 y2 h0 n0) 1 6 (s₁.setTop (entryFrame m #[(.ref o0), (.int (6 : Int32))] 3))
  rw [ef_cp_3_3_6]
  show Go _ _ _ _ _ _ _ (s₁.setTop (mkF m 0 #[.val (.ref o0), .val (.int (6 : Int32)), .unset] []))
  refine gob (fun _ k => XS.iloadN X0.here hx rfl (hb hby d4_0) rfl k) ?_
  show Go _ _ _ _ _ _ _ (s₁.setTop (mkF m 1 #[.val (.ref o0), .val (.int (6 : Int32)), .unset] [(.int (6 : Int32))]))
  refine gob (fun _ k => XS.aloadN X0.here hx rfl (hb hby d4_1) rfl rfl k) ?_
  show Go _ _ _ _ _ _ _ (s₁.setTop (mkF m 2 #[.val (.ref o0), .val (.int (6 : Int32)), .unset] [(.ref o0), (.int (6 : Int32))]))
  obtain ⟨cl1, Ar1, aq1, S1, N1, H1, G1⟩ := id V_a
  refine gob (X0.arraylength hx (by rw [e0]; exact Ar1.1) (State.isArrayOf_alike hZ.alike Ar1.2.1) (g := (mkF m 2 #[.val (.ref o0), .val (.int (6 : Int32)), .unset] [(.ref o0), (.int (6 : Int32))])) rfl rfl (hb hby d4_2)) ?_
  rw [len_of S1 N1]
  show Go _ _ _ _ _ _ _ (s₁.setTop (mkF m 3 #[.val (.ref o0), .val (.int (6 : Int32)), .unset] [(.int (3 : Int32)), (.int (6 : Int32))]))
  refine gob (fun _ k => XS.icmpYes X0.here hx rfl (pc0 := 3) (pc' := 14) rfl (hb hby d4_3) rfl (feq (by decide : ¬ ((6 : Int32) = (3 : Int32)))).2 (by decide) (by decide) k) ?_
  show Go _ _ _ _ _ _ _ (s₁.setTop (mkF m 14 #[.val (.ref o0), .val (.int (6 : Int32)), .unset] []))
  refine gob (fun _ k => XS.iloadN X0.here hx rfl (hb hby d4_14) rfl k) ?_
  show Go _ _ _ _ _ _ _ (s₁.setTop (mkF m 15 #[.val (.ref o0), .val (.int (6 : Int32)), .unset] [(.int (6 : Int32))]))
  obtain ⟨T2, h2, k2, X2, e2, E2, A2, B2, st2⟩ := newPE X0 hx hZ (hw _ (List.mem_of_getElem? (i := 11) rfl)) e0 (g := (mkF m 15 #[.val (.ref o0), .val (.int (6 : Int32)), .unset] [(.int (6 : Int32))])) rfl (hb hby d4_15) rfl (by decide) (cap := 6) (by decide) (by decide) (by decide) (by decide) (ad := "[I") (by decide)
  obtain ⟨b2, g2⟩ : ∃ z, z = h0.size := ⟨_, rfl⟩
  rw [← g2] at A2 B2 st2
  have n3 : o0 ≠ b2 := Nat.ne_of_lt (Nat.lt_of_lt_of_le V_a.lt (Nat.le_of_eq g2.symm))
  have g4 : n0 ≤ b2 := Nat.le_trans Z0 (Nat.le_of_eq g2.symm)
  have sz_b2 : h0.size ≤ b2 := Nat.le_trans (Keep.refl h0 []).1 (Nat.le_of_eq g2.symm)
  have z5 : n0 ≤ h2.size := Nat.le_trans Z0 E2.1
  have K6 : Keep h0 h2 ([] : List Addr) := (Keep.refl h0 ([] : List Addr)).ext E2
  have V2 : Arv Z h2 b2 k2 .int (6 : Int32) [(.int (0 : Int32)), (.int (0 : Int32)), (.int (0 : Int32)), (.int (0 : Int32)), (.int (0 : Int32)), (.int (0 : Int32))] (.int (0 : Int32)) := (Arv.new A2 (by decide)).pad (pad_rep [] (.int (0 : Int32)) 6)
  refine gob st2 ?_
  show Go _ _ _ _ _ _ _ (T2.setTop (mkF m 17 #[.val (.ref o0), .val (.int (6 : Int32)), .unset] [(.ref b2)]))
  refine gob (fun _ k => XS.astoreN X2.here hx rfl (hb hby d4_17) rfl rfl (l' := #[.val (.ref o0), .val (.int (6 : Int32)), .val (.ref b2)]) rfl k) ?_
  show Go _ _ _ _ _ _ _ (T2.setTop (mkF m 18 #[.val (.ref o0), .val (.int (6 : Int32)), .val (.ref b2)] []))
  refine gob (fun _ k => XS.aloadN X2.here hx rfl (hb hby d4_18) rfl rfl k) ?_
  show Go _ _ _ _ _ _ _ (T2.setTop (mkF m 19 #[.val (.ref o0), .val (.int (6 : Int32)), .val (.ref b2)] [(.ref o0)]))
  refine gob (fun _ k => XS.iconst X2.here hx rfl (hb hby d4_19) k) ?_
  show Go _ _ _ _ _ _ _ (T2.setTop (mkF m 20 #[.val (.ref o0), .val (.int (6 : Int32)), .val (.ref b2)] [(.int (0 : Int32)), (.ref o0)]))
  refine gob (fun _ k => XS.aloadN X2.here hx rfl (hb hby d4_20) rfl rfl k) ?_
  show Go _ _ _ _ _ _ _ (T2.setTop (mkF m 21 #[.val (.ref o0), .val (.int (6 : Int32)), .val (.ref b2)] [(.ref b2), (.int (0 : Int32)), (.ref o0)]))
  refine gob (fun _ k => XS.iconst X2.here hx rfl (hb hby d4_21) k) ?_
  show Go _ _ _ _ _ _ _ (T2.setTop (mkF m 22 #[.val (.ref o0), .val (.int (6 : Int32)), .val (.ref b2)] [(.int (0 : Int32)), (.ref b2), (.int (0 : Int32)), (.ref o0)]))
  refine gob (fun _ k => XS.aloadN X2.here hx rfl (hb hby d4_22) rfl rfl k) ?_
  show Go _ _ _ _ _ _ _ (T2.setTop (mkF m 23 #[.val (.ref o0), .val (.int (6 : Int32)), .val (.ref b2)] [(.ref o0), (.int (0 : Int32)), (.ref b2), (.int (0 : Int32)), (.ref o0)]))
  have c8 := (V_a.ext E2)
  obtain ⟨cl7, Ar7, aq7, S7, N7, H7, G7⟩ := id c8
  refine gob (X2.arraylength hx (by rw [e2]; exact Ar7.1) (State.isArrayOf_alike hZ.alike Ar7.2.1) (g := (mkF m 23 #[.val (.ref o0), .val (.int (6 : Int32)), .val (.ref b2)] [(.ref o0), (.int (0 : Int32)), (.ref b2), (.int (0 : Int32)), (.ref o0)])) rfl rfl (hb hby d4_23)) ?_
  rw [len_of S7 N7]
  show Go _ _ _ _ _ _ _ (T2.setTop (mkF m 24 #[.val (.ref o0), .val (.int (6 : Int32)), .val (.ref b2)] [(.int (3 : Int32)), (.int (0 : Int32)), (.ref b2), (.int (0 : Int32)), (.ref o0)]))
  refine gob (fun _ k => XS.iloadN X2.here hx rfl (hb hby d4_24) rfl k) ?_
  show Go _ _ _ _ _ _ _ (T2.setTop (mkF m 25 #[.val (.ref o0), .val (.int (6 : Int32)), .val (.ref b2)] [(.int (6 : Int32)), (.int (3 : Int32)), (.int (0 : Int32)), (.ref b2), (.int (0 : Int32)), (.ref o0)]))
  obtain ⟨_, _, ⟨T9, L9, k9, n9⟩, -, X9, ⟨Lc9, hQ9, l9, y9, z9⟩, st9⟩ := Jvm.LawKit.callS X2 hx (y := (⟨"java/lang/Math", "min", "(II)I"⟩ : MethodName)) hown (mvT hZ (hw _ (List.mem_of_getElem? (i := 27) rfl))) (mvT hZ (hw _ (List.mem_of_getElem? (i := 28) rfl))) (mvT hZ (hw _ (List.mem_of_getElem? (i := 29) rfl))) (mvT hZ (hw _ (List.mem_of_getElem? (i := 30) rfl))) (by decide) (backOf (W := 4) (rmmin_3_6 l Z a0 hw []  h2 n0 z5 ) hZ (hw _ (List.mem_of_getElem? (i := 30) rfl)) (hw _ (List.mem_of_getElem? (i := 29) rfl)) (by decide) (by decide)) (g := (mkF m 25 #[.val (.ref o0), .val (.int (6 : Int32)), .val (.ref b2)] [(.int (6 : Int32)), (.int (3 : Int32)), (.int (0 : Int32)), (.ref b2), (.int (0 : Int32)), (.ref o0)])) rfl (by rw [hml]; rfl) (argsL := [(.int (3 : Int32)), (.int (6 : Int32))]) (rest := [(.int (0 : Int32)), (.ref b2), (.int (0 : Int32)), (.ref o0)]) (lenOf pd_0 rfl) rfl (by show 2 * 0 + _ ≤ _; exact Nat.le_of_eq rfl) (hb hby d4_25) (fun _ _ => ⟨rfl, e2, (by decide : 1 + 0 ≤ _), (by decide : 6 + 0 ≤ _)⟩)
  dsimp only [Pt.U, Pt.locs, Pt.cells, Pt.slots] at X9 l9 y9 z9 st9 hQ9
  subst l9 y9 z9
  obtain ⟨rfl, Nq9, e9⟩ := hQ9
  have N9 := Fr.app N0 Nq9
  refine gob st9 ?_
  show Go _ _ _ _ _ _ _ (T9.setTop (mkF m 28 #[.val (.ref o0), .val (.int (6 : Int32)), .val (.ref b2)] [(.int (3 : Int32)), (.int (0 : Int32)), (.ref b2), (.int (0 : Int32)), (.ref o0)]))
  obtain ⟨T10, h10, L10, X10, e10, N10, K10, A10, st10⟩ := cpA X9 hx hZ hown (hw _ (List.mem_of_getElem? (i := 31) rfl)) (hw _ (List.mem_of_getElem? (i := 34) rfl)) (hw _ (List.mem_of_getElem? (i := 32) rfl)) (hw _ (List.mem_of_getElem? (i := 33) rfl)) e9 c8 V2 (Or.inl ⟨rfl, rfl⟩) (sp := (0 : Int32)) (dp := (0 : Int32)) (nn := (3 : Int32)) (us := [(.int y0), (.int y1), (.int y2)]) (by decide) (by decide) (by decide) (by decide) (by decide) rfl (by decide) N9 g4 (g := (mkF m 28 #[.val (.ref o0), .val (.int (6 : Int32)), .val (.ref b2)] [(.int (3 : Int32)), (.int (0 : Int32)), (.ref b2), (.int (0 : Int32)), (.ref o0)])) rfl (by rw [hml]; rfl) rfl (hb hby d4_28) (by decide) (W := 0) (by show 2 * 0 + _ ≤ _; exact Nat.le_of_eq rfl) (by decide)
  have z11 : n0 ≤ h10.size := Nat.le_trans z5 K10.1
  have K12 : Keep h0 h10 ([] : List Addr) := K6.trans K10 (allS (Or.inr sz_b2) all0)
  have V10 : Arv Z h10 b2 k2 .int (6 : Int32) [(.int y0), (.int y1), (.int y2), (.int (0 : Int32)), (.int (0 : Int32)), (.int (0 : Int32))] (.int (0 : Int32)) := A10
  refine gob st10 ?_
  show Go _ _ _ _ _ _ _ (T10.setTop (mkF m 31 #[.val (.ref o0), .val (.int (6 : Int32)), .val (.ref b2)] []))
  refine gob (fun _ k => XS.aloadN X10.here hx rfl (hb hby d4_31) rfl rfl k) ?_
  show Go _ _ _ _ _ _ _ (T10.setTop (mkF m 32 #[.val (.ref o0), .val (.int (6 : Int32)), .val (.ref b2)] [(.ref b2)]))
  refine goA X10 hx hlk Bd.returns rfl rfl (hb hby d4_32) ?_ (by decide) (by decide)
  show Qcp_3_3_6 Z o0 k_a y0 y1 y2 h0 n0 (some (.ref b2)) T10.heap _
  have c13 := (B2.keep K10)
  rw [e10]
  exact ⟨b2, k2, rfl, N10, K12, sz_b2, c13, V10⟩
theorem d8_0 : decode prog_26_method_2_code 0 = .ok (.aload_n 0, 1) := by decide +kernel
theorem d8_1 : decode prog_26_method_2_code 1 = .ok (.getfield 16, 3) := by decide +kernel
theorem d8_4 : decode prog_26_method_2_code 4 = .ok (.aload_n 0, 1) := by decide +kernel
theorem d8_5 : decode prog_26_method_2_code 5 = .ok (.getfield 7, 3) := by decide +kernel
theorem d8_8 : decode prog_26_method_2_code 8 = .ok (.arraylength, 1) := by decide +kernel
theorem d8_9 : decode prog_26_method_2_code 9 = .ok (.if_icmp .ne 37, 3) := by decide +kernel
theorem d8_12 : decode prog_26_method_2_code 12 = .ok (.aload_n 0, 1) := by decide +kernel
theorem d8_13 : decode prog_26_method_2_code 13 = .ok (.aload_n 0, 1) := by decide +kernel
theorem d8_14 : decode prog_26_method_2_code 14 = .ok (.getfield 7, 3) := by decide +kernel
theorem d8_17 : decode prog_26_method_2_code 17 = .ok (.aload_n 0, 1) := by decide +kernel
theorem d8_18 : decode prog_26_method_2_code 18 = .ok (.getfield 16, 3) := by decide +kernel
theorem d8_21 : decode prog_26_method_2_code 21 = .ok (.iconst 2, 1) := by decide +kernel
theorem d8_22 : decode prog_26_method_2_code 22 = .ok (.imul, 1) := by decide +kernel
theorem d8_23 : decode prog_26_method_2_code 23 = .ok (.invokestatic 20, 3) := by decide +kernel
theorem d8_26 : decode prog_26_method_2_code 26 = .ok (.putfield 7, 3) := by decide +kernel
theorem d8_29 : decode prog_26_method_2_code 29 = .ok (.aload_n 0, 1) := by decide +kernel
theorem d8_30 : decode prog_26_method_2_code 30 = .ok (.aload_n 0, 1) := by decide +kernel
theorem d8_31 : decode prog_26_method_2_code 31 = .ok (.getfield 13, 3) := by decide +kernel
theorem d8_34 : decode prog_26_method_2_code 34 = .ok (.aload_n 0, 1) := by decide +kernel
theorem d8_35 : decode prog_26_method_2_code 35 = .ok (.getfield 16, 3) := by decide +kernel
theorem d8_38 : decode prog_26_method_2_code 38 = .ok (.iconst 2, 1) := by decide +kernel
theorem d8_39 : decode prog_26_method_2_code 39 = .ok (.imul, 1) := by decide +kernel
theorem d8_40 : decode prog_26_method_2_code 40 = .ok (.invokestatic 20, 3) := by decide +kernel
theorem d8_43 : decode prog_26_method_2_code 43 = .ok (.putfield 13, 3) := by decide +kernel
theorem d8_46 : decode prog_26_method_2_code 46 = .ok (.aload_n 0, 1) := by decide +kernel
theorem d8_47 : decode prog_26_method_2_code 47 = .ok (.getfield 7, 3) := by decide +kernel
theorem d8_50 : decode prog_26_method_2_code 50 = .ok (.aload_n 0, 1) := by decide +kernel
theorem d8_51 : decode prog_26_method_2_code 51 = .ok (.getfield 16, 3) := by decide +kernel
theorem d8_54 : decode prog_26_method_2_code 54 = .ok (.iload_n 1, 1) := by decide +kernel
theorem d8_55 : decode prog_26_method_2_code 55 = .ok (.iastore, 1) := by decide +kernel
theorem d8_56 : decode prog_26_method_2_code 56 = .ok (.aload_n 0, 1) := by decide +kernel
theorem d8_57 : decode prog_26_method_2_code 57 = .ok (.getfield 13, 3) := by decide +kernel
theorem d8_60 : decode prog_26_method_2_code 60 = .ok (.aload_n 0, 1) := by decide +kernel
theorem d8_61 : decode prog_26_method_2_code 61 = .ok (.getfield 16, 3) := by decide +kernel
theorem d8_64 : decode prog_26_method_2_code 64 = .ok (.iload_n 2, 1) := by decide +kernel
theorem d8_65 : decode prog_26_method_2_code 65 = .ok (.iastore, 1) := by decide +kernel
theorem d8_66 : decode prog_26_method_2_code 66 = .ok (.aload_n 0, 1) := by decide +kernel
theorem d8_67 : decode prog_26_method_2_code 67 = .ok (.dup, 1) := by decide +kernel
theorem d8_68 : decode prog_26_method_2_code 68 = .ok (.getfield 16, 3) := by decide +kernel
theorem d8_71 : decode prog_26_method_2_code 71 = .ok (.iconst 1, 1) := by decide +kernel
theorem d8_72 : decode prog_26_method_2_code 72 = .ok (.iadd, 1) := by decide +kernel
theorem d8_73 : decode prog_26_method_2_code 73 = .ok (.putfield 16, 3) := by decide +kernel
theorem d8_76 : decode prog_26_method_2_code 76 = .ok (.aload_n 0, 1) := by decide +kernel
theorem d8_77 : decode prog_26_method_2_code 77 = .ok (.dup, 1) := by decide +kernel
theorem d8_78 : decode prog_26_method_2_code 78 = .ok (.getfield 26, 3) := by decide +kernel
theorem d8_81 : decode prog_26_method_2_code 81 = .ok (.iload_n 2, 1) := by decide +kernel
theorem d8_82 : decode prog_26_method_2_code 82 = .ok (.i2l, 1) := by decide +kernel
theorem d8_83 : decode prog_26_method_2_code 83 = .ok (.ladd, 1) := by decide +kernel
theorem d8_84 : decode prog_26_method_2_code 84 = .ok (.putfield 26, 3) := by decide +kernel
theorem d8_87 : decode prog_26_method_2_code 87 = .ok (.return_, 1) := by decide +kernel
theorem ef_add_2_0 (m : MethodId) (x0 : Addr) (x1 : Int32) (x2 : Int32) : entryFrame m #[(.ref x0), (.int x1), (.int x2)] 3 = mkF m 0 #[.val (.ref x0), .val (.int x1), .val (.int x2)] [] := by first | (simp [entryFrame, mkF, argsToLocals, Value.category]; done) | rfl
def Qadd_2_0 (Z : State) (o0 : Addr) (p1 : Int32) (p2 : Int32) (w_d : Addr) (k_d : ClassId) (w_f : Addr) (k_f : ClassId) (q_c : Int64) (h0 : Heap) (n0 : Nat) (v : Option Value) (h : Heap) (L : List Loc) : Prop := v = none ∧ Fr n0 L ∧ Keep h0 h ([w_d, w_f, o0] : List Addr) ∧ Fld Z h o0 "com/example/robust_broker/robustbroker/Postings" "documents" "[I" (.ref w_d) ∧ Arv Z h w_d k_d .int (2 : Int32) [(.int p1), (.int (0 : Int32))] (.int (0 : Int32)) ∧ Fld Z h o0 "com/example/robust_broker/robustbroker/Postings" "frequencies" "[I" (.ref w_f) ∧ Arv Z h w_f k_f .int (2 : Int32) [(.int p2), (.int (0 : Int32))] (.int (0 : Int32)) ∧ Fld Z h o0 "com/example/robust_broker/robustbroker/Postings" "size" "I" (.int (1 : Int32)) ∧ Fld Z h o0 "com/example/robust_broker/robustbroker/Postings" "collectionFrequency" "J" (.long (q_c + (p2.toInt64)))
set_option maxRecDepth 65536 in
set_option maxHeartbeats 40000000 in
theorem rmadd_2_0 (l : Launch) (Z : State) (a0 : Array Value) (hw : ∀ d ∈ tables_1, d.before a0 Z = true) (ws : List Jvm.Cond) (o0 : Addr) (p1 : Int32) (p2 : Int32) (w_d : Addr) (k_d : ClassId) (w_f : Addr) (k_f : ClassId) (q_c : Int64) (h0 : Heap) (n0 : Nat) (Z0 : n0 ≤ h0.size) (F_documents : Fld Z h0 o0 "com/example/robust_broker/robustbroker/Postings" "documents" "[I" (.ref w_d)) (V_d : Arv Z h0 w_d k_d .int (2 : Int32) [(.int (0 : Int32)), (.int (0 : Int32))] (.int (0 : Int32))) (E_d : Exa Z h0 w_d "[I") (F_frequencies : Fld Z h0 o0 "com/example/robust_broker/robustbroker/Postings" "frequencies" "[I" (.ref w_f)) (V_f : Arv Z h0 w_f k_f .int (2 : Int32) [(.int (0 : Int32)), (.int (0 : Int32))] (.int (0 : Int32))) (E_f : Exa Z h0 w_f "[I") (F_size : Fld Z h0 o0 "com/example/robust_broker/robustbroker/Postings" "size" "I" (.int (0 : Int32))) (F_collectionFrequency : Fld Z h0 o0 "com/example/robust_broker/robustbroker/Postings" "collectionFrequency" "J" (.long q_c)) (ne_o0_w_d : o0 ≠ w_d) (ne_o0_w_f : o0 ≠ w_f) (ne_w_d_w_f : w_d ≠ w_f) (g_w_d : n0 ≤ w_d) (g_w_f : n0 ≤ w_f) (E_o0 : Exa Z h0 o0 "com/example/robust_broker/robustbroker/Postings") (g_o0 : n0 ≤ o0) :
    MetFree l (⟨"com/example/robust_broker/robustbroker/Postings", "add", "(II)V"⟩ : MethodName) (head1 (Jvm.Cond.code (⟨"com/example/robust_broker/robustbroker/Postings", "add", "(II)V"⟩ : MethodName) prog_26_method_2_code 3 none :: ws) ({ frames := 0, cells := 0, slots := 0, locals := 0 } : Room)) (fun a U => a = #[(.ref o0), (.int p1), (.int p2)] ∧ Z.Warmed39 U.vm ∧ U.heap = h0) (fun _ _ _ _ _ => True) (fun _ U o U' => ∃ v L, o = .returned v ∧ Qadd_2_0 Z o0 p1 p2 w_d k_d w_f k_f q_c h0 n0 v U'.heap L ∧ FrameEnd U o U' L ({ frames := 0, cells := 0, slots := 0, locals := 0 } : Room).cells ({ frames := 0, cells := 0, slots := 0, locals := 0 } : Room).slots) := by
  refine MetFree.of_bodySF (plainFor_of_name (by first | (simp [plainName, overriddenIn]; done) | decide +kernel)) hisR ?_
  intro p e s m args below meth c s₁ Bd hml0 hP hK
  obtain ⟨rfl, hZ, hh⟩ := hP
  have hx := Bd.exec
  have hby := Bd.bytes
  have hml : c.maxLocals = 3 := hml0
  have hown : s.vm.findClass "com/example/robust_broker/robustbroker/Postings" = some m.cls := findClass_of_methodNamed Bd.named
  have hnm := (name_of_methodNamed Bd.named Bd.method).1
  have hlk := BodyLoose.notSynchronized Bd
  have X0 : Stand p l e ({ frames := 0, cells := 0, slots := 0, locals := 0 } : Room) s m #[(.ref o0), (.int p1), (.int p2)] below meth c s₁ [] 0 0 := Stand.of_body Bd
  have e0 : s₁.heap = h0 := by rw [← hh, Bd.state]; rfl
  have N0 := Fr.nil n0
  show Go p e below s (Qadd_2_0 Z o0 p1 p2 w_d k_d w_f k_f q_c h0 n0) 0 0 (s₁.setTop (entryFrame m #[(.ref o0), (.int p1), (.int p2)] 3))
  rw [ef_add_2_0]
  show Go _ _ _ _ _ _ _ (s₁.setTop (mkF m 0 #[.val (.ref o0), .val (.int p1), .val (.int p2)] []))
  refine gob (fun _ k => XS.aloadN X0.here hx rfl (hb hby d8_0) rfl rfl k) ?_
  show Go _ _ _ _ _ _ _ (s₁.setTop (mkF m 1 #[.val (.ref o0), .val (.int p1), .val (.int p2)] [(.ref o0)]))
  obtain ⟨T1, X1, e1, st1⟩ := getF X0 hx hZ hown (host := "") (Or.inl (hw _ (List.mem_of_getElem? (i := 21) rfl))) Via.refl e0 F_size (g := (mkF m 1 #[.val (.ref o0), .val (.int p1), .val (.int p2)] [(.ref o0)])) rfl rfl (hb hby d8_1)
  refine gob st1 ?_
  show Go _ _ _ _ _ _ _ (T1.setTop (mkF m 4 #[.val (.ref o0), .val (.int p1), .val (.int p2)] [(.int (0 : Int32))]))
  refine gob (fun _ k => XS.aloadN X1.here hx rfl (hb hby d8_4) rfl rfl k) ?_
  show Go _ _ _ _ _ _ _ (T1.setTop (mkF m 5 #[.val (.ref o0), .val (.int p1), .val (.int p2)] [(.ref o0), (.int (0 : Int32))]))
  obtain ⟨T2, X2, e2, st2⟩ := getF X1 hx hZ hown (host := "") (Or.inl (hw _ (List.mem_of_getElem? (i := 12) rfl))) Via.refl e1 F_documents (g := (mkF m 5 #[.val (.ref o0), .val (.int p1), .val (.int p2)] [(.ref o0), (.int (0 : Int32))])) rfl rfl (hb hby d8_5)
  refine gob st2 ?_
  show Go _ _ _ _ _ _ _ (T2.setTop (mkF m 8 #[.val (.ref o0), .val (.int p1), .val (.int p2)] [(.ref w_d), (.int (0 : Int32))]))
  obtain ⟨cl3, Ar3, aq3, S3, N3, H3, G3⟩ := id V_d
  refine gob (X2.arraylength hx (by rw [e2]; exact Ar3.1) (State.isArrayOf_alike hZ.alike Ar3.2.1) (g := (mkF m 8 #[.val (.ref o0), .val (.int p1), .val (.int p2)] [(.ref w_d), (.int (0 : Int32))])) rfl rfl (hb hby d8_8)) ?_
  rw [len_of S3 N3]
  show Go _ _ _ _ _ _ _ (T2.setTop (mkF m 9 #[.val (.ref o0), .val (.int p1), .val (.int p2)] [(.int (2 : Int32)), (.int (0 : Int32))]))
  refine gob (fun _ k => XS.icmpYes X2.here hx rfl (pc0 := 9) (pc' := 46) rfl (hb hby d8_9) rfl (feq (by decide : ¬ ((0 : Int32) = (2 : Int32)))).2 (by decide) (by decide) k) ?_
  show Go _ _ _ _ _ _ _ (T2.setTop (mkF m 46 #[.val (.ref o0), .val (.int p1), .val (.int p2)] []))
  refine gob (fun _ k => XS.aloadN X2.here hx rfl (hb hby d8_46) rfl rfl k) ?_
  show Go _ _ _ _ _ _ _ (T2.setTop (mkF m 47 #[.val (.ref o0), .val (.int p1), .val (.int p2)] [(.ref o0)]))
  obtain ⟨T4, X4, e4, st4⟩ := getF X2 hx hZ hown (host := "") (Or.inl (hw _ (List.mem_of_getElem? (i := 12) rfl))) Via.refl e2 F_documents (g := (mkF m 47 #[.val (.ref o0), .val (.int p1), .val (.int p2)] [(.ref o0)])) rfl rfl (hb hby d8_47)
  refine gob st4 ?_
  show Go _ _ _ _ _ _ _ (T4.setTop (mkF m 50 #[.val (.ref o0), .val (.int p1), .val (.int p2)] [(.ref w_d)]))
  refine gob (fun _ k => XS.aloadN X4.here hx rfl (hb hby d8_50) rfl rfl k) ?_
  show Go _ _ _ _ _ _ _ (T4.setTop (mkF m 51 #[.val (.ref o0), .val (.int p1), .val (.int p2)] [(.ref o0), (.ref w_d)]))
  obtain ⟨T5, X5, e5, st5⟩ := getF X4 hx hZ hown (host := "") (Or.inl (hw _ (List.mem_of_getElem? (i := 21) rfl))) Via.refl e4 F_size (g := (mkF m 51 #[.val (.ref o0), .val (.int p1), .val (.int p2)] [(.ref o0), (.ref w_d)])) rfl rfl (hb hby d8_51)
  refine gob st5 ?_
  show Go _ _ _ _ _ _ _ (T5.setTop (mkF m 54 #[.val (.ref o0), .val (.int p1), .val (.int p2)] [(.int (0 : Int32)), (.ref w_d)]))
  refine gob (fun _ k => XS.iloadN X5.here hx rfl (hb hby d8_54) rfl k) ?_
  show Go _ _ _ _ _ _ _ (T5.setTop (mkF m 55 #[.val (.ref o0), .val (.int p1), .val (.int p2)] [(.int p1), (.int (0 : Int32)), (.ref w_d)]))
  obtain ⟨cl6, Ar6, aq6, S6, N6, H6, G6⟩ := id V_d
  have hin6 : ¬ ((0 : Int32) < 0 ∨ cl6.slots.size ≤ ((0 : Int32)).toNatClampNeg) := inb_of S6 ⟨by decide, by decide⟩
  obtain ⟨T7, h7, X7, e7, W7, st7⟩ := stI X5 hx hZ e5 Ar6 (j := (0 : Int32)) hin6 (g := (mkF m 55 #[.val (.ref o0), .val (.int p1), .val (.int p2)] [(.int p1), (.int (0 : Int32)), (.ref w_d)])) rfl rfl (hb hby d8_55)
  refine gob st7 ?_
  have z8 : n0 ≤ h7.size := Nat.le_trans Z0 (Keep.of_wr W7).1
  have N7 := Fr.snoc X7 N0 g_w_d
  have K9 : Keep h0 h7 ([w_d, w_f, o0] : List Addr) := (Keep.refl h0 ([w_d, w_f, o0] : List Addr)).wr W7 (Or.inl (List.mem_of_getElem? (i := 0) rfl))
  have V7 : Arv Z h7 w_d k_d .int (2 : Int32) [(.int p1), (.int (0 : Int32))] (.int (0 : Int32)) := Arv.set Ar6 aq6 S6 N6 H6 G6 rfl W7 0 rfl (Nat.le_of_ble_eq_true rfl)
  show Go _ _ _ _ _ _ _ (T7.setTop (mkF m 56 #[.val (.ref o0), .val (.int p1), .val (.int p2)] []))
  refine gob (fun _ k => XS.aloadN X7.here hx rfl (hb hby d8_56) rfl rfl k) ?_
  show Go _ _ _ _ _ _ _ (T7.setTop (mkF m 57 #[.val (.ref o0), .val (.int p1), .val (.int p2)] [(.ref o0)]))
  have c10 := (F_frequencies.other W7 (Or.inl ne_o0_w_d))
  obtain ⟨T11, X11, e11, st11⟩ := getF X7 hx hZ hown (host := "") (Or.inl (hw _ (List.mem_of_getElem? (i := 14) rfl))) Via.refl e7 c10 (g := (mkF m 57 #[.val (.ref o0), .val (.int p1), .val (.int p2)] [(.ref o0)])) rfl rfl (hb hby d8_57)
  refine gob st11 ?_
  show Go _ _ _ _ _ _ _ (T11.setTop (mkF m 60 #[.val (.ref o0), .val (.int p1), .val (.int p2)] [(.ref w_f)]))
  refine gob (fun _ k => XS.aloadN X11.here hx rfl (hb hby d8_60) rfl rfl k) ?_
  show Go _ _ _ _ _ _ _ (T11.setTop (mkF m 61 #[.val (.ref o0), .val (.int p1), .val (.int p2)] [(.ref o0), (.ref w_f)]))
  have c12 := (F_size.other W7 (Or.inl ne_o0_w_d))
  obtain ⟨T13, X13, e13, st13⟩ := getF X11 hx hZ hown (host := "") (Or.inl (hw _ (List.mem_of_getElem? (i := 21) rfl))) Via.refl e11 c12 (g := (mkF m 61 #[.val (.ref o0), .val (.int p1), .val (.int p2)] [(.ref o0), (.ref w_f)])) rfl rfl (hb hby d8_61)
  refine gob st13 ?_
  show Go _ _ _ _ _ _ _ (T13.setTop (mkF m 64 #[.val (.ref o0), .val (.int p1), .val (.int p2)] [(.int (0 : Int32)), (.ref w_f)]))
  refine gob (fun _ k => XS.iloadN X13.here hx rfl (hb hby d8_64) rfl k) ?_
  show Go _ _ _ _ _ _ _ (T13.setTop (mkF m 65 #[.val (.ref o0), .val (.int p1), .val (.int p2)] [(.int p2), (.int (0 : Int32)), (.ref w_f)]))
  have c15 := (V_f.other W7 (Ne.symm ne_w_d_w_f))
  obtain ⟨cl14, Ar14, aq14, S14, N14, H14, G14⟩ := id c15
  have hin14 : ¬ ((0 : Int32) < 0 ∨ cl14.slots.size ≤ ((0 : Int32)).toNatClampNeg) := inb_of S14 ⟨by decide, by decide⟩
  obtain ⟨T16, h16, X16, e16, W16, st16⟩ := stI X13 hx hZ e13 Ar14 (j := (0 : Int32)) hin14 (g := (mkF m 65 #[.val (.ref o0), .val (.int p1), .val (.int p2)] [(.int p2), (.int (0 : Int32)), (.ref w_f)])) rfl rfl (hb hby d8_65)
  refine gob st16 ?_
  have z17 : n0 ≤ h16.size := Nat.le_trans z8 (Keep.of_wr W16).1
  have N16 := Fr.snoc X16 N7 g_w_f
  have K18 : Keep h0 h16 ([w_d, w_f, o0] : List Addr) := K9.wr W16 (Or.inl (List.mem_of_getElem? (i := 1) rfl))
  have V16 : Arv Z h16 w_f k_f .int (2 : Int32) [(.int p2), (.int (0 : Int32))] (.int (0 : Int32)) := Arv.set Ar14 aq14 S14 N14 H14 G14 rfl W16 0 rfl (Nat.le_of_ble_eq_true rfl)
  show Go _ _ _ _ _ _ _ (T16.setTop (mkF m 66 #[.val (.ref o0), .val (.int p1), .val (.int p2)] []))
  refine gob (fun _ k => XS.aloadN X16.here hx rfl (hb hby d8_66) rfl rfl k) ?_
  show Go _ _ _ _ _ _ _ (T16.setTop (mkF m 67 #[.val (.ref o0), .val (.int p1), .val (.int p2)] [(.ref o0)]))
  refine gob (fun _ k => XS.dup X16.here hx rfl (hb hby d8_67) rfl rfl k) ?_
  show Go _ _ _ _ _ _ _ (T16.setTop (mkF m 68 #[.val (.ref o0), .val (.int p1), .val (.int p2)] [(.ref o0), (.ref o0)]))
  have c19 := (c12.other W16 (Or.inl ne_o0_w_f))
  obtain ⟨T20, X20, e20, st20⟩ := getF X16 hx hZ hown (host := "") (Or.inl (hw _ (List.mem_of_getElem? (i := 21) rfl))) Via.refl e16 c19 (g := (mkF m 68 #[.val (.ref o0), .val (.int p1), .val (.int p2)] [(.ref o0), (.ref o0)])) rfl rfl (hb hby d8_68)
  refine gob st20 ?_
  show Go _ _ _ _ _ _ _ (T20.setTop (mkF m 71 #[.val (.ref o0), .val (.int p1), .val (.int p2)] [(.int (0 : Int32)), (.ref o0)]))
  refine gob (fun _ k => XS.iconst X20.here hx rfl (hb hby d8_71) k) ?_
  show Go _ _ _ _ _ _ _ (T20.setTop (mkF m 72 #[.val (.ref o0), .val (.int p1), .val (.int p2)] [(.int (1 : Int32)), (.int (0 : Int32)), (.ref o0)]))
  refine gob (fun _ k => XS.iadd X20.here hx rfl (hb hby d8_72) rfl k) ?_
  show Go _ _ _ _ _ _ _ (T20.setTop (mkF m 73 #[.val (.ref o0), .val (.int p1), .val (.int p2)] [(.int (1 : Int32)), (.ref o0)]))
  have c21 := ((E_o0.wr W7).wr W16)
  obtain ⟨T22, h22, X22, e22, W22, st22⟩ := putF X20 hx hZ hown (host := "") (Or.inl (hw _ (List.mem_of_getElem? (i := 21) rfl))) Via.refl e20 c19 c21 (Or.inl (hw _ (List.mem_of_getElem? (i := 22) rfl))) (hw _ (List.mem_of_getElem? (i := 3) rfl)) (ty := .int) (by decide) rfl rfl (g := (mkF m 73 #[.val (.ref o0), .val (.int p1), .val (.int p2)] [(.int (1 : Int32)), (.ref o0)])) rfl rfl (hb hby d8_73)
  refine gob st22 ?_
  have z23 : n0 ≤ h22.size := Nat.le_trans z17 (Keep.of_wr W22).1
  have N22 := Fr.snoc X22 N16 g_o0
  have K24 : Keep h0 h22 ([w_d, w_f, o0] : List Addr) := K18.wr W22 (Or.inl (List.mem_of_getElem? (i := 2) rfl))
  have Fw22 := c19.same W22
  show Go _ _ _ _ _ _ _ (T22.setTop (mkF m 76 #[.val (.ref o0), .val (.int p1), .val (.int p2)] []))
  refine gob (fun _ k => XS.aloadN X22.here hx rfl (hb hby d8_76) rfl rfl k) ?_
  show Go _ _ _ _ _ _ _ (T22.setTop (mkF m 77 #[.val (.ref o0), .val (.int p1), .val (.int p2)] [(.ref o0)]))
  refine gob (fun _ k => XS.dup X22.here hx rfl (hb hby d8_77) rfl rfl k) ?_
  show Go _ _ _ _ _ _ _ (T22.setTop (mkF m 78 #[.val (.ref o0), .val (.int p1), .val (.int p2)] [(.ref o0), (.ref o0)]))
  have c25 := (((F_collectionFrequency.other W7 (Or.inl ne_o0_w_d)).other W16 (Or.inl ne_o0_w_f)).other W22 (Or.inr (slot_ne (Or.inl (hw _ (List.mem_of_getElem? (i := 46) rfl))) (Or.inl (hw _ (List.mem_of_getElem? (i := 22) rfl))) (by decide) (t := .long) (t' := .int) (by decide) (by decide))))
  obtain ⟨T26, X26, e26, st26⟩ := getF X22 hx hZ hown (host := "") (Or.inl (hw _ (List.mem_of_getElem? (i := 45) rfl))) Via.refl e22 c25 (g := (mkF m 78 #[.val (.ref o0), .val (.int p1), .val (.int p2)] [(.ref o0), (.ref o0)])) rfl rfl (hb hby d8_78)
  refine gob st26 ?_
  show Go _ _ _ _ _ _ _ (T26.setTop (mkF m 81 #[.val (.ref o0), .val (.int p1), .val (.int p2)] [(.long q_c), (.ref o0)]))
  refine gob (fun _ k => XS.iloadN X26.here hx rfl (hb hby d8_81) rfl k) ?_
  show Go _ _ _ _ _ _ _ (T26.setTop (mkF m 82 #[.val (.ref o0), .val (.int p1), .val (.int p2)] [(.int p2), (.long q_c), (.ref o0)]))
  refine gob (fun _ k => XS.i2l X26.here hx rfl (hb hby d8_82) rfl k) ?_
  show Go _ _ _ _ _ _ _ (T26.setTop (mkF m 83 #[.val (.ref o0), .val (.int p1), .val (.int p2)] [(.long (p2.toInt64)), (.long q_c), (.ref o0)]))
  refine gob (fun _ k => XS.ladd X26.here hx rfl (hb hby d8_83) rfl k) ?_
  show Go _ _ _ _ _ _ _ (T26.setTop (mkF m 84 #[.val (.ref o0), .val (.int p1), .val (.int p2)] [(.long (q_c + (p2.toInt64))), (.ref o0)]))
  have c27 := (c21.wr W22)
  obtain ⟨T28, h28, X28, e28, W28, st28⟩ := putF X26 hx hZ hown (host := "") (Or.inl (hw _ (List.mem_of_getElem? (i := 45) rfl))) Via.refl e26 c25 c27 (Or.inl (hw _ (List.mem_of_getElem? (i := 46) rfl))) (hw _ (List.mem_of_getElem? (i := 3) rfl)) (ty := .long) (by decide) rfl rfl (g := (mkF m 84 #[.val (.ref o0), .val (.int p1), .val (.int p2)] [(.long (q_c + (p2.toInt64))), (.ref o0)])) rfl rfl (hb hby d8_84)
  refine gob st28 ?_
  have z29 : n0 ≤ h28.size := Nat.le_trans z23 (Keep.of_wr W28).1
  have N28 := Fr.snoc X28 N22 g_o0
  have K30 : Keep h0 h28 ([w_d, w_f, o0] : List Addr) := K24.wr W28 (Or.inl (List.mem_of_getElem? (i := 2) rfl))
  have Fw28 := c25.same W28
  show Go _ _ _ _ _ _ _ (T28.setTop (mkF m 87 #[.val (.ref o0), .val (.int p1), .val (.int p2)] []))
  refine goV X28 hx hlk Bd.returns (hb hby d8_87) ?_ (by decide) (by decide)
  show Qadd_2_0 Z o0 p1 p2 w_d k_d w_f k_f q_c h0 n0 (none) T28.heap _
  have c31 := ((((F_documents.other W7 (Or.inl ne_o0_w_d)).other W16 (Or.inl ne_o0_w_f)).other W22 (Or.inr (slot_ne (Or.inl (hw _ (List.mem_of_getElem? (i := 13) rfl))) (Or.inl (hw _ (List.mem_of_getElem? (i := 22) rfl))) (by decide) (t := (.array .int)) (t' := .int) (by decide) (by decide)))).other W28 (Or.inr (slot_ne (Or.inl (hw _ (List.mem_of_getElem? (i := 13) rfl))) (Or.inl (hw _ (List.mem_of_getElem? (i := 46) rfl))) (by decide) (t := (.array .int)) (t' := .long) (by decide) (by decide))))
  have c32 := (((V7.other W16 ne_w_d_w_f).other W22 (Ne.symm ne_o0_w_d)).other W28 (Ne.symm ne_o0_w_d))
  have c33 := (((c10.other W16 (Or.inl ne_o0_w_f)).other W22 (Or.inr (slot_ne (Or.inl (hw _ (List.mem_of_getElem? (i := 15) rfl))) (Or.inl (hw _ (List.mem_of_getElem? (i := 22) rfl))) (by decide) (t := (.array .int)) (t' := .int) (by decide) (by decide)))).other W28 (Or.inr (slot_ne (Or.inl (hw _ (List.mem_of_getElem? (i := 15) rfl))) (Or.inl (hw _ (List.mem_of_getElem? (i := 46) rfl))) (by decide) (t := (.array .int)) (t' := .long) (by decide) (by decide))))
  have c34 := ((V16.other W22 (Ne.symm ne_o0_w_f)).other W28 (Ne.symm ne_o0_w_f))
  have c35 := (Fw22.other W28 (Or.inr (slot_ne (Or.inl (hw _ (List.mem_of_getElem? (i := 22) rfl))) (Or.inl (hw _ (List.mem_of_getElem? (i := 46) rfl))) (by decide) (t := .int) (t' := .long) (by decide) (by decide))))
  rw [e28]
  exact ⟨rfl, N28, K30, c31, c32, c33, c34, c35, Fw28⟩
theorem ef_add_2_1 (m : MethodId) (x0 : Addr) (x1 : Int32) (x2 : Int32) : entryFrame m #[(.ref x0), (.int x1), (.int x2)] 3 = mkF m 0 #[.val (.ref x0), .val (.int x1), .val (.int x2)] [] := by first | (simp [entryFrame, mkF, argsToLocals, Value.category]; done) | rfl
def Qadd_2_1 (Z : State) (o0 : Addr) (p1 : Int32) (p2 : Int32) (w_d : Addr) (k_d : ClassId) (d0 : Int32) (w_f : Addr) (k_f : ClassId) (f0 : Int32) (q_c : Int64) (h0 : Heap) (n0 : Nat) (v : Option Value) (h : Heap) (L : List Loc) : Prop := v = none ∧ Fr n0 L ∧ Keep h0 h ([w_d, w_f, o0] : List Addr) ∧ Fld Z h o0 "com/example/robust_broker/robustbroker/Postings" "documents" "[I" (.ref w_d) ∧ Arv Z h w_d k_d .int (2 : Int32) [(.int d0), (.int p1)] (.int (0 : Int32)) ∧ Fld Z h o0 "com/example/robust_broker/robustbroker/Postings" "frequencies" "[I" (.ref w_f) ∧ Arv Z h w_f k_f .int (2 : Int32) [(.int f0), (.int p2)] (.int (0 : Int32)) ∧ Fld Z h o0 "com/example/robust_broker/robustbroker/Postings" "size" "I" (.int (2 : Int32)) ∧ Fld Z h o0 "com/example/robust_broker/robustbroker/Postings" "collectionFrequency" "J" (.long (q_c + (p2.toInt64)))
set_option maxRecDepth 65536 in
set_option maxHeartbeats 40000000 in
theorem rmadd_2_1 (l : Launch) (Z : State) (a0 : Array Value) (hw : ∀ d ∈ tables_1, d.before a0 Z = true) (ws : List Jvm.Cond) (o0 : Addr) (p1 : Int32) (p2 : Int32) (w_d : Addr) (k_d : ClassId) (d0 : Int32) (w_f : Addr) (k_f : ClassId) (f0 : Int32) (q_c : Int64) (h0 : Heap) (n0 : Nat) (Z0 : n0 ≤ h0.size) (F_documents : Fld Z h0 o0 "com/example/robust_broker/robustbroker/Postings" "documents" "[I" (.ref w_d)) (V_d : Arv Z h0 w_d k_d .int (2 : Int32) [(.int d0), (.int (0 : Int32))] (.int (0 : Int32))) (E_d : Exa Z h0 w_d "[I") (F_frequencies : Fld Z h0 o0 "com/example/robust_broker/robustbroker/Postings" "frequencies" "[I" (.ref w_f)) (V_f : Arv Z h0 w_f k_f .int (2 : Int32) [(.int f0), (.int (0 : Int32))] (.int (0 : Int32))) (E_f : Exa Z h0 w_f "[I") (F_size : Fld Z h0 o0 "com/example/robust_broker/robustbroker/Postings" "size" "I" (.int (1 : Int32))) (F_collectionFrequency : Fld Z h0 o0 "com/example/robust_broker/robustbroker/Postings" "collectionFrequency" "J" (.long q_c)) (ne_o0_w_d : o0 ≠ w_d) (ne_o0_w_f : o0 ≠ w_f) (ne_w_d_w_f : w_d ≠ w_f) (g_w_d : n0 ≤ w_d) (g_w_f : n0 ≤ w_f) (E_o0 : Exa Z h0 o0 "com/example/robust_broker/robustbroker/Postings") (g_o0 : n0 ≤ o0) :
    MetFree l (⟨"com/example/robust_broker/robustbroker/Postings", "add", "(II)V"⟩ : MethodName) (head1 (Jvm.Cond.code (⟨"com/example/robust_broker/robustbroker/Postings", "add", "(II)V"⟩ : MethodName) prog_26_method_2_code 3 none :: ws) ({ frames := 0, cells := 0, slots := 0, locals := 0 } : Room)) (fun a U => a = #[(.ref o0), (.int p1), (.int p2)] ∧ Z.Warmed39 U.vm ∧ U.heap = h0) (fun _ _ _ _ _ => True) (fun _ U o U' => ∃ v L, o = .returned v ∧ Qadd_2_1 Z o0 p1 p2 w_d k_d d0 w_f k_f f0 q_c h0 n0 v U'.heap L ∧ FrameEnd U o U' L ({ frames := 0, cells := 0, slots := 0, locals := 0 } : Room).cells ({ frames := 0, cells := 0, slots := 0, locals := 0 } : Room).slots) := by
  refine MetFree.of_bodySF (plainFor_of_name (by first | (simp [plainName, overriddenIn]; done) | decide +kernel)) hisR ?_
  intro p e s m args below meth c s₁ Bd hml0 hP hK
  obtain ⟨rfl, hZ, hh⟩ := hP
  have hx := Bd.exec
  have hby := Bd.bytes
  have hml : c.maxLocals = 3 := hml0
  have hown : s.vm.findClass "com/example/robust_broker/robustbroker/Postings" = some m.cls := findClass_of_methodNamed Bd.named
  have hnm := (name_of_methodNamed Bd.named Bd.method).1
  have hlk := BodyLoose.notSynchronized Bd
  have X0 : Stand p l e ({ frames := 0, cells := 0, slots := 0, locals := 0 } : Room) s m #[(.ref o0), (.int p1), (.int p2)] below meth c s₁ [] 0 0 := Stand.of_body Bd
  have e0 : s₁.heap = h0 := by rw [← hh, Bd.state]; rfl
  have N0 := Fr.nil n0
  show Go p e below s (Qadd_2_1 Z o0 p1 p2 w_d k_d d0 w_f k_f f0 q_c h0 n0) 0 0 (s₁.setTop (entryFrame m #[(.ref o0), (.int p1), (.int p2)] 3))
  rw [ef_add_2_1]
  show Go _ _ _ _ _ _ _ (s₁.setTop (mkF m 0 #[.val (.ref o0), .val (.int p1), .val (.int p2)] []))
  refine gob (fun _ k => XS.aloadN X0.here hx rfl (hb hby d8_0) rfl rfl k) ?_
  show Go _ _ _ _ _ _ _ (s₁.setTop (mkF m 1 #[.val (.ref o0), .val (.int p1), .val (.int p2)] [(.ref o0)]))
  obtain ⟨T1, X1, e1, st1⟩ := getF X0 hx hZ hown (host := "") (Or.inl (hw _ (List.mem_of_getElem? (i := 21) rfl))) Via.refl e0 F_size (g := (mkF m 1 #[.val (.ref o0), .val (.int p1), .val (.int p2)] [(.ref o0)])) rfl rfl (hb hby d8_1)
  refine gob st1 ?_
  show Go _ _ _ _ _ _ _ (T1.setTop (mkF m 4 #[.val (.ref o0), .val (.int p1), .val (.int p2)] [(.int (1 : Int32))]))
  refine gob (fun _ k => XS.aloadN X1.here hx rfl (hb hby d8_4) rfl rfl k) ?_
  show Go _ _ _ _ _ _ _ (T1.setTop (mkF m 5 #[.val (.ref o0), .val (.int p1), .val (.int p2)] [(.ref o0), (.int (1 : Int32))]))
  obtain ⟨T2, X2, e2, st2⟩ := getF X1 hx hZ hown (host := "") (Or.inl (hw _ (List.mem_of_getElem? (i := 12) rfl))) Via.refl e1 F_documents (g := (mkF m 5 #[.val (.ref o0), .val (.int p1), .val (.int p2)] [(.ref o0), (.int (1 : Int32))])) rfl rfl (hb hby d8_5)
  refine gob st2 ?_
  show Go _ _ _ _ _ _ _ (T2.setTop (mkF m 8 #[.val (.ref o0), .val (.int p1), .val (.int p2)] [(.ref w_d), (.int (1 : Int32))]))
  obtain ⟨cl3, Ar3, aq3, S3, N3, H3, G3⟩ := id V_d
  refine gob (X2.arraylength hx (by rw [e2]; exact Ar3.1) (State.isArrayOf_alike hZ.alike Ar3.2.1) (g := (mkF m 8 #[.val (.ref o0), .val (.int p1), .val (.int p2)] [(.ref w_d), (.int (1 : Int32))])) rfl rfl (hb hby d8_8)) ?_
  rw [len_of S3 N3]
  show Go _ _ _ _ _ _ _ (T2.setTop (mkF m 9 #[.val (.ref o0), .val (.int p1), .val (.int p2)] [(.int (2 : Int32)), (.int (1 : Int32))]))
  refine gob (fun _ k => XS.icmpYes X2.here hx rfl (pc0 := 9) (pc' := 46) rfl (hb hby d8_9) rfl (feq (by decide : ¬ ((1 : Int32) = (2 : Int32)))).2 (by decide) (by decide) k) ?_
  show Go _ _ _ _ _ _ _ (T2.setTop (mkF m 46 #[.val (.ref o0), .val (.int p1), .val (.int p2)] []))
  refine gob (fun _ k => XS.aloadN X2.here hx rfl (hb hby d8_46) rfl rfl k) ?_
  show Go _ _ _ _ _ _ _ (T2.setTop (mkF m 47 #[.val (.ref o0), .val (.int p1), .val (.int p2)] [(.ref o0)]))
  obtain ⟨T4, X4, e4, st4⟩ := getF X2 hx hZ hown (host := "") (Or.inl (hw _ (List.mem_of_getElem? (i := 12) rfl))) Via.refl e2 F_documents (g := (mkF m 47 #[.val (.ref o0), .val (.int p1), .val (.int p2)] [(.ref o0)])) rfl rfl (hb hby d8_47)
  refine gob st4 ?_
  show Go _ _ _ _ _ _ _ (T4.setTop (mkF m 50 #[.val (.ref o0), .val (.int p1), .val (.int p2)] [(.ref w_d)]))
  refine gob (fun _ k => XS.aloadN X4.here hx rfl (hb hby d8_50) rfl rfl k) ?_
  show Go _ _ _ _ _ _ _ (T4.setTop (mkF m 51 #[.val (.ref o0), .val (.int p1), .val (.int p2)] [(.ref o0), (.ref w_d)]))
  obtain ⟨T5, X5, e5, st5⟩ := getF X4 hx hZ hown (host := "") (Or.inl (hw _ (List.mem_of_getElem? (i := 21) rfl))) Via.refl e4 F_size (g := (mkF m 51 #[.val (.ref o0), .val (.int p1), .val (.int p2)] [(.ref o0), (.ref w_d)])) rfl rfl (hb hby d8_51)
  refine gob st5 ?_
  show Go _ _ _ _ _ _ _ (T5.setTop (mkF m 54 #[.val (.ref o0), .val (.int p1), .val (.int p2)] [(.int (1 : Int32)), (.ref w_d)]))
  refine gob (fun _ k => XS.iloadN X5.here hx rfl (hb hby d8_54) rfl k) ?_
  show Go _ _ _ _ _ _ _ (T5.setTop (mkF m 55 #[.val (.ref o0), .val (.int p1), .val (.int p2)] [(.int p1), (.int (1 : Int32)), (.ref w_d)]))
  obtain ⟨cl6, Ar6, aq6, S6, N6, H6, G6⟩ := id V_d
  have hin6 : ¬ ((1 : Int32) < 0 ∨ cl6.slots.size ≤ ((1 : Int32)).toNatClampNeg) := inb_of S6 ⟨by decide, by decide⟩
  obtain ⟨T7, h7, X7, e7, W7, st7⟩ := stI X5 hx hZ e5 Ar6 (j := (1 : Int32)) hin6 (g := (mkF m 55 #[.val (.ref o0), .val (.int p1), .val (.int p2)] [(.int p1), (.int (1 : Int32)), (.ref w_d)])) rfl rfl (hb hby d8_55)
  refine gob st7 ?_
  have z8 : n0 ≤ h7.size := Nat.le_trans Z0 (Keep.of_wr W7).1
  have N7 := Fr.snoc X7 N0 g_w_d
  have K9 : Keep h0 h7 ([w_d, w_f, o0] : List Addr) := (Keep.refl h0 ([w_d, w_f, o0] : List Addr)).wr W7 (Or.inl (List.mem_of_getElem? (i := 0) rfl))
  have V7 : Arv Z h7 w_d k_d .int (2 : Int32) [(.int d0), (.int p1)] (.int (0 : Int32)) := Arv.set Ar6 aq6 S6 N6 H6 G6 rfl W7 1 rfl (Nat.le_of_ble_eq_true rfl)
  show Go _ _ _ _ _ _ _ (T7.setTop (mkF m 56 #[.val (.ref o0), .val (.int p1), .val (.int p2)] []))
  refine gob (fun _ k => XS.aloadN X7.here hx rfl (hb hby d8_56) rfl rfl k) ?_
  show Go _ _ _ _ _ _ _ (T7.setTop (mkF m 57 #[.val (.ref o0), .val (.int p1), .val (.int p2)] [(.ref o0)]))
  have c10 := (F_frequencies.other W7 (Or.inl ne_o0_w_d))
  obtain ⟨T11, X11, e11, st11⟩ := getF X7 hx hZ hown (host := "") (Or.inl (hw _ (List.mem_of_getElem? (i := 14) rfl))) Via.refl e7 c10 (g := (mkF m 57 #[.val (.ref o0), .val (.int p1), .val (.int p2)] [(.ref o0)])) rfl rfl (hb hby d8_57)
  refine gob st11 ?_
  show Go _ _ _ _ _ _ _ (T11.setTop (mkF m 60 #[.val (.ref o0), .val (.int p1), .val (.int p2)] [(.ref w_f)]))
  refine gob (fun _ k => XS.aloadN X11.here hx rfl (hb hby d8_60) rfl rfl k) ?_
  show Go _ _ _ _ _ _ _ (T11.setTop (mkF m 61 #[.val (.ref o0), .val (.int p1), .val (.int p2)] [(.ref o0), (.ref w_f)]))
  have c12 := (F_size.other W7 (Or.inl ne_o0_w_d))
  obtain ⟨T13, X13, e13, st13⟩ := getF X11 hx hZ hown (host := "") (Or.inl (hw _ (List.mem_of_getElem? (i := 21) rfl))) Via.refl e11 c12 (g := (mkF m 61 #[.val (.ref o0), .val (.int p1), .val (.int p2)] [(.ref o0), (.ref w_f)])) rfl rfl (hb hby d8_61)
  refine gob st13 ?_
  show Go _ _ _ _ _ _ _ (T13.setTop (mkF m 64 #[.val (.ref o0), .val (.int p1), .val (.int p2)] [(.int (1 : Int32)), (.ref w_f)]))
  refine gob (fun _ k => XS.iloadN X13.here hx rfl (hb hby d8_64) rfl k) ?_
  show Go _ _ _ _ _ _ _ (T13.setTop (mkF m 65 #[.val (.ref o0), .val (.int p1), .val (.int p2)] [(.int p2), (.int (1 : Int32)), (.ref w_f)]))
  have c15 := (V_f.other W7 (Ne.symm ne_w_d_w_f))
  obtain ⟨cl14, Ar14, aq14, S14, N14, H14, G14⟩ := id c15
  have hin14 : ¬ ((1 : Int32) < 0 ∨ cl14.slots.size ≤ ((1 : Int32)).toNatClampNeg) := inb_of S14 ⟨by decide, by decide⟩
  obtain ⟨T16, h16, X16, e16, W16, st16⟩ := stI X13 hx hZ e13 Ar14 (j := (1 : Int32)) hin14 (g := (mkF m 65 #[.val (.ref o0), .val (.int p1), .val (.int p2)] [(.int p2), (.int (1 : Int32)), (.ref w_f)])) rfl rfl (hb hby d8_65)
  refine gob st16 ?_
  have z17 : n0 ≤ h16.size := Nat.le_trans z8 (Keep.of_wr W16).1
  have N16 := Fr.snoc X16 N7 g_w_f
  have K18 : Keep h0 h16 ([w_d, w_f, o0] : List Addr) := K9.wr W16 (Or.inl (List.mem_of_getElem? (i := 1) rfl))
  have V16 : Arv Z h16 w_f k_f .int (2 : Int32) [(.int f0), (.int p2)] (.int (0 : Int32)) := Arv.set Ar14 aq14 S14 N14 H14 G14 rfl W16 1 rfl (Nat.le_of_ble_eq_true rfl)
  show Go _ _ _ _ _ _ _ (T16.setTop (mkF m 66 #[.val (.ref o0), .val (.int p1), .val (.int p2)] []))
  refine gob (fun _ k => XS.aloadN X16.here hx rfl (hb hby d8_66) rfl rfl k) ?_
  show Go _ _ _ _ _ _ _ (T16.setTop (mkF m 67 #[.val (.ref o0), .val (.int p1), .val (.int p2)] [(.ref o0)]))
  refine gob (fun _ k => XS.dup X16.here hx rfl (hb hby d8_67) rfl rfl k) ?_
  show Go _ _ _ _ _ _ _ (T16.setTop (mkF m 68 #[.val (.ref o0), .val (.int p1), .val (.int p2)] [(.ref o0), (.ref o0)]))
  have c19 := (c12.other W16 (Or.inl ne_o0_w_f))
  obtain ⟨T20, X20, e20, st20⟩ := getF X16 hx hZ hown (host := "") (Or.inl (hw _ (List.mem_of_getElem? (i := 21) rfl))) Via.refl e16 c19 (g := (mkF m 68 #[.val (.ref o0), .val (.int p1), .val (.int p2)] [(.ref o0), (.ref o0)])) rfl rfl (hb hby d8_68)
  refine gob st20 ?_
  show Go _ _ _ _ _ _ _ (T20.setTop (mkF m 71 #[.val (.ref o0), .val (.int p1), .val (.int p2)] [(.int (1 : Int32)), (.ref o0)]))
  refine gob (fun _ k => XS.iconst X20.here hx rfl (hb hby d8_71) k) ?_
  show Go _ _ _ _ _ _ _ (T20.setTop (mkF m 72 #[.val (.ref o0), .val (.int p1), .val (.int p2)] [(.int (1 : Int32)), (.int (1 : Int32)), (.ref o0)]))
  refine gob (fun _ k => XS.iadd X20.here hx rfl (hb hby d8_72) rfl k) ?_
  show Go _ _ _ _ _ _ _ (T20.setTop (mkF m 73 #[.val (.ref o0), .val (.int p1), .val (.int p2)] [(.int (2 : Int32)), (.ref o0)]))
  have c21 := ((E_o0.wr W7).wr W16)
  obtain ⟨T22, h22, X22, e22, W22, st22⟩ := putF X20 hx hZ hown (host := "") (Or.inl (hw _ (List.mem_of_getElem? (i := 21) rfl))) Via.refl e20 c19 c21 (Or.inl (hw _ (List.mem_of_getElem? (i := 22) rfl))) (hw _ (List.mem_of_getElem? (i := 3) rfl)) (ty := .int) (by decide) rfl rfl (g := (mkF m 73 #[.val (.ref o0), .val (.int p1), .val (.int p2)] [(.int (2 : Int32)), (.ref o0)])) rfl rfl (hb hby d8_73)
  refine gob st22 ?_
  have z23 : n0 ≤ h22.size := Nat.le_trans z17 (Keep.of_wr W22).1
  have N22 := Fr.snoc X22 N16 g_o0
  have K24 : Keep h0 h22 ([w_d, w_f, o0] : List Addr) := K18.wr W22 (Or.inl (List.mem_of_getElem? (i := 2) rfl))
  have Fw22 := c19.same W22
  show Go _ _ _ _ _ _ _ (T22.setTop (mkF m 76 #[.val (.ref o0), .val (.int p1), .val (.int p2)] []))
  refine gob (fun _ k => XS.aloadN X22.here hx rfl (hb hby d8_76) rfl rfl k) ?_
  show Go _ _ _ _ _ _ _ (T22.setTop (mkF m 77 #[.val (.ref o0), .val (.int p1), .val (.int p2)] [(.ref o0)]))
  refine gob (fun _ k => XS.dup X22.here hx rfl (hb hby d8_77) rfl rfl k) ?_
  show Go _ _ _ _ _ _ _ (T22.setTop (mkF m 78 #[.val (.ref o0), .val (.int p1), .val (.int p2)] [(.ref o0), (.ref o0)]))
  have c25 := (((F_collectionFrequency.other W7 (Or.inl ne_o0_w_d)).other W16 (Or.inl ne_o0_w_f)).other W22 (Or.inr (slot_ne (Or.inl (hw _ (List.mem_of_getElem? (i := 46) rfl))) (Or.inl (hw _ (List.mem_of_getElem? (i := 22) rfl))) (by decide) (t := .long) (t' := .int) (by decide) (by decide))))
  obtain ⟨T26, X26, e26, st26⟩ := getF X22 hx hZ hown (host := "") (Or.inl (hw _ (List.mem_of_getElem? (i := 45) rfl))) Via.refl e22 c25 (g := (mkF m 78 #[.val (.ref o0), .val (.int p1), .val (.int p2)] [(.ref o0), (.ref o0)])) rfl rfl (hb hby d8_78)
  refine gob st26 ?_
  show Go _ _ _ _ _ _ _ (T26.setTop (mkF m 81 #[.val (.ref o0), .val (.int p1), .val (.int p2)] [(.long q_c), (.ref o0)]))
  refine gob (fun _ k => XS.iloadN X26.here hx rfl (hb hby d8_81) rfl k) ?_
  show Go _ _ _ _ _ _ _ (T26.setTop (mkF m 82 #[.val (.ref o0), .val (.int p1), .val (.int p2)] [(.int p2), (.long q_c), (.ref o0)]))
  refine gob (fun _ k => XS.i2l X26.here hx rfl (hb hby d8_82) rfl k) ?_
  show Go _ _ _ _ _ _ _ (T26.setTop (mkF m 83 #[.val (.ref o0), .val (.int p1), .val (.int p2)] [(.long (p2.toInt64)), (.long q_c), (.ref o0)]))
  refine gob (fun _ k => XS.ladd X26.here hx rfl (hb hby d8_83) rfl k) ?_
  show Go _ _ _ _ _ _ _ (T26.setTop (mkF m 84 #[.val (.ref o0), .val (.int p1), .val (.int p2)] [(.long (q_c + (p2.toInt64))), (.ref o0)]))
  have c27 := (c21.wr W22)
  obtain ⟨T28, h28, X28, e28, W28, st28⟩ := putF X26 hx hZ hown (host := "") (Or.inl (hw _ (List.mem_of_getElem? (i := 45) rfl))) Via.refl e26 c25 c27 (Or.inl (hw _ (List.mem_of_getElem? (i := 46) rfl))) (hw _ (List.mem_of_getElem? (i := 3) rfl)) (ty := .long) (by decide) rfl rfl (g := (mkF m 84 #[.val (.ref o0), .val (.int p1), .val (.int p2)] [(.long (q_c + (p2.toInt64))), (.ref o0)])) rfl rfl (hb hby d8_84)
  refine gob st28 ?_
  have z29 : n0 ≤ h28.size := Nat.le_trans z23 (Keep.of_wr W28).1
  have N28 := Fr.snoc X28 N22 g_o0
  have K30 : Keep h0 h28 ([w_d, w_f, o0] : List Addr) := K24.wr W28 (Or.inl (List.mem_of_getElem? (i := 2) rfl))
  have Fw28 := c25.same W28
  show Go _ _ _ _ _ _ _ (T28.setTop (mkF m 87 #[.val (.ref o0), .val (.int p1), .val (.int p2)] []))
  refine goV X28 hx hlk Bd.returns (hb hby d8_87) ?_ (by decide) (by decide)
  show Qadd_2_1 Z o0 p1 p2 w_d k_d d0 w_f k_f f0 q_c h0 n0 (none) T28.heap _
  have c31 := ((((F_documents.other W7 (Or.inl ne_o0_w_d)).other W16 (Or.inl ne_o0_w_f)).other W22 (Or.inr (slot_ne (Or.inl (hw _ (List.mem_of_getElem? (i := 13) rfl))) (Or.inl (hw _ (List.mem_of_getElem? (i := 22) rfl))) (by decide) (t := (.array .int)) (t' := .int) (by decide) (by decide)))).other W28 (Or.inr (slot_ne (Or.inl (hw _ (List.mem_of_getElem? (i := 13) rfl))) (Or.inl (hw _ (List.mem_of_getElem? (i := 46) rfl))) (by decide) (t := (.array .int)) (t' := .long) (by decide) (by decide))))
  have c32 := (((V7.other W16 ne_w_d_w_f).other W22 (Ne.symm ne_o0_w_d)).other W28 (Ne.symm ne_o0_w_d))
  have c33 := (((c10.other W16 (Or.inl ne_o0_w_f)).other W22 (Or.inr (slot_ne (Or.inl (hw _ (List.mem_of_getElem? (i := 15) rfl))) (Or.inl (hw _ (List.mem_of_getElem? (i := 22) rfl))) (by decide) (t := (.array .int)) (t' := .int) (by decide) (by decide)))).other W28 (Or.inr (slot_ne (Or.inl (hw _ (List.mem_of_getElem? (i := 15) rfl))) (Or.inl (hw _ (List.mem_of_getElem? (i := 46) rfl))) (by decide) (t := (.array .int)) (t' := .long) (by decide) (by decide))))
  have c34 := ((V16.other W22 (Ne.symm ne_o0_w_f)).other W28 (Ne.symm ne_o0_w_f))
  have c35 := (Fw22.other W28 (Or.inr (slot_ne (Or.inl (hw _ (List.mem_of_getElem? (i := 22) rfl))) (Or.inl (hw _ (List.mem_of_getElem? (i := 46) rfl))) (by decide) (t := .int) (t' := .long) (by decide) (by decide))))
  rw [e28]
  exact ⟨rfl, N28, K30, c31, c32, c33, c34, c35, Fw28⟩
theorem pd_1 : parseMethodDescriptor "([II)[I" = some ⟨[(.array .int), .int], some (.array .int)⟩ := by decide +kernel
theorem ef_add_2_2 (m : MethodId) (x0 : Addr) (x1 : Int32) (x2 : Int32) : entryFrame m #[(.ref x0), (.int x1), (.int x2)] 3 = mkF m 0 #[.val (.ref x0), .val (.int x1), .val (.int x2)] [] := by first | (simp [entryFrame, mkF, argsToLocals, Value.category]; done) | rfl
def Qadd_2_2 (Z : State) (o0 : Addr) (p1 : Int32) (p2 : Int32) (w_d : Addr) (k_d : ClassId) (d0 : Int32) (d1 : Int32) (w_f : Addr) (k_f : ClassId) (f0 : Int32) (f1 : Int32) (q_c : Int64) (h0 : Heap) (n0 : Nat) (v : Option Value) (h : Heap) (L : List Loc) : Prop := ∃ b7 : Addr, ∃ b30 : Addr, ∃ k8 : ClassId, ∃ k31 : ClassId, v = none ∧ Fr n0 L ∧ Keep h0 h ([o0] : List Addr) ∧ h0.size ≤ b7 ∧ h0.size ≤ b30 ∧ b7 ≠ b30 ∧ Fld Z h o0 "com/example/robust_broker/robustbroker/Postings" "documents" "[I" (.ref b7) ∧ Fld Z h o0 "com/example/robust_broker/robustbroker/Postings" "frequencies" "[I" (.ref b30) ∧ Fld Z h o0 "com/example/robust_broker/robustbroker/Postings" "size" "I" (.int (3 : Int32)) ∧ Fld Z h o0 "com/example/robust_broker/robustbroker/Postings" "collectionFrequency" "J" (.long (q_c + (p2.toInt64))) ∧ Exa Z h b7 "[I" ∧ Arv Z h b7 k8 .int (4 : Int32) [(.int d0), (.int d1), (.int p1), (.int (0 : Int32))] (.int (0 : Int32)) ∧ Exa Z h b30 "[I" ∧ Arv Z h b30 k31 .int (4 : Int32) [(.int f0), (.int f1), (.int p2), (.int (0 : Int32))] (.int (0 : Int32))
set_option maxRecDepth 65536 in
set_option maxHeartbeats 40000000 in
theorem rmadd_2_2 (l : Launch) (Z : State) (a0 : Array Value) (hw : ∀ d ∈ tables_1, d.before a0 Z = true) (ws : List Jvm.Cond) (o0 : Addr) (p1 : Int32) (p2 : Int32) (w_d : Addr) (k_d : ClassId) (d0 : Int32) (d1 : Int32) (w_f : Addr) (k_f : ClassId) (f0 : Int32) (f1 : Int32) (q_c : Int64) (h0 : Heap) (n0 : Nat) (Z0 : n0 ≤ h0.size) (F_documents : Fld Z h0 o0 "com/example/robust_broker/robustbroker/Postings" "documents" "[I" (.ref w_d)) (V_d : Arv Z h0 w_d k_d .int (2 : Int32) [(.int d0), (.int d1)] (.int (0 : Int32))) (E_d : Exa Z h0 w_d "[I") (F_frequencies : Fld Z h0 o0 "com/example/robust_broker/robustbroker/Postings" "frequencies" "[I" (.ref w_f)) (V_f : Arv Z h0 w_f k_f .int (2 : Int32) [(.int f0), (.int f1)] (.int (0 : Int32))) (E_f : Exa Z h0 w_f "[I") (F_size : Fld Z h0 o0 "com/example/robust_broker/robustbroker/Postings" "size" "I" (.int (2 : Int32))) (F_collectionFrequency : Fld Z h0 o0 "com/example/robust_broker/robustbroker/Postings" "collectionFrequency" "J" (.long q_c)) (ne_o0_w_d : o0 ≠ w_d) (ne_o0_w_f : o0 ≠ w_f) (ne_w_d_w_f : w_d ≠ w_f) (E_o0 : Exa Z h0 o0 "com/example/robust_broker/robustbroker/Postings") (g_o0 : n0 ≤ o0) :
    MetFree l (⟨"com/example/robust_broker/robustbroker/Postings", "add", "(II)V"⟩ : MethodName) (head1 (Jvm.Cond.code (⟨"com/example/robust_broker/robustbroker/Postings", "add", "(II)V"⟩ : MethodName) prog_26_method_2_code 3 none :: ws) ({ frames := 2, cells := 2, slots := 8, locals := 33 } : Room)) (fun a U => a = #[(.ref o0), (.int p1), (.int p2)] ∧ Z.Warmed39 U.vm ∧ U.heap = h0) (fun _ _ _ _ _ => True) (fun _ U o U' => ∃ v L, o = .returned v ∧ Qadd_2_2 Z o0 p1 p2 w_d k_d d0 d1 w_f k_f f0 f1 q_c h0 n0 v U'.heap L ∧ FrameEnd U o U' L ({ frames := 2, cells := 2, slots := 8, locals := 33 } : Room).cells ({ frames := 2, cells := 2, slots := 8, locals := 33 } : Room).slots) := by
  refine MetFree.of_bodySF (plainFor_of_name (by first | (simp [plainName, overriddenIn]; done) | decide +kernel)) hisR ?_
  intro p e s m args below meth c s₁ Bd hml0 hP hK
  obtain ⟨rfl, hZ, hh⟩ := hP
  have hx := Bd.exec
  have hby := Bd.bytes
  have hml : c.maxLocals = 3 := hml0
  have hown : s.vm.findClass "com/example/robust_broker/robustbroker/Postings" = some m.cls := findClass_of_methodNamed Bd.named
  have hnm := (name_of_methodNamed Bd.named Bd.method).1
  have hlk := BodyLoose.notSynchronized Bd
  have X0 : Stand p l e ({ frames := 2, cells := 2, slots := 8, locals := 33 } : Room) s m #[(.ref o0), (.int p1), (.int p2)] below meth c s₁ [] 0 0 := Stand.of_body Bd
  have e0 : s₁.heap = h0 := by rw [← hh, Bd.state]; rfl
  have N0 := Fr.nil n0
  show Go p e below s (Qadd_2_2 Z o0 p1 p2 w_d k_d d0 d1 w_f k_f f0 f1 q_c h0 n0) 2 8 (s₁.setTop (entryFrame m #[(.ref o0), (.int p1), (.int p2)] 3))
  rw [ef_add_2_2]
  show Go _ _ _ _ _ _ _ (s₁.setTop (mkF m 0 #[.val (.ref o0), .val (.int p1), .val (.int p2)] []))
  refine gob (fun _ k => XS.aloadN X0.here hx rfl (hb hby d8_0) rfl rfl k) ?_
  show Go _ _ _ _ _ _ _ (s₁.setTop (mkF m 1 #[.val (.ref o0), .val (.int p1), .val (.int p2)] [(.ref o0)]))
  obtain ⟨T1, X1, e1, st1⟩ := getF X0 hx hZ hown (host := "") (Or.inl (hw _ (List.mem_of_getElem? (i := 21) rfl))) Via.refl e0 F_size (g := (mkF m 1 #[.val (.ref o0), .val (.int p1), .val (.int p2)] [(.ref o0)])) rfl rfl (hb hby d8_1)
  refine gob st1 ?_
  show Go _ _ _ _ _ _ _ (T1.setTop (mkF m 4 #[.val (.ref o0), .val (.int p1), .val (.int p2)] [(.int (2 : Int32))]))
  refine gob (fun _ k => XS.aloadN X1.here hx rfl (hb hby d8_4) rfl rfl k) ?_
  show Go _ _ _ _ _ _ _ (T1.setTop (mkF m 5 #[.val (.ref o0), .val (.int p1), .val (.int p2)] [(.ref o0), (.int (2 : Int32))]))
  obtain ⟨T2, X2, e2, st2⟩ := getF X1 hx hZ hown (host := "") (Or.inl (hw _ (List.mem_of_getElem? (i := 12) rfl))) Via.refl e1 F_documents (g := (mkF m 5 #[.val (.ref o0), .val (.int p1), .val (.int p2)] [(.ref o0), (.int (2 : Int32))])) rfl rfl (hb hby d8_5)
  refine gob st2 ?_
  show Go _ _ _ _ _ _ _ (T2.setTop (mkF m 8 #[.val (.ref o0), .val (.int p1), .val (.int p2)] [(.ref w_d), (.int (2 : Int32))]))
  obtain ⟨cl3, Ar3, aq3, S3, N3, H3, G3⟩ := id V_d
  refine gob (X2.arraylength hx (by rw [e2]; exact Ar3.1) (State.isArrayOf_alike hZ.alike Ar3.2.1) (g := (mkF m 8 #[.val (.ref o0), .val (.int p1), .val (.int p2)] [(.ref w_d), (.int (2 : Int32))])) rfl rfl (hb hby d8_8)) ?_
  rw [len_of S3 N3]
  show Go _ _ _ _ _ _ _ (T2.setTop (mkF m 9 #[.val (.ref o0), .val (.int p1), .val (.int p2)] [(.int (2 : Int32)), (.int (2 : Int32))]))
  refine gob (fun _ k => XS.icmpNo X2.here hx rfl (hb hby d8_9) rfl (teq (by decide : (2 : Int32) = (2 : Int32))).2 k) ?_
  show Go _ _ _ _ _ _ _ (T2.setTop (mkF m 12 #[.val (.ref o0), .val (.int p1), .val (.int p2)] []))
  refine gob (fun _ k => XS.aloadN X2.here hx rfl (hb hby d8_12) rfl rfl k) ?_
  show Go _ _ _ _ _ _ _ (T2.setTop (mkF m 13 #[.val (.ref o0), .val (.int p1), .val (.int p2)] [(.ref o0)]))
  refine gob (fun _ k => XS.aloadN X2.here hx rfl (hb hby d8_13) rfl rfl k) ?_
  show Go _ _ _ _ _ _ _ (T2.setTop (mkF m 14 #[.val (.ref o0), .val (.int p1), .val (.int p2)] [(.ref o0), (.ref o0)]))
  obtain ⟨T4, X4, e4, st4⟩ := getF X2 hx hZ hown (host := "") (Or.inl (hw _ (List.mem_of_getElem? (i := 12) rfl))) Via.refl e2 F_documents (g := (mkF m 14 #[.val (.ref o0), .val (.int p1), .val (.int p2)] [(.ref o0), (.ref o0)])) rfl rfl (hb hby d8_14)
  refine gob st4 ?_
  show Go _ _ _ _ _ _ _ (T4.setTop (mkF m 17 #[.val (.ref o0), .val (.int p1), .val (.int p2)] [(.ref w_d), (.ref o0)]))
  refine gob (fun _ k => XS.aloadN X4.here hx rfl (hb hby d8_17) rfl rfl k) ?_
  show Go _ _ _ _ _ _ _ (T4.setTop (mkF m 18 #[.val (.ref o0), .val (.int p1), .val (.int p2)] [(.ref o0), (.ref w_d), (.ref o0)]))
  obtain ⟨T5, X5, e5, st5⟩ := getF X4 hx hZ hown (host := "") (Or.inl (hw _ (List.mem_of_getElem? (i := 21) rfl))) Via.refl e4 F_size (g := (mkF m 18 #[.val (.ref o0), .val (.int p1), .val (.int p2)] [(.ref o0), (.ref w_d), (.ref o0)])) rfl rfl (hb hby d8_18)
  refine gob st5 ?_
  show Go _ _ _ _ _ _ _ (T5.setTop (mkF m 21 #[.val (.ref o0), .val (.int p1), .val (.int p2)] [(.int (2 : Int32)), (.ref w_d), (.ref o0)]))
  refine gob (fun _ k => XS.iconst X5.here hx rfl (hb hby d8_21) k) ?_
  show Go _ _ _ _ _ _ _ (T5.setTop (mkF m 22 #[.val (.ref o0), .val (.int p1), .val (.int p2)] [(.int (2 : Int32)), (.int (2 : Int32)), (.ref w_d), (.ref o0)]))
  refine gob (fun _ k => XS.imul X5.here hx rfl (hb hby d8_22) rfl k) ?_
  show Go _ _ _ _ _ _ _ (T5.setTop (mkF m 23 #[.val (.ref o0), .val (.int p1), .val (.int p2)] [(.int (4 : Int32)), (.ref w_d), (.ref o0)]))
  obtain ⟨_, _, ⟨T6, L6, k6, n6⟩, -, X6, ⟨Lc6, hQ6, l6, y6, z6⟩, st6⟩ := Jvm.LawKit.callS X5 hx (y := (⟨"java/util/Arrays", "copyOf", "([II)[I"⟩ : MethodName)) hown (mvT hZ (hw _ (List.mem_of_getElem? (i := 23) rfl))) (mvT hZ (hw _ (List.mem_of_getElem? (i := 24) rfl))) (mvT hZ (hw _ (List.mem_of_getElem? (i := 25) rfl))) (mvT hZ (hw _ (List.mem_of_getElem? (i := 26) rfl))) (by decide) (backOf (W := 1) (rmcp_2_2_4 l Z a0 hw [] w_d k_d d0 d1 h0 n0 Z0 V_d E_d) hZ (hw _ (List.mem_of_getElem? (i := 26) rfl)) (hw _ (List.mem_of_getElem? (i := 25) rfl)) (by decide) (by decide)) (g := (mkF m 23 #[.val (.ref o0), .val (.int p1), .val (.int p2)] [(.int (4 : Int32)), (.ref w_d), (.ref o0)])) rfl (by rw [hml]; rfl) (argsL := [(.ref w_d), (.int (4 : Int32))]) (rest := [(.ref o0)]) (lenOf pd_1 rfl) rfl (by show 2 * 0 + _ ≤ _; exact Nat.le_of_eq rfl) (hb hby d8_23) (fun _ _ => ⟨rfl, e5, (by decide : 0 + 1 ≤ _), (by decide : 0 + 4 ≤ _)⟩)
  dsimp only [Pt.U, Pt.locs, Pt.cells, Pt.slots] at X6 l6 y6 z6 st6 hQ6
  subst l6 y6 z6
  obtain ⟨b7, k8, rfl, Nq6, K6, hz9, F10, F11⟩ := hQ6
  have N6 := Fr.app N0 Nq6
  have n12 : o0 ≠ b7 := Nat.ne_of_lt (Nat.lt_of_lt_of_le F_documents.lt hz9)
  have n13 : w_d ≠ b7 := Nat.ne_of_lt (Nat.lt_of_lt_of_le V_d.lt hz9)
  have n14 : w_f ≠ b7 := Nat.ne_of_lt (Nat.lt_of_lt_of_le V_f.lt hz9)
  have g15 : n0 ≤ b7 := Nat.le_trans Z0 hz9
  have sz_b7 : h0.size ≤ b7 := Nat.le_trans (Keep.refl h0 []).1 hz9
  have z16 : n0 ≤ T6.heap.size := Nat.le_trans Z0 K6.1
  have K17 : Keep h0 T6.heap ([o0] : List Addr) := (Keep.refl h0 ([o0] : List Addr)).trans K6 all0
  refine gob st6 ?_
  show Go _ _ _ _ _ _ _ (T6.setTop (mkF m 26 #[.val (.ref o0), .val (.int p1), .val (.int p2)] [(.ref b7), (.ref o0)]))
  have c18 := (F_documents.keep K6 nin0)
  have c19 := (E_o0.keep K6)
  obtain ⟨T20, h20, X20, e20, W20, st20⟩ := putF X6 hx hZ hown (host := "") (Or.inl (hw _ (List.mem_of_getElem? (i := 12) rfl))) Via.refl (rfl : T6.heap = _) c18 c19 (Or.inl (hw _ (List.mem_of_getElem? (i := 13) rfl))) (hw _ (List.mem_of_getElem? (i := 3) rfl)) (ty := (.array .int)) (by decide) rfl rfl (g := (mkF m 26 #[.val (.ref o0), .val (.int p1), .val (.int p2)] [(.ref b7), (.ref o0)])) rfl rfl (hb hby d8_26)
  refine gob st20 ?_
  have z21 : n0 ≤ h20.size := Nat.le_trans z16 (Keep.of_wr W20).1
  have N20 := Fr.snoc X20 N6 g_o0
  have K22 : Keep h0 h20 ([o0] : List Addr) := K17.wr W20 (Or.inl (List.mem_of_getElem? (i := 0) rfl))
  have Fw20 := c18.same W20
  show Go _ _ _ _ _ _ _ (T20.setTop (mkF m 29 #[.val (.ref o0), .val (.int p1), .val (.int p2)] []))
  refine gob (fun _ k => XS.aloadN X20.here hx rfl (hb hby d8_29) rfl rfl k) ?_
  show Go _ _ _ _ _ _ _ (T20.setTop (mkF m 30 #[.val (.ref o0), .val (.int p1), .val (.int p2)] [(.ref o0)]))
  refine gob (fun _ k => XS.aloadN X20.here hx rfl (hb hby d8_30) rfl rfl k) ?_
  show Go _ _ _ _ _ _ _ (T20.setTop (mkF m 31 #[.val (.ref o0), .val (.int p1), .val (.int p2)] [(.ref o0), (.ref o0)]))
  have c23 := ((F_frequencies.keep K6 nin0).other W20 (Or.inr (slot_ne (Or.inl (hw _ (List.mem_of_getElem? (i := 15) rfl))) (Or.inl (hw _ (List.mem_of_getElem? (i := 13) rfl))) (by decide) (t := (.array .int)) (t' := (.array .int)) (by decide) (by decide))))
  obtain ⟨T24, X24, e24, st24⟩ := getF X20 hx hZ hown (host := "") (Or.inl (hw _ (List.mem_of_getElem? (i := 14) rfl))) Via.refl e20 c23 (g := (mkF m 31 #[.val (.ref o0), .val (.int p1), .val (.int p2)] [(.ref o0), (.ref o0)])) rfl rfl (hb hby d8_31)
  refine gob st24 ?_
  show Go _ _ _ _ _ _ _ (T24.setTop (mkF m 34 #[.val (.ref o0), .val (.int p1), .val (.int p2)] [(.ref w_f), (.ref o0)]))
  refine gob (fun _ k => XS.aloadN X24.here hx rfl (hb hby d8_34) rfl rfl k) ?_
  show Go _ _ _ _ _ _ _ (T24.setTop (mkF m 35 #[.val (.ref o0), .val (.int p1), .val (.int p2)] [(.ref o0), (.ref w_f), (.ref o0)]))
  have c25 := ((F_size.keep K6 nin0).other W20 (Or.inr (slot_ne (Or.inl (hw _ (List.mem_of_getElem? (i := 22) rfl))) (Or.inl (hw _ (List.mem_of_getElem? (i := 13) rfl))) (by decide) (t := .int) (t' := (.array .int)) (by decide) (by decide))))
  obtain ⟨T26, X26, e26, st26⟩ := getF X24 hx hZ hown (host := "") (Or.inl (hw _ (List.mem_of_getElem? (i := 21) rfl))) Via.refl e24 c25 (g := (mkF m 35 #[.val (.ref o0), .val (.int p1), .val (.int p2)] [(.ref o0), (.ref w_f), (.ref o0)])) rfl rfl (hb hby d8_35)
  refine gob st26 ?_
  show Go _ _ _ _ _ _ _ (T26.setTop (mkF m 38 #[.val (.ref o0), .val (.int p1), .val (.int p2)] [(.int (2 : Int32)), (.ref w_f), (.ref o0)]))
  refine gob (fun _ k => XS.iconst X26.here hx rfl (hb hby d8_38) k) ?_
  show Go _ _ _ _ _ _ _ (T26.setTop (mkF m 39 #[.val (.ref o0), .val (.int p1), .val (.int p2)] [(.int (2 : Int32)), (.int (2 : Int32)), (.ref w_f), (.ref o0)]))
  refine gob (fun _ k => XS.imul X26.here hx rfl (hb hby d8_39) rfl k) ?_
  show Go _ _ _ _ _ _ _ (T26.setTop (mkF m 40 #[.val (.ref o0), .val (.int p1), .val (.int p2)] [(.int (4 : Int32)), (.ref w_f), (.ref o0)]))
  have c28 := ((V_f.keep K6 nin0).other W20 (Ne.symm ne_o0_w_f))
  have c29 := ((E_f.keep K6).wr W20)
  obtain ⟨_, _, ⟨T27, L27, k27, n27⟩, -, X27, ⟨Lc27, hQ27, l27, y27, z27⟩, st27⟩ := Jvm.LawKit.callS X26 hx (y := (⟨"java/util/Arrays", "copyOf", "([II)[I"⟩ : MethodName)) hown (mvT hZ (hw _ (List.mem_of_getElem? (i := 23) rfl))) (mvT hZ (hw _ (List.mem_of_getElem? (i := 24) rfl))) (mvT hZ (hw _ (List.mem_of_getElem? (i := 25) rfl))) (mvT hZ (hw _ (List.mem_of_getElem? (i := 26) rfl))) (by decide) (backOf (W := 1) (rmcp_2_2_4 l Z a0 hw [] w_f k_f f0 f1 h20 n0 z21 c28 c29) hZ (hw _ (List.mem_of_getElem? (i := 26) rfl)) (hw _ (List.mem_of_getElem? (i := 25) rfl)) (by decide) (by decide)) (g := (mkF m 40 #[.val (.ref o0), .val (.int p1), .val (.int p2)] [(.int (4 : Int32)), (.ref w_f), (.ref o0)])) rfl (by rw [hml]; rfl) (argsL := [(.ref w_f), (.int (4 : Int32))]) (rest := [(.ref o0)]) (lenOf pd_1 rfl) rfl (by show 2 * 0 + _ ≤ _; exact Nat.le_of_eq rfl) (hb hby d8_40) (fun _ _ => ⟨rfl, e26, (by decide : 1 + 1 ≤ _), (by decide : 4 + 4 ≤ _)⟩)
  dsimp only [Pt.U, Pt.locs, Pt.cells, Pt.slots] at X27 l27 y27 z27 st27 hQ27
  subst l27 y27 z27
  obtain ⟨b30, k31, rfl, Nq27, K27, hz32, F33, F34⟩ := hQ27
  have N27 := Fr.app N20 Nq27
  have n35 : o0 ≠ b30 := Nat.ne_of_lt (Nat.lt_of_lt_of_le Fw20.lt hz32)
  have c37 := ((V_d.keep K6 nin0).other W20 (Ne.symm ne_o0_w_d))
  have n36 : w_d ≠ b30 := Nat.ne_of_lt (Nat.lt_of_lt_of_le c37.lt hz32)
  have n38 : w_f ≠ b30 := Nat.ne_of_lt (Nat.lt_of_lt_of_le c28.lt hz32)
  have c40 := (F10.wr W20)
  have n39 : b7 ≠ b30 := Nat.ne_of_lt (Nat.lt_of_lt_of_le c40.lt hz32)
  have g41 : n0 ≤ b30 := Nat.le_trans z21 hz32
  have sz_b30 : h0.size ≤ b30 := Nat.le_trans K22.1 hz32
  have z42 : n0 ≤ T27.heap.size := Nat.le_trans z21 K27.1
  have K43 : Keep h0 T27.heap ([o0] : List Addr) := K22.trans K27 all0
  refine gob st27 ?_
  show Go _ _ _ _ _ _ _ (T27.setTop (mkF m 43 #[.val (.ref o0), .val (.int p1), .val (.int p2)] [(.ref b30), (.ref o0)]))
  have c44 := (c23.keep K27 nin0)
  have c45 := ((c19.wr W20).keep K27)
  obtain ⟨T46, h46, X46, e46, W46, st46⟩ := putF X27 hx hZ hown (host := "") (Or.inl (hw _ (List.mem_of_getElem? (i := 14) rfl))) Via.refl (rfl : T27.heap = _) c44 c45 (Or.inl (hw _ (List.mem_of_getElem? (i := 15) rfl))) (hw _ (List.mem_of_getElem? (i := 3) rfl)) (ty := (.array .int)) (by decide) rfl rfl (g := (mkF m 43 #[.val (.ref o0), .val (.int p1), .val (.int p2)] [(.ref b30), (.ref o0)])) rfl rfl (hb hby d8_43)
  refine gob st46 ?_
  have z47 : n0 ≤ h46.size := Nat.le_trans z42 (Keep.of_wr W46).1
  have N46 := Fr.snoc X46 N27 g_o0
  have K48 : Keep h0 h46 ([o0] : List Addr) := K43.wr W46 (Or.inl (List.mem_of_getElem? (i := 0) rfl))
  have Fw46 := c44.same W46
  show Go _ _ _ _ _ _ _ (T46.setTop (mkF m 46 #[.val (.ref o0), .val (.int p1), .val (.int p2)] []))
  refine gob (fun _ k => XS.aloadN X46.here hx rfl (hb hby d8_46) rfl rfl k) ?_
  show Go _ _ _ _ _ _ _ (T46.setTop (mkF m 47 #[.val (.ref o0), .val (.int p1), .val (.int p2)] [(.ref o0)]))
  have c49 := ((Fw20.keep K27 nin0).other W46 (Or.inr (slot_ne (Or.inl (hw _ (List.mem_of_getElem? (i := 13) rfl))) (Or.inl (hw _ (List.mem_of_getElem? (i := 15) rfl))) (by decide) (t := (.array .int)) (t' := (.array .int)) (by decide) (by decide))))
  obtain ⟨T50, X50, e50, st50⟩ := getF X46 hx hZ hown (host := "") (Or.inl (hw _ (List.mem_of_getElem? (i := 12) rfl))) Via.refl e46 c49 (g := (mkF m 47 #[.val (.ref o0), .val (.int p1), .val (.int p2)] [(.ref o0)])) rfl rfl (hb hby d8_47)
  refine gob st50 ?_
  show Go _ _ _ _ _ _ _ (T50.setTop (mkF m 50 #[.val (.ref o0), .val (.int p1), .val (.int p2)] [(.ref b7)]))
  refine gob (fun _ k => XS.aloadN X50.here hx rfl (hb hby d8_50) rfl rfl k) ?_
  show Go _ _ _ _ _ _ _ (T50.setTop (mkF m 51 #[.val (.ref o0), .val (.int p1), .val (.int p2)] [(.ref o0), (.ref b7)]))
  have c51 := ((c25.keep K27 nin0).other W46 (Or.inr (slot_ne (Or.inl (hw _ (List.mem_of_getElem? (i := 22) rfl))) (Or.inl (hw _ (List.mem_of_getElem? (i := 15) rfl))) (by decide) (t := .int) (t' := (.array .int)) (by decide) (by decide))))
  obtain ⟨T52, X52, e52, st52⟩ := getF X50 hx hZ hown (host := "") (Or.inl (hw _ (List.mem_of_getElem? (i := 21) rfl))) Via.refl e50 c51 (g := (mkF m 51 #[.val (.ref o0), .val (.int p1), .val (.int p2)] [(.ref o0), (.ref b7)])) rfl rfl (hb hby d8_51)
  refine gob st52 ?_
  show Go _ _ _ _ _ _ _ (T52.setTop (mkF m 54 #[.val (.ref o0), .val (.int p1), .val (.int p2)] [(.int (2 : Int32)), (.ref b7)]))
  refine gob (fun _ k => XS.iloadN X52.here hx rfl (hb hby d8_54) rfl k) ?_
  show Go _ _ _ _ _ _ _ (T52.setTop (mkF m 55 #[.val (.ref o0), .val (.int p1), .val (.int p2)] [(.int p1), (.int (2 : Int32)), (.ref b7)]))
  have c54 := (((F11.other W20 (Ne.symm n12)).keep K27 nin0).other W46 (Ne.symm n12))
  obtain ⟨cl53, Ar53, aq53, S53, N53, H53, G53⟩ := id c54
  have hin53 : ¬ ((2 : Int32) < 0 ∨ cl53.slots.size ≤ ((2 : Int32)).toNatClampNeg) := inb_of S53 ⟨by decide, by decide⟩
  obtain ⟨T55, h55, X55, e55, W55, st55⟩ := stI X52 hx hZ e52 Ar53 (j := (2 : Int32)) hin53 (g := (mkF m 55 #[.val (.ref o0), .val (.int p1), .val (.int p2)] [(.int p1), (.int (2 : Int32)), (.ref b7)])) rfl rfl (hb hby d8_55)
  refine gob st55 ?_
  have z56 : n0 ≤ h55.size := Nat.le_trans z47 (Keep.of_wr W55).1
  have N55 := Fr.snoc X55 N46 g15
  have K57 : Keep h0 h55 ([o0] : List Addr) := K48.wr W55 (Or.inr sz_b7)
  have V55 : Arv Z h55 b7 k8 .int (4 : Int32) [(.int d0), (.int d1), (.int p1), (.int (0 : Int32))] (.int (0 : Int32)) := Arv.set Ar53 aq53 S53 N53 H53 G53 rfl W55 2 rfl (Nat.le_of_ble_eq_true rfl)
  show Go _ _ _ _ _ _ _ (T55.setTop (mkF m 56 #[.val (.ref o0), .val (.int p1), .val (.int p2)] []))
  refine gob (fun _ k => XS.aloadN X55.here hx rfl (hb hby d8_56) rfl rfl k) ?_
  show Go _ _ _ _ _ _ _ (T55.setTop (mkF m 57 #[.val (.ref o0), .val (.int p1), .val (.int p2)] [(.ref o0)]))
  have c58 := (Fw46.other W55 (Or.inl n12))
  obtain ⟨T59, X59, e59, st59⟩ := getF X55 hx hZ hown (host := "") (Or.inl (hw _ (List.mem_of_getElem? (i := 14) rfl))) Via.refl e55 c58 (g := (mkF m 57 #[.val (.ref o0), .val (.int p1), .val (.int p2)] [(.ref o0)])) rfl rfl (hb hby d8_57)
  refine gob st59 ?_
  show Go _ _ _ _ _ _ _ (T59.setTop (mkF m 60 #[.val (.ref o0), .val (.int p1), .val (.int p2)] [(.ref b30)]))
  refine gob (fun _ k => XS.aloadN X59.here hx rfl (hb hby d8_60) rfl rfl k) ?_
  show Go _ _ _ _ _ _ _ (T59.setTop (mkF m 61 #[.val (.ref o0), .val (.int p1), .val (.int p2)] [(.ref o0), (.ref b30)]))
  have c60 := (c51.other W55 (Or.inl n12))
  obtain ⟨T61, X61, e61, st61⟩ := getF X59 hx hZ hown (host := "") (Or.inl (hw _ (List.mem_of_getElem? (i := 21) rfl))) Via.refl e59 c60 (g := (mkF m 61 #[.val (.ref o0), .val (.int p1), .val (.int p2)] [(.ref o0), (.ref b30)])) rfl rfl (hb hby d8_61)
  refine gob st61 ?_
  show Go _ _ _ _ _ _ _ (T61.setTop (mkF m 64 #[.val (.ref o0), .val (.int p1), .val (.int p2)] [(.int (2 : Int32)), (.ref b30)]))
  refine gob (fun _ k => XS.iloadN X61.here hx rfl (hb hby d8_64) rfl k) ?_
  show Go _ _ _ _ _ _ _ (T61.setTop (mkF m 65 #[.val (.ref o0), .val (.int p1), .val (.int p2)] [(.int p2), (.int (2 : Int32)), (.ref b30)]))
  have c63 := ((F34.other W46 (Ne.symm n35)).other W55 (Ne.symm n39))
  obtain ⟨cl62, Ar62, aq62, S62, N62, H62, G62⟩ := id c63
  have hin62 : ¬ ((2 : Int32) < 0 ∨ cl62.slots.size ≤ ((2 : Int32)).toNatClampNeg) := inb_of S62 ⟨by decide, by decide⟩
  obtain ⟨T64, h64, X64, e64, W64, st64⟩ := stI X61 hx hZ e61 Ar62 (j := (2 : Int32)) hin62 (g := (mkF m 65 #[.val (.ref o0), .val (.int p1), .val (.int p2)] [(.int p2), (.int (2 : Int32)), (.ref b30)])) rfl rfl (hb hby d8_65)
  refine gob st64 ?_
  have z65 : n0 ≤ h64.size := Nat.le_trans z56 (Keep.of_wr W64).1
  have N64 := Fr.snoc X64 N55 g41
  have K66 : Keep h0 h64 ([o0] : List Addr) := K57.wr W64 (Or.inr sz_b30)
  have V64 : Arv Z h64 b30 k31 .int (4 : Int32) [(.int f0), (.int f1), (.int p2), (.int (0 : Int32))] (.int (0 : Int32)) := Arv.set Ar62 aq62 S62 N62 H62 G62 rfl W64 2 rfl (Nat.le_of_ble_eq_true rfl)
  show Go _ _ _ _ _ _ _ (T64.setTop (mkF m 66 #[.val (.ref o0), .val (.int p1), .val (.int p2)] []))
  refine gob (fun _ k => XS.aloadN X64.here hx rfl (hb hby d8_66) rfl rfl k) ?_
  show Go _ _ _ _ _ _ _ (T64.setTop (mkF m 67 #[.val (.ref o0), .val (.int p1), .val (.int p2)] [(.ref o0)]))
  refine gob (fun _ k => XS.dup X64.here hx rfl (hb hby d8_67) rfl rfl k) ?_
  show Go _ _ _ _ _ _ _ (T64.setTop (mkF m 68 #[.val (.ref o0), .val (.int p1), .val (.int p2)] [(.ref o0), (.ref o0)]))
  have c67 := (c60.other W64 (Or.inl n35))
  obtain ⟨T68, X68, e68, st68⟩ := getF X64 hx hZ hown (host := "") (Or.inl (hw _ (List.mem_of_getElem? (i := 21) rfl))) Via.refl e64 c67 (g := (mkF m 68 #[.val (.ref o0), .val (.int p1), .val (.int p2)] [(.ref o0), (.ref o0)])) rfl rfl (hb hby d8_68)
  refine gob st68 ?_
  show Go _ _ _ _ _ _ _ (T68.setTop (mkF m 71 #[.val (.ref o0), .val (.int p1), .val (.int p2)] [(.int (2 : Int32)), (.ref o0)]))
  refine gob (fun _ k => XS.iconst X68.here hx rfl (hb hby d8_71) k) ?_
  show Go _ _ _ _ _ _ _ (T68.setTop (mkF m 72 #[.val (.ref o0), .val (.int p1), .val (.int p2)] [(.int (1 : Int32)), (.int (2 : Int32)), (.ref o0)]))
  refine gob (fun _ k => XS.iadd X68.here hx rfl (hb hby d8_72) rfl k) ?_
  show Go _ _ _ _ _ _ _ (T68.setTop (mkF m 73 #[.val (.ref o0), .val (.int p1), .val (.int p2)] [(.int (3 : Int32)), (.ref o0)]))
  have c69 := (((c45.wr W46).wr W55).wr W64)
  obtain ⟨T70, h70, X70, e70, W70, st70⟩ := putF X68 hx hZ hown (host := "") (Or.inl (hw _ (List.mem_of_getElem? (i := 21) rfl))) Via.refl e68 c67 c69 (Or.inl (hw _ (List.mem_of_getElem? (i := 22) rfl))) (hw _ (List.mem_of_getElem? (i := 3) rfl)) (ty := .int) (by decide) rfl rfl (g := (mkF m 73 #[.val (.ref o0), .val (.int p1), .val (.int p2)] [(.int (3 : Int32)), (.ref o0)])) rfl rfl (hb hby d8_73)
  refine gob st70 ?_
  have z71 : n0 ≤ h70.size := Nat.le_trans z65 (Keep.of_wr W70).1
  have N70 := Fr.snoc X70 N64 g_o0
  have K72 : Keep h0 h70 ([o0] : List Addr) := K66.wr W70 (Or.inl (List.mem_of_getElem? (i := 0) rfl))
  have Fw70 := c67.same W70
  show Go _ _ _ _ _ _ _ (T70.setTop (mkF m 76 #[.val (.ref o0), .val (.int p1), .val (.int p2)] []))
  refine gob (fun _ k => XS.aloadN X70.here hx rfl (hb hby d8_76) rfl rfl k) ?_
  show Go _ _ _ _ _ _ _ (T70.setTop (mkF m 77 #[.val (.ref o0), .val (.int p1), .val (.int p2)] [(.ref o0)]))
  refine gob (fun _ k => XS.dup X70.here hx rfl (hb hby d8_77) rfl rfl k) ?_
  show Go _ _ _ _ _ _ _ (T70.setTop (mkF m 78 #[.val (.ref o0), .val (.int p1), .val (.int p2)] [(.ref o0), (.ref o0)]))
  have c73 := (((((((F_collectionFrequency.keep K6 nin0).other W20 (Or.inr (slot_ne (Or.inl (hw _ (List.mem_of_getElem? (i := 46) rfl))) (Or.inl (hw _ (List.mem_of_getElem? (i := 13) rfl))) (by decide) (t := .long) (t' := (.array .int)) (by decide) (by decide)))).keep K27 nin0).other W46 (Or.inr (slot_ne (Or.inl (hw _ (List.mem_of_getElem? (i := 46) rfl))) (Or.inl (hw _ (List.mem_of_getElem? (i := 15) rfl))) (by decide) (t := .long) (t' := (.array .int)) (by decide) (by decide)))).other W55 (Or.inl n12)).other W64 (Or.inl n35)).other W70 (Or.inr (slot_ne (Or.inl (hw _ (List.mem_of_getElem? (i := 46) rfl))) (Or.inl (hw _ (List.mem_of_getElem? (i := 22) rfl))) (by decide) (t := .long) (t' := .int) (by decide) (by decide))))
  obtain ⟨T74, X74, e74, st74⟩ := getF X70 hx hZ hown (host := "") (Or.inl (hw _ (List.mem_of_getElem? (i := 45) rfl))) Via.refl e70 c73 (g := (mkF m 78 #[.val (.ref o0), .val (.int p1), .val (.int p2)] [(.ref o0), (.ref o0)])) rfl rfl (hb hby d8_78)
  refine gob st74 ?_
  show Go _ _ _ _ _ _ _ (T74.setTop (mkF m 81 #[.val (.ref o0), .val (.int p1), .val (.int p2)] [(.long q_c), (.ref o0)]))
  refine gob (fun _ k => XS.iloadN X74.here hx rfl (hb hby d8_81) rfl k) ?_
  show Go _ _ _ _ _ _ _ (T74.setTop (mkF m 82 #[.val (.ref o0), .val (.int p1), .val (.int p2)] [(.int p2), (.long q_c), (.ref o0)]))
  refine gob (fun _ k => XS.i2l X74.here hx rfl (hb hby d8_82) rfl k) ?_
  show Go _ _ _ _ _ _ _ (T74.setTop (mkF m 83 #[.val (.ref o0), .val (.int p1), .val (.int p2)] [(.long (p2.toInt64)), (.long q_c), (.ref o0)]))
  refine gob (fun _ k => XS.ladd X74.here hx rfl (hb hby d8_83) rfl k) ?_
  show Go _ _ _ _ _ _ _ (T74.setTop (mkF m 84 #[.val (.ref o0), .val (.int p1), .val (.int p2)] [(.long (q_c + (p2.toInt64))), (.ref o0)]))
  have c75 := (c69.wr W70)
  obtain ⟨T76, h76, X76, e76, W76, st76⟩ := putF X74 hx hZ hown (host := "") (Or.inl (hw _ (List.mem_of_getElem? (i := 45) rfl))) Via.refl e74 c73 c75 (Or.inl (hw _ (List.mem_of_getElem? (i := 46) rfl))) (hw _ (List.mem_of_getElem? (i := 3) rfl)) (ty := .long) (by decide) rfl rfl (g := (mkF m 84 #[.val (.ref o0), .val (.int p1), .val (.int p2)] [(.long (q_c + (p2.toInt64))), (.ref o0)])) rfl rfl (hb hby d8_84)
  refine gob st76 ?_
  have z77 : n0 ≤ h76.size := Nat.le_trans z71 (Keep.of_wr W76).1
  have N76 := Fr.snoc X76 N70 g_o0
  have K78 : Keep h0 h76 ([o0] : List Addr) := K72.wr W76 (Or.inl (List.mem_of_getElem? (i := 0) rfl))
  have Fw76 := c73.same W76
  show Go _ _ _ _ _ _ _ (T76.setTop (mkF m 87 #[.val (.ref o0), .val (.int p1), .val (.int p2)] []))
  refine goV X76 hx hlk Bd.returns (hb hby d8_87) ?_ (by decide) (by decide)
  show Qadd_2_2 Z o0 p1 p2 w_d k_d d0 d1 w_f k_f f0 f1 q_c h0 n0 (none) T76.heap _
  have c79 := ((((c49.other W55 (Or.inl n12)).other W64 (Or.inl n35)).other W70 (Or.inr (slot_ne (Or.inl (hw _ (List.mem_of_getElem? (i := 13) rfl))) (Or.inl (hw _ (List.mem_of_getElem? (i := 22) rfl))) (by decide) (t := (.array .int)) (t' := .int) (by decide) (by decide)))).other W76 (Or.inr (slot_ne (Or.inl (hw _ (List.mem_of_getElem? (i := 13) rfl))) (Or.inl (hw _ (List.mem_of_getElem? (i := 46) rfl))) (by decide) (t := (.array .int)) (t' := .long) (by decide) (by decide))))
  have c80 := (((c58.other W64 (Or.inl n35)).other W70 (Or.inr (slot_ne (Or.inl (hw _ (List.mem_of_getElem? (i := 15) rfl))) (Or.inl (hw _ (List.mem_of_getElem? (i := 22) rfl))) (by decide) (t := (.array .int)) (t' := .int) (by decide) (by decide)))).other W76 (Or.inr (slot_ne (Or.inl (hw _ (List.mem_of_getElem? (i := 15) rfl))) (Or.inl (hw _ (List.mem_of_getElem? (i := 46) rfl))) (by decide) (t := (.array .int)) (t' := .long) (by decide) (by decide))))
  have c81 := (Fw70.other W76 (Or.inr (slot_ne (Or.inl (hw _ (List.mem_of_getElem? (i := 22) rfl))) (Or.inl (hw _ (List.mem_of_getElem? (i := 46) rfl))) (by decide) (t := .int) (t' := .long) (by decide) (by decide))))
  have c82 := ((((((c40.keep K27).wr W46).wr W55).wr W64).wr W70).wr W76)
  have c83 := (((V55.other W64 n39).other W70 (Ne.symm n12)).other W76 (Ne.symm n12))
  have c84 := (((((F33.wr W46).wr W55).wr W64).wr W70).wr W76)
  have c85 := ((V64.other W70 (Ne.symm n35)).other W76 (Ne.symm n35))
  rw [e76]
  exact ⟨b7, b30, k8, k31, rfl, N76, K78, sz_b7, sz_b30, n39, c79, c80, c81, Fw76, c82, c83, c84, c85⟩
theorem ef_add_1_1 (m : MethodId) (x0 : Addr) (x1 : Int32) (x2 : Int32) : entryFrame m #[(.ref x0), (.int x1), (.int x2)] 3 = mkF m 0 #[.val (.ref x0), .val (.int x1), .val (.int x2)] [] := by first | (simp [entryFrame, mkF, argsToLocals, Value.category]; done) | rfl
def Qadd_1_1 (Z : State) (o0 : Addr) (p1 : Int32) (p2 : Int32) (w_d : Addr) (k_d : ClassId) (d0 : Int32) (w_f : Addr) (k_f : ClassId) (f0 : Int32) (q_c : Int64) (h0 : Heap) (n0 : Nat) (v : Option Value) (h : Heap) (L : List Loc) : Prop := ∃ b7 : Addr, ∃ b30 : Addr, ∃ k8 : ClassId, ∃ k31 : ClassId, v = none ∧ Fr n0 L ∧ Keep h0 h ([o0] : List Addr) ∧ h0.size ≤ b7 ∧ h0.size ≤ b30 ∧ b7 ≠ b30 ∧ Fld Z h o0 "com/example/robust_broker/robustbroker/Postings" "documents" "[I" (.ref b7) ∧ Fld Z h o0 "com/example/robust_broker/robustbroker/Postings" "frequencies" "[I" (.ref b30) ∧ Fld Z h o0 "com/example/robust_broker/robustbroker/Postings" "size" "I" (.int (2 : Int32)) ∧ Fld Z h o0 "com/example/robust_broker/robustbroker/Postings" "collectionFrequency" "J" (.long (q_c + (p2.toInt64))) ∧ Exa Z h b7 "[I" ∧ Arv Z h b7 k8 .int (2 : Int32) [(.int d0), (.int p1)] (.int (0 : Int32)) ∧ Exa Z h b30 "[I" ∧ Arv Z h b30 k31 .int (2 : Int32) [(.int f0), (.int p2)] (.int (0 : Int32))
set_option maxRecDepth 65536 in
set_option maxHeartbeats 40000000 in
theorem rmadd_1_1 (l : Launch) (Z : State) (a0 : Array Value) (hw : ∀ d ∈ tables_1, d.before a0 Z = true) (ws : List Jvm.Cond) (o0 : Addr) (p1 : Int32) (p2 : Int32) (w_d : Addr) (k_d : ClassId) (d0 : Int32) (w_f : Addr) (k_f : ClassId) (f0 : Int32) (q_c : Int64) (h0 : Heap) (n0 : Nat) (Z0 : n0 ≤ h0.size) (F_documents : Fld Z h0 o0 "com/example/robust_broker/robustbroker/Postings" "documents" "[I" (.ref w_d)) (V_d : Arv Z h0 w_d k_d .int (1 : Int32) [(.int d0)] (.int (0 : Int32))) (E_d : Exa Z h0 w_d "[I") (F_frequencies : Fld Z h0 o0 "com/example/robust_broker/robustbroker/Postings" "frequencies" "[I" (.ref w_f)) (V_f : Arv Z h0 w_f k_f .int (1 : Int32) [(.int f0)] (.int (0 : Int32))) (E_f : Exa Z h0 w_f "[I") (F_size : Fld Z h0 o0 "com/example/robust_broker/robustbroker/Postings" "size" "I" (.int (1 : Int32))) (F_collectionFrequency : Fld Z h0 o0 "com/example/robust_broker/robustbroker/Postings" "collectionFrequency" "J" (.long q_c)) (ne_o0_w_d : o0 ≠ w_d) (ne_o0_w_f : o0 ≠ w_f) (ne_w_d_w_f : w_d ≠ w_f) (E_o0 : Exa Z h0 o0 "com/example/robust_broker/robustbroker/Postings") (g_o0 : n0 ≤ o0) :
    MetFree l (⟨"com/example/robust_broker/robustbroker/Postings", "add", "(II)V"⟩ : MethodName) (head1 (Jvm.Cond.code (⟨"com/example/robust_broker/robustbroker/Postings", "add", "(II)V"⟩ : MethodName) prog_26_method_2_code 3 none :: ws) ({ frames := 2, cells := 2, slots := 4, locals := 33 } : Room)) (fun a U => a = #[(.ref o0), (.int p1), (.int p2)] ∧ Z.Warmed39 U.vm ∧ U.heap = h0) (fun _ _ _ _ _ => True) (fun _ U o U' => ∃ v L, o = .returned v ∧ Qadd_1_1 Z o0 p1 p2 w_d k_d d0 w_f k_f f0 q_c h0 n0 v U'.heap L ∧ FrameEnd U o U' L ({ frames := 2, cells := 2, slots := 4, locals := 33 } : Room).cells ({ frames := 2, cells := 2, slots := 4, locals := 33 } : Room).slots) := by
  refine MetFree.of_bodySF (plainFor_of_name (by first | (simp [plainName, overriddenIn]; done) | decide +kernel)) hisR ?_
  intro p e s m args below meth c s₁ Bd hml0 hP hK
  obtain ⟨rfl, hZ, hh⟩ := hP
  have hx := Bd.exec
  have hby := Bd.bytes
  have hml : c.maxLocals = 3 := hml0
  have hown : s.vm.findClass "com/example/robust_broker/robustbroker/Postings" = some m.cls := findClass_of_methodNamed Bd.named
  have hnm := (name_of_methodNamed Bd.named Bd.method).1
  have hlk := BodyLoose.notSynchronized Bd
  have X0 : Stand p l e ({ frames := 2, cells := 2, slots := 4, locals := 33 } : Room) s m #[(.ref o0), (.int p1), (.int p2)] below meth c s₁ [] 0 0 := Stand.of_body Bd
  have e0 : s₁.heap = h0 := by rw [← hh, Bd.state]; rfl
  have N0 := Fr.nil n0
  show Go p e below s (Qadd_1_1 Z o0 p1 p2 w_d k_d d0 w_f k_f f0 q_c h0 n0) 2 4 (s₁.setTop (entryFrame m #[(.ref o0), (.int p1), (.int p2)] 3))
  rw [ef_add_1_1]
  show Go _ _ _ _ _ _ _ (s₁.setTop (mkF m 0 #[.val (.ref o0), .val (.int p1), .val (.int p2)] []))
  refine gob (fun _ k => XS.aloadN X0.here hx rfl (hb hby d8_0) rfl rfl k) ?_
  show Go _ _ _ _ _ _ _ (s₁.setTop (mkF m 1 #[.val (.ref o0), .val (.int p1), .val (.int p2)] [(.ref o0)]))
  obtain ⟨T1, X1, e1, st1⟩ := getF X0 hx hZ hown (host := "") (Or.inl (hw _ (List.mem_of_getElem? (i := 21) rfl))) Via.refl e0 F_size (g := (mkF m 1 #[.val (.ref o0), .val (.int p1), .val (.int p2)] [(.ref o0)])) rfl rfl (hb hby d8_1)
  refine gob st1 ?_
  show Go _ _ _ _ _ _ _ (T1.setTop (mkF m 4 #[.val (.ref o0), .val (.int p1), .val (.int p2)] [(.int (1 : Int32))]))
  refine gob (fun _ k => XS.aloadN X1.here hx rfl (hb hby d8_4) rfl rfl k) ?_
  show Go _ _ _ _ _ _ _ (T1.setTop (mkF m 5 #[.val (.ref o0), .val (.int p1), .val (.int p2)] [(.ref o0), (.int (1 : Int32))]))
  obtain ⟨T2, X2, e2, st2⟩ := getF X1 hx hZ hown (host := "") (Or.inl (hw _ (List.mem_of_getElem? (i := 12) rfl))) Via.refl e1 F_documents (g := (mkF m 5 #[.val (.ref o0), .val (.int p1), .val (.int p2)] [(.ref o0), (.int (1 : Int32))])) rfl rfl (hb hby d8_5)
  refine gob st2 ?_
  show Go _ _ _ _ _ _ _ (T2.setTop (mkF m 8 #[.val (.ref o0), .val (.int p1), .val (.int p2)] [(.ref w_d), (.int (1 : Int32))]))
  obtain ⟨cl3, Ar3, aq3, S3, N3, H3, G3⟩ := id V_d
  refine gob (X2.arraylength hx (by rw [e2]; exact Ar3.1) (State.isArrayOf_alike hZ.alike Ar3.2.1) (g := (mkF m 8 #[.val (.ref o0), .val (.int p1), .val (.int p2)] [(.ref w_d), (.int (1 : Int32))])) rfl rfl (hb hby d8_8)) ?_
  rw [len_of S3 N3]
  show Go _ _ _ _ _ _ _ (T2.setTop (mkF m 9 #[.val (.ref o0), .val (.int p1), .val (.int p2)] [(.int (1 : Int32)), (.int (1 : Int32))]))
  refine gob (fun _ k => XS.icmpNo X2.here hx rfl (hb hby d8_9) rfl (teq (by decide : (1 : Int32) = (1 : Int32))).2 k) ?_
  show Go _ _ _ _ _ _ _ (T2.setTop (mkF m 12 #[.val (.ref o0), .val (.int p1), .val (.int p2)] []))
  refine gob (fun _ k => XS.aloadN X2.here hx rfl (hb hby d8_12) rfl rfl k) ?_
  show Go _ _ _ _ _ _ _ (T2.setTop (mkF m 13 #[.val (.ref o0), .val (.int p1), .val (.int p2)] [(.ref o0)]))
  refine gob (fun _ k => XS.aloadN X2.here hx rfl (hb hby d8_13) rfl rfl k) ?_
  show Go _ _ _ _ _ _ _ (T2.setTop (mkF m 14 #[.val (.ref o0), .val (.int p1), .val (.int p2)] [(.ref o0), (.ref o0)]))
  obtain ⟨T4, X4, e4, st4⟩ := getF X2 hx hZ hown (host := "") (Or.inl (hw _ (List.mem_of_getElem? (i := 12) rfl))) Via.refl e2 F_documents (g := (mkF m 14 #[.val (.ref o0), .val (.int p1), .val (.int p2)] [(.ref o0), (.ref o0)])) rfl rfl (hb hby d8_14)
  refine gob st4 ?_
  show Go _ _ _ _ _ _ _ (T4.setTop (mkF m 17 #[.val (.ref o0), .val (.int p1), .val (.int p2)] [(.ref w_d), (.ref o0)]))
  refine gob (fun _ k => XS.aloadN X4.here hx rfl (hb hby d8_17) rfl rfl k) ?_
  show Go _ _ _ _ _ _ _ (T4.setTop (mkF m 18 #[.val (.ref o0), .val (.int p1), .val (.int p2)] [(.ref o0), (.ref w_d), (.ref o0)]))
  obtain ⟨T5, X5, e5, st5⟩ := getF X4 hx hZ hown (host := "") (Or.inl (hw _ (List.mem_of_getElem? (i := 21) rfl))) Via.refl e4 F_size (g := (mkF m 18 #[.val (.ref o0), .val (.int p1), .val (.int p2)] [(.ref o0), (.ref w_d), (.ref o0)])) rfl rfl (hb hby d8_18)
  refine gob st5 ?_
  show Go _ _ _ _ _ _ _ (T5.setTop (mkF m 21 #[.val (.ref o0), .val (.int p1), .val (.int p2)] [(.int (1 : Int32)), (.ref w_d), (.ref o0)]))
  refine gob (fun _ k => XS.iconst X5.here hx rfl (hb hby d8_21) k) ?_
  show Go _ _ _ _ _ _ _ (T5.setTop (mkF m 22 #[.val (.ref o0), .val (.int p1), .val (.int p2)] [(.int (2 : Int32)), (.int (1 : Int32)), (.ref w_d), (.ref o0)]))
  refine gob (fun _ k => XS.imul X5.here hx rfl (hb hby d8_22) rfl k) ?_
  show Go _ _ _ _ _ _ _ (T5.setTop (mkF m 23 #[.val (.ref o0), .val (.int p1), .val (.int p2)] [(.int (2 : Int32)), (.ref w_d), (.ref o0)]))
  obtain ⟨_, _, ⟨T6, L6, k6, n6⟩, -, X6, ⟨Lc6, hQ6, l6, y6, z6⟩, st6⟩ := Jvm.LawKit.callS X5 hx (y := (⟨"java/util/Arrays", "copyOf", "([II)[I"⟩ : MethodName)) hown (mvT hZ (hw _ (List.mem_of_getElem? (i := 23) rfl))) (mvT hZ (hw _ (List.mem_of_getElem? (i := 24) rfl))) (mvT hZ (hw _ (List.mem_of_getElem? (i := 25) rfl))) (mvT hZ (hw _ (List.mem_of_getElem? (i := 26) rfl))) (by decide) (backOf (W := 1) (rmcp_1_1_2 l Z a0 hw [] w_d k_d d0 h0 n0 Z0 V_d E_d) hZ (hw _ (List.mem_of_getElem? (i := 26) rfl)) (hw _ (List.mem_of_getElem? (i := 25) rfl)) (by decide) (by decide)) (g := (mkF m 23 #[.val (.ref o0), .val (.int p1), .val (.int p2)] [(.int (2 : Int32)), (.ref w_d), (.ref o0)])) rfl (by rw [hml]; rfl) (argsL := [(.ref w_d), (.int (2 : Int32))]) (rest := [(.ref o0)]) (lenOf pd_1 rfl) rfl (by show 2 * 0 + _ ≤ _; exact Nat.le_of_eq rfl) (hb hby d8_23) (fun _ _ => ⟨rfl, e5, (by decide : 0 + 1 ≤ _), (by decide : 0 + 2 ≤ _)⟩)
  dsimp only [Pt.U, Pt.locs, Pt.cells, Pt.slots] at X6 l6 y6 z6 st6 hQ6
  subst l6 y6 z6
  obtain ⟨b7, k8, rfl, Nq6, K6, hz9, F10, F11⟩ := hQ6
  have N6 := Fr.app N0 Nq6
  have n12 : o0 ≠ b7 := Nat.ne_of_lt (Nat.lt_of_lt_of_le F_documents.lt hz9)
  have n13 : w_d ≠ b7 := Nat.ne_of_lt (Nat.lt_of_lt_of_le V_d.lt hz9)
  have n14 : w_f ≠ b7 := Nat.ne_of_lt (Nat.lt_of_lt_of_le V_f.lt hz9)
  have g15 : n0 ≤ b7 := Nat.le_trans Z0 hz9
  have sz_b7 : h0.size ≤ b7 := Nat.le_trans (Keep.refl h0 []).1 hz9
  have z16 : n0 ≤ T6.heap.size := Nat.le_trans Z0 K6.1
  have K17 : Keep h0 T6.heap ([o0] : List Addr) := (Keep.refl h0 ([o0] : List Addr)).trans K6 all0
  refine gob st6 ?_
  show Go _ _ _ _ _ _ _ (T6.setTop (mkF m 26 #[.val (.ref o0), .val (.int p1), .val (.int p2)] [(.ref b7), (.ref o0)]))
  have c18 := (F_documents.keep K6 nin0)
  have c19 := (E_o0.keep K6)
  obtain ⟨T20, h20, X20, e20, W20, st20⟩ := putF X6 hx hZ hown (host := "") (Or.inl (hw _ (List.mem_of_getElem? (i := 12) rfl))) Via.refl (rfl : T6.heap = _) c18 c19 (Or.inl (hw _ (List.mem_of_getElem? (i := 13) rfl))) (hw _ (List.mem_of_getElem? (i := 3) rfl)) (ty := (.array .int)) (by decide) rfl rfl (g := (mkF m 26 #[.val (.ref o0), .val (.int p1), .val (.int p2)] [(.ref b7), (.ref o0)])) rfl rfl (hb hby d8_26)
  refine gob st20 ?_
  have z21 : n0 ≤ h20.size := Nat.le_trans z16 (Keep.of_wr W20).1
  have N20 := Fr.snoc X20 N6 g_o0
  have K22 : Keep h0 h20 ([o0] : List Addr) := K17.wr W20 (Or.inl (List.mem_of_getElem? (i := 0) rfl))
  have Fw20 := c18.same W20
  show Go _ _ _ _ _ _ _ (T20.setTop (mkF m 29 #[.val (.ref o0), .val (.int p1), .val (.int p2)] []))
  refine gob (fun _ k => XS.aloadN X20.here hx rfl (hb hby d8_29) rfl rfl k) ?_
  show Go _ _ _ _ _ _ _ (T20.setTop (mkF m 30 #[.val (.ref o0), .val (.int p1), .val (.int p2)] [(.ref o0)]))
  refine gob (fun _ k => XS.aloadN X20.here hx rfl (hb hby d8_30) rfl rfl k) ?_
  show Go _ _ _ _ _ _ _ (T20.setTop (mkF m 31 #[.val (.ref o0), .val (.int p1), .val (.int p2)] [(.ref o0), (.ref o0)]))
  have c23 := ((F_frequencies.keep K6 nin0).other W20 (Or.inr (slot_ne (Or.inl (hw _ (List.mem_of_getElem? (i := 15) rfl))) (Or.inl (hw _ (List.mem_of_getElem? (i := 13) rfl))) (by decide) (t := (.array .int)) (t' := (.array .int)) (by decide) (by decide))))
  obtain ⟨T24, X24, e24, st24⟩ := getF X20 hx hZ hown (host := "") (Or.inl (hw _ (List.mem_of_getElem? (i := 14) rfl))) Via.refl e20 c23 (g := (mkF m 31 #[.val (.ref o0), .val (.int p1), .val (.int p2)] [(.ref o0), (.ref o0)])) rfl rfl (hb hby d8_31)
  refine gob st24 ?_
  show Go _ _ _ _ _ _ _ (T24.setTop (mkF m 34 #[.val (.ref o0), .val (.int p1), .val (.int p2)] [(.ref w_f), (.ref o0)]))
  refine gob (fun _ k => XS.aloadN X24.here hx rfl (hb hby d8_34) rfl rfl k) ?_
  show Go _ _ _ _ _ _ _ (T24.setTop (mkF m 35 #[.val (.ref o0), .val (.int p1), .val (.int p2)] [(.ref o0), (.ref w_f), (.ref o0)]))
  have c25 := ((F_size.keep K6 nin0).other W20 (Or.inr (slot_ne (Or.inl (hw _ (List.mem_of_getElem? (i := 22) rfl))) (Or.inl (hw _ (List.mem_of_getElem? (i := 13) rfl))) (by decide) (t := .int) (t' := (.array .int)) (by decide) (by decide))))
  obtain ⟨T26, X26, e26, st26⟩ := getF X24 hx hZ hown (host := "") (Or.inl (hw _ (List.mem_of_getElem? (i := 21) rfl))) Via.refl e24 c25 (g := (mkF m 35 #[.val (.ref o0), .val (.int p1), .val (.int p2)] [(.ref o0), (.ref w_f), (.ref o0)])) rfl rfl (hb hby d8_35)
  refine gob st26 ?_
  show Go _ _ _ _ _ _ _ (T26.setTop (mkF m 38 #[.val (.ref o0), .val (.int p1), .val (.int p2)] [(.int (1 : Int32)), (.ref w_f), (.ref o0)]))
  refine gob (fun _ k => XS.iconst X26.here hx rfl (hb hby d8_38) k) ?_
  show Go _ _ _ _ _ _ _ (T26.setTop (mkF m 39 #[.val (.ref o0), .val (.int p1), .val (.int p2)] [(.int (2 : Int32)), (.int (1 : Int32)), (.ref w_f), (.ref o0)]))
  refine gob (fun _ k => XS.imul X26.here hx rfl (hb hby d8_39) rfl k) ?_
  show Go _ _ _ _ _ _ _ (T26.setTop (mkF m 40 #[.val (.ref o0), .val (.int p1), .val (.int p2)] [(.int (2 : Int32)), (.ref w_f), (.ref o0)]))
  have c28 := ((V_f.keep K6 nin0).other W20 (Ne.symm ne_o0_w_f))
  have c29 := ((E_f.keep K6).wr W20)
  obtain ⟨_, _, ⟨T27, L27, k27, n27⟩, -, X27, ⟨Lc27, hQ27, l27, y27, z27⟩, st27⟩ := Jvm.LawKit.callS X26 hx (y := (⟨"java/util/Arrays", "copyOf", "([II)[I"⟩ : MethodName)) hown (mvT hZ (hw _ (List.mem_of_getElem? (i := 23) rfl))) (mvT hZ (hw _ (List.mem_of_getElem? (i := 24) rfl))) (mvT hZ (hw _ (List.mem_of_getElem? (i := 25) rfl))) (mvT hZ (hw _ (List.mem_of_getElem? (i := 26) rfl))) (by decide) (backOf (W := 1) (rmcp_1_1_2 l Z a0 hw [] w_f k_f f0 h20 n0 z21 c28 c29) hZ (hw _ (List.mem_of_getElem? (i := 26) rfl)) (hw _ (List.mem_of_getElem? (i := 25) rfl)) (by decide) (by decide)) (g := (mkF m 40 #[.val (.ref o0), .val (.int p1), .val (.int p2)] [(.int (2 : Int32)), (.ref w_f), (.ref o0)])) rfl (by rw [hml]; rfl) (argsL := [(.ref w_f), (.int (2 : Int32))]) (rest := [(.ref o0)]) (lenOf pd_1 rfl) rfl (by show 2 * 0 + _ ≤ _; exact Nat.le_of_eq rfl) (hb hby d8_40) (fun _ _ => ⟨rfl, e26, (by decide : 1 + 1 ≤ _), (by decide : 2 + 2 ≤ _)⟩)
  dsimp only [Pt.U, Pt.locs, Pt.cells, Pt.slots] at X27 l27 y27 z27 st27 hQ27
  subst l27 y27 z27
  obtain ⟨b30, k31, rfl, Nq27, K27, hz32, F33, F34⟩ := hQ27
  have N27 := Fr.app N20 Nq27
  have n35 : o0 ≠ b30 := Nat.ne_of_lt (Nat.lt_of_lt_of_le Fw20.lt hz32)
  have c37 := ((V_d.keep K6 nin0).other W20 (Ne.symm ne_o0_w_d))
  have n36 : w_d ≠ b30 := Nat.ne_of_lt (Nat.lt_of_lt_of_le c37.lt hz32)
  have n38 : w_f ≠ b30 := Nat.ne_of_lt (Nat.lt_of_lt_of_le c28.lt hz32)
  have c40 := (F10.wr W20)
  have n39 : b7 ≠ b30 := Nat.ne_of_lt (Nat.lt_of_lt_of_le c40.lt hz32)
  have g41 : n0 ≤ b30 := Nat.le_trans z21 hz32
  have sz_b30 : h0.size ≤ b30 := Nat.le_trans K22.1 hz32
  have z42 : n0 ≤ T27.heap.size := Nat.le_trans z21 K27.1
  have K43 : Keep h0 T27.heap ([o0] : List Addr) := K22.trans K27 all0
  refine gob st27 ?_
  show Go _ _ _ _ _ _ _ (T27.setTop (mkF m 43 #[.val (.ref o0), .val (.int p1), .val (.int p2)] [(.ref b30), (.ref o0)]))
  have c44 := (c23.keep K27 nin0)
  have c45 := ((c19.wr W20).keep K27)
  obtain ⟨T46, h46, X46, e46, W46, st46⟩ := putF X27 hx hZ hown (host := "") (Or.inl (hw _ (List.mem_of_getElem? (i := 14) rfl))) Via.refl (rfl : T27.heap = _) c44 c45 (Or.inl (hw _ (List.mem_of_getElem? (i := 15) rfl))) (hw _ (List.mem_of_getElem? (i := 3) rfl)) (ty := (.array .int)) (by decide) rfl rfl (g := (mkF m 43 #[.val (.ref o0), .val (.int p1), .val (.int p2)] [(.ref b30), (.ref o0)])) rfl rfl (hb hby d8_43)
  refine gob st46 ?_
  have z47 : n0 ≤ h46.size := Nat.le_trans z42 (Keep.of_wr W46).1
  have N46 := Fr.snoc X46 N27 g_o0
  have K48 : Keep h0 h46 ([o0] : List Addr) := K43.wr W46 (Or.inl (List.mem_of_getElem? (i := 0) rfl))
  have Fw46 := c44.same W46
  show Go _ _ _ _ _ _ _ (T46.setTop (mkF m 46 #[.val (.ref o0), .val (.int p1), .val (.int p2)] []))
  refine gob (fun _ k => XS.aloadN X46.here hx rfl (hb hby d8_46) rfl rfl k) ?_
  show Go _ _ _ _ _ _ _ (T46.setTop (mkF m 47 #[.val (.ref o0), .val (.int p1), .val (.int p2)] [(.ref o0)]))
  have c49 := ((Fw20.keep K27 nin0).other W46 (Or.inr (slot_ne (Or.inl (hw _ (List.mem_of_getElem? (i := 13) rfl))) (Or.inl (hw _ (List.mem_of_getElem? (i := 15) rfl))) (by decide) (t := (.array .int)) (t' := (.array .int)) (by decide) (by decide))))
  obtain ⟨T50, X50, e50, st50⟩ := getF X46 hx hZ hown (host := "") (Or.inl (hw _ (List.mem_of_getElem? (i := 12) rfl))) Via.refl e46 c49 (g := (mkF m 47 #[.val (.ref o0), .val (.int p1), .val (.int p2)] [(.ref o0)])) rfl rfl (hb hby d8_47)
  refine gob st50 ?_
  show Go _ _ _ _ _ _ _ (T50.setTop (mkF m 50 #[.val (.ref o0), .val (.int p1), .val (.int p2)] [(.ref b7)]))
  refine gob (fun _ k => XS.aloadN X50.here hx rfl (hb hby d8_50) rfl rfl k) ?_
  show Go _ _ _ _ _ _ _ (T50.setTop (mkF m 51 #[.val (.ref o0), .val (.int p1), .val (.int p2)] [(.ref o0), (.ref b7)]))
  have c51 := ((c25.keep K27 nin0).other W46 (Or.inr (slot_ne (Or.inl (hw _ (List.mem_of_getElem? (i := 22) rfl))) (Or.inl (hw _ (List.mem_of_getElem? (i := 15) rfl))) (by decide) (t := .int) (t' := (.array .int)) (by decide) (by decide))))
  obtain ⟨T52, X52, e52, st52⟩ := getF X50 hx hZ hown (host := "") (Or.inl (hw _ (List.mem_of_getElem? (i := 21) rfl))) Via.refl e50 c51 (g := (mkF m 51 #[.val (.ref o0), .val (.int p1), .val (.int p2)] [(.ref o0), (.ref b7)])) rfl rfl (hb hby d8_51)
  refine gob st52 ?_
  show Go _ _ _ _ _ _ _ (T52.setTop (mkF m 54 #[.val (.ref o0), .val (.int p1), .val (.int p2)] [(.int (1 : Int32)), (.ref b7)]))
  refine gob (fun _ k => XS.iloadN X52.here hx rfl (hb hby d8_54) rfl k) ?_
  show Go _ _ _ _ _ _ _ (T52.setTop (mkF m 55 #[.val (.ref o0), .val (.int p1), .val (.int p2)] [(.int p1), (.int (1 : Int32)), (.ref b7)]))
  have c54 := (((F11.other W20 (Ne.symm n12)).keep K27 nin0).other W46 (Ne.symm n12))
  obtain ⟨cl53, Ar53, aq53, S53, N53, H53, G53⟩ := id c54
  have hin53 : ¬ ((1 : Int32) < 0 ∨ cl53.slots.size ≤ ((1 : Int32)).toNatClampNeg) := inb_of S53 ⟨by decide, by decide⟩
  obtain ⟨T55, h55, X55, e55, W55, st55⟩ := stI X52 hx hZ e52 Ar53 (j := (1 : Int32)) hin53 (g := (mkF m 55 #[.val (.ref o0), .val (.int p1), .val (.int p2)] [(.int p1), (.int (1 : Int32)), (.ref b7)])) rfl rfl (hb hby d8_55)
  refine gob st55 ?_
  have z56 : n0 ≤ h55.size := Nat.le_trans z47 (Keep.of_wr W55).1
  have N55 := Fr.snoc X55 N46 g15
  have K57 : Keep h0 h55 ([o0] : List Addr) := K48.wr W55 (Or.inr sz_b7)
  have V55 : Arv Z h55 b7 k8 .int (2 : Int32) [(.int d0), (.int p1)] (.int (0 : Int32)) := Arv.set Ar53 aq53 S53 N53 H53 G53 rfl W55 1 rfl (Nat.le_of_ble_eq_true rfl)
  show Go _ _ _ _ _ _ _ (T55.setTop (mkF m 56 #[.val (.ref o0), .val (.int p1), .val (.int p2)] []))
  refine gob (fun _ k => XS.aloadN X55.here hx rfl (hb hby d8_56) rfl rfl k) ?_
  show Go _ _ _ _ _ _ _ (T55.setTop (mkF m 57 #[.val (.ref o0), .val (.int p1), .val (.int p2)] [(.ref o0)]))
  have c58 := (Fw46.other W55 (Or.inl n12))
  obtain ⟨T59, X59, e59, st59⟩ := getF X55 hx hZ hown (host := "") (Or.inl (hw _ (List.mem_of_getElem? (i := 14) rfl))) Via.refl e55 c58 (g := (mkF m 57 #[.val (.ref o0), .val (.int p1), .val (.int p2)] [(.ref o0)])) rfl rfl (hb hby d8_57)
  refine gob st59 ?_
  show Go _ _ _ _ _ _ _ (T59.setTop (mkF m 60 #[.val (.ref o0), .val (.int p1), .val (.int p2)] [(.ref b30)]))
  refine gob (fun _ k => XS.aloadN X59.here hx rfl (hb hby d8_60) rfl rfl k) ?_
  show Go _ _ _ _ _ _ _ (T59.setTop (mkF m 61 #[.val (.ref o0), .val (.int p1), .val (.int p2)] [(.ref o0), (.ref b30)]))
  have c60 := (c51.other W55 (Or.inl n12))
  obtain ⟨T61, X61, e61, st61⟩ := getF X59 hx hZ hown (host := "") (Or.inl (hw _ (List.mem_of_getElem? (i := 21) rfl))) Via.refl e59 c60 (g := (mkF m 61 #[.val (.ref o0), .val (.int p1), .val (.int p2)] [(.ref o0), (.ref b30)])) rfl rfl (hb hby d8_61)
  refine gob st61 ?_
  show Go _ _ _ _ _ _ _ (T61.setTop (mkF m 64 #[.val (.ref o0), .val (.int p1), .val (.int p2)] [(.int (1 : Int32)), (.ref b30)]))
  refine gob (fun _ k => XS.iloadN X61.here hx rfl (hb hby d8_64) rfl k) ?_
  show Go _ _ _ _ _ _ _ (T61.setTop (mkF m 65 #[.val (.ref o0), .val (.int p1), .val (.int p2)] [(.int p2), (.int (1 : Int32)), (.ref b30)]))
  have c63 := ((F34.other W46 (Ne.symm n35)).other W55 (Ne.symm n39))
  obtain ⟨cl62, Ar62, aq62, S62, N62, H62, G62⟩ := id c63
  have hin62 : ¬ ((1 : Int32) < 0 ∨ cl62.slots.size ≤ ((1 : Int32)).toNatClampNeg) := inb_of S62 ⟨by decide, by decide⟩
  obtain ⟨T64, h64, X64, e64, W64, st64⟩ := stI X61 hx hZ e61 Ar62 (j := (1 : Int32)) hin62 (g := (mkF m 65 #[.val (.ref o0), .val (.int p1), .val (.int p2)] [(.int p2), (.int (1 : Int32)), (.ref b30)])) rfl rfl (hb hby d8_65)
  refine gob st64 ?_
  have z65 : n0 ≤ h64.size := Nat.le_trans z56 (Keep.of_wr W64).1
  have N64 := Fr.snoc X64 N55 g41
  have K66 : Keep h0 h64 ([o0] : List Addr) := K57.wr W64 (Or.inr sz_b30)
  have V64 : Arv Z h64 b30 k31 .int (2 : Int32) [(.int f0), (.int p2)] (.int (0 : Int32)) := Arv.set Ar62 aq62 S62 N62 H62 G62 rfl W64 1 rfl (Nat.le_of_ble_eq_true rfl)
  show Go _ _ _ _ _ _ _ (T64.setTop (mkF m 66 #[.val (.ref o0), .val (.int p1), .val (.int p2)] []))
  refine gob (fun _ k => XS.aloadN X64.here hx rfl (hb hby d8_66) rfl rfl k) ?_
  show Go _ _ _ _ _ _ _ (T64.setTop (mkF m 67 #[.val (.ref o0), .val (.int p1), .val (.int p2)] [(.ref o0)]))
  refine gob (fun _ k => XS.dup X64.here hx rfl (hb hby d8_67) rfl rfl k) ?_
  show Go _ _ _ _ _ _ _ (T64.setTop (mkF m 68 #[.val (.ref o0), .val (.int p1), .val (.int p2)] [(.ref o0), (.ref o0)]))
  have c67 := (c60.other W64 (Or.inl n35))
  obtain ⟨T68, X68, e68, st68⟩ := getF X64 hx hZ hown (host := "") (Or.inl (hw _ (List.mem_of_getElem? (i := 21) rfl))) Via.refl e64 c67 (g := (mkF m 68 #[.val (.ref o0), .val (.int p1), .val (.int p2)] [(.ref o0), (.ref o0)])) rfl rfl (hb hby d8_68)
  refine gob st68 ?_
  show Go _ _ _ _ _ _ _ (T68.setTop (mkF m 71 #[.val (.ref o0), .val (.int p1), .val (.int p2)] [(.int (1 : Int32)), (.ref o0)]))
  refine gob (fun _ k => XS.iconst X68.here hx rfl (hb hby d8_71) k) ?_
  show Go _ _ _ _ _ _ _ (T68.setTop (mkF m 72 #[.val (.ref o0), .val (.int p1), .val (.int p2)] [(.int (1 : Int32)), (.int (1 : Int32)), (.ref o0)]))
  refine gob (fun _ k => XS.iadd X68.here hx rfl (hb hby d8_72) rfl k) ?_
  show Go _ _ _ _ _ _ _ (T68.setTop (mkF m 73 #[.val (.ref o0), .val (.int p1), .val (.int p2)] [(.int (2 : Int32)), (.ref o0)]))
  have c69 := (((c45.wr W46).wr W55).wr W64)
  obtain ⟨T70, h70, X70, e70, W70, st70⟩ := putF X68 hx hZ hown (host := "") (Or.inl (hw _ (List.mem_of_getElem? (i := 21) rfl))) Via.refl e68 c67 c69 (Or.inl (hw _ (List.mem_of_getElem? (i := 22) rfl))) (hw _ (List.mem_of_getElem? (i := 3) rfl)) (ty := .int) (by decide) rfl rfl (g := (mkF m 73 #[.val (.ref o0), .val (.int p1), .val (.int p2)] [(.int (2 : Int32)), (.ref o0)])) rfl rfl (hb hby d8_73)
  refine gob st70 ?_
  have z71 : n0 ≤ h70.size := Nat.le_trans z65 (Keep.of_wr W70).1
  have N70 := Fr.snoc X70 N64 g_o0
  have K72 : Keep h0 h70 ([o0] : List Addr) := K66.wr W70 (Or.inl (List.mem_of_getElem? (i := 0) rfl))
  have Fw70 := c67.same W70
  show Go _ _ _ _ _ _ _ (T70.setTop (mkF m 76 #[.val (.ref o0), .val (.int p1), .val (.int p2)] []))
  refine gob (fun _ k => XS.aloadN X70.here hx rfl (hb hby d8_76) rfl rfl k) ?_
  show Go _ _ _ _ _ _ _ (T70.setTop (mkF m 77 #[.val (.ref o0), .val (.int p1), .val (.int p2)] [(.ref o0)]))
  refine gob (fun _ k => XS.dup X70.here hx rfl (hb hby d8_77) rfl rfl k) ?_
  show Go _ _ _ _ _ _ _ (T70.setTop (mkF m 78 #[.val (.ref o0), .val (.int p1), .val (.int p2)] [(.ref o0), (.ref o0)]))
  have c73 := (((((((F_collectionFrequency.keep K6 nin0).other W20 (Or.inr (slot_ne (Or.inl (hw _ (List.mem_of_getElem? (i := 46) rfl))) (Or.inl (hw _ (List.mem_of_getElem? (i := 13) rfl))) (by decide) (t := .long) (t' := (.array .int)) (by decide) (by decide)))).keep K27 nin0).other W46 (Or.inr (slot_ne (Or.inl (hw _ (List.mem_of_getElem? (i := 46) rfl))) (Or.inl (hw _ (List.mem_of_getElem? (i := 15) rfl))) (by decide) (t := .long) (t' := (.array .int)) (by decide) (by decide)))).other W55 (Or.inl n12)).other W64 (Or.inl n35)).other W70 (Or.inr (slot_ne (Or.inl (hw _ (List.mem_of_getElem? (i := 46) rfl))) (Or.inl (hw _ (List.mem_of_getElem? (i := 22) rfl))) (by decide) (t := .long) (t' := .int) (by decide) (by decide))))
  obtain ⟨T74, X74, e74, st74⟩ := getF X70 hx hZ hown (host := "") (Or.inl (hw _ (List.mem_of_getElem? (i := 45) rfl))) Via.refl e70 c73 (g := (mkF m 78 #[.val (.ref o0), .val (.int p1), .val (.int p2)] [(.ref o0), (.ref o0)])) rfl rfl (hb hby d8_78)
  refine gob st74 ?_
  show Go _ _ _ _ _ _ _ (T74.setTop (mkF m 81 #[.val (.ref o0), .val (.int p1), .val (.int p2)] [(.long q_c), (.ref o0)]))
  refine gob (fun _ k => XS.iloadN X74.here hx rfl (hb hby d8_81) rfl k) ?_
  show Go _ _ _ _ _ _ _ (T74.setTop (mkF m 82 #[.val (.ref o0), .val (.int p1), .val (.int p2)] [(.int p2), (.long q_c), (.ref o0)]))
  refine gob (fun _ k => XS.i2l X74.here hx rfl (hb hby d8_82) rfl k) ?_
  show Go _ _ _ _ _ _ _ (T74.setTop (mkF m 83 #[.val (.ref o0), .val (.int p1), .val (.int p2)] [(.long (p2.toInt64)), (.long q_c), (.ref o0)]))
  refine gob (fun _ k => XS.ladd X74.here hx rfl (hb hby d8_83) rfl k) ?_
  show Go _ _ _ _ _ _ _ (T74.setTop (mkF m 84 #[.val (.ref o0), .val (.int p1), .val (.int p2)] [(.long (q_c + (p2.toInt64))), (.ref o0)]))
  have c75 := (c69.wr W70)
  obtain ⟨T76, h76, X76, e76, W76, st76⟩ := putF X74 hx hZ hown (host := "") (Or.inl (hw _ (List.mem_of_getElem? (i := 45) rfl))) Via.refl e74 c73 c75 (Or.inl (hw _ (List.mem_of_getElem? (i := 46) rfl))) (hw _ (List.mem_of_getElem? (i := 3) rfl)) (ty := .long) (by decide) rfl rfl (g := (mkF m 84 #[.val (.ref o0), .val (.int p1), .val (.int p2)] [(.long (q_c + (p2.toInt64))), (.ref o0)])) rfl rfl (hb hby d8_84)
  refine gob st76 ?_
  have z77 : n0 ≤ h76.size := Nat.le_trans z71 (Keep.of_wr W76).1
  have N76 := Fr.snoc X76 N70 g_o0
  have K78 : Keep h0 h76 ([o0] : List Addr) := K72.wr W76 (Or.inl (List.mem_of_getElem? (i := 0) rfl))
  have Fw76 := c73.same W76
  show Go _ _ _ _ _ _ _ (T76.setTop (mkF m 87 #[.val (.ref o0), .val (.int p1), .val (.int p2)] []))
  refine goV X76 hx hlk Bd.returns (hb hby d8_87) ?_ (by decide) (by decide)
  show Qadd_1_1 Z o0 p1 p2 w_d k_d d0 w_f k_f f0 q_c h0 n0 (none) T76.heap _
  have c79 := ((((c49.other W55 (Or.inl n12)).other W64 (Or.inl n35)).other W70 (Or.inr (slot_ne (Or.inl (hw _ (List.mem_of_getElem? (i := 13) rfl))) (Or.inl (hw _ (List.mem_of_getElem? (i := 22) rfl))) (by decide) (t := (.array .int)) (t' := .int) (by decide) (by decide)))).other W76 (Or.inr (slot_ne (Or.inl (hw _ (List.mem_of_getElem? (i := 13) rfl))) (Or.inl (hw _ (List.mem_of_getElem? (i := 46) rfl))) (by decide) (t := (.array .int)) (t' := .long) (by decide) (by decide))))
  have c80 := (((c58.other W64 (Or.inl n35)).other W70 (Or.inr (slot_ne (Or.inl (hw _ (List.mem_of_getElem? (i := 15) rfl))) (Or.inl (hw _ (List.mem_of_getElem? (i := 22) rfl))) (by decide) (t := (.array .int)) (t' := .int) (by decide) (by decide)))).other W76 (Or.inr (slot_ne (Or.inl (hw _ (List.mem_of_getElem? (i := 15) rfl))) (Or.inl (hw _ (List.mem_of_getElem? (i := 46) rfl))) (by decide) (t := (.array .int)) (t' := .long) (by decide) (by decide))))
  have c81 := (Fw70.other W76 (Or.inr (slot_ne (Or.inl (hw _ (List.mem_of_getElem? (i := 22) rfl))) (Or.inl (hw _ (List.mem_of_getElem? (i := 46) rfl))) (by decide) (t := .int) (t' := .long) (by decide) (by decide))))
  have c82 := ((((((c40.keep K27).wr W46).wr W55).wr W64).wr W70).wr W76)
  have c83 := (((V55.other W64 n39).other W70 (Ne.symm n12)).other W76 (Ne.symm n12))
  have c84 := (((((F33.wr W46).wr W55).wr W64).wr W70).wr W76)
  have c85 := ((V64.other W70 (Ne.symm n35)).other W76 (Ne.symm n35))
  rw [e76]
  exact ⟨b7, b30, k8, k31, rfl, N76, K78, sz_b7, sz_b30, n39, c79, c80, c81, Fw76, c82, c83, c84, c85⟩
theorem ef_add_3_3 (m : MethodId) (x0 : Addr) (x1 : Int32) (x2 : Int32) : entryFrame m #[(.ref x0), (.int x1), (.int x2)] 3 = mkF m 0 #[.val (.ref x0), .val (.int x1), .val (.int x2)] [] := by first | (simp [entryFrame, mkF, argsToLocals, Value.category]; done) | rfl
def Qadd_3_3 (Z : State) (o0 : Addr) (p1 : Int32) (p2 : Int32) (w_d : Addr) (k_d : ClassId) (d0 : Int32) (d1 : Int32) (d2 : Int32) (w_f : Addr) (k_f : ClassId) (f0 : Int32) (f1 : Int32) (f2 : Int32) (q_c : Int64) (h0 : Heap) (n0 : Nat) (v : Option Value) (h : Heap) (L : List Loc) : Prop := ∃ b7 : Addr, ∃ b30 : Addr, ∃ k8 : ClassId, ∃ k31 : ClassId, v = none ∧ Fr n0 L ∧ Keep h0 h ([o0] : List Addr) ∧ h0.size ≤ b7 ∧ h0.size ≤ b30 ∧ b7 ≠ b30 ∧ Fld Z h o0 "com/example/robust_broker/robustbroker/Postings" "documents" "[I" (.ref b7) ∧ Fld Z h o0 "com/example/robust_broker/robustbroker/Postings" "frequencies" "[I" (.ref b30) ∧ Fld Z h o0 "com/example/robust_broker/robustbroker/Postings" "size" "I" (.int (4 : Int32)) ∧ Fld Z h o0 "com/example/robust_broker/robustbroker/Postings" "collectionFrequency" "J" (.long (q_c + (p2.toInt64))) ∧ Exa Z h b7 "[I" ∧ Arv Z h b7 k8 .int (6 : Int32) [(.int d0), (.int d1), (.int d2), (.int p1), (.int (0 : Int32)), (.int (0 : Int32))] (.int (0 : Int32)) ∧ Exa Z h b30 "[I" ∧ Arv Z h b30 k31 .int (6 : Int32) [(.int f0), (.int f1), (.int f2), (.int p2), (.int (0 : Int32)), (.int (0 : Int32))] (.int (0 : Int32))
set_option maxRecDepth 65536 in
set_option maxHeartbeats 40000000 in
theorem rmadd_3_3 (l : Launch) (Z : State) (a0 : Array Value) (hw : ∀ d ∈ tables_1, d.before a0 Z = true) (ws : List Jvm.Cond) (o0 : Addr) (p1 : Int32) (p2 : Int32) (w_d : Addr) (k_d : ClassId) (d0 : Int32) (d1 : Int32) (d2 : Int32) (w_f : Addr) (k_f : ClassId) (f0 : Int32) (f1 : Int32) (f2 : Int32) (q_c : Int64) (h0 : Heap) (n0 : Nat) (Z0 : n0 ≤ h0.size) (F_documents : Fld Z h0 o0 "com/example/robust_broker/robustbroker/Postings" "documents" "[I" (.ref w_d)) (V_d : Arv Z h0 w_d k_d .int (3 : Int32) [(.int d0), (.int d1), (.int d2)] (.int (0 : Int32))) (E_d : Exa Z h0 w_d "[I") (F_frequencies : Fld Z h0 o0 "com/example/robust_broker/robustbroker/Postings" "frequencies" "[I" (.ref w_f)) (V_f : Arv Z h0 w_f k_f .int (3 : Int32) [(.int f0), (.int f1), (.int f2)] (.int (0 : Int32))) (E_f : Exa Z h0 w_f "[I") (F_size : Fld Z h0 o0 "com/example/robust_broker/robustbroker/Postings" "size" "I" (.int (3 : Int32))) (F_collectionFrequency : Fld Z h0 o0 "com/example/robust_broker/robustbroker/Postings" "collectionFrequency" "J" (.long q_c)) (ne_o0_w_d : o0 ≠ w_d) (ne_o0_w_f : o0 ≠ w_f) (ne_w_d_w_f : w_d ≠ w_f) (E_o0 : Exa Z h0 o0 "com/example/robust_broker/robustbroker/Postings") (g_o0 : n0 ≤ o0) :
    MetFree l (⟨"com/example/robust_broker/robustbroker/Postings", "add", "(II)V"⟩ : MethodName) (head1 (Jvm.Cond.code (⟨"com/example/robust_broker/robustbroker/Postings", "add", "(II)V"⟩ : MethodName) prog_26_method_2_code 3 none :: ws) ({ frames := 2, cells := 2, slots := 12, locals := 33 } : Room)) (fun a U => a = #[(.ref o0), (.int p1), (.int p2)] ∧ Z.Warmed39 U.vm ∧ U.heap = h0) (fun _ _ _ _ _ => True) (fun _ U o U' => ∃ v L, o = .returned v ∧ Qadd_3_3 Z o0 p1 p2 w_d k_d d0 d1 d2 w_f k_f f0 f1 f2 q_c h0 n0 v U'.heap L ∧ FrameEnd U o U' L ({ frames := 2, cells := 2, slots := 12, locals := 33 } : Room).cells ({ frames := 2, cells := 2, slots := 12, locals := 33 } : Room).slots) := by
  refine MetFree.of_bodySF (plainFor_of_name (by first | (simp [plainName, overriddenIn]; done) | decide +kernel)) hisR ?_
  intro p e s m args below meth c s₁ Bd hml0 hP hK
  obtain ⟨rfl, hZ, hh⟩ := hP
  have hx := Bd.exec
  have hby := Bd.bytes
  have hml : c.maxLocals = 3 := hml0
  have hown : s.vm.findClass "com/example/robust_broker/robustbroker/Postings" = some m.cls := findClass_of_methodNamed Bd.named
  have hnm := (name_of_methodNamed Bd.named Bd.method).1
  have hlk := BodyLoose.notSynchronized Bd
  have X0 : Stand p l e ({ frames := 2, cells := 2, slots := 12, locals := 33 } : Room) s m #[(.ref o0), (.int p1), (.int p2)] below meth c s₁ [] 0 0 := Stand.of_body Bd
  have e0 : s₁.heap = h0 := by rw [← hh, Bd.state]; rfl
  have N0 := Fr.nil n0
  show Go p e below s (Qadd_3_3 Z o0 p1 p2 w_d k_d d0 d1 d2 w_f k_f f0 f1 f2 q_c h0 n0) 2 12 (s₁.setTop (entryFrame m #[(.ref o0), (.int p1), (.int p2)] 3))
  rw [ef_add_3_3]
  show Go _ _ _ _ _ _ _ (s₁.setTop (mkF m 0 #[.val (.ref o0), .val (.int p1), .val (.int p2)] []))
  refine gob (fun _ k => XS.aloadN X0.here hx rfl (hb hby d8_0) rfl rfl k) ?_
  show Go _ _ _ _ _ _ _ (s₁.setTop (mkF m 1 #[.val (.ref o0), .val (.int p1), .val (.int p2)] [(.ref o0)]))
  obtain ⟨T1, X1, e1, st1⟩ := getF X0 hx hZ hown (host := "") (Or.inl (hw _ (List.mem_of_getElem? (i := 21) rfl))) Via.refl e0 F_size (g := (mkF m 1 #[.val (.ref o0), .val (.int p1), .val (.int p2)] [(.ref o0)])) rfl rfl (hb hby d8_1)
  refine gob st1 ?_
  show Go _ _ _ _ _ _ _ (T1.setTop (mkF m 4 #[.val (.ref o0), .val (.int p1), .val (.int p2)] [(.int (3 : Int32))]))
  refine gob (fun _ k => XS.aloadN X1.here hx rfl (hb hby d8_4) rfl rfl k) ?_
  show Go _ _ _ _ _ _ _ (T1.setTop (mkF m 5 #[.val (.ref o0), .val (.int p1), .val (.int p2)] [(.ref o0), (.int (3 : Int32))]))
  obtain ⟨T2, X2, e2, st2⟩ := getF X1 hx hZ hown (host := "") (Or.inl (hw _ (List.mem_of_getElem? (i := 12) rfl))) Via.refl e1 F_documents (g := (mkF m 5 #[.val (.ref o0), .val (.int p1), .val (.int p2)] [(.ref o0), (.int (3 : Int32))])) rfl rfl (hb hby d8_5)
  refine gob st2 ?_
  show Go _ _ _ _ _ _ _ (T2.setTop (mkF m 8 #[.val (.ref o0), .val (.int p1), .val (.int p2)] [(.ref w_d), (.int (3 : Int32))]))
  obtain ⟨cl3, Ar3, aq3, S3, N3, H3, G3⟩ := id V_d
  refine gob (X2.arraylength hx (by rw [e2]; exact Ar3.1) (State.isArrayOf_alike hZ.alike Ar3.2.1) (g := (mkF m 8 #[.val (.ref o0), .val (.int p1), .val (.int p2)] [(.ref w_d), (.int (3 : Int32))])) rfl rfl (hb hby d8_8)) ?_
  rw [len_of S3 N3]
  show Go _ _ _ _ _ _ _ (T2.setTop (mkF m 9 #[.val (.ref o0), .val (.int p1), .val (.int p2)] [(.int (3 : Int32)), (.int (3 : Int32))]))
  refine gob (fun _ k => XS.icmpNo X2.here hx rfl (hb hby d8_9) rfl (teq (by decide : (3 : Int32) = (3 : Int32))).2 k) ?_
  show Go _ _ _ _ _ _ _ (T2.setTop (mkF m 12 #[.val (.ref o0), .val (.int p1), .val (.int p2)] []))
  refine gob (fun _ k => XS.aloadN X2.here hx rfl (hb hby d8_12) rfl rfl k) ?_
  show Go _ _ _ _ _ _ _ (T2.setTop (mkF m 13 #[.val (.ref o0), .val (.int p1), .val (.int p2)] [(.ref o0)]))
  refine gob (fun _ k => XS.aloadN X2.here hx rfl (hb hby d8_13) rfl rfl k) ?_
  show Go _ _ _ _ _ _ _ (T2.setTop (mkF m 14 #[.val (.ref o0), .val (.int p1), .val (.int p2)] [(.ref o0), (.ref o0)]))
  obtain ⟨T4, X4, e4, st4⟩ := getF X2 hx hZ hown (host := "") (Or.inl (hw _ (List.mem_of_getElem? (i := 12) rfl))) Via.refl e2 F_documents (g := (mkF m 14 #[.val (.ref o0), .val (.int p1), .val (.int p2)] [(.ref o0), (.ref o0)])) rfl rfl (hb hby d8_14)
  refine gob st4 ?_
  show Go _ _ _ _ _ _ _ (T4.setTop (mkF m 17 #[.val (.ref o0), .val (.int p1), .val (.int p2)] [(.ref w_d), (.ref o0)]))
  refine gob (fun _ k => XS.aloadN X4.here hx rfl (hb hby d8_17) rfl rfl k) ?_
  show Go _ _ _ _ _ _ _ (T4.setTop (mkF m 18 #[.val (.ref o0), .val (.int p1), .val (.int p2)] [(.ref o0), (.ref w_d), (.ref o0)]))
  obtain ⟨T5, X5, e5, st5⟩ := getF X4 hx hZ hown (host := "") (Or.inl (hw _ (List.mem_of_getElem? (i := 21) rfl))) Via.refl e4 F_size (g := (mkF m 18 #[.val (.ref o0), .val (.int p1), .val (.int p2)] [(.ref o0), (.ref w_d), (.ref o0)])) rfl rfl (hb hby d8_18)
  refine gob st5 ?_
  show Go _ _ _ _ _ _ _ (T5.setTop (mkF m 21 #[.val (.ref o0), .val (.int p1), .val (.int p2)] [(.int (3 : Int32)), (.ref w_d), (.ref o0)]))
  refine gob (fun _ k => XS.iconst X5.here hx rfl (hb hby d8_21) k) ?_
  show Go _ _ _ _ _ _ _ (T5.setTop (mkF m 22 #[.val (.ref o0), .val (.int p1), .val (.int p2)] [(.int (2 : Int32)), (.int (3 : Int32)), (.ref w_d), (.ref o0)]))
  refine gob (fun _ k => XS.imul X5.here hx rfl (hb hby d8_22) rfl k) ?_
  show Go _ _ _ _ _ _ _ (T5.setTop (mkF m 23 #[.val (.ref o0), .val (.int p1), .val (.int p2)] [(.int (6 : Int32)), (.ref w_d), (.ref o0)]))
  obtain ⟨_, _, ⟨T6, L6, k6, n6⟩, -, X6, ⟨Lc6, hQ6, l6, y6, z6⟩, st6⟩ := Jvm.LawKit.callS X5 hx (y := (⟨"java/util/Arrays", "copyOf", "([II)[I"⟩ : MethodName)) hown (mvT hZ (hw _ (List.mem_of_getElem? (i := 23) rfl))) (mvT hZ (hw _ (List.mem_of_getElem? (i := 24) rfl))) (mvT hZ (hw _ (List.mem_of_getElem? (i := 25) rfl))) (mvT hZ (hw _ (List.mem_of_getElem? (i := 26) rfl))) (by decide) (backOf (W := 1) (rmcp_3_3_6 l Z a0 hw [] w_d k_d d0 d1 d2 h0 n0 Z0 V_d E_d) hZ (hw _ (List.mem_of_getElem? (i := 26) rfl)) (hw _ (List.mem_of_getElem? (i := 25) rfl)) (by decide) (by decide)) (g := (mkF m 23 #[.val (.ref o0), .val (.int p1), .val (.int p2)] [(.int (6 : Int32)), (.ref w_d), (.ref o0)])) rfl (by rw [hml]; rfl) (argsL := [(.ref w_d), (.int (6 : Int32))]) (rest := [(.ref o0)]) (lenOf pd_1 rfl) rfl (by show 2 * 0 + _ ≤ _; exact Nat.le_of_eq rfl) (hb hby d8_23) (fun _ _ => ⟨rfl, e5, (by decide : 0 + 1 ≤ _), (by decide : 0 + 6 ≤ _)⟩)
  dsimp only [Pt.U, Pt.locs, Pt.cells, Pt.slots] at X6 l6 y6 z6 st6 hQ6
  subst l6 y6 z6
  obtain ⟨b7, k8, rfl, Nq6, K6, hz9, F10, F11⟩ := hQ6
  have N6 := Fr.app N0 Nq6
  have n12 : o0 ≠ b7 := Nat.ne_of_lt (Nat.lt_of_lt_of_le F_documents.lt hz9)
  have n13 : w_d ≠ b7 := Nat.ne_of_lt (Nat.lt_of_lt_of_le V_d.lt hz9)
  have n14 : w_f ≠ b7 := Nat.ne_of_lt (Nat.lt_of_lt_of_le V_f.lt hz9)
  have g15 : n0 ≤ b7 := Nat.le_trans Z0 hz9
  have sz_b7 : h0.size ≤ b7 := Nat.le_trans (Keep.refl h0 []).1 hz9
  have z16 : n0 ≤ T6.heap.size := Nat.le_trans Z0 K6.1
  have K17 : Keep h0 T6.heap ([o0] : List Addr) := (Keep.refl h0 ([o0] : List Addr)).trans K6 all0
  refine gob st6 ?_
  show Go _ _ _ _ _ _ _ (T6.setTop (mkF m 26 #[.val (.ref o0), .val (.int p1), .val (.int p2)] [(.ref b7), (.ref o0)]))
  have c18 := (F_documents.keep K6 nin0)
  have c19 := (E_o0.keep K6)
  obtain ⟨T20, h20, X20, e20, W20, st20⟩ := putF X6 hx hZ hown (host := "") (Or.inl (hw _ (List.mem_of_getElem? (i := 12) rfl))) Via.refl (rfl : T6.heap = _) c18 c19 (Or.inl (hw _ (List.mem_of_getElem? (i := 13) rfl))) (hw _ (List.mem_of_getElem? (i := 3) rfl)) (ty := (.array .int)) (by decide) rfl rfl (g := (mkF m 26 #[.val (.ref o0), .val (.int p1), .val (.int p2)] [(.ref b7), (.ref o0)])) rfl rfl (hb hby d8_26)
  refine gob st20 ?_
  have z21 : n0 ≤ h20.size := Nat.le_trans z16 (Keep.of_wr W20).1
  have N20 := Fr.snoc X20 N6 g_o0
  have K22 : Keep h0 h20 ([o0] : List Addr) := K17.wr W20 (Or.inl (List.mem_of_getElem? (i := 0) rfl))
  have Fw20 := c18.same W20
  show Go _ _ _ _ _ _ _ (T20.setTop (mkF m 29 #[.val (.ref o0), .val (.int p1), .val (.int p2)] []))
  refine gob (fun _ k => XS.aloadN X20.here hx rfl (hb hby d8_29) rfl rfl k) ?_
  show Go _ _ _ _ _ _ _ (T20.setTop (mkF m 30 #[.val (.ref o0), .val (.int p1), .val (.int p2)] [(.ref o0)]))
  refine gob (fun _ k => XS.aloadN X20.here hx rfl (hb hby d8_30) rfl rfl k) ?_
  show Go _ _ _ _ _ _ _ (T20.setTop (mkF m 31 #[.val (.ref o0), .val (.int p1), .val (.int p2)] [(.ref o0), (.ref o0)]))
  have c23 := ((F_frequencies.keep K6 nin0).other W20 (Or.inr (slot_ne (Or.inl (hw _ (List.mem_of_getElem? (i := 15) rfl))) (Or.inl (hw _ (List.mem_of_getElem? (i := 13) rfl))) (by decide) (t := (.array .int)) (t' := (.array .int)) (by decide) (by decide))))
  obtain ⟨T24, X24, e24, st24⟩ := getF X20 hx hZ hown (host := "") (Or.inl (hw _ (List.mem_of_getElem? (i := 14) rfl))) Via.refl e20 c23 (g := (mkF m 31 #[.val (.ref o0), .val (.int p1), .val (.int p2)] [(.ref o0), (.ref o0)])) rfl rfl (hb hby d8_31)
  refine gob st24 ?_
  show Go _ _ _ _ _ _ _ (T24.setTop (mkF m 34 #[.val (.ref o0), .val (.int p1), .val (.int p2)] [(.ref w_f), (.ref o0)]))
  refine gob (fun _ k => XS.aloadN X24.here hx rfl (hb hby d8_34) rfl rfl k) ?_
  show Go _ _ _ _ _ _ _ (T24.setTop (mkF m 35 #[.val (.ref o0), .val (.int p1), .val (.int p2)] [(.ref o0), (.ref w_f), (.ref o0)]))
  have c25 := ((F_size.keep K6 nin0).other W20 (Or.inr (slot_ne (Or.inl (hw _ (List.mem_of_getElem? (i := 22) rfl))) (Or.inl (hw _ (List.mem_of_getElem? (i := 13) rfl))) (by decide) (t := .int) (t' := (.array .int)) (by decide) (by decide))))
  obtain ⟨T26, X26, e26, st26⟩ := getF X24 hx hZ hown (host := "") (Or.inl (hw _ (List.mem_of_getElem? (i := 21) rfl))) Via.refl e24 c25 (g := (mkF m 35 #[.val (.ref o0), .val (.int p1), .val (.int p2)] [(.ref o0), (.ref w_f), (.ref o0)])) rfl rfl (hb hby d8_35)
  refine gob st26 ?_
  show Go _ _ _ _ _ _ _ (T26.setTop (mkF m 38 #[.val (.ref o0), .val (.int p1), .val (.int p2)] [(.int (3 : Int32)), (.ref w_f), (.ref o0)]))
  refine gob (fun _ k => XS.iconst X26.here hx rfl (hb hby d8_38) k) ?_
  show Go _ _ _ _ _ _ _ (T26.setTop (mkF m 39 #[.val (.ref o0), .val (.int p1), .val (.int p2)] [(.int (2 : Int32)), (.int (3 : Int32)), (.ref w_f), (.ref o0)]))
  refine gob (fun _ k => XS.imul X26.here hx rfl (hb hby d8_39) rfl k) ?_
  show Go _ _ _ _ _ _ _ (T26.setTop (mkF m 40 #[.val (.ref o0), .val (.int p1), .val (.int p2)] [(.int (6 : Int32)), (.ref w_f), (.ref o0)]))
  have c28 := ((V_f.keep K6 nin0).other W20 (Ne.symm ne_o0_w_f))
  have c29 := ((E_f.keep K6).wr W20)
  obtain ⟨_, _, ⟨T27, L27, k27, n27⟩, -, X27, ⟨Lc27, hQ27, l27, y27, z27⟩, st27⟩ := Jvm.LawKit.callS X26 hx (y := (⟨"java/util/Arrays", "copyOf", "([II)[I"⟩ : MethodName)) hown (mvT hZ (hw _ (List.mem_of_getElem? (i := 23) rfl))) (mvT hZ (hw _ (List.mem_of_getElem? (i := 24) rfl))) (mvT hZ (hw _ (List.mem_of_getElem? (i := 25) rfl))) (mvT hZ (hw _ (List.mem_of_getElem? (i := 26) rfl))) (by decide) (backOf (W := 1) (rmcp_3_3_6 l Z a0 hw [] w_f k_f f0 f1 f2 h20 n0 z21 c28 c29) hZ (hw _ (List.mem_of_getElem? (i := 26) rfl)) (hw _ (List.mem_of_getElem? (i := 25) rfl)) (by decide) (by decide)) (g := (mkF m 40 #[.val (.ref o0), .val (.int p1), .val (.int p2)] [(.int (6 : Int32)), (.ref w_f), (.ref o0)])) rfl (by rw [hml]; rfl) (argsL := [(.ref w_f), (.int (6 : Int32))]) (rest := [(.ref o0)]) (lenOf pd_1 rfl) rfl (by show 2 * 0 + _ ≤ _; exact Nat.le_of_eq rfl) (hb hby d8_40) (fun _ _ => ⟨rfl, e26, (by decide : 1 + 1 ≤ _), (by decide : 6 + 6 ≤ _)⟩)
  dsimp only [Pt.U, Pt.locs, Pt.cells, Pt.slots] at X27 l27 y27 z27 st27 hQ27
  subst l27 y27 z27
  obtain ⟨b30, k31, rfl, Nq27, K27, hz32, F33, F34⟩ := hQ27
  have N27 := Fr.app N20 Nq27
  have n35 : o0 ≠ b30 := Nat.ne_of_lt (Nat.lt_of_lt_of_le Fw20.lt hz32)
  have c37 := ((V_d.keep K6 nin0).other W20 (Ne.symm ne_o0_w_d))
  have n36 : w_d ≠ b30 := Nat.ne_of_lt (Nat.lt_of_lt_of_le c37.lt hz32)
  have n38 : w_f ≠ b30 := Nat.ne_of_lt (Nat.lt_of_lt_of_le c28.lt hz32)
  have c40 := (F10.wr W20)
  have n39 : b7 ≠ b30 := Nat.ne_of_lt (Nat.lt_of_lt_of_le c40.lt hz32)
  have g41 : n0 ≤ b30 := Nat.le_trans z21 hz32
  have sz_b30 : h0.size ≤ b30 := Nat.le_trans K22.1 hz32
  have z42 : n0 ≤ T27.heap.size := Nat.le_trans z21 K27.1
  have K43 : Keep h0 T27.heap ([o0] : List Addr) := K22.trans K27 all0
  refine gob st27 ?_
  show Go _ _ _ _ _ _ _ (T27.setTop (mkF m 43 #[.val (.ref o0), .val (.int p1), .val (.int p2)] [(.ref b30), (.ref o0)]))
  have c44 := (c23.keep K27 nin0)
  have c45 := ((c19.wr W20).keep K27)
  obtain ⟨T46, h46, X46, e46, W46, st46⟩ := putF X27 hx hZ hown (host := "") (Or.inl (hw _ (List.mem_of_getElem? (i := 14) rfl))) Via.refl (rfl : T27.heap = _) c44 c45 (Or.inl (hw _ (List.mem_of_getElem? (i := 15) rfl))) (hw _ (List.mem_of_getElem? (i := 3) rfl)) (ty := (.array .int)) (by decide) rfl rfl (g := (mkF m 43 #[.val (.ref o0), .val (.int p1), .val (.int p2)] [(.ref b30), (.ref o0)])) rfl rfl (hb hby d8_43)
  refine gob st46 ?_
  have z47 : n0 ≤ h46.size := Nat.le_trans z42 (Keep.of_wr W46).1
  have N46 := Fr.snoc X46 N27 g_o0
  have K48 : Keep h0 h46 ([o0] : List Addr) := K43.wr W46 (Or.inl (List.mem_of_getElem? (i := 0) rfl))
  have Fw46 := c44.same W46
  show Go _ _ _ _ _ _ _ (T46.setTop (mkF m 46 #[.val (.ref o0), .val (.int p1), .val (.int p2)] []))
  refine gob (fun _ k => XS.aloadN X46.here hx rfl (hb hby d8_46) rfl rfl k) ?_
  show Go _ _ _ _ _ _ _ (T46.setTop (mkF m 47 #[.val (.ref o0), .val (.int p1), .val (.int p2)] [(.ref o0)]))
  have c49 := ((Fw20.keep K27 nin0).other W46 (Or.inr (slot_ne (Or.inl (hw _ (List.mem_of_getElem? (i := 13) rfl))) (Or.inl (hw _ (List.mem_of_getElem? (i := 15) rfl))) (by decide) (t := (.array .int)) (t' := (.array .int)) (by decide) (by decide))))
  obtain ⟨T50, X50, e50, st50⟩ := getF X46 hx hZ hown (host := "") (Or.inl (hw _ (List.mem_of_getElem? (i := 12) rfl))) Via.refl e46 c49 (g := (mkF m 47 #[.val (.ref o0), .val (.int p1), .val (.int p2)] [(.ref o0)])) rfl rfl (hb hby d8_47)
  refine gob st50 ?_
  show Go _ _ _ _ _ _ _ (T50.setTop (mkF m 50 #[.val (.ref o0), .val (.int p1), .val (.int p2)] [(.ref b7)]))
  refine gob (fun _ k => XS.aloadN X50.here hx rfl (hb hby d8_50) rfl rfl k) ?_
  show Go _ _ _ _ _ _ _ (T50.setTop (mkF m 51 #[.val (.ref o0), .val (.int p1), .val (.int p2)] [(.ref o0), (.ref b7)]))
  have c51 := ((c25.keep K27 nin0).other W46 (Or.inr (slot_ne (Or.inl (hw _ (List.mem_of_getElem? (i := 22) rfl))) (Or.inl (hw _ (List.mem_of_getElem? (i := 15) rfl))) (by decide) (t := .int) (t' := (.array .int)) (by decide) (by decide))))
  obtain ⟨T52, X52, e52, st52⟩ := getF X50 hx hZ hown (host := "") (Or.inl (hw _ (List.mem_of_getElem? (i := 21) rfl))) Via.refl e50 c51 (g := (mkF m 51 #[.val (.ref o0), .val (.int p1), .val (.int p2)] [(.ref o0), (.ref b7)])) rfl rfl (hb hby d8_51)
  refine gob st52 ?_
  show Go _ _ _ _ _ _ _ (T52.setTop (mkF m 54 #[.val (.ref o0), .val (.int p1), .val (.int p2)] [(.int (3 : Int32)), (.ref b7)]))
  refine gob (fun _ k => XS.iloadN X52.here hx rfl (hb hby d8_54) rfl k) ?_
  show Go _ _ _ _ _ _ _ (T52.setTop (mkF m 55 #[.val (.ref o0), .val (.int p1), .val (.int p2)] [(.int p1), (.int (3 : Int32)), (.ref b7)]))
  have c54 := (((F11.other W20 (Ne.symm n12)).keep K27 nin0).other W46 (Ne.symm n12))
  obtain ⟨cl53, Ar53, aq53, S53, N53, H53, G53⟩ := id c54
  have hin53 : ¬ ((3 : Int32) < 0 ∨ cl53.slots.size ≤ ((3 : Int32)).toNatClampNeg) := inb_of S53 ⟨by decide, by decide⟩
  obtain ⟨T55, h55, X55, e55, W55, st55⟩ := stI X52 hx hZ e52 Ar53 (j := (3 : Int32)) hin53 (g := (mkF m 55 #[.val (.ref o0), .val (.int p1), .val (.int p2)] [(.int p1), (.int (3 : Int32)), (.ref b7)])) rfl rfl (hb hby d8_55)
  refine gob st55 ?_
  have z56 : n0 ≤ h55.size := Nat.le_trans z47 (Keep.of_wr W55).1
  have N55 := Fr.snoc X55 N46 g15
  have K57 : Keep h0 h55 ([o0] : List Addr) := K48.wr W55 (Or.inr sz_b7)
  have V55 : Arv Z h55 b7 k8 .int (6 : Int32) [(.int d0), (.int d1), (.int d2), (.int p1), (.int (0 : Int32)), (.int (0 : Int32))] (.int (0 : Int32)) := Arv.set Ar53 aq53 S53 N53 H53 G53 rfl W55 3 rfl (Nat.le_of_ble_eq_true rfl)
  show Go _ _ _ _ _ _ _ (T55.setTop (mkF m 56 #[.val (.ref o0), .val (.int p1), .val (.int p2)] []))
  refine gob (fun _ k => XS.aloadN X55.here hx rfl (hb hby d8_56) rfl rfl k) ?_
  show Go _ _ _ _ _ _ _ (T55.setTop (mkF m 57 #[.val (.ref o0), .val (.int p1), .val (.int p2)] [(.ref o0)]))
  have c58 := (Fw46.other W55 (Or.inl n12))
  obtain ⟨T59, X59, e59, st59⟩ := getF X55 hx hZ hown (host := "") (Or.inl (hw _ (List.mem_of_getElem? (i := 14) rfl))) Via.refl e55 c58 (g := (mkF m 57 #[.val (.ref o0), .val (.int p1), .val (.int p2)] [(.ref o0)])) rfl rfl (hb hby d8_57)
  refine gob st59 ?_
  show Go _ _ _ _ _ _ _ (T59.setTop (mkF m 60 #[.val (.ref o0), .val (.int p1), .val (.int p2)] [(.ref b30)]))
  refine gob (fun _ k => XS.aloadN X59.here hx rfl (hb hby d8_60) rfl rfl k) ?_
  show Go _ _ _ _ _ _ _ (T59.setTop (mkF m 61 #[.val (.ref o0), .val (.int p1), .val (.int p2)] [(.ref o0), (.ref b30)]))
  have c60 := (c51.other W55 (Or.inl n12))
  obtain ⟨T61, X61, e61, st61⟩ := getF X59 hx hZ hown (host := "") (Or.inl (hw _ (List.mem_of_getElem? (i := 21) rfl))) Via.refl e59 c60 (g := (mkF m 61 #[.val (.ref o0), .val (.int p1), .val (.int p2)] [(.ref o0), (.ref b30)])) rfl rfl (hb hby d8_61)
  refine gob st61 ?_
  show Go _ _ _ _ _ _ _ (T61.setTop (mkF m 64 #[.val (.ref o0), .val (.int p1), .val (.int p2)] [(.int (3 : Int32)), (.ref b30)]))
  refine gob (fun _ k => XS.iloadN X61.here hx rfl (hb hby d8_64) rfl k) ?_
  show Go _ _ _ _ _ _ _ (T61.setTop (mkF m 65 #[.val (.ref o0), .val (.int p1), .val (.int p2)] [(.int p2), (.int (3 : Int32)), (.ref b30)]))
  have c63 := ((F34.other W46 (Ne.symm n35)).other W55 (Ne.symm n39))
  obtain ⟨cl62, Ar62, aq62, S62, N62, H62, G62⟩ := id c63
  have hin62 : ¬ ((3 : Int32) < 0 ∨ cl62.slots.size ≤ ((3 : Int32)).toNatClampNeg) := inb_of S62 ⟨by decide, by decide⟩
  obtain ⟨T64, h64, X64, e64, W64, st64⟩ := stI X61 hx hZ e61 Ar62 (j := (3 : Int32)) hin62 (g := (mkF m 65 #[.val (.ref o0), .val (.int p1), .val (.int p2)] [(.int p2), (.int (3 : Int32)), (.ref b30)])) rfl rfl (hb hby d8_65)
  refine gob st64 ?_
  have z65 : n0 ≤ h64.size := Nat.le_trans z56 (Keep.of_wr W64).1
  have N64 := Fr.snoc X64 N55 g41
  have K66 : Keep h0 h64 ([o0] : List Addr) := K57.wr W64 (Or.inr sz_b30)
  have V64 : Arv Z h64 b30 k31 .int (6 : Int32) [(.int f0), (.int f1), (.int f2), (.int p2), (.int (0 : Int32)), (.int (0 : Int32))] (.int (0 : Int32)) := Arv.set Ar62 aq62 S62 N62 H62 G62 rfl W64 3 rfl (Nat.le_of_ble_eq_true rfl)
  show Go _ _ _ _ _ _ _ (T64.setTop (mkF m 66 #[.val (.ref o0), .val (.int p1), .val (.int p2)] []))
  refine gob (fun _ k => XS.aloadN X64.here hx rfl (hb hby d8_66) rfl rfl k) ?_
  show Go _ _ _ _ _ _ _ (T64.setTop (mkF m 67 #[.val (.ref o0), .val (.int p1), .val (.int p2)] [(.ref o0)]))
  refine gob (fun _ k => XS.dup X64.here hx rfl (hb hby d8_67) rfl rfl k) ?_
  show Go _ _ _ _ _ _ _ (T64.setTop (mkF m 68 #[.val (.ref o0), .val (.int p1), .val (.int p2)] [(.ref o0), (.ref o0)]))
  have c67 := (c60.other W64 (Or.inl n35))
  obtain ⟨T68, X68, e68, st68⟩ := getF X64 hx hZ hown (host := "") (Or.inl (hw _ (List.mem_of_getElem? (i := 21) rfl))) Via.refl e64 c67 (g := (mkF m 68 #[.val (.ref o0), .val (.int p1), .val (.int p2)] [(.ref o0), (.ref o0)])) rfl rfl (hb hby d8_68)
  refine gob st68 ?_
  show Go _ _ _ _ _ _ _ (T68.setTop (mkF m 71 #[.val (.ref o0), .val (.int p1), .val (.int p2)] [(.int (3 : Int32)), (.ref o0)]))
  refine gob (fun _ k => XS.iconst X68.here hx rfl (hb hby d8_71) k) ?_
  show Go _ _ _ _ _ _ _ (T68.setTop (mkF m 72 #[.val (.ref o0), .val (.int p1), .val (.int p2)] [(.int (1 : Int32)), (.int (3 : Int32)), (.ref o0)]))
  refine gob (fun _ k => XS.iadd X68.here hx rfl (hb hby d8_72) rfl k) ?_
  show Go _ _ _ _ _ _ _ (T68.setTop (mkF m 73 #[.val (.ref o0), .val (.int p1), .val (.int p2)] [(.int (4 : Int32)), (.ref o0)]))
  have c69 := (((c45.wr W46).wr W55).wr W64)
  obtain ⟨T70, h70, X70, e70, W70, st70⟩ := putF X68 hx hZ hown (host := "") (Or.inl (hw _ (List.mem_of_getElem? (i := 21) rfl))) Via.refl e68 c67 c69 (Or.inl (hw _ (List.mem_of_getElem? (i := 22) rfl))) (hw _ (List.mem_of_getElem? (i := 3) rfl)) (ty := .int) (by decide) rfl rfl (g := (mkF m 73 #[.val (.ref o0), .val (.int p1), .val (.int p2)] [(.int (4 : Int32)), (.ref o0)])) rfl rfl (hb hby d8_73)
  refine gob st70 ?_
  have z71 : n0 ≤ h70.size := Nat.le_trans z65 (Keep.of_wr W70).1
  have N70 := Fr.snoc X70 N64 g_o0
  have K72 : Keep h0 h70 ([o0] : List Addr) := K66.wr W70 (Or.inl (List.mem_of_getElem? (i := 0) rfl))
  have Fw70 := c67.same W70
  show Go _ _ _ _ _ _ _ (T70.setTop (mkF m 76 #[.val (.ref o0), .val (.int p1), .val (.int p2)] []))
  refine gob (fun _ k => XS.aloadN X70.here hx rfl (hb hby d8_76) rfl rfl k) ?_
  show Go _ _ _ _ _ _ _ (T70.setTop (mkF m 77 #[.val (.ref o0), .val (.int p1), .val (.int p2)] [(.ref o0)]))
  refine gob (fun _ k => XS.dup X70.here hx rfl (hb hby d8_77) rfl rfl k) ?_
  show Go _ _ _ _ _ _ _ (T70.setTop (mkF m 78 #[.val (.ref o0), .val (.int p1), .val (.int p2)] [(.ref o0), (.ref o0)]))
  have c73 := (((((((F_collectionFrequency.keep K6 nin0).other W20 (Or.inr (slot_ne (Or.inl (hw _ (List.mem_of_getElem? (i := 46) rfl))) (Or.inl (hw _ (List.mem_of_getElem? (i := 13) rfl))) (by decide) (t := .long) (t' := (.array .int)) (by decide) (by decide)))).keep K27 nin0).other W46 (Or.inr (slot_ne (Or.inl (hw _ (List.mem_of_getElem? (i := 46) rfl))) (Or.inl (hw _ (List.mem_of_getElem? (i := 15) rfl))) (by decide) (t := .long) (t' := (.array .int)) (by decide) (by decide)))).other W55 (Or.inl n12)).other W64 (Or.inl n35)).other W70 (Or.inr (slot_ne (Or.inl (hw _ (List.mem_of_getElem? (i := 46) rfl))) (Or.inl (hw _ (List.mem_of_getElem? (i := 22) rfl))) (by decide) (t := .long) (t' := .int) (by decide) (by decide))))
  obtain ⟨T74, X74, e74, st74⟩ := getF X70 hx hZ hown (host := "") (Or.inl (hw _ (List.mem_of_getElem? (i := 45) rfl))) Via.refl e70 c73 (g := (mkF m 78 #[.val (.ref o0), .val (.int p1), .val (.int p2)] [(.ref o0), (.ref o0)])) rfl rfl (hb hby d8_78)
  refine gob st74 ?_
  show Go _ _ _ _ _ _ _ (T74.setTop (mkF m 81 #[.val (.ref o0), .val (.int p1), .val (.int p2)] [(.long q_c), (.ref o0)]))
  refine gob (fun _ k => XS.iloadN X74.here hx rfl (hb hby d8_81) rfl k) ?_
  show Go _ _ _ _ _ _ _ (T74.setTop (mkF m 82 #[.val (.ref o0), .val (.int p1), .val (.int p2)] [(.int p2), (.long q_c), (.ref o0)]))
  refine gob (fun _ k => XS.i2l X74.here hx rfl (hb hby d8_82) rfl k) ?_
  show Go _ _ _ _ _ _ _ (T74.setTop (mkF m 83 #[.val (.ref o0), .val (.int p1), .val (.int p2)] [(.long (p2.toInt64)), (.long q_c), (.ref o0)]))
  refine gob (fun _ k => XS.ladd X74.here hx rfl (hb hby d8_83) rfl k) ?_
  show Go _ _ _ _ _ _ _ (T74.setTop (mkF m 84 #[.val (.ref o0), .val (.int p1), .val (.int p2)] [(.long (q_c + (p2.toInt64))), (.ref o0)]))
  have c75 := (c69.wr W70)
  obtain ⟨T76, h76, X76, e76, W76, st76⟩ := putF X74 hx hZ hown (host := "") (Or.inl (hw _ (List.mem_of_getElem? (i := 45) rfl))) Via.refl e74 c73 c75 (Or.inl (hw _ (List.mem_of_getElem? (i := 46) rfl))) (hw _ (List.mem_of_getElem? (i := 3) rfl)) (ty := .long) (by decide) rfl rfl (g := (mkF m 84 #[.val (.ref o0), .val (.int p1), .val (.int p2)] [(.long (q_c + (p2.toInt64))), (.ref o0)])) rfl rfl (hb hby d8_84)
  refine gob st76 ?_
  have z77 : n0 ≤ h76.size := Nat.le_trans z71 (Keep.of_wr W76).1
  have N76 := Fr.snoc X76 N70 g_o0
  have K78 : Keep h0 h76 ([o0] : List Addr) := K72.wr W76 (Or.inl (List.mem_of_getElem? (i := 0) rfl))
  have Fw76 := c73.same W76
  show Go _ _ _ _ _ _ _ (T76.setTop (mkF m 87 #[.val (.ref o0), .val (.int p1), .val (.int p2)] []))
  refine goV X76 hx hlk Bd.returns (hb hby d8_87) ?_ (by decide) (by decide)
  show Qadd_3_3 Z o0 p1 p2 w_d k_d d0 d1 d2 w_f k_f f0 f1 f2 q_c h0 n0 (none) T76.heap _
  have c79 := ((((c49.other W55 (Or.inl n12)).other W64 (Or.inl n35)).other W70 (Or.inr (slot_ne (Or.inl (hw _ (List.mem_of_getElem? (i := 13) rfl))) (Or.inl (hw _ (List.mem_of_getElem? (i := 22) rfl))) (by decide) (t := (.array .int)) (t' := .int) (by decide) (by decide)))).other W76 (Or.inr (slot_ne (Or.inl (hw _ (List.mem_of_getElem? (i := 13) rfl))) (Or.inl (hw _ (List.mem_of_getElem? (i := 46) rfl))) (by decide) (t := (.array .int)) (t' := .long) (by decide) (by decide))))
  have c80 := (((c58.other W64 (Or.inl n35)).other W70 (Or.inr (slot_ne (Or.inl (hw _ (List.mem_of_getElem? (i := 15) rfl))) (Or.inl (hw _ (List.mem_of_getElem? (i := 22) rfl))) (by decide) (t := (.array .int)) (t' := .int) (by decide) (by decide)))).other W76 (Or.inr (slot_ne (Or.inl (hw _ (List.mem_of_getElem? (i := 15) rfl))) (Or.inl (hw _ (List.mem_of_getElem? (i := 46) rfl))) (by decide) (t := (.array .int)) (t' := .long) (by decide) (by decide))))
  have c81 := (Fw70.other W76 (Or.inr (slot_ne (Or.inl (hw _ (List.mem_of_getElem? (i := 22) rfl))) (Or.inl (hw _ (List.mem_of_getElem? (i := 46) rfl))) (by decide) (t := .int) (t' := .long) (by decide) (by decide))))
  have c82 := ((((((c40.keep K27).wr W46).wr W55).wr W64).wr W70).wr W76)
  have c83 := (((V55.other W64 n39).other W70 (Ne.symm n12)).other W76 (Ne.symm n12))
  have c84 := (((((F33.wr W46).wr W55).wr W64).wr W70).wr W76)
  have c85 := ((V64.other W70 (Ne.symm n35)).other W76 (Ne.symm n35))
  rw [e76]
  exact ⟨b7, b30, k8, k31, rfl, N76, K78, sz_b7, sz_b30, n39, c79, c80, c81, Fw76, c82, c83, c84, c85⟩
theorem d3_0 : decode prog_26_method_3_code 0 = .ok (.aload_n 0, 1) := by decide +kernel
theorem d3_1 : decode prog_26_method_3_code 1 = .ok (.aload_n 0, 1) := by decide +kernel
theorem d3_2 : decode prog_26_method_3_code 2 = .ok (.getfield 7, 3) := by decide +kernel
theorem d3_5 : decode prog_26_method_3_code 5 = .ok (.aload_n 0, 1) := by decide +kernel
theorem d3_6 : decode prog_26_method_3_code 6 = .ok (.getfield 16, 3) := by decide +kernel
theorem d3_9 : decode prog_26_method_3_code 9 = .ok (.invokestatic 20, 3) := by decide +kernel
theorem d3_12 : decode prog_26_method_3_code 12 = .ok (.putfield 7, 3) := by decide +kernel
theorem d3_15 : decode prog_26_method_3_code 15 = .ok (.aload_n 0, 1) := by decide +kernel
theorem d3_16 : decode prog_26_method_3_code 16 = .ok (.aload_n 0, 1) := by decide +kernel
theorem d3_17 : decode prog_26_method_3_code 17 = .ok (.getfield 13, 3) := by decide +kernel
theorem d3_20 : decode prog_26_method_3_code 20 = .ok (.aload_n 0, 1) := by decide +kernel
theorem d3_21 : decode prog_26_method_3_code 21 = .ok (.getfield 16, 3) := by decide +kernel
theorem d3_24 : decode prog_26_method_3_code 24 = .ok (.invokestatic 20, 3) := by decide +kernel
theorem d3_27 : decode prog_26_method_3_code 27 = .ok (.putfield 13, 3) := by decide +kernel
theorem d3_30 : decode prog_26_method_3_code 30 = .ok (.return_, 1) := by decide +kernel
theorem ef_trim_2_0 (m : MethodId) (x0 : Addr) : entryFrame m #[(.ref x0)] 1 = mkF m 0 #[.val (.ref x0)] [] := by first | (simp [entryFrame, mkF, argsToLocals, Value.category]; done) | rfl
def Qtrim_2_0 (Z : State) (o0 : Addr) (w_d : Addr) (k_d : ClassId) (w_f : Addr) (k_f : ClassId) (q_c : Int64) (h0 : Heap) (n0 : Nat) (v : Option Value) (h : Heap) (L : List Loc) : Prop := ∃ b4 : Addr, ∃ b27 : Addr, ∃ k5 : ClassId, ∃ k28 : ClassId, v = none ∧ Fr n0 L ∧ Keep h0 h ([o0] : List Addr) ∧ h0.size ≤ b4 ∧ h0.size ≤ b27 ∧ b4 ≠ b27 ∧ Fld Z h o0 "com/example/robust_broker/robustbroker/Postings" "documents" "[I" (.ref b4) ∧ Fld Z h o0 "com/example/robust_broker/robustbroker/Postings" "frequencies" "[I" (.ref b27) ∧ Fld Z h o0 "com/example/robust_broker/robustbroker/Postings" "size" "I" (.int (0 : Int32)) ∧ Fld Z h o0 "com/example/robust_broker/robustbroker/Postings" "collectionFrequency" "J" (.long q_c) ∧ Exa Z h b4 "[I" ∧ Arv Z h b4 k5 .int (0 : Int32) [] (.int (0 : Int32)) ∧ Exa Z h b27 "[I" ∧ Arv Z h b27 k28 .int (0 : Int32) [] (.int (0 : Int32))
set_option maxRecDepth 65536 in
set_option maxHeartbeats 40000000 in
theorem rmtrim_2_0 (l : Launch) (Z : State) (a0 : Array Value) (hw : ∀ d ∈ tables_1, d.before a0 Z = true) (ws : List Jvm.Cond) (o0 : Addr) (w_d : Addr) (k_d : ClassId) (w_f : Addr) (k_f : ClassId) (q_c : Int64) (h0 : Heap) (n0 : Nat) (Z0 : n0 ≤ h0.size) (F_documents : Fld Z h0 o0 "com/example/robust_broker/robustbroker/Postings" "documents" "[I" (.ref w_d)) (V_d : Arv Z h0 w_d k_d .int (2 : Int32) [(.int (0 : Int32)), (.int (0 : Int32))] (.int (0 : Int32))) (E_d : Exa Z h0 w_d "[I") (F_frequencies : Fld Z h0 o0 "com/example/robust_broker/robustbroker/Postings" "frequencies" "[I" (.ref w_f)) (V_f : Arv Z h0 w_f k_f .int (2 : Int32) [(.int (0 : Int32)), (.int (0 : Int32))] (.int (0 : Int32))) (E_f : Exa Z h0 w_f "[I") (F_size : Fld Z h0 o0 "com/example/robust_broker/robustbroker/Postings" "size" "I" (.int (0 : Int32))) (F_collectionFrequency : Fld Z h0 o0 "com/example/robust_broker/robustbroker/Postings" "collectionFrequency" "J" (.long q_c)) (ne_o0_w_d : o0 ≠ w_d) (ne_o0_w_f : o0 ≠ w_f) (ne_w_d_w_f : w_d ≠ w_f) (E_o0 : Exa Z h0 o0 "com/example/robust_broker/robustbroker/Postings") (g_o0 : n0 ≤ o0) :
    MetFree l (⟨"com/example/robust_broker/robustbroker/Postings", "trim", "()V"⟩ : MethodName) (head1 (Jvm.Cond.code (⟨"com/example/robust_broker/robustbroker/Postings", "trim", "()V"⟩ : MethodName) prog_26_method_3_code 1 none :: ws) ({ frames := 2, cells := 2, slots := 0, locals := 33 } : Room)) (fun a U => a = #[(.ref o0)] ∧ Z.Warmed39 U.vm ∧ U.heap = h0) (fun _ _ _ _ _ => True) (fun _ U o U' => ∃ v L, o = .returned v ∧ Qtrim_2_0 Z o0 w_d k_d w_f k_f q_c h0 n0 v U'.heap L ∧ FrameEnd U o U' L ({ frames := 2, cells := 2, slots := 0, locals := 33 } : Room).cells ({ frames := 2, cells := 2, slots := 0, locals := 33 } : Room).slots) := by
  refine MetFree.of_bodySF (plainFor_of_name (by first | (simp [plainName, overriddenIn]; done) | decide +kernel)) hisR ?_
  intro p e s m args below meth c s₁ Bd hml0 hP hK
  obtain ⟨rfl, hZ, hh⟩ := hP
  have hx := Bd.exec
  have hby := Bd.bytes
  have hml : c.maxLocals = 1 := hml0
  have hown : s.vm.findClass "com/example/robust_broker/robustbroker/Postings" = some m.cls := findClass_of_methodNamed Bd.named
  have hnm := (name_of_methodNamed Bd.named Bd.method).1
  have hlk := BodyLoose.notSynchronized Bd
  have X0 : Stand p l e ({ frames := 2, cells := 2, slots := 0, locals := 33 } : Room) s m #[(.ref o0)] below meth c s₁ [] 0 0 := Stand.of_body Bd
  have e0 : s₁.heap = h0 := by rw [← hh, Bd.state]; rfl
  have N0 := Fr.nil n0
  show Go p e below s (Qtrim_2_0 Z o0 w_d k_d w_f k_f q_c h0 n0) 2 0 (s₁.setTop (entryFrame m #[(.ref o0)] 1))
  rw [ef_trim_2_0]
  show Go _ _ _ _ _ _ _ (s₁.setTop (mkF m 0 #[.val (.ref o0)] []))
  refine gob (fun _ k => XS.aloadN X0.here hx rfl (hb hby d3_0) rfl rfl k) ?_
  show Go _ _ _ _ _ _ _ (s₁.setTop (mkF m 1 #[.val (.ref o0)] [(.ref o0)]))
  refine gob (fun _ k => XS.aloadN X0.here hx rfl (hb hby d3_1) rfl rfl k) ?_
  show Go _ _ _ _ _ _ _ (s₁.setTop (mkF m 2 #[.val (.ref o0)] [(.ref o0), (.ref o0)]))
  obtain ⟨T1, X1, e1, st1⟩ := getF X0 hx hZ hown (host := "") (Or.inl (hw _ (List.mem_of_getElem? (i := 12) rfl))) Via.refl e0 F_documents (g := (mkF m 2 #[.val (.ref o0)] [(.ref o0), (.ref o0)])) rfl rfl (hb hby d3_2)
  refine gob st1 ?_
  show Go _ _ _ _ _ _ _ (T1.setTop (mkF m 5 #[.val (.ref o0)] [(.ref w_d), (.ref o0)]))
  refine gob (fun _ k => XS.aloadN X1.here hx rfl (hb hby d3_5) rfl rfl k) ?_
  show Go _ _ _ _ _ _ _ (T1.setTop (mkF m 6 #[.val (.ref o0)] [(.ref o0), (.ref w_d), (.ref o0)]))
  obtain ⟨T2, X2, e2, st2⟩ := getF X1 hx hZ hown (host := "") (Or.inl (hw _ (List.mem_of_getElem? (i := 21) rfl))) Via.refl e1 F_size (g := (mkF m 6 #[.val (.ref o0)] [(.ref o0), (.ref w_d), (.ref o0)])) rfl rfl (hb hby d3_6)
  refine gob st2 ?_
  show Go _ _ _ _ _ _ _ (T2.setTop (mkF m 9 #[.val (.ref o0)] [(.int (0 : Int32)), (.ref w_d), (.ref o0)]))
  obtain ⟨_, _, ⟨T3, L3, k3, n3⟩, -, X3, ⟨Lc3, hQ3, l3, y3, z3⟩, st3⟩ := Jvm.LawKit.callS X2 hx (y := (⟨"java/util/Arrays", "copyOf", "([II)[I"⟩ : MethodName)) hown (mvT hZ (hw _ (List.mem_of_getElem? (i := 23) rfl))) (mvT hZ (hw _ (List.mem_of_getElem? (i := 24) rfl))) (mvT hZ (hw _ (List.mem_of_getElem? (i := 25) rfl))) (mvT hZ (hw _ (List.mem_of_getElem? (i := 26) rfl))) (by decide) (backOf (W := 1) (rmcp_2_0_0 l Z a0 hw [] w_d k_d h0 n0 Z0 V_d E_d) hZ (hw _ (List.mem_of_getElem? (i := 26) rfl)) (hw _ (List.mem_of_getElem? (i := 25) rfl)) (by decide) (by decide)) (g := (mkF m 9 #[.val (.ref o0)] [(.int (0 : Int32)), (.ref w_d), (.ref o0)])) rfl (by rw [hml]; rfl) (argsL := [(.ref w_d), (.int (0 : Int32))]) (rest := [(.ref o0)]) (lenOf pd_1 rfl) rfl (by show 2 * 0 + _ ≤ _; exact Nat.le_of_eq rfl) (hb hby d3_9) (fun _ _ => ⟨rfl, e2, (by decide : 0 + 1 ≤ _), (by decide : 0 + 0 ≤ _)⟩)
  dsimp only [Pt.U, Pt.locs, Pt.cells, Pt.slots] at X3 l3 y3 z3 st3 hQ3
  subst l3 y3 z3
  obtain ⟨b4, k5, rfl, Nq3, K3, hz6, F7, F8⟩ := hQ3
  have N3 := Fr.app N0 Nq3
  have n9 : o0 ≠ b4 := Nat.ne_of_lt (Nat.lt_of_lt_of_le F_documents.lt hz6)
  have n10 : w_d ≠ b4 := Nat.ne_of_lt (Nat.lt_of_lt_of_le V_d.lt hz6)
  have n11 : w_f ≠ b4 := Nat.ne_of_lt (Nat.lt_of_lt_of_le V_f.lt hz6)
  have g12 : n0 ≤ b4 := Nat.le_trans Z0 hz6
  have sz_b4 : h0.size ≤ b4 := Nat.le_trans (Keep.refl h0 []).1 hz6
  have z13 : n0 ≤ T3.heap.size := Nat.le_trans Z0 K3.1
  have K14 : Keep h0 T3.heap ([o0] : List Addr) := (Keep.refl h0 ([o0] : List Addr)).trans K3 all0
  refine gob st3 ?_
  show Go _ _ _ _ _ _ _ (T3.setTop (mkF m 12 #[.val (.ref o0)] [(.ref b4), (.ref o0)]))
  have c15 := (F_documents.keep K3 nin0)
  have c16 := (E_o0.keep K3)
  obtain ⟨T17, h17, X17, e17, W17, st17⟩ := putF X3 hx hZ hown (host := "") (Or.inl (hw _ (List.mem_of_getElem? (i := 12) rfl))) Via.refl (rfl : T3.heap = _) c15 c16 (Or.inl (hw _ (List.mem_of_getElem? (i := 13) rfl))) (hw _ (List.mem_of_getElem? (i := 3) rfl)) (ty := (.array .int)) (by decide) rfl rfl (g := (mkF m 12 #[.val (.ref o0)] [(.ref b4), (.ref o0)])) rfl rfl (hb hby d3_12)
  refine gob st17 ?_
  have z18 : n0 ≤ h17.size := Nat.le_trans z13 (Keep.of_wr W17).1
  have N17 := Fr.snoc X17 N3 g_o0
  have K19 : Keep h0 h17 ([o0] : List Addr) := K14.wr W17 (Or.inl (List.mem_of_getElem? (i := 0) rfl))
  have Fw17 := c15.same W17
  show Go _ _ _ _ _ _ _ (T17.setTop (mkF m 15 #[.val (.ref o0)] []))
  refine gob (fun _ k => XS.aloadN X17.here hx rfl (hb hby d3_15) rfl rfl k) ?_
  show Go _ _ _ _ _ _ _ (T17.setTop (mkF m 16 #[.val (.ref o0)] [(.ref o0)]))
  refine gob (fun _ k => XS.aloadN X17.here hx rfl (hb hby d3_16) rfl rfl k) ?_
  show Go _ _ _ _ _ _ _ (T17.setTop (mkF m 17 #[.val (.ref o0)] [(.ref o0), (.ref o0)]))
  have c20 := ((F_frequencies.keep K3 nin0).other W17 (Or.inr (slot_ne (Or.inl (hw _ (List.mem_of_getElem? (i := 15) rfl))) (Or.inl (hw _ (List.mem_of_getElem? (i := 13) rfl))) (by decide) (t := (.array .int)) (t' := (.array .int)) (by decide) (by decide))))
  obtain ⟨T21, X21, e21, st21⟩ := getF X17 hx hZ hown (host := "") (Or.inl (hw _ (List.mem_of_getElem? (i := 14) rfl))) Via.refl e17 c20 (g := (mkF m 17 #[.val (.ref o0)] [(.ref o0), (.ref o0)])) rfl rfl (hb hby d3_17)
  refine gob st21 ?_
  show Go _ _ _ _ _ _ _ (T21.setTop (mkF m 20 #[.val (.ref o0)] [(.ref w_f), (.ref o0)]))
  refine gob (fun _ k => XS.aloadN X21.here hx rfl (hb hby d3_20) rfl rfl k) ?_
  show Go _ _ _ _ _ _ _ (T21.setTop (mkF m 21 #[.val (.ref o0)] [(.ref o0), (.ref w_f), (.ref o0)]))
  have c22 := ((F_size.keep K3 nin0).other W17 (Or.inr (slot_ne (Or.inl (hw _ (List.mem_of_getElem? (i := 22) rfl))) (Or.inl (hw _ (List.mem_of_getElem? (i := 13) rfl))) (by decide) (t := .int) (t' := (.array .int)) (by decide) (by decide))))
  obtain ⟨T23, X23, e23, st23⟩ := getF X21 hx hZ hown (host := "") (Or.inl (hw _ (List.mem_of_getElem? (i := 21) rfl))) Via.refl e21 c22 (g := (mkF m 21 #[.val (.ref o0)] [(.ref o0), (.ref w_f), (.ref o0)])) rfl rfl (hb hby d3_21)
  refine gob st23 ?_
  show Go _ _ _ _ _ _ _ (T23.setTop (mkF m 24 #[.val (.ref o0)] [(.int (0 : Int32)), (.ref w_f), (.ref o0)]))
  have c25 := ((V_f.keep K3 nin0).other W17 (Ne.symm ne_o0_w_f))
  have c26 := ((E_f.keep K3).wr W17)
  obtain ⟨_, _, ⟨T24, L24, k24, n24⟩, -, X24, ⟨Lc24, hQ24, l24, y24, z24⟩, st24⟩ := Jvm.LawKit.callS X23 hx (y := (⟨"java/util/Arrays", "copyOf", "([II)[I"⟩ : MethodName)) hown (mvT hZ (hw _ (List.mem_of_getElem? (i := 23) rfl))) (mvT hZ (hw _ (List.mem_of_getElem? (i := 24) rfl))) (mvT hZ (hw _ (List.mem_of_getElem? (i := 25) rfl))) (mvT hZ (hw _ (List.mem_of_getElem? (i := 26) rfl))) (by decide) (backOf (W := 1) (rmcp_2_0_0 l Z a0 hw [] w_f k_f h17 n0 z18 c25 c26) hZ (hw _ (List.mem_of_getElem? (i := 26) rfl)) (hw _ (List.mem_of_getElem? (i := 25) rfl)) (by decide) (by decide)) (g := (mkF m 24 #[.val (.ref o0)] [(.int (0 : Int32)), (.ref w_f), (.ref o0)])) rfl (by rw [hml]; rfl) (argsL := [(.ref w_f), (.int (0 : Int32))]) (rest := [(.ref o0)]) (lenOf pd_1 rfl) rfl (by show 2 * 0 + _ ≤ _; exact Nat.le_of_eq rfl) (hb hby d3_24) (fun _ _ => ⟨rfl, e23, (by decide : 1 + 1 ≤ _), (by decide : 0 + 0 ≤ _)⟩)
  dsimp only [Pt.U, Pt.locs, Pt.cells, Pt.slots] at X24 l24 y24 z24 st24 hQ24
  subst l24 y24 z24
  obtain ⟨b27, k28, rfl, Nq24, K24, hz29, F30, F31⟩ := hQ24
  have N24 := Fr.app N17 Nq24
  have n32 : o0 ≠ b27 := Nat.ne_of_lt (Nat.lt_of_lt_of_le Fw17.lt hz29)
  have c34 := ((V_d.keep K3 nin0).other W17 (Ne.symm ne_o0_w_d))
  have n33 : w_d ≠ b27 := Nat.ne_of_lt (Nat.lt_of_lt_of_le c34.lt hz29)
  have n35 : w_f ≠ b27 := Nat.ne_of_lt (Nat.lt_of_lt_of_le c25.lt hz29)
  have c37 := (F7.wr W17)
  have n36 : b4 ≠ b27 := Nat.ne_of_lt (Nat.lt_of_lt_of_le c37.lt hz29)
  have g38 : n0 ≤ b27 := Nat.le_trans z18 hz29
  have sz_b27 : h0.size ≤ b27 := Nat.le_trans K19.1 hz29
  have z39 : n0 ≤ T24.heap.size := Nat.le_trans z18 K24.1
  have K40 : Keep h0 T24.heap ([o0] : List Addr) := K19.trans K24 all0
  refine gob st24 ?_
  show Go _ _ _ _ _ _ _ (T24.setTop (mkF m 27 #[.val (.ref o0)] [(.ref b27), (.ref o0)]))
  have c41 := (c20.keep K24 nin0)
  have c42 := ((c16.wr W17).keep K24)
  obtain ⟨T43, h43, X43, e43, W43, st43⟩ := putF X24 hx hZ hown (host := "") (Or.inl (hw _ (List.mem_of_getElem? (i := 14) rfl))) Via.refl (rfl : T24.heap = _) c41 c42 (Or.inl (hw _ (List.mem_of_getElem? (i := 15) rfl))) (hw _ (List.mem_of_getElem? (i := 3) rfl)) (ty := (.array .int)) (by decide) rfl rfl (g := (mkF m 27 #[.val (.ref o0)] [(.ref b27), (.ref o0)])) rfl rfl (hb hby d3_27)
  refine gob st43 ?_
  have z44 : n0 ≤ h43.size := Nat.le_trans z39 (Keep.of_wr W43).1
  have N43 := Fr.snoc X43 N24 g_o0
  have K45 : Keep h0 h43 ([o0] : List Addr) := K40.wr W43 (Or.inl (List.mem_of_getElem? (i := 0) rfl))
  have Fw43 := c41.same W43
  show Go _ _ _ _ _ _ _ (T43.setTop (mkF m 30 #[.val (.ref o0)] []))
  refine goV X43 hx hlk Bd.returns (hb hby d3_30) ?_ (by decide) (by decide)
  show Qtrim_2_0 Z o0 w_d k_d w_f k_f q_c h0 n0 (none) T43.heap _
  have c46 := ((Fw17.keep K24 nin0).other W43 (Or.inr (slot_ne (Or.inl (hw _ (List.mem_of_getElem? (i := 13) rfl))) (Or.inl (hw _ (List.mem_of_getElem? (i := 15) rfl))) (by decide) (t := (.array .int)) (t' := (.array .int)) (by decide) (by decide))))
  have c47 := ((c22.keep K24 nin0).other W43 (Or.inr (slot_ne (Or.inl (hw _ (List.mem_of_getElem? (i := 22) rfl))) (Or.inl (hw _ (List.mem_of_getElem? (i := 15) rfl))) (by decide) (t := .int) (t' := (.array .int)) (by decide) (by decide))))
  have c48 := ((((F_collectionFrequency.keep K3 nin0).other W17 (Or.inr (slot_ne (Or.inl (hw _ (List.mem_of_getElem? (i := 46) rfl))) (Or.inl (hw _ (List.mem_of_getElem? (i := 13) rfl))) (by decide) (t := .long) (t' := (.array .int)) (by decide) (by decide)))).keep K24 nin0).other W43 (Or.inr (slot_ne (Or.inl (hw _ (List.mem_of_getElem? (i := 46) rfl))) (Or.inl (hw _ (List.mem_of_getElem? (i := 15) rfl))) (by decide) (t := .long) (t' := (.array .int)) (by decide) (by decide))))
  have c49 := ((c37.keep K24).wr W43)
  have c50 := (((F8.other W17 (Ne.symm n9)).keep K24 nin0).other W43 (Ne.symm n9))
  have c51 := (F30.wr W43)
  have c52 := (F31.other W43 (Ne.symm n32))
  rw [e43]
  exact ⟨b4, b27, k5, k28, rfl, N43, K45, sz_b4, sz_b27, n36, c46, Fw43, c47, c48, c49, c50, c51, c52⟩
theorem ef_trim_2_1 (m : MethodId) (x0 : Addr) : entryFrame m #[(.ref x0)] 1 = mkF m 0 #[.val (.ref x0)] [] := by first | (simp [entryFrame, mkF, argsToLocals, Value.category]; done) | rfl
def Qtrim_2_1 (Z : State) (o0 : Addr) (w_d : Addr) (k_d : ClassId) (d0 : Int32) (w_f : Addr) (k_f : ClassId) (f0 : Int32) (q_c : Int64) (h0 : Heap) (n0 : Nat) (v : Option Value) (h : Heap) (L : List Loc) : Prop := ∃ b4 : Addr, ∃ b27 : Addr, ∃ k5 : ClassId, ∃ k28 : ClassId, v = none ∧ Fr n0 L ∧ Keep h0 h ([o0] : List Addr) ∧ h0.size ≤ b4 ∧ h0.size ≤ b27 ∧ b4 ≠ b27 ∧ Fld Z h o0 "com/example/robust_broker/robustbroker/Postings" "documents" "[I" (.ref b4) ∧ Fld Z h o0 "com/example/robust_broker/robustbroker/Postings" "frequencies" "[I" (.ref b27) ∧ Fld Z h o0 "com/example/robust_broker/robustbroker/Postings" "size" "I" (.int (1 : Int32)) ∧ Fld Z h o0 "com/example/robust_broker/robustbroker/Postings" "collectionFrequency" "J" (.long q_c) ∧ Exa Z h b4 "[I" ∧ Arv Z h b4 k5 .int (1 : Int32) [(.int d0)] (.int (0 : Int32)) ∧ Exa Z h b27 "[I" ∧ Arv Z h b27 k28 .int (1 : Int32) [(.int f0)] (.int (0 : Int32))
set_option maxRecDepth 65536 in
set_option maxHeartbeats 40000000 in
theorem rmtrim_2_1 (l : Launch) (Z : State) (a0 : Array Value) (hw : ∀ d ∈ tables_1, d.before a0 Z = true) (ws : List Jvm.Cond) (o0 : Addr) (w_d : Addr) (k_d : ClassId) (d0 : Int32) (w_f : Addr) (k_f : ClassId) (f0 : Int32) (q_c : Int64) (h0 : Heap) (n0 : Nat) (Z0 : n0 ≤ h0.size) (F_documents : Fld Z h0 o0 "com/example/robust_broker/robustbroker/Postings" "documents" "[I" (.ref w_d)) (V_d : Arv Z h0 w_d k_d .int (2 : Int32) [(.int d0), (.int (0 : Int32))] (.int (0 : Int32))) (E_d : Exa Z h0 w_d "[I") (F_frequencies : Fld Z h0 o0 "com/example/robust_broker/robustbroker/Postings" "frequencies" "[I" (.ref w_f)) (V_f : Arv Z h0 w_f k_f .int (2 : Int32) [(.int f0), (.int (0 : Int32))] (.int (0 : Int32))) (E_f : Exa Z h0 w_f "[I") (F_size : Fld Z h0 o0 "com/example/robust_broker/robustbroker/Postings" "size" "I" (.int (1 : Int32))) (F_collectionFrequency : Fld Z h0 o0 "com/example/robust_broker/robustbroker/Postings" "collectionFrequency" "J" (.long q_c)) (ne_o0_w_d : o0 ≠ w_d) (ne_o0_w_f : o0 ≠ w_f) (ne_w_d_w_f : w_d ≠ w_f) (E_o0 : Exa Z h0 o0 "com/example/robust_broker/robustbroker/Postings") (g_o0 : n0 ≤ o0) :
    MetFree l (⟨"com/example/robust_broker/robustbroker/Postings", "trim", "()V"⟩ : MethodName) (head1 (Jvm.Cond.code (⟨"com/example/robust_broker/robustbroker/Postings", "trim", "()V"⟩ : MethodName) prog_26_method_3_code 1 none :: ws) ({ frames := 2, cells := 2, slots := 2, locals := 33 } : Room)) (fun a U => a = #[(.ref o0)] ∧ Z.Warmed39 U.vm ∧ U.heap = h0) (fun _ _ _ _ _ => True) (fun _ U o U' => ∃ v L, o = .returned v ∧ Qtrim_2_1 Z o0 w_d k_d d0 w_f k_f f0 q_c h0 n0 v U'.heap L ∧ FrameEnd U o U' L ({ frames := 2, cells := 2, slots := 2, locals := 33 } : Room).cells ({ frames := 2, cells := 2, slots := 2, locals := 33 } : Room).slots) := by
  refine MetFree.of_bodySF (plainFor_of_name (by first | (simp [plainName, overriddenIn]; done) | decide +kernel)) hisR ?_
  intro p e s m args below meth c s₁ Bd hml0 hP hK
  obtain ⟨rfl, hZ, hh⟩ := hP
  have hx := Bd.exec
  have hby := Bd.bytes
  have hml : c.maxLocals = 1 := hml0
  have hown : s.vm.findClass "com/example/robust_broker/robustbroker/Postings" = some m.cls := findClass_of_methodNamed Bd.named
  have hnm := (name_of_methodNamed Bd.named Bd.method).1
  have hlk := BodyLoose.notSynchronized Bd
  have X0 : Stand p l e ({ frames := 2, cells := 2, slots := 2, locals := 33 } : Room) s m #[(.ref o0)] below meth c s₁ [] 0 0 := Stand.of_body Bd
  have e0 : s₁.heap = h0 := by rw [← hh, Bd.state]; rfl
  have N0 := Fr.nil n0
  show Go p e below s (Qtrim_2_1 Z o0 w_d k_d d0 w_f k_f f0 q_c h0 n0) 2 2 (s₁.setTop (entryFrame m #[(.ref o0)] 1))
  rw [ef_trim_2_1]
  show Go _ _ _ _ _ _ _ (s₁.setTop (mkF m 0 #[.val (.ref o0)] []))
  refine gob (fun _ k => XS.aloadN X0.here hx rfl (hb hby d3_0) rfl rfl k) ?_
  show Go _ _ _ _ _ _ _ (s₁.setTop (mkF m 1 #[.val (.ref o0)] [(.ref o0)]))
  refine gob (fun _ k => XS.aloadN X0.here hx rfl (hb hby d3_1) rfl rfl k) ?_
  show Go _ _ _ _ _ _ _ (s₁.setTop (mkF m 2 #[.val (.ref o0)] [(.ref o0), (.ref o0)]))
  obtain ⟨T1, X1, e1, st1⟩ := getF X0 hx hZ hown (host := "") (Or.inl (hw _ (List.mem_of_getElem? (i := 12) rfl))) Via.refl e0 F_documents (g := (mkF m 2 #[.val (.ref o0)] [(.ref o0), (.ref o0)])) rfl rfl (hb hby d3_2)
  refine gob st1 ?_
  show Go _ _ _ _ _ _ _ (T1.setTop (mkF m 5 #[.val (.ref o0)] [(.ref w_d), (.ref o0)]))
  refine gob (fun _ k => XS.aloadN X1.here hx rfl (hb hby d3_5) rfl rfl k) ?_
  show Go _ _ _ _ _ _ _ (T1.setTop (mkF m 6 #[.val (.ref o0)] [(.ref o0), (.ref w_d), (.ref o0)]))
  obtain ⟨T2, X2, e2, st2⟩ := getF X1 hx hZ hown (host := "") (Or.inl (hw _ (List.mem_of_getElem? (i := 21) rfl))) Via.refl e1 F_size (g := (mkF m 6 #[.val (.ref o0)] [(.ref o0), (.ref w_d), (.ref o0)])) rfl rfl (hb hby d3_6)
  refine gob st2 ?_
  show Go _ _ _ _ _ _ _ (T2.setTop (mkF m 9 #[.val (.ref o0)] [(.int (1 : Int32)), (.ref w_d), (.ref o0)]))
  obtain ⟨_, _, ⟨T3, L3, k3, n3⟩, -, X3, ⟨Lc3, hQ3, l3, y3, z3⟩, st3⟩ := Jvm.LawKit.callS X2 hx (y := (⟨"java/util/Arrays", "copyOf", "([II)[I"⟩ : MethodName)) hown (mvT hZ (hw _ (List.mem_of_getElem? (i := 23) rfl))) (mvT hZ (hw _ (List.mem_of_getElem? (i := 24) rfl))) (mvT hZ (hw _ (List.mem_of_getElem? (i := 25) rfl))) (mvT hZ (hw _ (List.mem_of_getElem? (i := 26) rfl))) (by decide) (backOf (W := 1) (rmcp_2_1_1 l Z a0 hw [] w_d k_d d0 h0 n0 Z0 V_d E_d) hZ (hw _ (List.mem_of_getElem? (i := 26) rfl)) (hw _ (List.mem_of_getElem? (i := 25) rfl)) (by decide) (by decide)) (g := (mkF m 9 #[.val (.ref o0)] [(.int (1 : Int32)), (.ref w_d), (.ref o0)])) rfl (by rw [hml]; rfl) (argsL := [(.ref w_d), (.int (1 : Int32))]) (rest := [(.ref o0)]) (lenOf pd_1 rfl) rfl (by show 2 * 0 + _ ≤ _; exact Nat.le_of_eq rfl) (hb hby d3_9) (fun _ _ => ⟨rfl, e2, (by decide : 0 + 1 ≤ _), (by decide : 0 + 1 ≤ _)⟩)
  dsimp only [Pt.U, Pt.locs, Pt.cells, Pt.slots] at X3 l3 y3 z3 st3 hQ3
  subst l3 y3 z3
  obtain ⟨b4, k5, rfl, Nq3, K3, hz6, F7, F8⟩ := hQ3
  have N3 := Fr.app N0 Nq3
  have n9 : o0 ≠ b4 := Nat.ne_of_lt (Nat.lt_of_lt_of_le F_documents.lt hz6)
  have n10 : w_d ≠ b4 := Nat.ne_of_lt (Nat.lt_of_lt_of_le V_d.lt hz6)
  have n11 : w_f ≠ b4 := Nat.ne_of_lt (Nat.lt_of_lt_of_le V_f.lt hz6)
  have g12 : n0 ≤ b4 := Nat.le_trans Z0 hz6
  have sz_b4 : h0.size ≤ b4 := Nat.le_trans (Keep.refl h0 []).1 hz6
  have z13 : n0 ≤ T3.heap.size := Nat.le_trans Z0 K3.1
  have K14 : Keep h0 T3.heap ([o0] : List Addr) := (Keep.refl h0 ([o0] : List Addr)).trans K3 all0
  refine gob st3 ?_
  show Go _ _ _ _ _ _ _ (T3.setTop (mkF m 12 #[.val (.ref o0)] [(.ref b4), (.ref o0)]))
  have c15 := (F_documents.keep K3 nin0)
  have c16 := (E_o0.keep K3)
  obtain ⟨T17, h17, X17, e17, W17, st17⟩ := putF X3 hx hZ hown (host := "") (Or.inl (hw _ (List.mem_of_getElem? (i := 12) rfl))) Via.refl (rfl : T3.heap = _) c15 c16 (Or.inl (hw _ (List.mem_of_getElem? (i := 13) rfl))) (hw _ (List.mem_of_getElem? (i := 3) rfl)) (ty := (.array .int)) (by decide) rfl rfl (g := (mkF m 12 #[.val (.ref o0)] [(.ref b4), (.ref o0)])) rfl rfl (hb hby d3_12)
  refine gob st17 ?_
  have z18 : n0 ≤ h17.size := Nat.le_trans z13 (Keep.of_wr W17).1
  have N17 := Fr.snoc X17 N3 g_o0
  have K19 : Keep h0 h17 ([o0] : List Addr) := K14.wr W17 (Or.inl (List.mem_of_getElem? (i := 0) rfl))
  have Fw17 := c15.same W17
  show Go _ _ _ _ _ _ _ (T17.setTop (mkF m 15 #[.val (.ref o0)] []))
  refine gob (fun _ k => XS.aloadN X17.here hx rfl (hb hby d3_15) rfl rfl k) ?_
  show Go _ _ _ _ _ _ _ (T17.setTop (mkF m 16 #[.val (.ref o0)] [(.ref o0)]))
  refine gob (fun _ k => XS.aloadN X17.here hx rfl (hb hby d3_16) rfl rfl k) ?_
  show Go _ _ _ _ _ _ _ (T17.setTop (mkF m 17 #[.val (.ref o0)] [(.ref o0), (.ref o0)]))
  have c20 := ((F_frequencies.keep K3 nin0).other W17 (Or.inr (slot_ne (Or.inl (hw _ (List.mem_of_getElem? (i := 15) rfl))) (Or.inl (hw _ (List.mem_of_getElem? (i := 13) rfl))) (by decide) (t := (.array .int)) (t' := (.array .int)) (by decide) (by decide))))
  obtain ⟨T21, X21, e21, st21⟩ := getF X17 hx hZ hown (host := "") (Or.inl (hw _ (List.mem_of_getElem? (i := 14) rfl))) Via.refl e17 c20 (g := (mkF m 17 #[.val (.ref o0)] [(.ref o0), (.ref o0)])) rfl rfl (hb hby d3_17)
  refine gob st21 ?_
  show Go _ _ _ _ _ _ _ (T21.setTop (mkF m 20 #[.val (.ref o0)] [(.ref w_f), (.ref o0)]))
  refine gob (fun _ k => XS.aloadN X21.here hx rfl (hb hby d3_20) rfl rfl k) ?_
  show Go _ _ _ _ _ _ _ (T21.setTop (mkF m 21 #[.val (.ref o0)] [(.ref o0), (.ref w_f), (.ref o0)]))
  have c22 := ((F_size.keep K3 nin0).other W17 (Or.inr (slot_ne (Or.inl (hw _ (List.mem_of_getElem? (i := 22) rfl))) (Or.inl (hw _ (List.mem_of_getElem? (i := 13) rfl))) (by decide) (t := .int) (t' := (.array .int)) (by decide) (by decide))))
  obtain ⟨T23, X23, e23, st23⟩ := getF X21 hx hZ hown (host := "") (Or.inl (hw _ (List.mem_of_getElem? (i := 21) rfl))) Via.refl e21 c22 (g := (mkF m 21 #[.val (.ref o0)] [(.ref o0), (.ref w_f), (.ref o0)])) rfl rfl (hb hby d3_21)
  refine gob st23 ?_
  show Go _ _ _ _ _ _ _ (T23.setTop (mkF m 24 #[.val (.ref o0)] [(.int (1 : Int32)), (.ref w_f), (.ref o0)]))
  have c25 := ((V_f.keep K3 nin0).other W17 (Ne.symm ne_o0_w_f))
  have c26 := ((E_f.keep K3).wr W17)
  obtain ⟨_, _, ⟨T24, L24, k24, n24⟩, -, X24, ⟨Lc24, hQ24, l24, y24, z24⟩, st24⟩ := Jvm.LawKit.callS X23 hx (y := (⟨"java/util/Arrays", "copyOf", "([II)[I"⟩ : MethodName)) hown (mvT hZ (hw _ (List.mem_of_getElem? (i := 23) rfl))) (mvT hZ (hw _ (List.mem_of_getElem? (i := 24) rfl))) (mvT hZ (hw _ (List.mem_of_getElem? (i := 25) rfl))) (mvT hZ (hw _ (List.mem_of_getElem? (i := 26) rfl))) (by decide) (backOf (W := 1) (rmcp_2_1_1 l Z a0 hw [] w_f k_f f0 h17 n0 z18 c25 c26) hZ (hw _ (List.mem_of_getElem? (i := 26) rfl)) (hw _ (List.mem_of_getElem? (i := 25) rfl)) (by decide) (by decide)) (g := (mkF m 24 #[.val (.ref o0)] [(.int (1 : Int32)), (.ref w_f), (.ref o0)])) rfl (by rw [hml]; rfl) (argsL := [(.ref w_f), (.int (1 : Int32))]) (rest := [(.ref o0)]) (lenOf pd_1 rfl) rfl (by show 2 * 0 + _ ≤ _; exact Nat.le_of_eq rfl) (hb hby d3_24) (fun _ _ => ⟨rfl, e23, (by decide : 1 + 1 ≤ _), (by decide : 1 + 1 ≤ _)⟩)
  dsimp only [Pt.U, Pt.locs, Pt.cells, Pt.slots] at X24 l24 y24 z24 st24 hQ24
  subst l24 y24 z24
  obtain ⟨b27, k28, rfl, Nq24, K24, hz29, F30, F31⟩ := hQ24
  have N24 := Fr.app N17 Nq24
  have n32 : o0 ≠ b27 := Nat.ne_of_lt (Nat.lt_of_lt_of_le Fw17.lt hz29)
  have c34 := ((V_d.keep K3 nin0).other W17 (Ne.symm ne_o0_w_d))
  have n33 : w_d ≠ b27 := Nat.ne_of_lt (Nat.lt_of_lt_of_le c34.lt hz29)
  have n35 : w_f ≠ b27 := Nat.ne_of_lt (Nat.lt_of_lt_of_le c25.lt hz29)
  have c37 := (F7.wr W17)
  have n36 : b4 ≠ b27 := Nat.ne_of_lt (Nat.lt_of_lt_of_le c37.lt hz29)
  have g38 : n0 ≤ b27 := Nat.le_trans z18 hz29
  have sz_b27 : h0.size ≤ b27 := Nat.le_trans K19.1 hz29
  have z39 : n0 ≤ T24.heap.size := Nat.le_trans z18 K24.1
  have K40 : Keep h0 T24.heap ([o0] : List Addr) := K19.trans K24 all0
  refine gob st24 ?_
  show Go _ _ _ _ _ _ _ (T24.setTop (mkF m 27 #[.val (.ref o0)] [(.ref b27), (.ref o0)]))
  have c41 := (c20.keep K24 nin0)
  have c42 := ((c16.wr W17).keep K24)
  obtain ⟨T43, h43, X43, e43, W43, st43⟩ := putF X24 hx hZ hown (host := "") (Or.inl (hw _ (List.mem_of_getElem? (i := 14) rfl))) Via.refl (rfl : T24.heap = _) c41 c42 (Or.inl (hw _ (List.mem_of_getElem? (i := 15) rfl))) (hw _ (List.mem_of_getElem? (i := 3) rfl)) (ty := (.array .int)) (by decide) rfl rfl (g := (mkF m 27 #[.val (.ref o0)] [(.ref b27), (.ref o0)])) rfl rfl (hb hby d3_27)
  refine gob st43 ?_
  have z44 : n0 ≤ h43.size := Nat.le_trans z39 (Keep.of_wr W43).1
  have N43 := Fr.snoc X43 N24 g_o0
  have K45 : Keep h0 h43 ([o0] : List Addr) := K40.wr W43 (Or.inl (List.mem_of_getElem? (i := 0) rfl))
  have Fw43 := c41.same W43
  show Go _ _ _ _ _ _ _ (T43.setTop (mkF m 30 #[.val (.ref o0)] []))
  refine goV X43 hx hlk Bd.returns (hb hby d3_30) ?_ (by decide) (by decide)
  show Qtrim_2_1 Z o0 w_d k_d d0 w_f k_f f0 q_c h0 n0 (none) T43.heap _
  have c46 := ((Fw17.keep K24 nin0).other W43 (Or.inr (slot_ne (Or.inl (hw _ (List.mem_of_getElem? (i := 13) rfl))) (Or.inl (hw _ (List.mem_of_getElem? (i := 15) rfl))) (by decide) (t := (.array .int)) (t' := (.array .int)) (by decide) (by decide))))
  have c47 := ((c22.keep K24 nin0).other W43 (Or.inr (slot_ne (Or.inl (hw _ (List.mem_of_getElem? (i := 22) rfl))) (Or.inl (hw _ (List.mem_of_getElem? (i := 15) rfl))) (by decide) (t := .int) (t' := (.array .int)) (by decide) (by decide))))
  have c48 := ((((F_collectionFrequency.keep K3 nin0).other W17 (Or.inr (slot_ne (Or.inl (hw _ (List.mem_of_getElem? (i := 46) rfl))) (Or.inl (hw _ (List.mem_of_getElem? (i := 13) rfl))) (by decide) (t := .long) (t' := (.array .int)) (by decide) (by decide)))).keep K24 nin0).other W43 (Or.inr (slot_ne (Or.inl (hw _ (List.mem_of_getElem? (i := 46) rfl))) (Or.inl (hw _ (List.mem_of_getElem? (i := 15) rfl))) (by decide) (t := .long) (t' := (.array .int)) (by decide) (by decide))))
  have c49 := ((c37.keep K24).wr W43)
  have c50 := (((F8.other W17 (Ne.symm n9)).keep K24 nin0).other W43 (Ne.symm n9))
  have c51 := (F30.wr W43)
  have c52 := (F31.other W43 (Ne.symm n32))
  rw [e43]
  exact ⟨b4, b27, k5, k28, rfl, N43, K45, sz_b4, sz_b27, n36, c46, Fw43, c47, c48, c49, c50, c51, c52⟩
theorem ef_trim_2_2 (m : MethodId) (x0 : Addr) : entryFrame m #[(.ref x0)] 1 = mkF m 0 #[.val (.ref x0)] [] := by first | (simp [entryFrame, mkF, argsToLocals, Value.category]; done) | rfl
def Qtrim_2_2 (Z : State) (o0 : Addr) (w_d : Addr) (k_d : ClassId) (d0 : Int32) (d1 : Int32) (w_f : Addr) (k_f : ClassId) (f0 : Int32) (f1 : Int32) (q_c : Int64) (h0 : Heap) (n0 : Nat) (v : Option Value) (h : Heap) (L : List Loc) : Prop := ∃ b4 : Addr, ∃ b26 : Addr, v = none ∧ Fr n0 L ∧ Keep h0 h ([o0] : List Addr) ∧ h0.size ≤ b4 ∧ h0.size ≤ b26 ∧ b4 ≠ b26 ∧ Fld Z h o0 "com/example/robust_broker/robustbroker/Postings" "documents" "[I" (.ref b4) ∧ Fld Z h o0 "com/example/robust_broker/robustbroker/Postings" "frequencies" "[I" (.ref b26) ∧ Fld Z h o0 "com/example/robust_broker/robustbroker/Postings" "size" "I" (.int (2 : Int32)) ∧ Fld Z h o0 "com/example/robust_broker/robustbroker/Postings" "collectionFrequency" "J" (.long q_c) ∧ Arv Z h b4 k_d .int (2 : Int32) [(.int d0), (.int d1)] (.int (0 : Int32)) ∧ Exa Z h b4 "[I" ∧ Arv Z h b26 k_f .int (2 : Int32) [(.int f0), (.int f1)] (.int (0 : Int32)) ∧ Exa Z h b26 "[I"
set_option maxRecDepth 65536 in
set_option maxHeartbeats 40000000 in
theorem rmtrim_2_2 (l : Launch) (Z : State) (a0 : Array Value) (hw : ∀ d ∈ tables_1, d.before a0 Z = true) (ws : List Jvm.Cond) (o0 : Addr) (w_d : Addr) (k_d : ClassId) (d0 : Int32) (d1 : Int32) (w_f : Addr) (k_f : ClassId) (f0 : Int32) (f1 : Int32) (q_c : Int64) (h0 : Heap) (n0 : Nat) (Z0 : n0 ≤ h0.size) (F_documents : Fld Z h0 o0 "com/example/robust_broker/robustbroker/Postings" "documents" "[I" (.ref w_d)) (V_d : Arv Z h0 w_d k_d .int (2 : Int32) [(.int d0), (.int d1)] (.int (0 : Int32))) (E_d : Exa Z h0 w_d "[I") (F_frequencies : Fld Z h0 o0 "com/example/robust_broker/robustbroker/Postings" "frequencies" "[I" (.ref w_f)) (V_f : Arv Z h0 w_f k_f .int (2 : Int32) [(.int f0), (.int f1)] (.int (0 : Int32))) (E_f : Exa Z h0 w_f "[I") (F_size : Fld Z h0 o0 "com/example/robust_broker/robustbroker/Postings" "size" "I" (.int (2 : Int32))) (F_collectionFrequency : Fld Z h0 o0 "com/example/robust_broker/robustbroker/Postings" "collectionFrequency" "J" (.long q_c)) (ne_o0_w_d : o0 ≠ w_d) (ne_o0_w_f : o0 ≠ w_f) (ne_w_d_w_f : w_d ≠ w_f) (E_o0 : Exa Z h0 o0 "com/example/robust_broker/robustbroker/Postings") (g_o0 : n0 ≤ o0) :
    MetFree l (⟨"com/example/robust_broker/robustbroker/Postings", "trim", "()V"⟩ : MethodName) (head1 (Jvm.Cond.code (⟨"com/example/robust_broker/robustbroker/Postings", "trim", "()V"⟩ : MethodName) prog_26_method_3_code 1 none :: ws) ({ frames := 2, cells := 2, slots := 4, locals := 29 } : Room)) (fun a U => a = #[(.ref o0)] ∧ Z.Warmed39 U.vm ∧ U.heap = h0) (fun _ _ _ _ _ => True) (fun _ U o U' => ∃ v L, o = .returned v ∧ Qtrim_2_2 Z o0 w_d k_d d0 d1 w_f k_f f0 f1 q_c h0 n0 v U'.heap L ∧ FrameEnd U o U' L ({ frames := 2, cells := 2, slots := 4, locals := 29 } : Room).cells ({ frames := 2, cells := 2, slots := 4, locals := 29 } : Room).slots) := by
  refine MetFree.of_bodySF (plainFor_of_name (by first | (simp [plainName, overriddenIn]; done) | decide +kernel)) hisR ?_
  intro p e s m args below meth c s₁ Bd hml0 hP hK
  obtain ⟨rfl, hZ, hh⟩ := hP
  have hx := Bd.exec
  have hby := Bd.bytes
  have hml : c.maxLocals = 1 := hml0
  have hown : s.vm.findClass "com/example/robust_broker/robustbroker/Postings" = some m.cls := findClass_of_methodNamed Bd.named
  have hnm := (name_of_methodNamed Bd.named Bd.method).1
  have hlk := BodyLoose.notSynchronized Bd
  have X0 : Stand p l e ({ frames := 2, cells := 2, slots := 4, locals := 29 } : Room) s m #[(.ref o0)] below meth c s₁ [] 0 0 := Stand.of_body Bd
  have e0 : s₁.heap = h0 := by rw [← hh, Bd.state]; rfl
  have N0 := Fr.nil n0
  show Go p e below s (Qtrim_2_2 Z o0 w_d k_d d0 d1 w_f k_f f0 f1 q_c h0 n0) 2 4 (s₁.setTop (entryFrame m #[(.ref o0)] 1))
  rw [ef_trim_2_2]
  show Go _ _ _ _ _ _ _ (s₁.setTop (mkF m 0 #[.val (.ref o0)] []))
  refine gob (fun _ k => XS.aloadN X0.here hx rfl (hb hby d3_0) rfl rfl k) ?_
  show Go _ _ _ _ _ _ _ (s₁.setTop (mkF m 1 #[.val (.ref o0)] [(.ref o0)]))
  refine gob (fun _ k => XS.aloadN X0.here hx rfl (hb hby d3_1) rfl rfl k) ?_
  show Go _ _ _ _ _ _ _ (s₁.setTop (mkF m 2 #[.val (.ref o0)] [(.ref o0), (.ref o0)]))
  obtain ⟨T1, X1, e1, st1⟩ := getF X0 hx hZ hown (host := "") (Or.inl (hw _ (List.mem_of_getElem? (i := 12) rfl))) Via.refl e0 F_documents (g := (mkF m 2 #[.val (.ref o0)] [(.ref o0), (.ref o0)])) rfl rfl (hb hby d3_2)
  refine gob st1 ?_
  show Go _ _ _ _ _ _ _ (T1.setTop (mkF m 5 #[.val (.ref o0)] [(.ref w_d), (.ref o0)]))
  refine gob (fun _ k => XS.aloadN X1.here hx rfl (hb hby d3_5) rfl rfl k) ?_
  show Go _ _ _ _ _ _ _ (T1.setTop (mkF m 6 #[.val (.ref o0)] [(.ref o0), (.ref w_d), (.ref o0)]))
  obtain ⟨T2, X2, e2, st2⟩ := getF X1 hx hZ hown (host := "") (Or.inl (hw _ (List.mem_of_getElem? (i := 21) rfl))) Via.refl e1 F_size (g := (mkF m 6 #[.val (.ref o0)] [(.ref o0), (.ref w_d), (.ref o0)])) rfl rfl (hb hby d3_6)
  refine gob st2 ?_
  show Go _ _ _ _ _ _ _ (T2.setTop (mkF m 9 #[.val (.ref o0)] [(.int (2 : Int32)), (.ref w_d), (.ref o0)]))
  obtain ⟨_, _, ⟨T3, L3, k3, n3⟩, -, X3, ⟨Lc3, hQ3, l3, y3, z3⟩, st3⟩ := Jvm.LawKit.callS X2 hx (y := (⟨"java/util/Arrays", "copyOf", "([II)[I"⟩ : MethodName)) hown (mvT hZ (hw _ (List.mem_of_getElem? (i := 23) rfl))) (mvT hZ (hw _ (List.mem_of_getElem? (i := 24) rfl))) (mvT hZ (hw _ (List.mem_of_getElem? (i := 25) rfl))) (mvT hZ (hw _ (List.mem_of_getElem? (i := 26) rfl))) (by decide) (backOf (W := 1) (rmcp_2_2_2 l Z a0 hw [] w_d k_d d0 d1 h0 n0 Z0 V_d E_d) hZ (hw _ (List.mem_of_getElem? (i := 26) rfl)) (hw _ (List.mem_of_getElem? (i := 25) rfl)) (by decide) (by decide)) (g := (mkF m 9 #[.val (.ref o0)] [(.int (2 : Int32)), (.ref w_d), (.ref o0)])) rfl (by rw [hml]; rfl) (argsL := [(.ref w_d), (.int (2 : Int32))]) (rest := [(.ref o0)]) (lenOf pd_1 rfl) rfl (by show 2 * 0 + _ ≤ _; exact Nat.le_of_eq rfl) (hb hby d3_9) (fun _ _ => ⟨rfl, e2, (by decide : 0 + 1 ≤ _), (by decide : 0 + 2 ≤ _)⟩)
  dsimp only [Pt.U, Pt.locs, Pt.cells, Pt.slots] at X3 l3 y3 z3 st3 hQ3
  subst l3 y3 z3
  obtain ⟨b4, rfl, Nq3, K3, hz5, F6, F7⟩ := hQ3
  have N3 := Fr.app N0 Nq3
  have n8 : o0 ≠ b4 := Nat.ne_of_lt (Nat.lt_of_lt_of_le F_documents.lt hz5)
  have n9 : w_d ≠ b4 := Nat.ne_of_lt (Nat.lt_of_lt_of_le V_d.lt hz5)
  have n10 : w_f ≠ b4 := Nat.ne_of_lt (Nat.lt_of_lt_of_le V_f.lt hz5)
  have g11 : n0 ≤ b4 := Nat.le_trans Z0 hz5
  have sz_b4 : h0.size ≤ b4 := Nat.le_trans (Keep.refl h0 []).1 hz5
  have z12 : n0 ≤ T3.heap.size := Nat.le_trans Z0 K3.1
  have K13 : Keep h0 T3.heap ([o0] : List Addr) := (Keep.refl h0 ([o0] : List Addr)).trans K3 all0
  refine gob st3 ?_
  show Go _ _ _ _ _ _ _ (T3.setTop (mkF m 12 #[.val (.ref o0)] [(.ref b4), (.ref o0)]))
  have c14 := (F_documents.keep K3 nin0)
  have c15 := (E_o0.keep K3)
  obtain ⟨T16, h16, X16, e16, W16, st16⟩ := putF X3 hx hZ hown (host := "") (Or.inl (hw _ (List.mem_of_getElem? (i := 12) rfl))) Via.refl (rfl : T3.heap = _) c14 c15 (Or.inl (hw _ (List.mem_of_getElem? (i := 13) rfl))) (hw _ (List.mem_of_getElem? (i := 3) rfl)) (ty := (.array .int)) (by decide) rfl rfl (g := (mkF m 12 #[.val (.ref o0)] [(.ref b4), (.ref o0)])) rfl rfl (hb hby d3_12)
  refine gob st16 ?_
  have z17 : n0 ≤ h16.size := Nat.le_trans z12 (Keep.of_wr W16).1
  have N16 := Fr.snoc X16 N3 g_o0
  have K18 : Keep h0 h16 ([o0] : List Addr) := K13.wr W16 (Or.inl (List.mem_of_getElem? (i := 0) rfl))
  have Fw16 := c14.same W16
  show Go _ _ _ _ _ _ _ (T16.setTop (mkF m 15 #[.val (.ref o0)] []))
  refine gob (fun _ k => XS.aloadN X16.here hx rfl (hb hby d3_15) rfl rfl k) ?_
  show Go _ _ _ _ _ _ _ (T16.setTop (mkF m 16 #[.val (.ref o0)] [(.ref o0)]))
  refine gob (fun _ k => XS.aloadN X16.here hx rfl (hb hby d3_16) rfl rfl k) ?_
  show Go _ _ _ _ _ _ _ (T16.setTop (mkF m 17 #[.val (.ref o0)] [(.ref o0), (.ref o0)]))
  have c19 := ((F_frequencies.keep K3 nin0).other W16 (Or.inr (slot_ne (Or.inl (hw _ (List.mem_of_getElem? (i := 15) rfl))) (Or.inl (hw _ (List.mem_of_getElem? (i := 13) rfl))) (by decide) (t := (.array .int)) (t' := (.array .int)) (by decide) (by decide))))
  obtain ⟨T20, X20, e20, st20⟩ := getF X16 hx hZ hown (host := "") (Or.inl (hw _ (List.mem_of_getElem? (i := 14) rfl))) Via.refl e16 c19 (g := (mkF m 17 #[.val (.ref o0)] [(.ref o0), (.ref o0)])) rfl rfl (hb hby d3_17)
  refine gob st20 ?_
  show Go _ _ _ _ _ _ _ (T20.setTop (mkF m 20 #[.val (.ref o0)] [(.ref w_f), (.ref o0)]))
  refine gob (fun _ k => XS.aloadN X20.here hx rfl (hb hby d3_20) rfl rfl k) ?_
  show Go _ _ _ _ _ _ _ (T20.setTop (mkF m 21 #[.val (.ref o0)] [(.ref o0), (.ref w_f), (.ref o0)]))
  have c21 := ((F_size.keep K3 nin0).other W16 (Or.inr (slot_ne (Or.inl (hw _ (List.mem_of_getElem? (i := 22) rfl))) (Or.inl (hw _ (List.mem_of_getElem? (i := 13) rfl))) (by decide) (t := .int) (t' := (.array .int)) (by decide) (by decide))))
  obtain ⟨T22, X22, e22, st22⟩ := getF X20 hx hZ hown (host := "") (Or.inl (hw _ (List.mem_of_getElem? (i := 21) rfl))) Via.refl e20 c21 (g := (mkF m 21 #[.val (.ref o0)] [(.ref o0), (.ref w_f), (.ref o0)])) rfl rfl (hb hby d3_21)
  refine gob st22 ?_
  show Go _ _ _ _ _ _ _ (T22.setTop (mkF m 24 #[.val (.ref o0)] [(.int (2 : Int32)), (.ref w_f), (.ref o0)]))
  have c24 := ((V_f.keep K3 nin0).other W16 (Ne.symm ne_o0_w_f))
  have c25 := ((E_f.keep K3).wr W16)
  obtain ⟨_, _, ⟨T23, L23, k23, n23⟩, -, X23, ⟨Lc23, hQ23, l23, y23, z23⟩, st23⟩ := Jvm.LawKit.callS X22 hx (y := (⟨"java/util/Arrays", "copyOf", "([II)[I"⟩ : MethodName)) hown (mvT hZ (hw _ (List.mem_of_getElem? (i := 23) rfl))) (mvT hZ (hw _ (List.mem_of_getElem? (i := 24) rfl))) (mvT hZ (hw _ (List.mem_of_getElem? (i := 25) rfl))) (mvT hZ (hw _ (List.mem_of_getElem? (i := 26) rfl))) (by decide) (backOf (W := 1) (rmcp_2_2_2 l Z a0 hw [] w_f k_f f0 f1 h16 n0 z17 c24 c25) hZ (hw _ (List.mem_of_getElem? (i := 26) rfl)) (hw _ (List.mem_of_getElem? (i := 25) rfl)) (by decide) (by decide)) (g := (mkF m 24 #[.val (.ref o0)] [(.int (2 : Int32)), (.ref w_f), (.ref o0)])) rfl (by rw [hml]; rfl) (argsL := [(.ref w_f), (.int (2 : Int32))]) (rest := [(.ref o0)]) (lenOf pd_1 rfl) rfl (by show 2 * 0 + _ ≤ _; exact Nat.le_of_eq rfl) (hb hby d3_24) (fun _ _ => ⟨rfl, e22, (by decide : 1 + 1 ≤ _), (by decide : 2 + 2 ≤ _)⟩)
  dsimp only [Pt.U, Pt.locs, Pt.cells, Pt.slots] at X23 l23 y23 z23 st23 hQ23
  subst l23 y23 z23
  obtain ⟨b26, rfl, Nq23, K23, hz27, F28, F29⟩ := hQ23
  have N23 := Fr.app N16 Nq23
  have n30 : o0 ≠ b26 := Nat.ne_of_lt (Nat.lt_of_lt_of_le Fw16.lt hz27)
  have c32 := ((V_d.keep K3 nin0).other W16 (Ne.symm ne_o0_w_d))
  have n31 : w_d ≠ b26 := Nat.ne_of_lt (Nat.lt_of_lt_of_le c32.lt hz27)
  have n33 : w_f ≠ b26 := Nat.ne_of_lt (Nat.lt_of_lt_of_le c24.lt hz27)
  have c35 := (F6.other W16 (Ne.symm n8))
  have n34 : b4 ≠ b26 := Nat.ne_of_lt (Nat.lt_of_lt_of_le c35.lt hz27)
  have g36 : n0 ≤ b26 := Nat.le_trans z17 hz27
  have sz_b26 : h0.size ≤ b26 := Nat.le_trans K18.1 hz27
  have z37 : n0 ≤ T23.heap.size := Nat.le_trans z17 K23.1
  have K38 : Keep h0 T23.heap ([o0] : List Addr) := K18.trans K23 all0
  refine gob st23 ?_
  show Go _ _ _ _ _ _ _ (T23.setTop (mkF m 27 #[.val (.ref o0)] [(.ref b26), (.ref o0)]))
  have c39 := (c19.keep K23 nin0)
  have c40 := ((c15.wr W16).keep K23)
  obtain ⟨T41, h41, X41, e41, W41, st41⟩ := putF X23 hx hZ hown (host := "") (Or.inl (hw _ (List.mem_of_getElem? (i := 14) rfl))) Via.refl (rfl : T23.heap = _) c39 c40 (Or.inl (hw _ (List.mem_of_getElem? (i := 15) rfl))) (hw _ (List.mem_of_getElem? (i := 3) rfl)) (ty := (.array .int)) (by decide) rfl rfl (g := (mkF m 27 #[.val (.ref o0)] [(.ref b26), (.ref o0)])) rfl rfl (hb hby d3_27)
  refine gob st41 ?_
  have z42 : n0 ≤ h41.size := Nat.le_trans z37 (Keep.of_wr W41).1
  have N41 := Fr.snoc X41 N23 g_o0
  have K43 : Keep h0 h41 ([o0] : List Addr) := K38.wr W41 (Or.inl (List.mem_of_getElem? (i := 0) rfl))
  have Fw41 := c39.same W41
  show Go _ _ _ _ _ _ _ (T41.setTop (mkF m 30 #[.val (.ref o0)] []))
  refine goV X41 hx hlk Bd.returns (hb hby d3_30) ?_ (by decide) (by decide)
  show Qtrim_2_2 Z o0 w_d k_d d0 d1 w_f k_f f0 f1 q_c h0 n0 (none) T41.heap _
  have c44 := ((Fw16.keep K23 nin0).other W41 (Or.inr (slot_ne (Or.inl (hw _ (List.mem_of_getElem? (i := 13) rfl))) (Or.inl (hw _ (List.mem_of_getElem? (i := 15) rfl))) (by decide) (t := (.array .int)) (t' := (.array .int)) (by decide) (by decide))))
  have c45 := ((c21.keep K23 nin0).other W41 (Or.inr (slot_ne (Or.inl (hw _ (List.mem_of_getElem? (i := 22) rfl))) (Or.inl (hw _ (List.mem_of_getElem? (i := 15) rfl))) (by decide) (t := .int) (t' := (.array .int)) (by decide) (by decide))))
  have c46 := ((((F_collectionFrequency.keep K3 nin0).other W16 (Or.inr (slot_ne (Or.inl (hw _ (List.mem_of_getElem? (i := 46) rfl))) (Or.inl (hw _ (List.mem_of_getElem? (i := 13) rfl))) (by decide) (t := .long) (t' := (.array .int)) (by decide) (by decide)))).keep K23 nin0).other W41 (Or.inr (slot_ne (Or.inl (hw _ (List.mem_of_getElem? (i := 46) rfl))) (Or.inl (hw _ (List.mem_of_getElem? (i := 15) rfl))) (by decide) (t := .long) (t' := (.array .int)) (by decide) (by decide))))
  have c47 := ((c35.keep K23 nin0).other W41 (Ne.symm n8))
  have c48 := (((F7.wr W16).keep K23).wr W41)
  have c49 := (F28.other W41 (Ne.symm n30))
  have c50 := (F29.wr W41)
  rw [e41]
  exact ⟨b4, b26, rfl, N41, K43, sz_b4, sz_b26, n34, c44, Fw41, c45, c46, c47, c48, c49, c50⟩
theorem ef_trim_4_3 (m : MethodId) (x0 : Addr) : entryFrame m #[(.ref x0)] 1 = mkF m 0 #[.val (.ref x0)] [] := by first | (simp [entryFrame, mkF, argsToLocals, Value.category]; done) | rfl
def Qtrim_4_3 (Z : State) (o0 : Addr) (w_d : Addr) (k_d : ClassId) (d0 : Int32) (d1 : Int32) (d2 : Int32) (w_f : Addr) (k_f : ClassId) (f0 : Int32) (f1 : Int32) (f2 : Int32) (q_c : Int64) (h0 : Heap) (n0 : Nat) (v : Option Value) (h : Heap) (L : List Loc) : Prop := ∃ b4 : Addr, ∃ b27 : Addr, ∃ k5 : ClassId, ∃ k28 : ClassId, v = none ∧ Fr n0 L ∧ Keep h0 h ([o0] : List Addr) ∧ h0.size ≤ b4 ∧ h0.size ≤ b27 ∧ b4 ≠ b27 ∧ Fld Z h o0 "com/example/robust_broker/robustbroker/Postings" "documents" "[I" (.ref b4) ∧ Fld Z h o0 "com/example/robust_broker/robustbroker/Postings" "frequencies" "[I" (.ref b27) ∧ Fld Z h o0 "com/example/robust_broker/robustbroker/Postings" "size" "I" (.int (3 : Int32)) ∧ Fld Z h o0 "com/example/robust_broker/robustbroker/Postings" "collectionFrequency" "J" (.long q_c) ∧ Exa Z h b4 "[I" ∧ Arv Z h b4 k5 .int (3 : Int32) [(.int d0), (.int d1), (.int d2)] (.int (0 : Int32)) ∧ Exa Z h b27 "[I" ∧ Arv Z h b27 k28 .int (3 : Int32) [(.int f0), (.int f1), (.int f2)] (.int (0 : Int32))
set_option maxRecDepth 65536 in
set_option maxHeartbeats 40000000 in
theorem rmtrim_4_3 (l : Launch) (Z : State) (a0 : Array Value) (hw : ∀ d ∈ tables_1, d.before a0 Z = true) (ws : List Jvm.Cond) (o0 : Addr) (w_d : Addr) (k_d : ClassId) (d0 : Int32) (d1 : Int32) (d2 : Int32) (w_f : Addr) (k_f : ClassId) (f0 : Int32) (f1 : Int32) (f2 : Int32) (q_c : Int64) (h0 : Heap) (n0 : Nat) (Z0 : n0 ≤ h0.size) (F_documents : Fld Z h0 o0 "com/example/robust_broker/robustbroker/Postings" "documents" "[I" (.ref w_d)) (V_d : Arv Z h0 w_d k_d .int (4 : Int32) [(.int d0), (.int d1), (.int d2), (.int (0 : Int32))] (.int (0 : Int32))) (E_d : Exa Z h0 w_d "[I") (F_frequencies : Fld Z h0 o0 "com/example/robust_broker/robustbroker/Postings" "frequencies" "[I" (.ref w_f)) (V_f : Arv Z h0 w_f k_f .int (4 : Int32) [(.int f0), (.int f1), (.int f2), (.int (0 : Int32))] (.int (0 : Int32))) (E_f : Exa Z h0 w_f "[I") (F_size : Fld Z h0 o0 "com/example/robust_broker/robustbroker/Postings" "size" "I" (.int (3 : Int32))) (F_collectionFrequency : Fld Z h0 o0 "com/example/robust_broker/robustbroker/Postings" "collectionFrequency" "J" (.long q_c)) (ne_o0_w_d : o0 ≠ w_d) (ne_o0_w_f : o0 ≠ w_f) (ne_w_d_w_f : w_d ≠ w_f) (E_o0 : Exa Z h0 o0 "com/example/robust_broker/robustbroker/Postings") (g_o0 : n0 ≤ o0) :
    MetFree l (⟨"com/example/robust_broker/robustbroker/Postings", "trim", "()V"⟩ : MethodName) (head1 (Jvm.Cond.code (⟨"com/example/robust_broker/robustbroker/Postings", "trim", "()V"⟩ : MethodName) prog_26_method_3_code 1 none :: ws) ({ frames := 2, cells := 2, slots := 6, locals := 33 } : Room)) (fun a U => a = #[(.ref o0)] ∧ Z.Warmed39 U.vm ∧ U.heap = h0) (fun _ _ _ _ _ => True) (fun _ U o U' => ∃ v L, o = .returned v ∧ Qtrim_4_3 Z o0 w_d k_d d0 d1 d2 w_f k_f f0 f1 f2 q_c h0 n0 v U'.heap L ∧ FrameEnd U o U' L ({ frames := 2, cells := 2, slots := 6, locals := 33 } : Room).cells ({ frames := 2, cells := 2, slots := 6, locals := 33 } : Room).slots) := by
  refine MetFree.of_bodySF (plainFor_of_name (by first | (simp [plainName, overriddenIn]; done) | decide +kernel)) hisR ?_
  intro p e s m args below meth c s₁ Bd hml0 hP hK
  obtain ⟨rfl, hZ, hh⟩ := hP
  have hx := Bd.exec
  have hby := Bd.bytes
  have hml : c.maxLocals = 1 := hml0
  have hown : s.vm.findClass "com/example/robust_broker/robustbroker/Postings" = some m.cls := findClass_of_methodNamed Bd.named
  have hnm := (name_of_methodNamed Bd.named Bd.method).1
  have hlk := BodyLoose.notSynchronized Bd
  have X0 : Stand p l e ({ frames := 2, cells := 2, slots := 6, locals := 33 } : Room) s m #[(.ref o0)] below meth c s₁ [] 0 0 := Stand.of_body Bd
  have e0 : s₁.heap = h0 := by rw [← hh, Bd.state]; rfl
  have N0 := Fr.nil n0
  show Go p e below s (Qtrim_4_3 Z o0 w_d k_d d0 d1 d2 w_f k_f f0 f1 f2 q_c h0 n0) 2 6 (s₁.setTop (entryFrame m #[(.ref o0)] 1))
  rw [ef_trim_4_3]
  show Go _ _ _ _ _ _ _ (s₁.setTop (mkF m 0 #[.val (.ref o0)] []))
  refine gob (fun _ k => XS.aloadN X0.here hx rfl (hb hby d3_0) rfl rfl k) ?_
  show Go _ _ _ _ _ _ _ (s₁.setTop (mkF m 1 #[.val (.ref o0)] [(.ref o0)]))
  refine gob (fun _ k => XS.aloadN X0.here hx rfl (hb hby d3_1) rfl rfl k) ?_
  show Go _ _ _ _ _ _ _ (s₁.setTop (mkF m 2 #[.val (.ref o0)] [(.ref o0), (.ref o0)]))
  obtain ⟨T1, X1, e1, st1⟩ := getF X0 hx hZ hown (host := "") (Or.inl (hw _ (List.mem_of_getElem? (i := 12) rfl))) Via.refl e0 F_documents (g := (mkF m 2 #[.val (.ref o0)] [(.ref o0), (.ref o0)])) rfl rfl (hb hby d3_2)
  refine gob st1 ?_
  show Go _ _ _ _ _ _ _ (T1.setTop (mkF m 5 #[.val (.ref o0)] [(.ref w_d), (.ref o0)]))
  refine gob (fun _ k => XS.aloadN X1.here hx rfl (hb hby d3_5) rfl rfl k) ?_
  show Go _ _ _ _ _ _ _ (T1.setTop (mkF m 6 #[.val (.ref o0)] [(.ref o0), (.ref w_d), (.ref o0)]))
  obtain ⟨T2, X2, e2, st2⟩ := getF X1 hx hZ hown (host := "") (Or.inl (hw _ (List.mem_of_getElem? (i := 21) rfl))) Via.refl e1 F_size (g := (mkF m 6 #[.val (.ref o0)] [(.ref o0), (.ref w_d), (.ref o0)])) rfl rfl (hb hby d3_6)
  refine gob st2 ?_
  show Go _ _ _ _ _ _ _ (T2.setTop (mkF m 9 #[.val (.ref o0)] [(.int (3 : Int32)), (.ref w_d), (.ref o0)]))
  obtain ⟨_, _, ⟨T3, L3, k3, n3⟩, -, X3, ⟨Lc3, hQ3, l3, y3, z3⟩, st3⟩ := Jvm.LawKit.callS X2 hx (y := (⟨"java/util/Arrays", "copyOf", "([II)[I"⟩ : MethodName)) hown (mvT hZ (hw _ (List.mem_of_getElem? (i := 23) rfl))) (mvT hZ (hw _ (List.mem_of_getElem? (i := 24) rfl))) (mvT hZ (hw _ (List.mem_of_getElem? (i := 25) rfl))) (mvT hZ (hw _ (List.mem_of_getElem? (i := 26) rfl))) (by decide) (backOf (W := 1) (rmcp_4_3_3 l Z a0 hw [] w_d k_d d0 d1 d2 h0 n0 Z0 V_d E_d) hZ (hw _ (List.mem_of_getElem? (i := 26) rfl)) (hw _ (List.mem_of_getElem? (i := 25) rfl)) (by decide) (by decide)) (g := (mkF m 9 #[.val (.ref o0)] [(.int (3 : Int32)), (.ref w_d), (.ref o0)])) rfl (by rw [hml]; rfl) (argsL := [(.ref w_d), (.int (3 : Int32))]) (rest := [(.ref o0)]) (lenOf pd_1 rfl) rfl (by show 2 * 0 + _ ≤ _; exact Nat.le_of_eq rfl) (hb hby d3_9) (fun _ _ => ⟨rfl, e2, (by decide : 0 + 1 ≤ _), (by decide : 0 + 3 ≤ _)⟩)
  dsimp only [Pt.U, Pt.locs, Pt.cells, Pt.slots] at X3 l3 y3 z3 st3 hQ3
  subst l3 y3 z3
  obtain ⟨b4, k5, rfl, Nq3, K3, hz6, F7, F8⟩ := hQ3
  have N3 := Fr.app N0 Nq3
  have n9 : o0 ≠ b4 := Nat.ne_of_lt (Nat.lt_of_lt_of_le F_documents.lt hz6)
  have n10 : w_d ≠ b4 := Nat.ne_of_lt (Nat.lt_of_lt_of_le V_d.lt hz6)
  have n11 : w_f ≠ b4 := Nat.ne_of_lt (Nat.lt_of_lt_of_le V_f.lt hz6)
  have g12 : n0 ≤ b4 := Nat.le_trans Z0 hz6
  have sz_b4 : h0.size ≤ b4 := Nat.le_trans (Keep.refl h0 []).1 hz6
  have z13 : n0 ≤ T3.heap.size := Nat.le_trans Z0 K3.1
  have K14 : Keep h0 T3.heap ([o0] : List Addr) := (Keep.refl h0 ([o0] : List Addr)).trans K3 all0
  refine gob st3 ?_
  show Go _ _ _ _ _ _ _ (T3.setTop (mkF m 12 #[.val (.ref o0)] [(.ref b4), (.ref o0)]))
  have c15 := (F_documents.keep K3 nin0)
  have c16 := (E_o0.keep K3)
  obtain ⟨T17, h17, X17, e17, W17, st17⟩ := putF X3 hx hZ hown (host := "") (Or.inl (hw _ (List.mem_of_getElem? (i := 12) rfl))) Via.refl (rfl : T3.heap = _) c15 c16 (Or.inl (hw _ (List.mem_of_getElem? (i := 13) rfl))) (hw _ (List.mem_of_getElem? (i := 3) rfl)) (ty := (.array .int)) (by decide) rfl rfl (g := (mkF m 12 #[.val (.ref o0)] [(.ref b4), (.ref o0)])) rfl rfl (hb hby d3_12)
  refine gob st17 ?_
  have z18 : n0 ≤ h17.size := Nat.le_trans z13 (Keep.of_wr W17).1
  have N17 := Fr.snoc X17 N3 g_o0
  have K19 : Keep h0 h17 ([o0] : List Addr) := K14.wr W17 (Or.inl (List.mem_of_getElem? (i := 0) rfl))
  have Fw17 := c15.same W17
  show Go _ _ _ _ _ _ _ (T17.setTop (mkF m 15 #[.val (.ref o0)] []))
  refine gob (fun _ k => XS.aloadN X17.here hx rfl (hb hby d3_15) rfl rfl k) ?_
  show Go _ _ _ _ _ _ _ (T17.setTop (mkF m 16 #[.val (.ref o0)] [(.ref o0)]))
  refine gob (fun _ k => XS.aloadN X17.here hx rfl (hb hby d3_16) rfl rfl k) ?_
  show Go _ _ _ _ _ _ _ (T17.setTop (mkF m 17 #[.val (.ref o0)] [(.ref o0), (.ref o0)]))
  have c20 := ((F_frequencies.keep K3 nin0).other W17 (Or.inr (slot_ne (Or.inl (hw _ (List.mem_of_getElem? (i := 15) rfl))) (Or.inl (hw _ (List.mem_of_getElem? (i := 13) rfl))) (by decide) (t := (.array .int)) (t' := (.array .int)) (by decide) (by decide))))
  obtain ⟨T21, X21, e21, st21⟩ := getF X17 hx hZ hown (host := "") (Or.inl (hw _ (List.mem_of_getElem? (i := 14) rfl))) Via.refl e17 c20 (g := (mkF m 17 #[.val (.ref o0)] [(.ref o0), (.ref o0)])) rfl rfl (hb hby d3_17)
  refine gob st21 ?_
  show Go _ _ _ _ _ _ _ (T21.setTop (mkF m 20 #[.val (.ref o0)] [(.ref w_f), (.ref o0)]))
  refine gob (fun _ k => XS.aloadN X21.here hx rfl (hb hby d3_20) rfl rfl k) ?_
  show Go _ _ _ _ _ _ _ (T21.setTop (mkF m 21 #[.val (.ref o0)] [(.ref o0), (.ref w_f), (.ref o0)]))
  have c22 := ((F_size.keep K3 nin0).other W17 (Or.inr (slot_ne (Or.inl (hw _ (List.mem_of_getElem? (i := 22) rfl))) (Or.inl (hw _ (List.mem_of_getElem? (i := 13) rfl))) (by decide) (t := .int) (t' := (.array .int)) (by decide) (by decide))))
  obtain ⟨T23, X23, e23, st23⟩ := getF X21 hx hZ hown (host := "") (Or.inl (hw _ (List.mem_of_getElem? (i := 21) rfl))) Via.refl e21 c22 (g := (mkF m 21 #[.val (.ref o0)] [(.ref o0), (.ref w_f), (.ref o0)])) rfl rfl (hb hby d3_21)
  refine gob st23 ?_
  show Go _ _ _ _ _ _ _ (T23.setTop (mkF m 24 #[.val (.ref o0)] [(.int (3 : Int32)), (.ref w_f), (.ref o0)]))
  have c25 := ((V_f.keep K3 nin0).other W17 (Ne.symm ne_o0_w_f))
  have c26 := ((E_f.keep K3).wr W17)
  obtain ⟨_, _, ⟨T24, L24, k24, n24⟩, -, X24, ⟨Lc24, hQ24, l24, y24, z24⟩, st24⟩ := Jvm.LawKit.callS X23 hx (y := (⟨"java/util/Arrays", "copyOf", "([II)[I"⟩ : MethodName)) hown (mvT hZ (hw _ (List.mem_of_getElem? (i := 23) rfl))) (mvT hZ (hw _ (List.mem_of_getElem? (i := 24) rfl))) (mvT hZ (hw _ (List.mem_of_getElem? (i := 25) rfl))) (mvT hZ (hw _ (List.mem_of_getElem? (i := 26) rfl))) (by decide) (backOf (W := 1) (rmcp_4_3_3 l Z a0 hw [] w_f k_f f0 f1 f2 h17 n0 z18 c25 c26) hZ (hw _ (List.mem_of_getElem? (i := 26) rfl)) (hw _ (List.mem_of_getElem? (i := 25) rfl)) (by decide) (by decide)) (g := (mkF m 24 #[.val (.ref o0)] [(.int (3 : Int32)), (.ref w_f), (.ref o0)])) rfl (by rw [hml]; rfl) (argsL := [(.ref w_f), (.int (3 : Int32))]) (rest := [(.ref o0)]) (lenOf pd_1 rfl) rfl (by show 2 * 0 + _ ≤ _; exact Nat.le_of_eq rfl) (hb hby d3_24) (fun _ _ => ⟨rfl, e23, (by decide : 1 + 1 ≤ _), (by decide : 3 + 3 ≤ _)⟩)
  dsimp only [Pt.U, Pt.locs, Pt.cells, Pt.slots] at X24 l24 y24 z24 st24 hQ24
  subst l24 y24 z24
  obtain ⟨b27, k28, rfl, Nq24, K24, hz29, F30, F31⟩ := hQ24
  have N24 := Fr.app N17 Nq24
  have n32 : o0 ≠ b27 := Nat.ne_of_lt (Nat.lt_of_lt_of_le Fw17.lt hz29)
  have c34 := ((V_d.keep K3 nin0).other W17 (Ne.symm ne_o0_w_d))
  have n33 : w_d ≠ b27 := Nat.ne_of_lt (Nat.lt_of_lt_of_le c34.lt hz29)
  have n35 : w_f ≠ b27 := Nat.ne_of_lt (Nat.lt_of_lt_of_le c25.lt hz29)
  have c37 := (F7.wr W17)
  have n36 : b4 ≠ b27 := Nat.ne_of_lt (Nat.lt_of_lt_of_le c37.lt hz29)
  have g38 : n0 ≤ b27 := Nat.le_trans z18 hz29
  have sz_b27 : h0.size ≤ b27 := Nat.le_trans K19.1 hz29
  have z39 : n0 ≤ T24.heap.size := Nat.le_trans z18 K24.1
  have K40 : Keep h0 T24.heap ([o0] : List Addr) := K19.trans K24 all0
  refine gob st24 ?_
  show Go _ _ _ _ _ _ _ (T24.setTop (mkF m 27 #[.val (.ref o0)] [(.ref b27), (.ref o0)]))
  have c41 := (c20.keep K24 nin0)
  have c42 := ((c16.wr W17).keep K24)
  obtain ⟨T43, h43, X43, e43, W43, st43⟩ := putF X24 hx hZ hown (host := "") (Or.inl (hw _ (List.mem_of_getElem? (i := 14) rfl))) Via.refl (rfl : T24.heap = _) c41 c42 (Or.inl (hw _ (List.mem_of_getElem? (i := 15) rfl))) (hw _ (List.mem_of_getElem? (i := 3) rfl)) (ty := (.array .int)) (by decide) rfl rfl (g := (mkF m 27 #[.val (.ref o0)] [(.ref b27), (.ref o0)])) rfl rfl (hb hby d3_27)
  refine gob st43 ?_
  have z44 : n0 ≤ h43.size := Nat.le_trans z39 (Keep.of_wr W43).1
  have N43 := Fr.snoc X43 N24 g_o0
  have K45 : Keep h0 h43 ([o0] : List Addr) := K40.wr W43 (Or.inl (List.mem_of_getElem? (i := 0) rfl))
  have Fw43 := c41.same W43
  show Go _ _ _ _ _ _ _ (T43.setTop (mkF m 30 #[.val (.ref o0)] []))
  refine goV X43 hx hlk Bd.returns (hb hby d3_30) ?_ (by decide) (by decide)
  show Qtrim_4_3 Z o0 w_d k_d d0 d1 d2 w_f k_f f0 f1 f2 q_c h0 n0 (none) T43.heap _
  have c46 := ((Fw17.keep K24 nin0).other W43 (Or.inr (slot_ne (Or.inl (hw _ (List.mem_of_getElem? (i := 13) rfl))) (Or.inl (hw _ (List.mem_of_getElem? (i := 15) rfl))) (by decide) (t := (.array .int)) (t' := (.array .int)) (by decide) (by decide))))
  have c47 := ((c22.keep K24 nin0).other W43 (Or.inr (slot_ne (Or.inl (hw _ (List.mem_of_getElem? (i := 22) rfl))) (Or.inl (hw _ (List.mem_of_getElem? (i := 15) rfl))) (by decide) (t := .int) (t' := (.array .int)) (by decide) (by decide))))
  have c48 := ((((F_collectionFrequency.keep K3 nin0).other W17 (Or.inr (slot_ne (Or.inl (hw _ (List.mem_of_getElem? (i := 46) rfl))) (Or.inl (hw _ (List.mem_of_getElem? (i := 13) rfl))) (by decide) (t := .long) (t' := (.array .int)) (by decide) (by decide)))).keep K24 nin0).other W43 (Or.inr (slot_ne (Or.inl (hw _ (List.mem_of_getElem? (i := 46) rfl))) (Or.inl (hw _ (List.mem_of_getElem? (i := 15) rfl))) (by decide) (t := .long) (t' := (.array .int)) (by decide) (by decide))))
  have c49 := ((c37.keep K24).wr W43)
  have c50 := (((F8.other W17 (Ne.symm n9)).keep K24 nin0).other W43 (Ne.symm n9))
  have c51 := (F30.wr W43)
  have c52 := (F31.other W43 (Ne.symm n32))
  rw [e43]
  exact ⟨b4, b27, k5, k28, rfl, N43, K45, sz_b4, sz_b27, n36, c46, Fw43, c47, c48, c49, c50, c51, c52⟩
theorem d9_0 : decode prog_26_method_5_code 0 = .ok (.aload_n 0, 1) := by decide +kernel
theorem d9_1 : decode prog_26_method_5_code 1 = .ok (.getfield 7, 3) := by decide +kernel
theorem d9_4 : decode prog_26_method_5_code 4 = .ok (.iload_n 1, 1) := by decide +kernel
theorem d9_5 : decode prog_26_method_5_code 5 = .ok (.iaload, 1) := by decide +kernel
theorem d9_6 : decode prog_26_method_5_code 6 = .ok (.ireturn, 1) := by decide +kernel
theorem ef_doc_1_1 (m : MethodId) (x0 : Addr) (x1 : Int32) : entryFrame m #[(.ref x0), (.int x1)] 2 = mkF m 0 #[.val (.ref x0), .val (.int x1)] [] := by first | (simp [entryFrame, mkF, argsToLocals, Value.category]; done) | rfl
def Qdoc_1_1 (Z : State) (o0 : Addr) (p1 : Int32) (w_d : Addr) (k_d : ClassId) (d0 : Int32) (h0 : Heap) (n0 : Nat) (v : Option Value) (h : Heap) (L : List Loc) : Prop := ∃ r : Int32, v = some (.int r) ∧ ((p1.toInt = 0 ∧ r = d0)) ∧ Fr n0 L ∧ h = h0
theorem lf_doc_1_1_0 (p1 : Int32) (d0 : Int32) (w3 : Int32) (hj1 : 0 ≤ p1.toInt) (hj2 : p1.toInt < 1) (hw3 : (p1.toInt = 0 ∧ w3 = d0)) : (p1.toInt = 0 ∧ w3 = d0) := by
  have := rng32 p1
  have := rng32 d0
  have := rng32 w3
  try (simp only [Int32.lt_iff_toInt_lt, Int32.le_iff_toInt_le, Int64.lt_iff_toInt_lt, Int64.le_iff_toInt_le, ← Int32.toInt_inj, ← Int64.toInt_inj, ne_eq] at *)
  omega
set_option maxRecDepth 65536 in
set_option maxHeartbeats 40000000 in
theorem rmdoc_1_1 (l : Launch) (Z : State) (a0 : Array Value) (hw : ∀ d ∈ tables_1, d.before a0 Z = true) (ws : List Jvm.Cond) (o0 : Addr) (p1 : Int32) (w_d : Addr) (k_d : ClassId) (d0 : Int32) (h0 : Heap) (n0 : Nat) (Z0 : n0 ≤ h0.size) (F_documents : Fld Z h0 o0 "com/example/robust_broker/robustbroker/Postings" "documents" "[I" (.ref w_d)) (V_d : Arv Z h0 w_d k_d .int (1 : Int32) [(.int d0)] (.int (0 : Int32))) (E_d : Exa Z h0 w_d "[I") (hj1 : 0 ≤ p1.toInt) (hj2 : p1.toInt < 1) :
    MetFree l (⟨"com/example/robust_broker/robustbroker/Postings", "document", "(I)I"⟩ : MethodName) (head1 (Jvm.Cond.code (⟨"com/example/robust_broker/robustbroker/Postings", "document", "(I)I"⟩ : MethodName) prog_26_method_5_code 2 (some .int) :: ws) ({ frames := 0, cells := 0, slots := 0, locals := 0 } : Room)) (fun a U => a = #[(.ref o0), (.int p1)] ∧ Z.Warmed39 U.vm ∧ U.heap = h0) (fun _ _ _ _ _ => True) (fun _ U o U' => ∃ v L, o = .returned v ∧ Qdoc_1_1 Z o0 p1 w_d k_d d0 h0 n0 v U'.heap L ∧ FrameEnd U o U' L ({ frames := 0, cells := 0, slots := 0, locals := 0 } : Room).cells ({ frames := 0, cells := 0, slots := 0, locals := 0 } : Room).slots) := by
  refine MetFree.of_bodySF (plainFor_of_name (by first | (simp [plainName, overriddenIn]; done) | decide +kernel)) hisR ?_
  intro p e s m args below meth c s₁ Bd hml0 hP hK
  obtain ⟨rfl, hZ, hh⟩ := hP
  have hx := Bd.exec
  have hby := Bd.bytes
  have hml : c.maxLocals = 2 := hml0
  have hown : s.vm.findClass "com/example/robust_broker/robustbroker/Postings" = some m.cls := findClass_of_methodNamed Bd.named
  have hnm := (name_of_methodNamed Bd.named Bd.method).1
  have hlk := BodyLoose.notSynchronized Bd
  have X0 : Stand p l e ({ frames := 0, cells := 0, slots := 0, locals := 0 } : Room) s m #[(.ref o0), (.int p1)] below meth c s₁ [] 0 0 := Stand.of_body Bd
  have e0 : s₁.heap = h0 := by rw [← hh, Bd.state]; rfl
  have N0 := Fr.nil n0
  show Go p e below s (Qdoc_1_1 Z o0 p1 w_d k_d d0 h0 n0) 0 0 (s₁.setTop (entryFrame m #[(.ref o0), (.int p1)] 2))
  rw [ef_doc_1_1]
  show Go _ _ _ _ _ _ _ (s₁.setTop (mkF m 0 #[.val (.ref o0), .val (.int p1)] []))
  refine gob (fun _ k => XS.aloadN X0.here hx rfl (hb hby d9_0) rfl rfl k) ?_
  show Go _ _ _ _ _ _ _ (s₁.setTop (mkF m 1 #[.val (.ref o0), .val (.int p1)] [(.ref o0)]))
  obtain ⟨T1, X1, e1, st1⟩ := getF X0 hx hZ hown (host := "") (Or.inl (hw _ (List.mem_of_getElem? (i := 12) rfl))) Via.refl e0 F_documents (g := (mkF m 1 #[.val (.ref o0), .val (.int p1)] [(.ref o0)])) rfl rfl (hb hby d9_1)
  refine gob st1 ?_
  show Go _ _ _ _ _ _ _ (T1.setTop (mkF m 4 #[.val (.ref o0), .val (.int p1)] [(.ref w_d)]))
  refine gob (fun _ k => XS.iloadN X1.here hx rfl (hb hby d9_4) rfl k) ?_
  show Go _ _ _ _ _ _ _ (T1.setTop (mkF m 5 #[.val (.ref o0), .val (.int p1)] [(.int p1), (.ref w_d)]))
  obtain ⟨cl2, Ar2, aq2, S2, N2, H2, G2⟩ := id V_d
  obtain ⟨w3, hw3, hg3⟩ := own_at1 d0 (.int (0 : Int32)) p1 1 (by decide) hj1 hj2
  have hin3 : ¬ (p1 < 0 ∨ cl2.slots.size ≤ (p1).toNatClampNeg) := inb_of S2 (own_idx _ _ 1 (by decide) hj1 hj2)
  refine gob (X1.iaload hx (j := p1) (v := (.int w3)) (by rw [e1]; exact Ar2.1) (State.isArrayOf_alike hZ.alike Ar2.2.1) Ar2.2.2 hin3 (Has.at H2 hin3 hg3) (g := (mkF m 5 #[.val (.ref o0), .val (.int p1)] [(.int p1), (.ref w_d)])) rfl rfl (hb hby d9_5)) ?_
  show Go _ _ _ _ _ _ _ (T1.setTop (mkF m 6 #[.val (.ref o0), .val (.int p1)] [(.int w3)]))
  refine goI X1 hx hlk Bd.returns (hb hby d9_6) ?_ (by decide) (by decide)
  show Qdoc_1_1 Z o0 p1 w_d k_d d0 h0 n0 (some (.int w3)) T1.heap _
  exact ⟨w3, rfl, lf_doc_1_1_0 p1 d0 w3 hj1 hj2 hw3, N0, e1⟩
theorem ef_doc_2_2 (m : MethodId) (x0 : Addr) (x1 : Int32) : entryFrame m #[(.ref x0), (.int x1)] 2 = mkF m 0 #[.val (.ref x0), .val (.int x1)] [] := by first | (simp [entryFrame, mkF, argsToLocals, Value.category]; done) | rfl
def Qdoc_2_2 (Z : State) (o0 : Addr) (p1 : Int32) (w_d : Addr) (k_d : ClassId) (d0 : Int32) (d1 : Int32) (h0 : Heap) (n0 : Nat) (v : Option Value) (h : Heap) (L : List Loc) : Prop := ∃ r : Int32, v = some (.int r) ∧ ((p1.toInt = 0 ∧ r = d0) ∨ (p1.toInt = 1 ∧ r = d1)) ∧ Fr n0 L ∧ h = h0
theorem lf_doc_2_2_0 (p1 : Int32) (d0 : Int32) (d1 : Int32) (w3 : Int32) (hj1 : 0 ≤ p1.toInt) (hj2 : p1.toInt < 2) (hw3 : (p1.toInt = 0 ∧ w3 = d0) ∨ (p1.toInt = 1 ∧ w3 = d1)) : (p1.toInt = 0 ∧ w3 = d0) ∨ (p1.toInt = 1 ∧ w3 = d1) := by
  have := rng32 p1
  have := rng32 d0
  have := rng32 d1
  have := rng32 w3
  try (simp only [Int32.lt_iff_toInt_lt, Int32.le_iff_toInt_le, Int64.lt_iff_toInt_lt, Int64.le_iff_toInt_le, ← Int32.toInt_inj, ← Int64.toInt_inj, ne_eq] at *)
  omega
set_option maxRecDepth 65536 in
set_option maxHeartbeats 40000000 in
theorem rmdoc_2_2 (l : Launch) (Z : State) (a0 : Array Value) (hw : ∀ d ∈ tables_1, d.before a0 Z = true) (ws : List Jvm.Cond) (o0 : Addr) (p1 : Int32) (w_d : Addr) (k_d : ClassId) (d0 : Int32) (d1 : Int32) (h0 : Heap) (n0 : Nat) (Z0 : n0 ≤ h0.size) (F_documents : Fld Z h0 o0 "com/example/robust_broker/robustbroker/Postings" "documents" "[I" (.ref w_d)) (V_d : Arv Z h0 w_d k_d .int (2 : Int32) [(.int d0), (.int d1)] (.int (0 : Int32))) (E_d : Exa Z h0 w_d "[I") (hj1 : 0 ≤ p1.toInt) (hj2 : p1.toInt < 2) :
    MetFree l (⟨"com/example/robust_broker/robustbroker/Postings", "document", "(I)I"⟩ : MethodName) (head1 (Jvm.Cond.code (⟨"com/example/robust_broker/robustbroker/Postings", "document", "(I)I"⟩ : MethodName) prog_26_method_5_code 2 (some .int) :: ws) ({ frames := 0, cells := 0, slots := 0, locals := 0 } : Room)) (fun a U => a = #[(.ref o0), (.int p1)] ∧ Z.Warmed39 U.vm ∧ U.heap = h0) (fun _ _ _ _ _ => True) (fun _ U o U' => ∃ v L, o = .returned v ∧ Qdoc_2_2 Z o0 p1 w_d k_d d0 d1 h0 n0 v U'.heap L ∧ FrameEnd U o U' L ({ frames := 0, cells := 0, slots := 0, locals := 0 } : Room).cells ({ frames := 0, cells := 0, slots := 0, locals := 0 } : Room).slots) := by
  refine MetFree.of_bodySF (plainFor_of_name (by first | (simp [plainName, overriddenIn]; done) | decide +kernel)) hisR ?_
  intro p e s m args below meth c s₁ Bd hml0 hP hK
  obtain ⟨rfl, hZ, hh⟩ := hP
  have hx := Bd.exec
  have hby := Bd.bytes
  have hml : c.maxLocals = 2 := hml0
  have hown : s.vm.findClass "com/example/robust_broker/robustbroker/Postings" = some m.cls := findClass_of_methodNamed Bd.named
  have hnm := (name_of_methodNamed Bd.named Bd.method).1
  have hlk := BodyLoose.notSynchronized Bd
  have X0 : Stand p l e ({ frames := 0, cells := 0, slots := 0, locals := 0 } : Room) s m #[(.ref o0), (.int p1)] below meth c s₁ [] 0 0 := Stand.of_body Bd
  have e0 : s₁.heap = h0 := by rw [← hh, Bd.state]; rfl
  have N0 := Fr.nil n0
  show Go p e below s (Qdoc_2_2 Z o0 p1 w_d k_d d0 d1 h0 n0) 0 0 (s₁.setTop (entryFrame m #[(.ref o0), (.int p1)] 2))
  rw [ef_doc_2_2]
  show Go _ _ _ _ _ _ _ (s₁.setTop (mkF m 0 #[.val (.ref o0), .val (.int p1)] []))
  refine gob (fun _ k => XS.aloadN X0.here hx rfl (hb hby d9_0) rfl rfl k) ?_
  show Go _ _ _ _ _ _ _ (s₁.setTop (mkF m 1 #[.val (.ref o0), .val (.int p1)] [(.ref o0)]))
  obtain ⟨T1, X1, e1, st1⟩ := getF X0 hx hZ hown (host := "") (Or.inl (hw _ (List.mem_of_getElem? (i := 12) rfl))) Via.refl e0 F_documents (g := (mkF m 1 #[.val (.ref o0), .val (.int p1)] [(.ref o0)])) rfl rfl (hb hby d9_1)
  refine gob st1 ?_
  show Go _ _ _ _ _ _ _ (T1.setTop (mkF m 4 #[.val (.ref o0), .val (.int p1)] [(.ref w_d)]))
  refine gob (fun _ k => XS.iloadN X1.here hx rfl (hb hby d9_4) rfl k) ?_
  show Go _ _ _ _ _ _ _ (T1.setTop (mkF m 5 #[.val (.ref o0), .val (.int p1)] [(.int p1), (.ref w_d)]))
  obtain ⟨cl2, Ar2, aq2, S2, N2, H2, G2⟩ := id V_d
  obtain ⟨w3, hw3, hg3⟩ := own_at2 d0 d1 (.int (0 : Int32)) p1 2 (by decide) hj1 hj2
  have hin3 : ¬ (p1 < 0 ∨ cl2.slots.size ≤ (p1).toNatClampNeg) := inb_of S2 (own_idx _ _ 2 (by decide) hj1 hj2)
  refine gob (X1.iaload hx (j := p1) (v := (.int w3)) (by rw [e1]; exact Ar2.1) (State.isArrayOf_alike hZ.alike Ar2.2.1) Ar2.2.2 hin3 (Has.at H2 hin3 hg3) (g := (mkF m 5 #[.val (.ref o0), .val (.int p1)] [(.int p1), (.ref w_d)])) rfl rfl (hb hby d9_5)) ?_
  show Go _ _ _ _ _ _ _ (T1.setTop (mkF m 6 #[.val (.ref o0), .val (.int p1)] [(.int w3)]))
  refine goI X1 hx hlk Bd.returns (hb hby d9_6) ?_ (by decide) (by decide)
  show Qdoc_2_2 Z o0 p1 w_d k_d d0 d1 h0 n0 (some (.int w3)) T1.heap _
  exact ⟨w3, rfl, lf_doc_2_2_0 p1 d0 d1 w3 hj1 hj2 hw3, N0, e1⟩
theorem ef_doc_3_3 (m : MethodId) (x0 : Addr) (x1 : Int32) : entryFrame m #[(.ref x0), (.int x1)] 2 = mkF m 0 #[.val (.ref x0), .val (.int x1)] [] := by first | (simp [entryFrame, mkF, argsToLocals, Value.category]; done) | rfl
def Qdoc_3_3 (Z : State) (o0 : Addr) (p1 : Int32) (w_d : Addr) (k_d : ClassId) (d0 : Int32) (d1 : Int32) (d2 : Int32) (h0 : Heap) (n0 : Nat) (v : Option Value) (h : Heap) (L : List Loc) : Prop := ∃ r : Int32, v = some (.int r) ∧ ((p1.toInt = 0 ∧ r = d0) ∨ (p1.toInt = 1 ∧ r = d1) ∨ (p1.toInt = 2 ∧ r = d2)) ∧ Fr n0 L ∧ h = h0
theorem lf_doc_3_3_0 (p1 : Int32) (d0 : Int32) (d1 : Int32) (d2 : Int32) (w3 : Int32) (hj1 : 0 ≤ p1.toInt) (hj2 : p1.toInt < 3) (hw3 : (p1.toInt = 0 ∧ w3 = d0) ∨ (p1.toInt = 1 ∧ w3 = d1) ∨ (p1.toInt = 2 ∧ w3 = d2)) : (p1.toInt = 0 ∧ w3 = d0) ∨ (p1.toInt = 1 ∧ w3 = d1) ∨ (p1.toInt = 2 ∧ w3 = d2) := by
  have := rng32 p1
  have := rng32 d0
  have := rng32 d1
  have := rng32 d2
  have := rng32 w3
  try (simp only [Int32.lt_iff_toInt_lt, Int32.le_iff_toInt_le, Int64.lt_iff_toInt_lt, Int64.le_iff_toInt_le, ← Int32.toInt_inj, ← Int64.toInt_inj, ne_eq] at *)
  omega
set_option maxRecDepth 65536 in
set_option maxHeartbeats 40000000 in
theorem rmdoc_3_3 (l : Launch) (Z : State) (a0 : Array Value) (hw : ∀ d ∈ tables_1, d.before a0 Z = true) (ws : List Jvm.Cond) (o0 : Addr) (p1 : Int32) (w_d : Addr) (k_d : ClassId) (d0 : Int32) (d1 : Int32) (d2 : Int32) (h0 : Heap) (n0 : Nat) (Z0 : n0 ≤ h0.size) (F_documents : Fld Z h0 o0 "com/example/robust_broker/robustbroker/Postings" "documents" "[I" (.ref w_d)) (V_d : Arv Z h0 w_d k_d .int (3 : Int32) [(.int d0), (.int d1), (.int d2)] (.int (0 : Int32))) (E_d : Exa Z h0 w_d "[I") (hj1 : 0 ≤ p1.toInt) (hj2 : p1.toInt < 3) :
    MetFree l (⟨"com/example/robust_broker/robustbroker/Postings", "document", "(I)I"⟩ : MethodName) (head1 (Jvm.Cond.code (⟨"com/example/robust_broker/robustbroker/Postings", "document", "(I)I"⟩ : MethodName) prog_26_method_5_code 2 (some .int) :: ws) ({ frames := 0, cells := 0, slots := 0, locals := 0 } : Room)) (fun a U => a = #[(.ref o0), (.int p1)] ∧ Z.Warmed39 U.vm ∧ U.heap = h0) (fun _ _ _ _ _ => True) (fun _ U o U' => ∃ v L, o = .returned v ∧ Qdoc_3_3 Z o0 p1 w_d k_d d0 d1 d2 h0 n0 v U'.heap L ∧ FrameEnd U o U' L ({ frames := 0, cells := 0, slots := 0, locals := 0 } : Room).cells ({ frames := 0, cells := 0, slots := 0, locals := 0 } : Room).slots) := by
  refine MetFree.of_bodySF (plainFor_of_name (by first | (simp [plainName, overriddenIn]; done) | decide +kernel)) hisR ?_
  intro p e s m args below meth c s₁ Bd hml0 hP hK
  obtain ⟨rfl, hZ, hh⟩ := hP
  have hx := Bd.exec
  have hby := Bd.bytes
  have hml : c.maxLocals = 2 := hml0
  have hown : s.vm.findClass "com/example/robust_broker/robustbroker/Postings" = some m.cls := findClass_of_methodNamed Bd.named
  have hnm := (name_of_methodNamed Bd.named Bd.method).1
  have hlk := BodyLoose.notSynchronized Bd
  have X0 : Stand p l e ({ frames := 0, cells := 0, slots := 0, locals := 0 } : Room) s m #[(.ref o0), (.int p1)] below meth c s₁ [] 0 0 := Stand.of_body Bd
  have e0 : s₁.heap = h0 := by rw [← hh, Bd.state]; rfl
  have N0 := Fr.nil n0
  show Go p e below s (Qdoc_3_3 Z o0 p1 w_d k_d d0 d1 d2 h0 n0) 0 0 (s₁.setTop (entryFrame m #[(.ref o0), (.int p1)] 2))
  rw [ef_doc_3_3]
  show Go _ _ _ _ _ _ _ (s₁.setTop (mkF m 0 #[.val (.ref o0), .val (.int p1)] []))
  refine gob (fun _ k => XS.aloadN X0.here hx rfl (hb hby d9_0) rfl rfl k) ?_
  show Go _ _ _ _ _ _ _ (s₁.setTop (mkF m 1 #[.val (.ref o0), .val (.int p1)] [(.ref o0)]))
  obtain ⟨T1, X1, e1, st1⟩ := getF X0 hx hZ hown (host := "") (Or.inl (hw _ (List.mem_of_getElem? (i := 12) rfl))) Via.refl e0 F_documents (g := (mkF m 1 #[.val (.ref o0), .val (.int p1)] [(.ref o0)])) rfl rfl (hb hby d9_1)
  refine gob st1 ?_
  show Go _ _ _ _ _ _ _ (T1.setTop (mkF m 4 #[.val (.ref o0), .val (.int p1)] [(.ref w_d)]))
  refine gob (fun _ k => XS.iloadN X1.here hx rfl (hb hby d9_4) rfl k) ?_
  show Go _ _ _ _ _ _ _ (T1.setTop (mkF m 5 #[.val (.ref o0), .val (.int p1)] [(.int p1), (.ref w_d)]))
  obtain ⟨cl2, Ar2, aq2, S2, N2, H2, G2⟩ := id V_d
  obtain ⟨w3, hw3, hg3⟩ := own_at3 d0 d1 d2 (.int (0 : Int32)) p1 3 (by decide) hj1 hj2
  have hin3 : ¬ (p1 < 0 ∨ cl2.slots.size ≤ (p1).toNatClampNeg) := inb_of S2 (own_idx _ _ 3 (by decide) hj1 hj2)
  refine gob (X1.iaload hx (j := p1) (v := (.int w3)) (by rw [e1]; exact Ar2.1) (State.isArrayOf_alike hZ.alike Ar2.2.1) Ar2.2.2 hin3 (Has.at H2 hin3 hg3) (g := (mkF m 5 #[.val (.ref o0), .val (.int p1)] [(.int p1), (.ref w_d)])) rfl rfl (hb hby d9_5)) ?_
  show Go _ _ _ _ _ _ _ (T1.setTop (mkF m 6 #[.val (.ref o0), .val (.int p1)] [(.int w3)]))
  refine goI X1 hx hlk Bd.returns (hb hby d9_6) ?_ (by decide) (by decide)
  show Qdoc_3_3 Z o0 p1 w_d k_d d0 d1 d2 h0 n0 (some (.int w3)) T1.heap _
  exact ⟨w3, rfl, lf_doc_3_3_0 p1 d0 d1 d2 w3 hj1 hj2 hw3, N0, e1⟩
theorem ef_doc_4_3 (m : MethodId) (x0 : Addr) (x1 : Int32) : entryFrame m #[(.ref x0), (.int x1)] 2 = mkF m 0 #[.val (.ref x0), .val (.int x1)] [] := by first | (simp [entryFrame, mkF, argsToLocals, Value.category]; done) | rfl
def Qdoc_4_3 (Z : State) (o0 : Addr) (p1 : Int32) (w_d : Addr) (k_d : ClassId) (d0 : Int32) (d1 : Int32) (d2 : Int32) (h0 : Heap) (n0 : Nat) (v : Option Value) (h : Heap) (L : List Loc) : Prop := ∃ r : Int32, v = some (.int r) ∧ ((p1.toInt = 0 ∧ r = d0) ∨ (p1.toInt = 1 ∧ r = d1) ∨ (p1.toInt = 2 ∧ r = d2)) ∧ Fr n0 L ∧ h = h0
theorem lf_doc_4_3_0 (p1 : Int32) (d0 : Int32) (d1 : Int32) (d2 : Int32) (w3 : Int32) (hj1 : 0 ≤ p1.toInt) (hj2 : p1.toInt < 3) (hw3 : (p1.toInt = 0 ∧ w3 = d0) ∨ (p1.toInt = 1 ∧ w3 = d1) ∨ (p1.toInt = 2 ∧ w3 = d2) ∨ (p1.toInt = 3 ∧ w3 = (0 : Int32))) : (p1.toInt = 0 ∧ w3 = d0) ∨ (p1.toInt = 1 ∧ w3 = d1) ∨ (p1.toInt = 2 ∧ w3 = d2) := by
  have := rng32 p1
  have := rng32 d0
  have := rng32 d1
  have := rng32 d2
  have := rng32 w3
  have : (0 : Int32).toInt = 0 := by decide
  try (simp only [Int32.lt_iff_toInt_lt, Int32.le_iff_toInt_le, Int64.lt_iff_toInt_lt, Int64.le_iff_toInt_le, ← Int32.toInt_inj, ← Int64.toInt_inj, ne_eq] at *)
  omega
set_option maxRecDepth 65536 in
set_option maxHeartbeats 40000000 in
theorem rmdoc_4_3 (l : Launch) (Z : State) (a0 : Array Value) (hw : ∀ d ∈ tables_1, d.before a0 Z = true) (ws : List Jvm.Cond) (o0 : Addr) (p1 : Int32) (w_d : Addr) (k_d : ClassId) (d0 : Int32) (d1 : Int32) (d2 : Int32) (h0 : Heap) (n0 : Nat) (Z0 : n0 ≤ h0.size) (F_documents : Fld Z h0 o0 "com/example/robust_broker/robustbroker/Postings" "documents" "[I" (.ref w_d)) (V_d : Arv Z h0 w_d k_d .int (4 : Int32) [(.int d0), (.int d1), (.int d2), (.int (0 : Int32))] (.int (0 : Int32))) (E_d : Exa Z h0 w_d "[I") (hj1 : 0 ≤ p1.toInt) (hj2 : p1.toInt < 3) :
    MetFree l (⟨"com/example/robust_broker/robustbroker/Postings", "document", "(I)I"⟩ : MethodName) (head1 (Jvm.Cond.code (⟨"com/example/robust_broker/robustbroker/Postings", "document", "(I)I"⟩ : MethodName) prog_26_method_5_code 2 (some .int) :: ws) ({ frames := 0, cells := 0, slots := 0, locals := 0 } : Room)) (fun a U => a = #[(.ref o0), (.int p1)] ∧ Z.Warmed39 U.vm ∧ U.heap = h0) (fun _ _ _ _ _ => True) (fun _ U o U' => ∃ v L, o = .returned v ∧ Qdoc_4_3 Z o0 p1 w_d k_d d0 d1 d2 h0 n0 v U'.heap L ∧ FrameEnd U o U' L ({ frames := 0, cells := 0, slots := 0, locals := 0 } : Room).cells ({ frames := 0, cells := 0, slots := 0, locals := 0 } : Room).slots) := by
  refine MetFree.of_bodySF (plainFor_of_name (by first | (simp [plainName, overriddenIn]; done) | decide +kernel)) hisR ?_
  intro p e s m args below meth c s₁ Bd hml0 hP hK
  obtain ⟨rfl, hZ, hh⟩ := hP
  have hx := Bd.exec
  have hby := Bd.bytes
  have hml : c.maxLocals = 2 := hml0
  have hown : s.vm.findClass "com/example/robust_broker/robustbroker/Postings" = some m.cls := findClass_of_methodNamed Bd.named
  have hnm := (name_of_methodNamed Bd.named Bd.method).1
  have hlk := BodyLoose.notSynchronized Bd
  have X0 : Stand p l e ({ frames := 0, cells := 0, slots := 0, locals := 0 } : Room) s m #[(.ref o0), (.int p1)] below meth c s₁ [] 0 0 := Stand.of_body Bd
  have e0 : s₁.heap = h0 := by rw [← hh, Bd.state]; rfl
  have N0 := Fr.nil n0
  show Go p e below s (Qdoc_4_3 Z o0 p1 w_d k_d d0 d1 d2 h0 n0) 0 0 (s₁.setTop (entryFrame m #[(.ref o0), (.int p1)] 2))
  rw [ef_doc_4_3]
  show Go _ _ _ _ _ _ _ (s₁.setTop (mkF m 0 #[.val (.ref o0), .val (.int p1)] []))
  refine gob (fun _ k => XS.aloadN X0.here hx rfl (hb hby d9_0) rfl rfl k) ?_
  show Go _ _ _ _ _ _ _ (s₁.setTop (mkF m 1 #[.val (.ref o0), .val (.int p1)] [(.ref o0)]))
  obtain ⟨T1, X1, e1, st1⟩ := getF X0 hx hZ hown (host := "") (Or.inl (hw _ (List.mem_of_getElem? (i := 12) rfl))) Via.refl e0 F_documents (g := (mkF m 1 #[.val (.ref o0), .val (.int p1)] [(.ref o0)])) rfl rfl (hb hby d9_1)
  refine gob st1 ?_
  show Go _ _ _ _ _ _ _ (T1.setTop (mkF m 4 #[.val (.ref o0), .val (.int p1)] [(.ref w_d)]))
  refine gob (fun _ k => XS.iloadN X1.here hx rfl (hb hby d9_4) rfl k) ?_
  show Go _ _ _ _ _ _ _ (T1.setTop (mkF m 5 #[.val (.ref o0), .val (.int p1)] [(.int p1), (.ref w_d)]))
  obtain ⟨cl2, Ar2, aq2, S2, N2, H2, G2⟩ := id V_d
  obtain ⟨w3, hw3, hg3⟩ := own_at4 d0 d1 d2 (0 : Int32) (.int (0 : Int32)) p1 3 (by decide) hj1 hj2
  have hin3 : ¬ (p1 < 0 ∨ cl2.slots.size ≤ (p1).toNatClampNeg) := inb_of S2 (own_idx _ _ 3 (by decide) hj1 hj2)
  refine gob (X1.iaload hx (j := p1) (v := (.int w3)) (by rw [e1]; exact Ar2.1) (State.isArrayOf_alike hZ.alike Ar2.2.1) Ar2.2.2 hin3 (Has.at H2 hin3 hg3) (g := (mkF m 5 #[.val (.ref o0), .val (.int p1)] [(.int p1), (.ref w_d)])) rfl rfl (hb hby d9_5)) ?_
  show Go _ _ _ _ _ _ _ (T1.setTop (mkF m 6 #[.val (.ref o0), .val (.int p1)] [(.int w3)]))
  refine goI X1 hx hlk Bd.returns (hb hby d9_6) ?_ (by decide) (by decide)
  show Qdoc_4_3 Z o0 p1 w_d k_d d0 d1 d2 h0 n0 (some (.int w3)) T1.heap _
  exact ⟨w3, rfl, lf_doc_4_3_0 p1 d0 d1 d2 w3 hj1 hj2 hw3, N0, e1⟩
theorem ef_doc_6_4 (m : MethodId) (x0 : Addr) (x1 : Int32) : entryFrame m #[(.ref x0), (.int x1)] 2 = mkF m 0 #[.val (.ref x0), .val (.int x1)] [] := by first | (simp [entryFrame, mkF, argsToLocals, Value.category]; done) | rfl
def Qdoc_6_4 (Z : State) (o0 : Addr) (p1 : Int32) (w_d : Addr) (k_d : ClassId) (d0 : Int32) (d1 : Int32) (d2 : Int32) (d3 : Int32) (h0 : Heap) (n0 : Nat) (v : Option Value) (h : Heap) (L : List Loc) : Prop := ∃ r : Int32, v = some (.int r) ∧ ((p1.toInt = 0 ∧ r = d0) ∨ (p1.toInt = 1 ∧ r = d1) ∨ (p1.toInt = 2 ∧ r = d2) ∨ (p1.toInt = 3 ∧ r = d3)) ∧ Fr n0 L ∧ h = h0
theorem lf_doc_6_4_0 (p1 : Int32) (d0 : Int32) (d1 : Int32) (d2 : Int32) (d3 : Int32) (w3 : Int32) (hj1 : 0 ≤ p1.toInt) (hj2 : p1.toInt < 4) (hw3 : (p1.toInt = 0 ∧ w3 = d0) ∨ (p1.toInt = 1 ∧ w3 = d1) ∨ (p1.toInt = 2 ∧ w3 = d2) ∨ (p1.toInt = 3 ∧ w3 = d3) ∨ (p1.toInt = 4 ∧ w3 = (0 : Int32)) ∨ (p1.toInt = 5 ∧ w3 = (0 : Int32))) : (p1.toInt = 0 ∧ w3 = d0) ∨ (p1.toInt = 1 ∧ w3 = d1) ∨ (p1.toInt = 2 ∧ w3 = d2) ∨ (p1.toInt = 3 ∧ w3 = d3) := by
  have := rng32 p1
  have := rng32 d0
  have := rng32 d1
  have := rng32 d2
  have := rng32 d3
  have := rng32 w3
  have : (0 : Int32).toInt = 0 := by decide
  try (simp only [Int32.lt_iff_toInt_lt, Int32.le_iff_toInt_le, Int64.lt_iff_toInt_lt, Int64.le_iff_toInt_le, ← Int32.toInt_inj, ← Int64.toInt_inj, ne_eq] at *)
  omega
set_option maxRecDepth 65536 in
set_option maxHeartbeats 40000000 in
theorem rmdoc_6_4 (l : Launch) (Z : State) (a0 : Array Value) (hw : ∀ d ∈ tables_1, d.before a0 Z = true) (ws : List Jvm.Cond) (o0 : Addr) (p1 : Int32) (w_d : Addr) (k_d : ClassId) (d0 : Int32) (d1 : Int32) (d2 : Int32) (d3 : Int32) (h0 : Heap) (n0 : Nat) (Z0 : n0 ≤ h0.size) (F_documents : Fld Z h0 o0 "com/example/robust_broker/robustbroker/Postings" "documents" "[I" (.ref w_d)) (V_d : Arv Z h0 w_d k_d .int (6 : Int32) [(.int d0), (.int d1), (.int d2), (.int d3), (.int (0 : Int32)), (.int (0 : Int32))] (.int (0 : Int32))) (E_d : Exa Z h0 w_d "[I") (hj1 : 0 ≤ p1.toInt) (hj2 : p1.toInt < 4) :
    MetFree l (⟨"com/example/robust_broker/robustbroker/Postings", "document", "(I)I"⟩ : MethodName) (head1 (Jvm.Cond.code (⟨"com/example/robust_broker/robustbroker/Postings", "document", "(I)I"⟩ : MethodName) prog_26_method_5_code 2 (some .int) :: ws) ({ frames := 0, cells := 0, slots := 0, locals := 0 } : Room)) (fun a U => a = #[(.ref o0), (.int p1)] ∧ Z.Warmed39 U.vm ∧ U.heap = h0) (fun _ _ _ _ _ => True) (fun _ U o U' => ∃ v L, o = .returned v ∧ Qdoc_6_4 Z o0 p1 w_d k_d d0 d1 d2 d3 h0 n0 v U'.heap L ∧ FrameEnd U o U' L ({ frames := 0, cells := 0, slots := 0, locals := 0 } : Room).cells ({ frames := 0, cells := 0, slots := 0, locals := 0 } : Room).slots) := by
  refine MetFree.of_bodySF (plainFor_of_name (by first | (simp [plainName, overriddenIn]; done) | decide +kernel)) hisR ?_
  intro p e s m args below meth c s₁ Bd hml0 hP hK
  obtain ⟨rfl, hZ, hh⟩ := hP
  have hx := Bd.exec
  have hby := Bd.bytes
  have hml : c.maxLocals = 2 := hml0
  have hown : s.vm.findClass "com/example/robust_broker/robustbroker/Postings" = some m.cls := findClass_of_methodNamed Bd.named
  have hnm := (name_of_methodNamed Bd.named Bd.method).1
  have hlk := BodyLoose.notSynchronized Bd
  have X0 : Stand p l e ({ frames := 0, cells := 0, slots := 0, locals := 0 } : Room) s m #[(.ref o0), (.int p1)] below meth c s₁ [] 0 0 := Stand.of_body Bd
  have e0 : s₁.heap = h0 := by rw [← hh, Bd.state]; rfl
  have N0 := Fr.nil n0
  show Go p e below s (Qdoc_6_4 Z o0 p1 w_d k_d d0 d1 d2 d3 h0 n0) 0 0 (s₁.setTop (entryFrame m #[(.ref o0), (.int p1)] 2))
  rw [ef_doc_6_4]
  show Go _ _ _ _ _ _ _ (s₁.setTop (mkF m 0 #[.val (.ref o0), .val (.int p1)] []))
  refine gob (fun _ k => XS.aloadN X0.here hx rfl (hb hby d9_0) rfl rfl k) ?_
  show Go _ _ _ _ _ _ _ (s₁.setTop (mkF m 1 #[.val (.ref o0), .val (.int p1)] [(.ref o0)]))
  obtain ⟨T1, X1, e1, st1⟩ := getF X0 hx hZ hown (host := "") (Or.inl (hw _ (List.mem_of_getElem? (i := 12) rfl))) Via.refl e0 F_documents (g := (mkF m 1 #[.val (.ref o0), .val (.int p1)] [(.ref o0)])) rfl rfl (hb hby d9_1)
  refine gob st1 ?_
  show Go _ _ _ _ _ _ _ (T1.setTop (mkF m 4 #[.val (.ref o0), .val (.int p1)] [(.ref w_d)]))
  refine gob (fun _ k => XS.iloadN X1.here hx rfl (hb hby d9_4) rfl k) ?_
  show Go _ _ _ _ _ _ _ (T1.setTop (mkF m 5 #[.val (.ref o0), .val (.int p1)] [(.int p1), (.ref w_d)]))
  obtain ⟨cl2, Ar2, aq2, S2, N2, H2, G2⟩ := id V_d
  obtain ⟨w3, hw3, hg3⟩ := own_at6 d0 d1 d2 d3 (0 : Int32) (0 : Int32) (.int (0 : Int32)) p1 4 (by decide) hj1 hj2
  have hin3 : ¬ (p1 < 0 ∨ cl2.slots.size ≤ (p1).toNatClampNeg) := inb_of S2 (own_idx _ _ 4 (by decide) hj1 hj2)
  refine gob (X1.iaload hx (j := p1) (v := (.int w3)) (by rw [e1]; exact Ar2.1) (State.isArrayOf_alike hZ.alike Ar2.2.1) Ar2.2.2 hin3 (Has.at H2 hin3 hg3) (g := (mkF m 5 #[.val (.ref o0), .val (.int p1)] [(.int p1), (.ref w_d)])) rfl rfl (hb hby d9_5)) ?_
  show Go _ _ _ _ _ _ _ (T1.setTop (mkF m 6 #[.val (.ref o0), .val (.int p1)] [(.int w3)]))
  refine goI X1 hx hlk Bd.returns (hb hby d9_6) ?_ (by decide) (by decide)
  show Qdoc_6_4 Z o0 p1 w_d k_d d0 d1 d2 d3 h0 n0 (some (.int w3)) T1.heap _
  exact ⟨w3, rfl, lf_doc_6_4_0 p1 d0 d1 d2 d3 w3 hj1 hj2 hw3, N0, e1⟩
theorem d10_0 : decode prog_26_method_6_code 0 = .ok (.aload_n 0, 1) := by decide +kernel
theorem d10_1 : decode prog_26_method_6_code 1 = .ok (.getfield 13, 3) := by decide +kernel
theorem d10_4 : decode prog_26_method_6_code 4 = .ok (.iload_n 1, 1) := by decide +kernel
theorem d10_5 : decode prog_26_method_6_code 5 = .ok (.iaload, 1) := by decide +kernel
theorem d10_6 : decode prog_26_method_6_code 6 = .ok (.ireturn, 1) := by decide +kernel
theorem ef_fre_1_1 (m : MethodId) (x0 : Addr) (x1 : Int32) : entryFrame m #[(.ref x0), (.int x1)] 2 = mkF m 0 #[.val (.ref x0), .val (.int x1)] [] := by first | (simp [entryFrame, mkF, argsToLocals, Value.category]; done) | rfl
def Qfre_1_1 (Z : State) (o0 : Addr) (p1 : Int32) (w_f : Addr) (k_f : ClassId) (f0 : Int32) (h0 : Heap) (n0 : Nat) (v : Option Value) (h : Heap) (L : List Loc) : Prop := ∃ r : Int32, v = some (.int r) ∧ ((p1.toInt = 0 ∧ r = f0)) ∧ Fr n0 L ∧ h = h0
theorem lf_fre_1_1_0 (p1 : Int32) (f0 : Int32) (w3 : Int32) (hj1 : 0 ≤ p1.toInt) (hj2 : p1.toInt < 1) (hw3 : (p1.toInt = 0 ∧ w3 = f0)) : (p1.toInt = 0 ∧ w3 = f0) := by
  have := rng32 p1
  have := rng32 f0
  have := rng32 w3
  try (simp only [Int32.lt_iff_toInt_lt, Int32.le_iff_toInt_le, Int64.lt_iff_toInt_lt, Int64.le_iff_toInt_le, ← Int32.toInt_inj, ← Int64.toInt_inj, ne_eq] at *)
  omega
set_option maxRecDepth 65536 in
set_option maxHeartbeats 40000000 in
theorem rmfre_1_1 (l : Launch) (Z : State) (a0 : Array Value) (hw : ∀ d ∈ tables_1, d.before a0 Z = true) (ws : List Jvm.Cond) (o0 : Addr) (p1 : Int32) (w_f : Addr) (k_f : ClassId) (f0 : Int32) (h0 : Heap) (n0 : Nat) (Z0 : n0 ≤ h0.size) (F_frequencies : Fld Z h0 o0 "com/example/robust_broker/robustbroker/Postings" "frequencies" "[I" (.ref w_f)) (V_f : Arv Z h0 w_f k_f .int (1 : Int32) [(.int f0)] (.int (0 : Int32))) (E_f : Exa Z h0 w_f "[I") (hj1 : 0 ≤ p1.toInt) (hj2 : p1.toInt < 1) :
    MetFree l (⟨"com/example/robust_broker/robustbroker/Postings", "frequency", "(I)I"⟩ : MethodName) (head1 (Jvm.Cond.code (⟨"com/example/robust_broker/robustbroker/Postings", "frequency", "(I)I"⟩ : MethodName) prog_26_method_6_code 2 (some .int) :: ws) ({ frames := 0, cells := 0, slots := 0, locals := 0 } : Room)) (fun a U => a = #[(.ref o0), (.int p1)] ∧ Z.Warmed39 U.vm ∧ U.heap = h0) (fun _ _ _ _ _ => True) (fun _ U o U' => ∃ v L, o = .returned v ∧ Qfre_1_1 Z o0 p1 w_f k_f f0 h0 n0 v U'.heap L ∧ FrameEnd U o U' L ({ frames := 0, cells := 0, slots := 0, locals := 0 } : Room).cells ({ frames := 0, cells := 0, slots := 0, locals := 0 } : Room).slots) := by
  refine MetFree.of_bodySF (plainFor_of_name (by first | (simp [plainName, overriddenIn]; done) | decide +kernel)) hisR ?_
  intro p e s m args below meth c s₁ Bd hml0 hP hK
  obtain ⟨rfl, hZ, hh⟩ := hP
  have hx := Bd.exec
  have hby := Bd.bytes
  have hml : c.maxLocals = 2 := hml0
  have hown : s.vm.findClass "com/example/robust_broker/robustbroker/Postings" = some m.cls := findClass_of_methodNamed Bd.named
  have hnm := (name_of_methodNamed Bd.named Bd.method).1
  have hlk := BodyLoose.notSynchronized Bd
  have X0 : Stand p l e ({ frames := 0, cells := 0, slots := 0, locals := 0 } : Room) s m #[(.ref o0), (.int p1)] below meth c s₁ [] 0 0 := Stand.of_body Bd
  have e0 : s₁.heap = h0 := by rw [← hh, Bd.state]; rfl
  have N0 := Fr.nil n0
  show Go p e below s (Qfre_1_1 Z o0 p1 w_f k_f f0 h0 n0) 0 0 (s₁.setTop (entryFrame m #[(.ref o0), (.int p1)] 2))
  rw [ef_fre_1_1]
  show Go _ _ _ _ _ _ _ (s₁.setTop (mkF m 0 #[.val (.ref o0), .val (.int p1)] []))
  refine gob (fun _ k => XS.aloadN X0.here hx rfl (hb hby d10_0) rfl rfl k) ?_
  show Go _ _ _ _ _ _ _ (s₁.setTop (mkF m 1 #[.val (.ref o0), .val (.int p1)] [(.ref o0)]))
  obtain ⟨T1, X1, e1, st1⟩ := getF X0 hx hZ hown (host := "") (Or.inl (hw _ (List.mem_of_getElem? (i := 14) rfl))) Via.refl e0 F_frequencies (g := (mkF m 1 #[.val (.ref o0), .val (.int p1)] [(.ref o0)])) rfl rfl (hb hby d10_1)
  refine gob st1 ?_
  show Go _ _ _ _ _ _ _ (T1.setTop (mkF m 4 #[.val (.ref o0), .val (.int p1)] [(.ref w_f)]))
  refine gob (fun _ k => XS.iloadN X1.here hx rfl (hb hby d10_4) rfl k) ?_
  show Go _ _ _ _ _ _ _ (T1.setTop (mkF m 5 #[.val (.ref o0), .val (.int p1)] [(.int p1), (.ref w_f)]))
  obtain ⟨cl2, Ar2, aq2, S2, N2, H2, G2⟩ := id V_f
  obtain ⟨w3, hw3, hg3⟩ := own_at1 f0 (.int (0 : Int32)) p1 1 (by decide) hj1 hj2
  have hin3 : ¬ (p1 < 0 ∨ cl2.slots.size ≤ (p1).toNatClampNeg) := inb_of S2 (own_idx _ _ 1 (by decide) hj1 hj2)
  refine gob (X1.iaload hx (j := p1) (v := (.int w3)) (by rw [e1]; exact Ar2.1) (State.isArrayOf_alike hZ.alike Ar2.2.1) Ar2.2.2 hin3 (Has.at H2 hin3 hg3) (g := (mkF m 5 #[.val (.ref o0), .val (.int p1)] [(.int p1), (.ref w_f)])) rfl rfl (hb hby d10_5)) ?_
  show Go _ _ _ _ _ _ _ (T1.setTop (mkF m 6 #[.val (.ref o0), .val (.int p1)] [(.int w3)]))
  refine goI X1 hx hlk Bd.returns (hb hby d10_6) ?_ (by decide) (by decide)
  show Qfre_1_1 Z o0 p1 w_f k_f f0 h0 n0 (some (.int w3)) T1.heap _
  exact ⟨w3, rfl, lf_fre_1_1_0 p1 f0 w3 hj1 hj2 hw3, N0, e1⟩
theorem ef_fre_2_2 (m : MethodId) (x0 : Addr) (x1 : Int32) : entryFrame m #[(.ref x0), (.int x1)] 2 = mkF m 0 #[.val (.ref x0), .val (.int x1)] [] := by first | (simp [entryFrame, mkF, argsToLocals, Value.category]; done) | rfl
def Qfre_2_2 (Z : State) (o0 : Addr) (p1 : Int32) (w_f : Addr) (k_f : ClassId) (f0 : Int32) (f1 : Int32) (h0 : Heap) (n0 : Nat) (v : Option Value) (h : Heap) (L : List Loc) : Prop := ∃ r : Int32, v = some (.int r) ∧ ((p1.toInt = 0 ∧ r = f0) ∨ (p1.toInt = 1 ∧ r = f1)) ∧ Fr n0 L ∧ h = h0
theorem lf_fre_2_2_0 (p1 : Int32) (f0 : Int32) (f1 : Int32) (w3 : Int32) (hj1 : 0 ≤ p1.toInt) (hj2 : p1.toInt < 2) (hw3 : (p1.toInt = 0 ∧ w3 = f0) ∨ (p1.toInt = 1 ∧ w3 = f1)) : (p1.toInt = 0 ∧ w3 = f0) ∨ (p1.toInt = 1 ∧ w3 = f1) := by
  have := rng32 p1
  have := rng32 f0
  have := rng32 f1
  have := rng32 w3
  try (simp only [Int32.lt_iff_toInt_lt, Int32.le_iff_toInt_le, Int64.lt_iff_toInt_lt, Int64.le_iff_toInt_le, ← Int32.toInt_inj, ← Int64.toInt_inj, ne_eq] at *)
  omega
set_option maxRecDepth 65536 in
set_option maxHeartbeats 40000000 in
theorem rmfre_2_2 (l : Launch) (Z : State) (a0 : Array Value) (hw : ∀ d ∈ tables_1, d.before a0 Z = true) (ws : List Jvm.Cond) (o0 : Addr) (p1 : Int32) (w_f : Addr) (k_f : ClassId) (f0 : Int32) (f1 : Int32) (h0 : Heap) (n0 : Nat) (Z0 : n0 ≤ h0.size) (F_frequencies : Fld Z h0 o0 "com/example/robust_broker/robustbroker/Postings" "frequencies" "[I" (.ref w_f)) (V_f : Arv Z h0 w_f k_f .int (2 : Int32) [(.int f0), (.int f1)] (.int (0 : Int32))) (E_f : Exa Z h0 w_f "[I") (hj1 : 0 ≤ p1.toInt) (hj2 : p1.toInt < 2) :
    MetFree l (⟨"com/example/robust_broker/robustbroker/Postings", "frequency", "(I)I"⟩ : MethodName) (head1 (Jvm.Cond.code (⟨"com/example/robust_broker/robustbroker/Postings", "frequency", "(I)I"⟩ : MethodName) prog_26_method_6_code 2 (some .int) :: ws) ({ frames := 0, cells := 0, slots := 0, locals := 0 } : Room)) (fun a U => a = #[(.ref o0), (.int p1)] ∧ Z.Warmed39 U.vm ∧ U.heap = h0) (fun _ _ _ _ _ => True) (fun _ U o U' => ∃ v L, o = .returned v ∧ Qfre_2_2 Z o0 p1 w_f k_f f0 f1 h0 n0 v U'.heap L ∧ FrameEnd U o U' L ({ frames := 0, cells := 0, slots := 0, locals := 0 } : Room).cells ({ frames := 0, cells := 0, slots := 0, locals := 0 } : Room).slots) := by
  refine MetFree.of_bodySF (plainFor_of_name (by first | (simp [plainName, overriddenIn]; done) | decide +kernel)) hisR ?_
  intro p e s m args below meth c s₁ Bd hml0 hP hK
  obtain ⟨rfl, hZ, hh⟩ := hP
  have hx := Bd.exec
  have hby := Bd.bytes
  have hml : c.maxLocals = 2 := hml0
  have hown : s.vm.findClass "com/example/robust_broker/robustbroker/Postings" = some m.cls := findClass_of_methodNamed Bd.named
  have hnm := (name_of_methodNamed Bd.named Bd.method).1
  have hlk := BodyLoose.notSynchronized Bd
  have X0 : Stand p l e ({ frames := 0, cells := 0, slots := 0, locals := 0 } : Room) s m #[(.ref o0), (.int p1)] below meth c s₁ [] 0 0 := Stand.of_body Bd
  have e0 : s₁.heap = h0 := by rw [← hh, Bd.state]; rfl
  have N0 := Fr.nil n0
  show Go p e below s (Qfre_2_2 Z o0 p1 w_f k_f f0 f1 h0 n0) 0 0 (s₁.setTop (entryFrame m #[(.ref o0), (.int p1)] 2))
  rw [ef_fre_2_2]
  show Go _ _ _ _ _ _ _ (s₁.setTop (mkF m 0 #[.val (.ref o0), .val (.int p1)] []))
  refine gob (fun _ k => XS.aloadN X0.here hx rfl (hb hby d10_0) rfl rfl k) ?_
  show Go _ _ _ _ _ _ _ (s₁.setTop (mkF m 1 #[.val (.ref o0), .val (.int p1)] [(.ref o0)]))
  obtain ⟨T1, X1, e1, st1⟩ := getF X0 hx hZ hown (host := "") (Or.inl (hw _ (List.mem_of_getElem? (i := 14) rfl))) Via.refl e0 F_frequencies (g := (mkF m 1 #[.val (.ref o0), .val (.int p1)] [(.ref o0)])) rfl rfl (hb hby d10_1)
  refine gob st1 ?_
  show Go _ _ _ _ _ _ _ (T1.setTop (mkF m 4 #[.val (.ref o0), .val (.int p1)] [(.ref w_f)]))
  refine gob (fun _ k => XS.iloadN X1.here hx rfl (hb hby d10_4) rfl k) ?_
  show Go _ _ _ _ _ _ _ (T1.setTop (mkF m 5 #[.val (.ref o0), .val (.int p1)] [(.int p1), (.ref w_f)]))
  obtain ⟨cl2, Ar2, aq2, S2, N2, H2, G2⟩ := id V_f
  obtain ⟨w3, hw3, hg3⟩ := own_at2 f0 f1 (.int (0 : Int32)) p1 2 (by decide) hj1 hj2
  have hin3 : ¬ (p1 < 0 ∨ cl2.slots.size ≤ (p1).toNatClampNeg) := inb_of S2 (own_idx _ _ 2 (by decide) hj1 hj2)
  refine gob (X1.iaload hx (j := p1) (v := (.int w3)) (by rw [e1]; exact Ar2.1) (State.isArrayOf_alike hZ.alike Ar2.2.1) Ar2.2.2 hin3 (Has.at H2 hin3 hg3) (g := (mkF m 5 #[.val (.ref o0), .val (.int p1)] [(.int p1), (.ref w_f)])) rfl rfl (hb hby d10_5)) ?_
  show Go _ _ _ _ _ _ _ (T1.setTop (mkF m 6 #[.val (.ref o0), .val (.int p1)] [(.int w3)]))
  refine goI X1 hx hlk Bd.returns (hb hby d10_6) ?_ (by decide) (by decide)
  show Qfre_2_2 Z o0 p1 w_f k_f f0 f1 h0 n0 (some (.int w3)) T1.heap _
  exact ⟨w3, rfl, lf_fre_2_2_0 p1 f0 f1 w3 hj1 hj2 hw3, N0, e1⟩
theorem ef_fre_3_3 (m : MethodId) (x0 : Addr) (x1 : Int32) : entryFrame m #[(.ref x0), (.int x1)] 2 = mkF m 0 #[.val (.ref x0), .val (.int x1)] [] := by first | (simp [entryFrame, mkF, argsToLocals, Value.category]; done) | rfl
def Qfre_3_3 (Z : State) (o0 : Addr) (p1 : Int32) (w_f : Addr) (k_f : ClassId) (f0 : Int32) (f1 : Int32) (f2 : Int32) (h0 : Heap) (n0 : Nat) (v : Option Value) (h : Heap) (L : List Loc) : Prop := ∃ r : Int32, v = some (.int r) ∧ ((p1.toInt = 0 ∧ r = f0) ∨ (p1.toInt = 1 ∧ r = f1) ∨ (p1.toInt = 2 ∧ r = f2)) ∧ Fr n0 L ∧ h = h0
theorem lf_fre_3_3_0 (p1 : Int32) (f0 : Int32) (f1 : Int32) (f2 : Int32) (w3 : Int32) (hj1 : 0 ≤ p1.toInt) (hj2 : p1.toInt < 3) (hw3 : (p1.toInt = 0 ∧ w3 = f0) ∨ (p1.toInt = 1 ∧ w3 = f1) ∨ (p1.toInt = 2 ∧ w3 = f2)) : (p1.toInt = 0 ∧ w3 = f0) ∨ (p1.toInt = 1 ∧ w3 = f1) ∨ (p1.toInt = 2 ∧ w3 = f2) := by
  have := rng32 p1
  have := rng32 f0
  have := rng32 f1
  have := rng32 f2
  have := rng32 w3
  try (simp only [Int32.lt_iff_toInt_lt, Int32.le_iff_toInt_le, Int64.lt_iff_toInt_lt, Int64.le_iff_toInt_le, ← Int32.toInt_inj, ← Int64.toInt_inj, ne_eq] at *)
  omega
set_option maxRecDepth 65536 in
set_option maxHeartbeats 40000000 in
theorem rmfre_3_3 (l : Launch) (Z : State) (a0 : Array Value) (hw : ∀ d ∈ tables_1, d.before a0 Z = true) (ws : List Jvm.Cond) (o0 : Addr) (p1 : Int32) (w_f : Addr) (k_f : ClassId) (f0 : Int32) (f1 : Int32) (f2 : Int32) (h0 : Heap) (n0 : Nat) (Z0 : n0 ≤ h0.size) (F_frequencies : Fld Z h0 o0 "com/example/robust_broker/robustbroker/Postings" "frequencies" "[I" (.ref w_f)) (V_f : Arv Z h0 w_f k_f .int (3 : Int32) [(.int f0), (.int f1), (.int f2)] (.int (0 : Int32))) (E_f : Exa Z h0 w_f "[I") (hj1 : 0 ≤ p1.toInt) (hj2 : p1.toInt < 3) :
    MetFree l (⟨"com/example/robust_broker/robustbroker/Postings", "frequency", "(I)I"⟩ : MethodName) (head1 (Jvm.Cond.code (⟨"com/example/robust_broker/robustbroker/Postings", "frequency", "(I)I"⟩ : MethodName) prog_26_method_6_code 2 (some .int) :: ws) ({ frames := 0, cells := 0, slots := 0, locals := 0 } : Room)) (fun a U => a = #[(.ref o0), (.int p1)] ∧ Z.Warmed39 U.vm ∧ U.heap = h0) (fun _ _ _ _ _ => True) (fun _ U o U' => ∃ v L, o = .returned v ∧ Qfre_3_3 Z o0 p1 w_f k_f f0 f1 f2 h0 n0 v U'.heap L ∧ FrameEnd U o U' L ({ frames := 0, cells := 0, slots := 0, locals := 0 } : Room).cells ({ frames := 0, cells := 0, slots := 0, locals := 0 } : Room).slots) := by
  refine MetFree.of_bodySF (plainFor_of_name (by first | (simp [plainName, overriddenIn]; done) | decide +kernel)) hisR ?_
  intro p e s m args below meth c s₁ Bd hml0 hP hK
  obtain ⟨rfl, hZ, hh⟩ := hP
  have hx := Bd.exec
  have hby := Bd.bytes
  have hml : c.maxLocals = 2 := hml0
  have hown : s.vm.findClass "com/example/robust_broker/robustbroker/Postings" = some m.cls := findClass_of_methodNamed Bd.named
  have hnm := (name_of_methodNamed Bd.named Bd.method).1
  have hlk := BodyLoose.notSynchronized Bd
  have X0 : Stand p l e ({ frames := 0, cells := 0, slots := 0, locals := 0 } : Room) s m #[(.ref o0), (.int p1)] below meth c s₁ [] 0 0 := Stand.of_body Bd
  have e0 : s₁.heap = h0 := by rw [← hh, Bd.state]; rfl
  have N0 := Fr.nil n0
  show Go p e below s (Qfre_3_3 Z o0 p1 w_f k_f f0 f1 f2 h0 n0) 0 0 (s₁.setTop (entryFrame m #[(.ref o0), (.int p1)] 2))
  rw [ef_fre_3_3]
  show Go _ _ _ _ _ _ _ (s₁.setTop (mkF m 0 #[.val (.ref o0), .val (.int p1)] []))
  refine gob (fun _ k => XS.aloadN X0.here hx rfl (hb hby d10_0) rfl rfl k) ?_
  show Go _ _ _ _ _ _ _ (s₁.setTop (mkF m 1 #[.val (.ref o0), .val (.int p1)] [(.ref o0)]))
  obtain ⟨T1, X1, e1, st1⟩ := getF X0 hx hZ hown (host := "") (Or.inl (hw _ (List.mem_of_getElem? (i := 14) rfl))) Via.refl e0 F_frequencies (g := (mkF m 1 #[.val (.ref o0), .val (.int p1)] [(.ref o0)])) rfl rfl (hb hby d10_1)
  refine gob st1 ?_
  show Go _ _ _ _ _ _ _ (T1.setTop (mkF m 4 #[.val (.ref o0), .val (.int p1)] [(.ref w_f)]))
  refine gob (fun _ k => XS.iloadN X1.here hx rfl (hb hby d10_4) rfl k) ?_
  show Go _ _ _ _ _ _ _ (T1.setTop (mkF m 5 #[.val (.ref o0), .val (.int p1)] [(.int p1), (.ref w_f)]))
  obtain ⟨cl2, Ar2, aq2, S2, N2, H2, G2⟩ := id V_f
  obtain ⟨w3, hw3, hg3⟩ := own_at3 f0 f1 f2 (.int (0 : Int32)) p1 3 (by decide) hj1 hj2
  have hin3 : ¬ (p1 < 0 ∨ cl2.slots.size ≤ (p1).toNatClampNeg) := inb_of S2 (own_idx _ _ 3 (by decide) hj1 hj2)
  refine gob (X1.iaload hx (j := p1) (v := (.int w3)) (by rw [e1]; exact Ar2.1) (State.isArrayOf_alike hZ.alike Ar2.2.1) Ar2.2.2 hin3 (Has.at H2 hin3 hg3) (g := (mkF m 5 #[.val (.ref o0), .val (.int p1)] [(.int p1), (.ref w_f)])) rfl rfl (hb hby d10_5)) ?_
  show Go _ _ _ _ _ _ _ (T1.setTop (mkF m 6 #[.val (.ref o0), .val (.int p1)] [(.int w3)]))
  refine goI X1 hx hlk Bd.returns (hb hby d10_6) ?_ (by decide) (by decide)
  show Qfre_3_3 Z o0 p1 w_f k_f f0 f1 f2 h0 n0 (some (.int w3)) T1.heap _
  exact ⟨w3, rfl, lf_fre_3_3_0 p1 f0 f1 f2 w3 hj1 hj2 hw3, N0, e1⟩
theorem ef_fre_4_3 (m : MethodId) (x0 : Addr) (x1 : Int32) : entryFrame m #[(.ref x0), (.int x1)] 2 = mkF m 0 #[.val (.ref x0), .val (.int x1)] [] := by first | (simp [entryFrame, mkF, argsToLocals, Value.category]; done) | rfl
def Qfre_4_3 (Z : State) (o0 : Addr) (p1 : Int32) (w_f : Addr) (k_f : ClassId) (f0 : Int32) (f1 : Int32) (f2 : Int32) (h0 : Heap) (n0 : Nat) (v : Option Value) (h : Heap) (L : List Loc) : Prop := ∃ r : Int32, v = some (.int r) ∧ ((p1.toInt = 0 ∧ r = f0) ∨ (p1.toInt = 1 ∧ r = f1) ∨ (p1.toInt = 2 ∧ r = f2)) ∧ Fr n0 L ∧ h = h0
theorem lf_fre_4_3_0 (p1 : Int32) (f0 : Int32) (f1 : Int32) (f2 : Int32) (w3 : Int32) (hj1 : 0 ≤ p1.toInt) (hj2 : p1.toInt < 3) (hw3 : (p1.toInt = 0 ∧ w3 = f0) ∨ (p1.toInt = 1 ∧ w3 = f1) ∨ (p1.toInt = 2 ∧ w3 = f2) ∨ (p1.toInt = 3 ∧ w3 = (0 : Int32))) : (p1.toInt = 0 ∧ w3 = f0) ∨ (p1.toInt = 1 ∧ w3 = f1) ∨ (p1.toInt = 2 ∧ w3 = f2) := by
  have := rng32 p1
  have := rng32 f0
  have := rng32 f1
  have := rng32 f2
  have := rng32 w3
  have : (0 : Int32).toInt = 0 := by decide
  try (simp only [Int32.lt_iff_toInt_lt, Int32.le_iff_toInt_le, Int64.lt_iff_toInt_lt, Int64.le_iff_toInt_le, ← Int32.toInt_inj, ← Int64.toInt_inj, ne_eq] at *)
  omega
set_option maxRecDepth 65536 in
set_option maxHeartbeats 40000000 in
theorem rmfre_4_3 (l : Launch) (Z : State) (a0 : Array Value) (hw : ∀ d ∈ tables_1, d.before a0 Z = true) (ws : List Jvm.Cond) (o0 : Addr) (p1 : Int32) (w_f : Addr) (k_f : ClassId) (f0 : Int32) (f1 : Int32) (f2 : Int32) (h0 : Heap) (n0 : Nat) (Z0 : n0 ≤ h0.size) (F_frequencies : Fld Z h0 o0 "com/example/robust_broker/robustbroker/Postings" "frequencies" "[I" (.ref w_f)) (V_f : Arv Z h0 w_f k_f .int (4 : Int32) [(.int f0), (.int f1), (.int f2), (.int (0 : Int32))] (.int (0 : Int32))) (E_f : Exa Z h0 w_f "[I") (hj1 : 0 ≤ p1.toInt) (hj2 : p1.toInt < 3) :
    MetFree l (⟨"com/example/robust_broker/robustbroker/Postings", "frequency", "(I)I"⟩ : MethodName) (head1 (Jvm.Cond.code (⟨"com/example/robust_broker/robustbroker/Postings", "frequency", "(I)I"⟩ : MethodName) prog_26_method_6_code 2 (some .int) :: ws) ({ frames := 0, cells := 0, slots := 0, locals := 0 } : Room)) (fun a U => a = #[(.ref o0), (.int p1)] ∧ Z.Warmed39 U.vm ∧ U.heap = h0) (fun _ _ _ _ _ => True) (fun _ U o U' => ∃ v L, o = .returned v ∧ Qfre_4_3 Z o0 p1 w_f k_f f0 f1 f2 h0 n0 v U'.heap L ∧ FrameEnd U o U' L ({ frames := 0, cells := 0, slots := 0, locals := 0 } : Room).cells ({ frames := 0, cells := 0, slots := 0, locals := 0 } : Room).slots) := by
  refine MetFree.of_bodySF (plainFor_of_name (by first | (simp [plainName, overriddenIn]; done) | decide +kernel)) hisR ?_
  intro p e s m args below meth c s₁ Bd hml0 hP hK
  obtain ⟨rfl, hZ, hh⟩ := hP
  have hx := Bd.exec
  have hby := Bd.bytes
  have hml : c.maxLocals = 2 := hml0
  have hown : s.vm.findClass "com/example/robust_broker/robustbroker/Postings" = some m.cls := findClass_of_methodNamed Bd.named
  have hnm := (name_of_methodNamed Bd.named Bd.method).1
  have hlk := BodyLoose.notSynchronized Bd
  have X0 : Stand p l e ({ frames := 0, cells := 0, slots := 0, locals := 0 } : Room) s m #[(.ref o0), (.int p1)] below meth c s₁ [] 0 0 := Stand.of_body Bd
  have e0 : s₁.heap = h0 := by rw [← hh, Bd.state]; rfl
  have N0 := Fr.nil n0
  show Go p e below s (Qfre_4_3 Z o0 p1 w_f k_f f0 f1 f2 h0 n0) 0 0 (s₁.setTop (entryFrame m #[(.ref o0), (.int p1)] 2))
  rw [ef_fre_4_3]
  show Go _ _ _ _ _ _ _ (s₁.setTop (mkF m 0 #[.val (.ref o0), .val (.int p1)] []))
  refine gob (fun _ k => XS.aloadN X0.here hx rfl (hb hby d10_0) rfl rfl k) ?_
  show Go _ _ _ _ _ _ _ (s₁.setTop (mkF m 1 #[.val (.ref o0), .val (.int p1)] [(.ref o0)]))
  obtain ⟨T1, X1, e1, st1⟩ := getF X0 hx hZ hown (host := "") (Or.inl (hw _ (List.mem_of_getElem? (i := 14) rfl))) Via.refl e0 F_frequencies (g := (mkF m 1 #[.val (.ref o0), .val (.int p1)] [(.ref o0)])) rfl rfl (hb hby d10_1)
  refine gob st1 ?_
  show Go _ _ _ _ _ _ _ (T1.setTop (mkF m 4 #[.val (.ref o0), .val (.int p1)] [(.ref w_f)]))
  refine gob (fun _ k => XS.iloadN X1.here hx rfl (hb hby d10_4) rfl k) ?_
  show Go _ _ _ _ _ _ _ (T1.setTop (mkF m 5 #[.val (.ref o0), .val (.int p1)] [(.int p1), (.ref w_f)]))
  obtain ⟨cl2, Ar2, aq2, S2, N2, H2, G2⟩ := id V_f
  obtain ⟨w3, hw3, hg3⟩ := own_at4 f0 f1 f2 (0 : Int32) (.int (0 : Int32)) p1 3 (by decide) hj1 hj2
  have hin3 : ¬ (p1 < 0 ∨ cl2.slots.size ≤ (p1).toNatClampNeg) := inb_of S2 (own_idx _ _ 3 (by decide) hj1 hj2)
  refine gob (X1.iaload hx (j := p1) (v := (.int w3)) (by rw [e1]; exact Ar2.1) (State.isArrayOf_alike hZ.alike Ar2.2.1) Ar2.2.2 hin3 (Has.at H2 hin3 hg3) (g := (mkF m 5 #[.val (.ref o0), .val (.int p1)] [(.int p1), (.ref w_f)])) rfl rfl (hb hby d10_5)) ?_
  show Go _ _ _ _ _ _ _ (T1.setTop (mkF m 6 #[.val (.ref o0), .val (.int p1)] [(.int w3)]))
  refine goI X1 hx hlk Bd.returns (hb hby d10_6) ?_ (by decide) (by decide)
  show Qfre_4_3 Z o0 p1 w_f k_f f0 f1 f2 h0 n0 (some (.int w3)) T1.heap _
  exact ⟨w3, rfl, lf_fre_4_3_0 p1 f0 f1 f2 w3 hj1 hj2 hw3, N0, e1⟩
theorem ef_fre_6_4 (m : MethodId) (x0 : Addr) (x1 : Int32) : entryFrame m #[(.ref x0), (.int x1)] 2 = mkF m 0 #[.val (.ref x0), .val (.int x1)] [] := by first | (simp [entryFrame, mkF, argsToLocals, Value.category]; done) | rfl
def Qfre_6_4 (Z : State) (o0 : Addr) (p1 : Int32) (w_f : Addr) (k_f : ClassId) (f0 : Int32) (f1 : Int32) (f2 : Int32) (f3 : Int32) (h0 : Heap) (n0 : Nat) (v : Option Value) (h : Heap) (L : List Loc) : Prop := ∃ r : Int32, v = some (.int r) ∧ ((p1.toInt = 0 ∧ r = f0) ∨ (p1.toInt = 1 ∧ r = f1) ∨ (p1.toInt = 2 ∧ r = f2) ∨ (p1.toInt = 3 ∧ r = f3)) ∧ Fr n0 L ∧ h = h0
theorem lf_fre_6_4_0 (p1 : Int32) (f0 : Int32) (f1 : Int32) (f2 : Int32) (f3 : Int32) (w3 : Int32) (hj1 : 0 ≤ p1.toInt) (hj2 : p1.toInt < 4) (hw3 : (p1.toInt = 0 ∧ w3 = f0) ∨ (p1.toInt = 1 ∧ w3 = f1) ∨ (p1.toInt = 2 ∧ w3 = f2) ∨ (p1.toInt = 3 ∧ w3 = f3) ∨ (p1.toInt = 4 ∧ w3 = (0 : Int32)) ∨ (p1.toInt = 5 ∧ w3 = (0 : Int32))) : (p1.toInt = 0 ∧ w3 = f0) ∨ (p1.toInt = 1 ∧ w3 = f1) ∨ (p1.toInt = 2 ∧ w3 = f2) ∨ (p1.toInt = 3 ∧ w3 = f3) := by
  have := rng32 p1
  have := rng32 f0
  have := rng32 f1
  have := rng32 f2
  have := rng32 f3
  have := rng32 w3
  have : (0 : Int32).toInt = 0 := by decide
  try (simp only [Int32.lt_iff_toInt_lt, Int32.le_iff_toInt_le, Int64.lt_iff_toInt_lt, Int64.le_iff_toInt_le, ← Int32.toInt_inj, ← Int64.toInt_inj, ne_eq] at *)
  omega
set_option maxRecDepth 65536 in
set_option maxHeartbeats 40000000 in
theorem rmfre_6_4 (l : Launch) (Z : State) (a0 : Array Value) (hw : ∀ d ∈ tables_1, d.before a0 Z = true) (ws : List Jvm.Cond) (o0 : Addr) (p1 : Int32) (w_f : Addr) (k_f : ClassId) (f0 : Int32) (f1 : Int32) (f2 : Int32) (f3 : Int32) (h0 : Heap) (n0 : Nat) (Z0 : n0 ≤ h0.size) (F_frequencies : Fld Z h0 o0 "com/example/robust_broker/robustbroker/Postings" "frequencies" "[I" (.ref w_f)) (V_f : Arv Z h0 w_f k_f .int (6 : Int32) [(.int f0), (.int f1), (.int f2), (.int f3), (.int (0 : Int32)), (.int (0 : Int32))] (.int (0 : Int32))) (E_f : Exa Z h0 w_f "[I") (hj1 : 0 ≤ p1.toInt) (hj2 : p1.toInt < 4) :
    MetFree l (⟨"com/example/robust_broker/robustbroker/Postings", "frequency", "(I)I"⟩ : MethodName) (head1 (Jvm.Cond.code (⟨"com/example/robust_broker/robustbroker/Postings", "frequency", "(I)I"⟩ : MethodName) prog_26_method_6_code 2 (some .int) :: ws) ({ frames := 0, cells := 0, slots := 0, locals := 0 } : Room)) (fun a U => a = #[(.ref o0), (.int p1)] ∧ Z.Warmed39 U.vm ∧ U.heap = h0) (fun _ _ _ _ _ => True) (fun _ U o U' => ∃ v L, o = .returned v ∧ Qfre_6_4 Z o0 p1 w_f k_f f0 f1 f2 f3 h0 n0 v U'.heap L ∧ FrameEnd U o U' L ({ frames := 0, cells := 0, slots := 0, locals := 0 } : Room).cells ({ frames := 0, cells := 0, slots := 0, locals := 0 } : Room).slots) := by
  refine MetFree.of_bodySF (plainFor_of_name (by first | (simp [plainName, overriddenIn]; done) | decide +kernel)) hisR ?_
  intro p e s m args below meth c s₁ Bd hml0 hP hK
  obtain ⟨rfl, hZ, hh⟩ := hP
  have hx := Bd.exec
  have hby := Bd.bytes
  have hml : c.maxLocals = 2 := hml0
  have hown : s.vm.findClass "com/example/robust_broker/robustbroker/Postings" = some m.cls := findClass_of_methodNamed Bd.named
  have hnm := (name_of_methodNamed Bd.named Bd.method).1
  have hlk := BodyLoose.notSynchronized Bd
  have X0 : Stand p l e ({ frames := 0, cells := 0, slots := 0, locals := 0 } : Room) s m #[(.ref o0), (.int p1)] below meth c s₁ [] 0 0 := Stand.of_body Bd
  have e0 : s₁.heap = h0 := by rw [← hh, Bd.state]; rfl
  have N0 := Fr.nil n0
  show Go p e below s (Qfre_6_4 Z o0 p1 w_f k_f f0 f1 f2 f3 h0 n0) 0 0 (s₁.setTop (entryFrame m #[(.ref o0), (.int p1)] 2))
  rw [ef_fre_6_4]
  show Go _ _ _ _ _ _ _ (s₁.setTop (mkF m 0 #[.val (.ref o0), .val (.int p1)] []))
  refine gob (fun _ k => XS.aloadN X0.here hx rfl (hb hby d10_0) rfl rfl k) ?_
  show Go _ _ _ _ _ _ _ (s₁.setTop (mkF m 1 #[.val (.ref o0), .val (.int p1)] [(.ref o0)]))
  obtain ⟨T1, X1, e1, st1⟩ := getF X0 hx hZ hown (host := "") (Or.inl (hw _ (List.mem_of_getElem? (i := 14) rfl))) Via.refl e0 F_frequencies (g := (mkF m 1 #[.val (.ref o0), .val (.int p1)] [(.ref o0)])) rfl rfl (hb hby d10_1)
  refine gob st1 ?_
  show Go _ _ _ _ _ _ _ (T1.setTop (mkF m 4 #[.val (.ref o0), .val (.int p1)] [(.ref w_f)]))
  refine gob (fun _ k => XS.iloadN X1.here hx rfl (hb hby d10_4) rfl k) ?_
  show Go _ _ _ _ _ _ _ (T1.setTop (mkF m 5 #[.val (.ref o0), .val (.int p1)] [(.int p1), (.ref w_f)]))
  obtain ⟨cl2, Ar2, aq2, S2, N2, H2, G2⟩ := id V_f
  obtain ⟨w3, hw3, hg3⟩ := own_at6 f0 f1 f2 f3 (0 : Int32) (0 : Int32) (.int (0 : Int32)) p1 4 (by decide) hj1 hj2
  have hin3 : ¬ (p1 < 0 ∨ cl2.slots.size ≤ (p1).toNatClampNeg) := inb_of S2 (own_idx _ _ 4 (by decide) hj1 hj2)
  refine gob (X1.iaload hx (j := p1) (v := (.int w3)) (by rw [e1]; exact Ar2.1) (State.isArrayOf_alike hZ.alike Ar2.2.1) Ar2.2.2 hin3 (Has.at H2 hin3 hg3) (g := (mkF m 5 #[.val (.ref o0), .val (.int p1)] [(.int p1), (.ref w_f)])) rfl rfl (hb hby d10_5)) ?_
  show Go _ _ _ _ _ _ _ (T1.setTop (mkF m 6 #[.val (.ref o0), .val (.int p1)] [(.int w3)]))
  refine goI X1 hx hlk Bd.returns (hb hby d10_6) ?_ (by decide) (by decide)
  show Qfre_6_4 Z o0 p1 w_f k_f f0 f1 f2 f3 h0 n0 (some (.int w3)) T1.heap _
  exact ⟨w3, rfl, lf_fre_6_4_0 p1 f0 f1 f2 f3 w3 hj1 hj2 hw3, N0, e1⟩
theorem pd_2 : parseMethodDescriptor "()V" = some ⟨[], none⟩ := by decide +kernel
theorem pd_3 : parseMethodDescriptor "()I" = some ⟨[], some .int⟩ := by decide +kernel
theorem pd_4 : parseMethodDescriptor "()J" = some ⟨[], some .long⟩ := by decide +kernel
theorem pd_5 : parseMethodDescriptor "(II)V" = some ⟨[.int, .int], none⟩ := by decide +kernel
theorem pd_6 : parseMethodDescriptor "(I)I" = some ⟨[.int], some .int⟩ := by decide +kernel
theorem ef_0 (m : MethodId) (x0 : Int32) (x1 : Int32) (x2 : Int32) (x3 : Int32) (x4 : Int32) (x5 : Int32) : entryFrame m #[(.int x0), (.int x1), (.int x2), (.int x3), (.int x4), (.int x5)] maxLocals = mkF m 0 #[.val (.int x0), .val (.int x1), .val (.int x2), .val (.int x3), .val (.int x4), .val (.int x5), .unset, .unset, .unset, .unset, .unset, .unset, .unset, .unset, .unset, .unset, .unset, .unset, .unset] [] := by first | (simp [entryFrame, mkF, argsToLocals, Value.category, maxLocals]; done) | rfl
def Q0 (Z : State) (p0 : Int32) (p1 : Int32) (p2 : Int32) (p3 : Int32) (p4 : Int32) (p5 : Int32) (h0 : Heap) (n0 : Nat) (v : Option Value) (h : Heap) (L : List Loc) : Prop := v = some (.int 1) ∧ Fr n0 L
theorem ld_0_107_34 (p0 : Int32) (n_ : Int32) (hn_ : (p0 &&& (3 : Int32)) = n_) (hc92_33 : n_ < (1 : Int32)) : n_ < (2 : Int32) := by
  have := rng32 p0
  have := rng32 n_
  have : (1 : Int32).toInt = 1 := by decide
  have : (2 : Int32).toInt = 2 := by decide
  have : (3 : Int32).toInt = 3 := by decide
  have : ((p0 &&& (3 : Int32))).toInt = (p0).toInt % (2 ^ 2 : Nat) := c_mask p0 (3 : Int32) 2 (by decide) (by decide)
  try (simp only [Int32.lt_iff_toInt_lt, Int32.le_iff_toInt_le, Int64.lt_iff_toInt_lt, Int64.le_iff_toInt_le, ← Int32.toInt_inj, ← Int64.toInt_inj, ne_eq] at *)
  omega
theorem ld_0_122_36 (p0 : Int32) (n_ : Int32) (hn_ : (p0 &&& (3 : Int32)) = n_) (hc92_33 : n_ < (1 : Int32)) : n_ < (3 : Int32) := by
  have := rng32 p0
  have := rng32 n_
  have : (1 : Int32).toInt = 1 := by decide
  have : (3 : Int32).toInt = 3 := by decide
  have : ((p0 &&& (3 : Int32))).toInt = (p0).toInt % (2 ^ 2 : Nat) := c_mask p0 (3 : Int32) 2 (by decide) (by decide)
  try (simp only [Int32.lt_iff_toInt_lt, Int32.le_iff_toInt_le, Int64.lt_iff_toInt_lt, Int64.le_iff_toInt_le, ← Int32.toInt_inj, ← Int64.toInt_inj, ne_eq] at *)
  omega
theorem ld_0_191_66 (p0 : Int32) (n_ : Int32) (r64 : Int32) (hn_ : (p0 &&& (3 : Int32)) = n_) (hc92_33 : n_ < (1 : Int32)) (hr64 : (r64 = (0 : Int32))) : r64 = n_ := by
  have := rng32 p0
  have := rng32 n_
  have := rng32 r64
  have : (0 : Int32).toInt = 0 := by decide
  have : (1 : Int32).toInt = 1 := by decide
  have : (3 : Int32).toInt = 3 := by decide
  have : ((p0 &&& (3 : Int32))).toInt = (p0).toInt % (2 ^ 2 : Nat) := c_mask p0 (3 : Int32) 2 (by decide) (by decide)
  try (simp only [Int32.lt_iff_toInt_lt, Int32.le_iff_toInt_le, Int64.lt_iff_toInt_lt, Int64.le_iff_toInt_le, ← Int32.toInt_inj, ← Int64.toInt_inj, ne_eq] at *)
  omega
theorem ld_0_202_69 (r68 : Int64) (hr68 : (r68 = (0 : Int64))) : r68 = (0 : Int64) := by
  exact hr68
theorem ld_0_122_81 (p0 : Int32) (n_ : Int32) (hn_ : (p0 &&& (3 : Int32)) = n_) (hc92_33 : ¬ (n_ < (1 : Int32))) (hc107_80 : n_ < (2 : Int32)) : n_ < (3 : Int32) := by
  have := rng32 p0
  have := rng32 n_
  have : (1 : Int32).toInt = 1 := by decide
  have : (2 : Int32).toInt = 2 := by decide
  have : (3 : Int32).toInt = 3 := by decide
  have : ((p0 &&& (3 : Int32))).toInt = (p0).toInt % (2 ^ 2 : Nat) := c_mask p0 (3 : Int32) 2 (by decide) (by decide)
  try (simp only [Int32.lt_iff_toInt_lt, Int32.le_iff_toInt_le, Int64.lt_iff_toInt_lt, Int64.le_iff_toInt_le, ← Int32.toInt_inj, ← Int64.toInt_inj, ne_eq] at *)
  omega
theorem ld_0_191_114 (p0 : Int32) (n_ : Int32) (r112 : Int32) (hn_ : (p0 &&& (3 : Int32)) = n_) (hc92_33 : ¬ (n_ < (1 : Int32))) (hc107_80 : n_ < (2 : Int32)) (hr112 : (r112 = (1 : Int32))) : r112 = n_ := by
  have := rng32 p0
  have := rng32 n_
  have := rng32 r112
  have : (1 : Int32).toInt = 1 := by decide
  have : (2 : Int32).toInt = 2 := by decide
  have : (3 : Int32).toInt = 3 := by decide
  have : ((p0 &&& (3 : Int32))).toInt = (p0).toInt % (2 ^ 2 : Nat) := c_mask p0 (3 : Int32) 2 (by decide) (by decide)
  try (simp only [Int32.lt_iff_toInt_lt, Int32.le_iff_toInt_le, Int64.lt_iff_toInt_lt, Int64.le_iff_toInt_le, ← Int32.toInt_inj, ← Int64.toInt_inj, ne_eq] at *)
  omega
theorem ld_0_202_117 (p4 : Int32) (x5 : Int32) (x111 : Int64) (r116 : Int64) (hx5 : ((p4 &&& (1073741823 : Int32)) + (1 : Int32)) = x5) (hx111 : ((0 : Int64) + (x5.toInt64)) = x111) (hr116 : (r116 = ((0 : Int64) + (x5.toInt64)))) : r116 = x111 := by
  subst hx5
  subst hx111
  exact hr116
theorem la_0_226_120   : 0 ≤ (0 : Int32).toInt := by
  have : (0 : Int32).toInt = 0 := by decide
  try (simp only [Int32.lt_iff_toInt_lt, Int32.le_iff_toInt_le, Int64.lt_iff_toInt_lt, Int64.le_iff_toInt_le, ← Int32.toInt_inj, ← Int64.toInt_inj, ne_eq] at *)
  omega
theorem la_0_226_121   : (0 : Int32).toInt < 1 := by
  have : (0 : Int32).toInt = 0 := by decide
  try (simp only [Int32.lt_iff_toInt_lt, Int32.le_iff_toInt_le, Int64.lt_iff_toInt_lt, Int64.le_iff_toInt_le, ← Int32.toInt_inj, ← Int64.toInt_inj, ne_eq] at *)
  omega
theorem ld_0_231_122 (p1 : Int32) (x1 : Int32) (r119 : Int32) (hx1 : (p1 &&& (1048575 : Int32)) = x1) (hr119 : ((0 : Int32).toInt = 0 ∧ r119 = x1)) : r119 = x1 := by
  have := rng32 p1
  have := rng32 x1
  have := rng32 r119
  have : (0 : Int32).toInt = 0 := by decide
  have : (1048575 : Int32).toInt = 1048575 := by decide
  have : ((p1 &&& (1048575 : Int32))).toInt = (p1).toInt % (2 ^ 20 : Nat) := c_mask p1 (1048575 : Int32) 20 (by decide) (by decide)
  try (simp only [Int32.lt_iff_toInt_lt, Int32.le_iff_toInt_le, Int64.lt_iff_toInt_lt, Int64.le_iff_toInt_le, ← Int32.toInt_inj, ← Int64.toInt_inj, ne_eq] at *)
  omega
theorem la_0_237_125   : 0 ≤ (0 : Int32).toInt := by
  have : (0 : Int32).toInt = 0 := by decide
  try (simp only [Int32.lt_iff_toInt_lt, Int32.le_iff_toInt_le, Int64.lt_iff_toInt_lt, Int64.le_iff_toInt_le, ← Int32.toInt_inj, ← Int64.toInt_inj, ne_eq] at *)
  omega
theorem la_0_237_126   : (0 : Int32).toInt < 1 := by
  have : (0 : Int32).toInt = 0 := by decide
  try (simp only [Int32.lt_iff_toInt_lt, Int32.le_iff_toInt_le, Int64.lt_iff_toInt_lt, Int64.le_iff_toInt_le, ← Int32.toInt_inj, ← Int64.toInt_inj, ne_eq] at *)
  omega
theorem ld_0_242_127 (p4 : Int32) (x5 : Int32) (r124 : Int32) (hx5 : ((p4 &&& (1073741823 : Int32)) + (1 : Int32)) = x5) (hr124 : ((0 : Int32).toInt = 0 ∧ r124 = x5)) : r124 = x5 := by
  have := rng32 p4
  have := rng32 x5
  have := rng32 r124
  have : (0 : Int32).toInt = 0 := by decide
  have : (1 : Int32).toInt = 1 := by decide
  have : (1073741823 : Int32).toInt = 1073741823 := by decide
  have : ((p4 &&& (1073741823 : Int32))).toInt = (p4).toInt % (2 ^ 30 : Nat) := c_mask p4 (1073741823 : Int32) 30 (by decide) (by decide)
  have := c_iadd (p4 &&& (1073741823 : Int32)) (1 : Int32)
  have := rng32 ((p4 &&& (1073741823 : Int32)) + (1 : Int32))
  try (simp only [Int32.lt_iff_toInt_lt, Int32.le_iff_toInt_le, Int64.lt_iff_toInt_lt, Int64.le_iff_toInt_le, ← Int32.toInt_inj, ← Int64.toInt_inj, ne_eq] at *)
  omega
theorem ld_0_361_162 (p0 : Int32) (n_ : Int32) (r160 : Int32) (hn_ : (p0 &&& (3 : Int32)) = n_) (hc92_33 : ¬ (n_ < (1 : Int32))) (hc107_80 : n_ < (2 : Int32)) (hr160 : (r160 = (2 : Int32))) : r160 = (n_ + (1 : Int32)) := by
  have := rng32 p0
  have := rng32 n_
  have := rng32 r160
  have : (1 : Int32).toInt = 1 := by decide
  have : (2 : Int32).toInt = 2 := by decide
  have : (3 : Int32).toInt = 3 := by decide
  have : ((p0 &&& (3 : Int32))).toInt = (p0).toInt % (2 ^ 2 : Nat) := c_mask p0 (3 : Int32) 2 (by decide) (by decide)
  have := c_iadd n_ (1 : Int32)
  have := rng32 (n_ + (1 : Int32))
  try (simp only [Int32.lt_iff_toInt_lt, Int32.le_iff_toInt_le, Int64.lt_iff_toInt_lt, Int64.le_iff_toInt_le, ← Int32.toInt_inj, ← Int64.toInt_inj, ne_eq] at *)
  omega
theorem la_0_368_165 (p0 : Int32) (n_ : Int32) (hn_ : (p0 &&& (3 : Int32)) = n_) (hc92_33 : ¬ (n_ < (1 : Int32))) (hc107_80 : n_ < (2 : Int32)) : 0 ≤ n_.toInt := by
  have := rng32 p0
  have := rng32 n_
  have : (1 : Int32).toInt = 1 := by decide
  have : (2 : Int32).toInt = 2 := by decide
  have : (3 : Int32).toInt = 3 := by decide
  have : ((p0 &&& (3 : Int32))).toInt = (p0).toInt % (2 ^ 2 : Nat) := c_mask p0 (3 : Int32) 2 (by decide) (by decide)
  try (simp only [Int32.lt_iff_toInt_lt, Int32.le_iff_toInt_le, Int64.lt_iff_toInt_lt, Int64.le_iff_toInt_le, ← Int32.toInt_inj, ← Int64.toInt_inj, ne_eq] at *)
  omega
theorem la_0_368_166 (p0 : Int32) (n_ : Int32) (hn_ : (p0 &&& (3 : Int32)) = n_) (hc92_33 : ¬ (n_ < (1 : Int32))) (hc107_80 : n_ < (2 : Int32)) : n_.toInt < 2 := by
  have := rng32 p0
  have := rng32 n_
  have : (1 : Int32).toInt = 1 := by decide
  have : (2 : Int32).toInt = 2 := by decide
  have : (3 : Int32).toInt = 3 := by decide
  have : ((p0 &&& (3 : Int32))).toInt = (p0).toInt % (2 ^ 2 : Nat) := c_mask p0 (3 : Int32) 2 (by decide) (by decide)
  try (simp only [Int32.lt_iff_toInt_lt, Int32.le_iff_toInt_le, Int64.lt_iff_toInt_lt, Int64.le_iff_toInt_le, ← Int32.toInt_inj, ← Int64.toInt_inj, ne_eq] at *)
  omega
theorem ld_0_373_167 (p0 : Int32) (p1 : Int32) (p3 : Int32) (n_ : Int32) (x1 : Int32) (x2 : Int32) (x3 : Int32) (x4 : Int32) (r164 : Int32) (hn_ : (p0 &&& (3 : Int32)) = n_) (hx1 : (p1 &&& (1048575 : Int32)) = x1) (hx3 : ((x2 + (1 : Int32)) + (p3 &&& (1048575 : Int32))) = x3) (hx4 : (x3 + (1 : Int32)) = x4) (hc92_33 : ¬ (n_ < (1 : Int32))) (hc107_80 : n_ < (2 : Int32)) (hr164 : (n_.toInt = 0 ∧ r164 = x1) ∨ (n_.toInt = 1 ∧ r164 = x4)) : r164 = x4 := by
  have := rng32 p0
  have := rng32 p1
  have := rng32 p3
  have := rng32 n_
  have := rng32 x1
  have := rng32 x2
  have := rng32 x3
  have := rng32 x4
  have := rng32 r164
  have : (1 : Int32).toInt = 1 := by decide
  have : (1048575 : Int32).toInt = 1048575 := by decide
  have : (2 : Int32).toInt = 2 := by decide
  have : (3 : Int32).toInt = 3 := by decide
  have : ((p0 &&& (3 : Int32))).toInt = (p0).toInt % (2 ^ 2 : Nat) := c_mask p0 (3 : Int32) 2 (by decide) (by decide)
  have : ((p1 &&& (1048575 : Int32))).toInt = (p1).toInt % (2 ^ 20 : Nat) := c_mask p1 (1048575 : Int32) 20 (by decide) (by decide)
  have := c_iadd x2 (1 : Int32)
  have := rng32 (x2 + (1 : Int32))
  have : ((p3 &&& (1048575 : Int32))).toInt = (p3).toInt % (2 ^ 20 : Nat) := c_mask p3 (1048575 : Int32) 20 (by decide) (by decide)
  have := c_iadd (x2 + (1 : Int32)) (p3 &&& (1048575 : Int32))
  have := rng32 ((x2 + (1 : Int32)) + (p3 &&& (1048575 : Int32)))
  have := c_iadd x3 (1 : Int32)
  have := rng32 (x3 + (1 : Int32))
  try (simp only [Int32.lt_iff_toInt_lt, Int32.le_iff_toInt_le, Int64.lt_iff_toInt_lt, Int64.le_iff_toInt_le, ← Int32.toInt_inj, ← Int64.toInt_inj, ne_eq] at *)
  omega
theorem la_0_380_170 (p0 : Int32) (n_ : Int32) (hn_ : (p0 &&& (3 : Int32)) = n_) (hc92_33 : ¬ (n_ < (1 : Int32))) (hc107_80 : n_ < (2 : Int32)) : 0 ≤ n_.toInt := by
  have := rng32 p0
  have := rng32 n_
  have : (1 : Int32).toInt = 1 := by decide
  have : (2 : Int32).toInt = 2 := by decide
  have : (3 : Int32).toInt = 3 := by decide
  have : ((p0 &&& (3 : Int32))).toInt = (p0).toInt % (2 ^ 2 : Nat) := c_mask p0 (3 : Int32) 2 (by decide) (by decide)
  try (simp only [Int32.lt_iff_toInt_lt, Int32.le_iff_toInt_le, Int64.lt_iff_toInt_lt, Int64.le_iff_toInt_le, ← Int32.toInt_inj, ← Int64.toInt_inj, ne_eq] at *)
  omega
theorem la_0_380_171 (p0 : Int32) (n_ : Int32) (hn_ : (p0 &&& (3 : Int32)) = n_) (hc92_33 : ¬ (n_ < (1 : Int32))) (hc107_80 : n_ < (2 : Int32)) : n_.toInt < 2 := by
  have := rng32 p0
  have := rng32 n_
  have : (1 : Int32).toInt = 1 := by decide
  have : (2 : Int32).toInt = 2 := by decide
  have : (3 : Int32).toInt = 3 := by decide
  have : ((p0 &&& (3 : Int32))).toInt = (p0).toInt % (2 ^ 2 : Nat) := c_mask p0 (3 : Int32) 2 (by decide) (by decide)
  try (simp only [Int32.lt_iff_toInt_lt, Int32.le_iff_toInt_le, Int64.lt_iff_toInt_lt, Int64.le_iff_toInt_le, ← Int32.toInt_inj, ← Int64.toInt_inj, ne_eq] at *)
  omega
theorem ld_0_385_172 (p0 : Int32) (p4 : Int32) (n_ : Int32) (x5 : Int32) (x8 : Int32) (r169 : Int32) (hn_ : (p0 &&& (3 : Int32)) = n_) (hx5 : ((p4 &&& (1073741823 : Int32)) + (1 : Int32)) = x5) (hx8 : ((((p0.toUInt32 >>> ((2 : Int32) &&& 31).toUInt32).toInt32) &&& (255 : Int32)) + (1 : Int32)) = x8) (hc92_33 : ¬ (n_ < (1 : Int32))) (hc107_80 : n_ < (2 : Int32)) (hr169 : (n_.toInt = 0 ∧ r169 = x5) ∨ (n_.toInt = 1 ∧ r169 = x8)) : r169 = x8 := by
  have := rng32 p0
  have := rng32 p4
  have := rng32 n_
  have := rng32 x5
  have := rng32 x8
  have := rng32 r169
  have : (1 : Int32).toInt = 1 := by decide
  have : (1073741823 : Int32).toInt = 1073741823 := by decide
  have : (2 : Int32).toInt = 2 := by decide
  have : (255 : Int32).toInt = 255 := by decide
  have : (3 : Int32).toInt = 3 := by decide
  have : ((p0 &&& (3 : Int32))).toInt = (p0).toInt % (2 ^ 2 : Nat) := c_mask p0 (3 : Int32) 2 (by decide) (by decide)
  have : ((p4 &&& (1073741823 : Int32))).toInt = (p4).toInt % (2 ^ 30 : Nat) := c_mask p4 (1073741823 : Int32) 30 (by decide) (by decide)
  have := c_iadd (p4 &&& (1073741823 : Int32)) (1 : Int32)
  have := rng32 ((p4 &&& (1073741823 : Int32)) + (1 : Int32))
  have := c_iushr p0 (2 : Int32) 2 (by decide) (by decide)
  have := rng32 ((p0.toUInt32 >>> ((2 : Int32) &&& 31).toUInt32).toInt32)
  have : ((((p0.toUInt32 >>> ((2 : Int32) &&& 31).toUInt32).toInt32) &&& (255 : Int32))).toInt = (((p0.toUInt32 >>> ((2 : Int32) &&& 31).toUInt32).toInt32)).toInt % (2 ^ 8 : Nat) := c_mask ((p0.toUInt32 >>> ((2 : Int32) &&& 31).toUInt32).toInt32) (255 : Int32) 8 (by decide) (by decide)
  have := c_iadd (((p0.toUInt32 >>> ((2 : Int32) &&& 31).toUInt32).toInt32) &&& (255 : Int32)) (1 : Int32)
  have := rng32 ((((p0.toUInt32 >>> ((2 : Int32) &&& 31).toUInt32).toInt32) &&& (255 : Int32)) + (1 : Int32))
  try (simp only [Int32.lt_iff_toInt_lt, Int32.le_iff_toInt_le, Int64.lt_iff_toInt_lt, Int64.le_iff_toInt_le, ← Int32.toInt_inj, ← Int64.toInt_inj, ne_eq] at *)
  omega
theorem ld_0_400_175 (p0 : Int32) (p4 : Int32) (x5 : Int32) (x8 : Int32) (x111 : Int64) (r174 : Int64) (hx5 : ((p4 &&& (1073741823 : Int32)) + (1 : Int32)) = x5) (hx8 : ((((p0.toUInt32 >>> ((2 : Int32) &&& 31).toUInt32).toInt32) &&& (255 : Int32)) + (1 : Int32)) = x8) (hx111 : ((0 : Int64) + (x5.toInt64)) = x111) (hr174 : (r174 = (((0 : Int64) + (x5.toInt64)) + (x8.toInt64)))) : r174 = (x111 + (x8.toInt64)) := by
  subst hx5
  subst hx8
  subst hx111
  exact hr174
theorem la_0_406_178   : 0 ≤ (0 : Int32).toInt := by
  have : (0 : Int32).toInt = 0 := by decide
  try (simp only [Int32.lt_iff_toInt_lt, Int32.le_iff_toInt_le, Int64.lt_iff_toInt_lt, Int64.le_iff_toInt_le, ← Int32.toInt_inj, ← Int64.toInt_inj, ne_eq] at *)
  omega
theorem la_0_406_179   : (0 : Int32).toInt < 2 := by
  have : (0 : Int32).toInt = 0 := by decide
  try (simp only [Int32.lt_iff_toInt_lt, Int32.le_iff_toInt_le, Int64.lt_iff_toInt_lt, Int64.le_iff_toInt_le, ← Int32.toInt_inj, ← Int64.toInt_inj, ne_eq] at *)
  omega
theorem ld_0_411_180 (p1 : Int32) (x1 : Int32) (x3 : Int32) (x4 : Int32) (r177 : Int32) (hx1 : (p1 &&& (1048575 : Int32)) = x1) (hx4 : (x3 + (1 : Int32)) = x4) (hr177 : ((0 : Int32).toInt = 0 ∧ r177 = x1) ∨ ((0 : Int32).toInt = 1 ∧ r177 = x4)) : r177 = x1 := by
  have := rng32 p1
  have := rng32 x1
  have := rng32 x3
  have := rng32 x4
  have := rng32 r177
  have : (0 : Int32).toInt = 0 := by decide
  have : (1 : Int32).toInt = 1 := by decide
  have : (1048575 : Int32).toInt = 1048575 := by decide
  have : ((p1 &&& (1048575 : Int32))).toInt = (p1).toInt % (2 ^ 20 : Nat) := c_mask p1 (1048575 : Int32) 20 (by decide) (by decide)
  have := c_iadd x3 (1 : Int32)
  have := rng32 (x3 + (1 : Int32))
  try (simp only [Int32.lt_iff_toInt_lt, Int32.le_iff_toInt_le, Int64.lt_iff_toInt_lt, Int64.le_iff_toInt_le, ← Int32.toInt_inj, ← Int64.toInt_inj, ne_eq] at *)
  omega
theorem la_0_417_183   : 0 ≤ (0 : Int32).toInt := by
  have : (0 : Int32).toInt = 0 := by decide
  try (simp only [Int32.lt_iff_toInt_lt, Int32.le_iff_toInt_le, Int64.lt_iff_toInt_lt, Int64.le_iff_toInt_le, ← Int32.toInt_inj, ← Int64.toInt_inj, ne_eq] at *)
  omega
theorem la_0_417_184   : (0 : Int32).toInt < 2 := by
  have : (0 : Int32).toInt = 0 := by decide
  try (simp only [Int32.lt_iff_toInt_lt, Int32.le_iff_toInt_le, Int64.lt_iff_toInt_lt, Int64.le_iff_toInt_le, ← Int32.toInt_inj, ← Int64.toInt_inj, ne_eq] at *)
  omega
theorem ld_0_422_185 (p0 : Int32) (p4 : Int32) (x5 : Int32) (x8 : Int32) (r182 : Int32) (hx5 : ((p4 &&& (1073741823 : Int32)) + (1 : Int32)) = x5) (hx8 : ((((p0.toUInt32 >>> ((2 : Int32) &&& 31).toUInt32).toInt32) &&& (255 : Int32)) + (1 : Int32)) = x8) (hr182 : ((0 : Int32).toInt = 0 ∧ r182 = x5) ∨ ((0 : Int32).toInt = 1 ∧ r182 = x8)) : r182 = x5 := by
  have := rng32 p0
  have := rng32 p4
  have := rng32 x5
  have := rng32 x8
  have := rng32 r182
  have : (0 : Int32).toInt = 0 := by decide
  have : (1 : Int32).toInt = 1 := by decide
  have : (1073741823 : Int32).toInt = 1073741823 := by decide
  have : (2 : Int32).toInt = 2 := by decide
  have : (255 : Int32).toInt = 255 := by decide
  have : ((p4 &&& (1073741823 : Int32))).toInt = (p4).toInt % (2 ^ 30 : Nat) := c_mask p4 (1073741823 : Int32) 30 (by decide) (by decide)
  have := c_iadd (p4 &&& (1073741823 : Int32)) (1 : Int32)
  have := rng32 ((p4 &&& (1073741823 : Int32)) + (1 : Int32))
  have := c_iushr p0 (2 : Int32) 2 (by decide) (by decide)
  have := rng32 ((p0.toUInt32 >>> ((2 : Int32) &&& 31).toUInt32).toInt32)
  have : ((((p0.toUInt32 >>> ((2 : Int32) &&& 31).toUInt32).toInt32) &&& (255 : Int32))).toInt = (((p0.toUInt32 >>> ((2 : Int32) &&& 31).toUInt32).toInt32)).toInt % (2 ^ 8 : Nat) := c_mask ((p0.toUInt32 >>> ((2 : Int32) &&& 31).toUInt32).toInt32) (255 : Int32) 8 (by decide) (by decide)
  have := c_iadd (((p0.toUInt32 >>> ((2 : Int32) &&& 31).toUInt32).toInt32) &&& (255 : Int32)) (1 : Int32)
  have := rng32 ((((p0.toUInt32 >>> ((2 : Int32) &&& 31).toUInt32).toInt32) &&& (255 : Int32)) + (1 : Int32))
  try (simp only [Int32.lt_iff_toInt_lt, Int32.le_iff_toInt_le, Int64.lt_iff_toInt_lt, Int64.le_iff_toInt_le, ← Int32.toInt_inj, ← Int64.toInt_inj, ne_eq] at *)
  omega
theorem ld_0_191_229 (p0 : Int32) (n_ : Int32) (r227 : Int32) (hn_ : (p0 &&& (3 : Int32)) = n_) (hc92_33 : ¬ (n_ < (1 : Int32))) (hc107_80 : ¬ (n_ < (2 : Int32))) (hc122_198 : n_ < (3 : Int32)) (hr227 : (r227 = (2 : Int32))) : r227 = n_ := by
  have := rng32 p0
  have := rng32 n_
  have := rng32 r227
  have : (1 : Int32).toInt = 1 := by decide
  have : (2 : Int32).toInt = 2 := by decide
  have : (3 : Int32).toInt = 3 := by decide
  have : ((p0 &&& (3 : Int32))).toInt = (p0).toInt % (2 ^ 2 : Nat) := c_mask p0 (3 : Int32) 2 (by decide) (by decide)
  try (simp only [Int32.lt_iff_toInt_lt, Int32.le_iff_toInt_le, Int64.lt_iff_toInt_lt, Int64.le_iff_toInt_le, ← Int32.toInt_inj, ← Int64.toInt_inj, ne_eq] at *)
  omega
theorem ld_0_202_232 (p4 : Int32) (p5 : Int32) (x5 : Int32) (x6 : Int32) (x225 : Int64) (x226 : Int64) (r231 : Int64) (hx5 : ((p4 &&& (1073741823 : Int32)) + (1 : Int32)) = x5) (hx6 : ((p5 &&& (1073741823 : Int32)) + (1 : Int32)) = x6) (hx225 : ((0 : Int64) + (x5.toInt64)) = x225) (hx226 : (x225 + (x6.toInt64)) = x226) (hr231 : (r231 = (((0 : Int64) + (x5.toInt64)) + (x6.toInt64)))) : r231 = x226 := by
  subst hx5
  subst hx6
  subst hx225
  subst hx226
  exact hr231
theorem la_0_226_235   : 0 ≤ (0 : Int32).toInt := by
  have : (0 : Int32).toInt = 0 := by decide
  try (simp only [Int32.lt_iff_toInt_lt, Int32.le_iff_toInt_le, Int64.lt_iff_toInt_lt, Int64.le_iff_toInt_le, ← Int32.toInt_inj, ← Int64.toInt_inj, ne_eq] at *)
  omega
theorem la_0_226_236   : (0 : Int32).toInt < 2 := by
  have : (0 : Int32).toInt = 0 := by decide
  try (simp only [Int32.lt_iff_toInt_lt, Int32.le_iff_toInt_le, Int64.lt_iff_toInt_lt, Int64.le_iff_toInt_le, ← Int32.toInt_inj, ← Int64.toInt_inj, ne_eq] at *)
  omega
theorem ld_0_231_237 (p1 : Int32) (p2 : Int32) (x1 : Int32) (x2 : Int32) (r234 : Int32) (hx1 : (p1 &&& (1048575 : Int32)) = x1) (hx2 : ((x1 + (1 : Int32)) + (p2 &&& (1048575 : Int32))) = x2) (hr234 : ((0 : Int32).toInt = 0 ∧ r234 = x1) ∨ ((0 : Int32).toInt = 1 ∧ r234 = x2)) : r234 = x1 := by
  have := rng32 p1
  have := rng32 p2
  have := rng32 x1
  have := rng32 x2
  have := rng32 r234
  have : (0 : Int32).toInt = 0 := by decide
  have : (1 : Int32).toInt = 1 := by decide
  have : (1048575 : Int32).toInt = 1048575 := by decide
  have : ((p1 &&& (1048575 : Int32))).toInt = (p1).toInt % (2 ^ 20 : Nat) := c_mask p1 (1048575 : Int32) 20 (by decide) (by decide)
  have := c_iadd x1 (1 : Int32)
  have := rng32 (x1 + (1 : Int32))
  have : ((p2 &&& (1048575 : Int32))).toInt = (p2).toInt % (2 ^ 20 : Nat) := c_mask p2 (1048575 : Int32) 20 (by decide) (by decide)
  have := c_iadd (x1 + (1 : Int32)) (p2 &&& (1048575 : Int32))
  have := rng32 ((x1 + (1 : Int32)) + (p2 &&& (1048575 : Int32)))
  try (simp only [Int32.lt_iff_toInt_lt, Int32.le_iff_toInt_le, Int64.lt_iff_toInt_lt, Int64.le_iff_toInt_le, ← Int32.toInt_inj, ← Int64.toInt_inj, ne_eq] at *)
  omega
theorem la_0_237_240   : 0 ≤ (0 : Int32).toInt := by
  have : (0 : Int32).toInt = 0 := by decide
  try (simp only [Int32.lt_iff_toInt_lt, Int32.le_iff_toInt_le, Int64.lt_iff_toInt_lt, Int64.le_iff_toInt_le, ← Int32.toInt_inj, ← Int64.toInt_inj, ne_eq] at *)
  omega
theorem la_0_237_241   : (0 : Int32).toInt < 2 := by
  have : (0 : Int32).toInt = 0 := by decide
  try (simp only [Int32.lt_iff_toInt_lt, Int32.le_iff_toInt_le, Int64.lt_iff_toInt_lt, Int64.le_iff_toInt_le, ← Int32.toInt_inj, ← Int64.toInt_inj, ne_eq] at *)
  omega
theorem ld_0_242_242 (p4 : Int32) (p5 : Int32) (x5 : Int32) (x6 : Int32) (r239 : Int32) (hx5 : ((p4 &&& (1073741823 : Int32)) + (1 : Int32)) = x5) (hx6 : ((p5 &&& (1073741823 : Int32)) + (1 : Int32)) = x6) (hr239 : ((0 : Int32).toInt = 0 ∧ r239 = x5) ∨ ((0 : Int32).toInt = 1 ∧ r239 = x6)) : r239 = x5 := by
  have := rng32 p4
  have := rng32 p5
  have := rng32 x5
  have := rng32 x6
  have := rng32 r239
  have : (0 : Int32).toInt = 0 := by decide
  have : (1 : Int32).toInt = 1 := by decide
  have : (1073741823 : Int32).toInt = 1073741823 := by decide
  have : ((p4 &&& (1073741823 : Int32))).toInt = (p4).toInt % (2 ^ 30 : Nat) := c_mask p4 (1073741823 : Int32) 30 (by decide) (by decide)
  have := c_iadd (p4 &&& (1073741823 : Int32)) (1 : Int32)
  have := rng32 ((p4 &&& (1073741823 : Int32)) + (1 : Int32))
  have : ((p5 &&& (1073741823 : Int32))).toInt = (p5).toInt % (2 ^ 30 : Nat) := c_mask p5 (1073741823 : Int32) 30 (by decide) (by decide)
  have := c_iadd (p5 &&& (1073741823 : Int32)) (1 : Int32)
  have := rng32 ((p5 &&& (1073741823 : Int32)) + (1 : Int32))
  try (simp only [Int32.lt_iff_toInt_lt, Int32.le_iff_toInt_le, Int64.lt_iff_toInt_lt, Int64.le_iff_toInt_le, ← Int32.toInt_inj, ← Int64.toInt_inj, ne_eq] at *)
  omega
theorem la_0_266_245   : 0 ≤ (1 : Int32).toInt := by
  have : (1 : Int32).toInt = 1 := by decide
  try (simp only [Int32.lt_iff_toInt_lt, Int32.le_iff_toInt_le, Int64.lt_iff_toInt_lt, Int64.le_iff_toInt_le, ← Int32.toInt_inj, ← Int64.toInt_inj, ne_eq] at *)
  omega
theorem la_0_266_246   : (1 : Int32).toInt < 2 := by
  have : (1 : Int32).toInt = 1 := by decide
  try (simp only [Int32.lt_iff_toInt_lt, Int32.le_iff_toInt_le, Int64.lt_iff_toInt_lt, Int64.le_iff_toInt_le, ← Int32.toInt_inj, ← Int64.toInt_inj, ne_eq] at *)
  omega
theorem ld_0_271_247 (p1 : Int32) (p2 : Int32) (x1 : Int32) (x2 : Int32) (r244 : Int32) (hx1 : (p1 &&& (1048575 : Int32)) = x1) (hx2 : ((x1 + (1 : Int32)) + (p2 &&& (1048575 : Int32))) = x2) (hr244 : ((1 : Int32).toInt = 0 ∧ r244 = x1) ∨ ((1 : Int32).toInt = 1 ∧ r244 = x2)) : r244 = x2 := by
  have := rng32 p1
  have := rng32 p2
  have := rng32 x1
  have := rng32 x2
  have := rng32 r244
  have : (1 : Int32).toInt = 1 := by decide
  have : (1048575 : Int32).toInt = 1048575 := by decide
  have : ((p1 &&& (1048575 : Int32))).toInt = (p1).toInt % (2 ^ 20 : Nat) := c_mask p1 (1048575 : Int32) 20 (by decide) (by decide)
  have := c_iadd x1 (1 : Int32)
  have := rng32 (x1 + (1 : Int32))
  have : ((p2 &&& (1048575 : Int32))).toInt = (p2).toInt % (2 ^ 20 : Nat) := c_mask p2 (1048575 : Int32) 20 (by decide) (by decide)
  have := c_iadd (x1 + (1 : Int32)) (p2 &&& (1048575 : Int32))
  have := rng32 ((x1 + (1 : Int32)) + (p2 &&& (1048575 : Int32)))
  try (simp only [Int32.lt_iff_toInt_lt, Int32.le_iff_toInt_le, Int64.lt_iff_toInt_lt, Int64.le_iff_toInt_le, ← Int32.toInt_inj, ← Int64.toInt_inj, ne_eq] at *)
  omega
theorem la_0_277_250   : 0 ≤ (1 : Int32).toInt := by
  have : (1 : Int32).toInt = 1 := by decide
  try (simp only [Int32.lt_iff_toInt_lt, Int32.le_iff_toInt_le, Int64.lt_iff_toInt_lt, Int64.le_iff_toInt_le, ← Int32.toInt_inj, ← Int64.toInt_inj, ne_eq] at *)
  omega
theorem la_0_277_251   : (1 : Int32).toInt < 2 := by
  have : (1 : Int32).toInt = 1 := by decide
  try (simp only [Int32.lt_iff_toInt_lt, Int32.le_iff_toInt_le, Int64.lt_iff_toInt_lt, Int64.le_iff_toInt_le, ← Int32.toInt_inj, ← Int64.toInt_inj, ne_eq] at *)
  omega
theorem ld_0_282_252 (p4 : Int32) (p5 : Int32) (x5 : Int32) (x6 : Int32) (r249 : Int32) (hx5 : ((p4 &&& (1073741823 : Int32)) + (1 : Int32)) = x5) (hx6 : ((p5 &&& (1073741823 : Int32)) + (1 : Int32)) = x6) (hr249 : ((1 : Int32).toInt = 0 ∧ r249 = x5) ∨ ((1 : Int32).toInt = 1 ∧ r249 = x6)) : r249 = x6 := by
  have := rng32 p4
  have := rng32 p5
  have := rng32 x5
  have := rng32 x6
  have := rng32 r249
  have : (1 : Int32).toInt = 1 := by decide
  have : (1073741823 : Int32).toInt = 1073741823 := by decide
  have : ((p4 &&& (1073741823 : Int32))).toInt = (p4).toInt % (2 ^ 30 : Nat) := c_mask p4 (1073741823 : Int32) 30 (by decide) (by decide)
  have := c_iadd (p4 &&& (1073741823 : Int32)) (1 : Int32)
  have := rng32 ((p4 &&& (1073741823 : Int32)) + (1 : Int32))
  have : ((p5 &&& (1073741823 : Int32))).toInt = (p5).toInt % (2 ^ 30 : Nat) := c_mask p5 (1073741823 : Int32) 30 (by decide) (by decide)
  have := c_iadd (p5 &&& (1073741823 : Int32)) (1 : Int32)
  have := rng32 ((p5 &&& (1073741823 : Int32)) + (1 : Int32))
  try (simp only [Int32.lt_iff_toInt_lt, Int32.le_iff_toInt_le, Int64.lt_iff_toInt_lt, Int64.le_iff_toInt_le, ← Int32.toInt_inj, ← Int64.toInt_inj, ne_eq] at *)
  omega
theorem ld_0_361_287 (p0 : Int32) (n_ : Int32) (r285 : Int32) (hn_ : (p0 &&& (3 : Int32)) = n_) (hc92_33 : ¬ (n_ < (1 : Int32))) (hc107_80 : ¬ (n_ < (2 : Int32))) (hc122_198 : n_ < (3 : Int32)) (hr285 : (r285 = (3 : Int32))) : r285 = (n_ + (1 : Int32)) := by
  have := rng32 p0
  have := rng32 n_
  have := rng32 r285
  have : (1 : Int32).toInt = 1 := by decide
  have : (2 : Int32).toInt = 2 := by decide
  have : (3 : Int32).toInt = 3 := by decide
  have : ((p0 &&& (3 : Int32))).toInt = (p0).toInt % (2 ^ 2 : Nat) := c_mask p0 (3 : Int32) 2 (by decide) (by decide)
  have := c_iadd n_ (1 : Int32)
  have := rng32 (n_ + (1 : Int32))
  try (simp only [Int32.lt_iff_toInt_lt, Int32.le_iff_toInt_le, Int64.lt_iff_toInt_lt, Int64.le_iff_toInt_le, ← Int32.toInt_inj, ← Int64.toInt_inj, ne_eq] at *)
  omega
theorem la_0_368_290 (p0 : Int32) (n_ : Int32) (hn_ : (p0 &&& (3 : Int32)) = n_) (hc92_33 : ¬ (n_ < (1 : Int32))) (hc107_80 : ¬ (n_ < (2 : Int32))) (hc122_198 : n_ < (3 : Int32)) : 0 ≤ n_.toInt := by
  have := rng32 p0
  have := rng32 n_
  have : (1 : Int32).toInt = 1 := by decide
  have : (2 : Int32).toInt = 2 := by decide
  have : (3 : Int32).toInt = 3 := by decide
  have : ((p0 &&& (3 : Int32))).toInt = (p0).toInt % (2 ^ 2 : Nat) := c_mask p0 (3 : Int32) 2 (by decide) (by decide)
  try (simp only [Int32.lt_iff_toInt_lt, Int32.le_iff_toInt_le, Int64.lt_iff_toInt_lt, Int64.le_iff_toInt_le, ← Int32.toInt_inj, ← Int64.toInt_inj, ne_eq] at *)
  omega
theorem la_0_368_291 (p0 : Int32) (n_ : Int32) (hn_ : (p0 &&& (3 : Int32)) = n_) (hc92_33 : ¬ (n_ < (1 : Int32))) (hc107_80 : ¬ (n_ < (2 : Int32))) (hc122_198 : n_ < (3 : Int32)) : n_.toInt < 3 := by
  have := rng32 p0
  have := rng32 n_
  have : (1 : Int32).toInt = 1 := by decide
  have : (2 : Int32).toInt = 2 := by decide
  have : (3 : Int32).toInt = 3 := by decide
  have : ((p0 &&& (3 : Int32))).toInt = (p0).toInt % (2 ^ 2 : Nat) := c_mask p0 (3 : Int32) 2 (by decide) (by decide)
  try (simp only [Int32.lt_iff_toInt_lt, Int32.le_iff_toInt_le, Int64.lt_iff_toInt_lt, Int64.le_iff_toInt_le, ← Int32.toInt_inj, ← Int64.toInt_inj, ne_eq] at *)
  omega
theorem ld_0_373_292 (p0 : Int32) (p1 : Int32) (p2 : Int32) (p3 : Int32) (n_ : Int32) (x1 : Int32) (x2 : Int32) (x3 : Int32) (x4 : Int32) (r289 : Int32) (hn_ : (p0 &&& (3 : Int32)) = n_) (hx1 : (p1 &&& (1048575 : Int32)) = x1) (hx2 : ((x1 + (1 : Int32)) + (p2 &&& (1048575 : Int32))) = x2) (hx3 : ((x2 + (1 : Int32)) + (p3 &&& (1048575 : Int32))) = x3) (hx4 : (x3 + (1 : Int32)) = x4) (hc92_33 : ¬ (n_ < (1 : Int32))) (hc107_80 : ¬ (n_ < (2 : Int32))) (hc122_198 : n_ < (3 : Int32)) (hr289 : (n_.toInt = 0 ∧ r289 = x1) ∨ (n_.toInt = 1 ∧ r289 = x2) ∨ (n_.toInt = 2 ∧ r289 = x4)) : r289 = x4 := by
  have := rng32 p0
  have := rng32 p1
  have := rng32 p2
  have := rng32 p3
  have := rng32 n_
  have := rng32 x1
  have := rng32 x2
  have := rng32 x3
  have := rng32 x4
  have := rng32 r289
  have : (1 : Int32).toInt = 1 := by decide
  have : (1048575 : Int32).toInt = 1048575 := by decide
  have : (2 : Int32).toInt = 2 := by decide
  have : (3 : Int32).toInt = 3 := by decide
  have : ((p0 &&& (3 : Int32))).toInt = (p0).toInt % (2 ^ 2 : Nat) := c_mask p0 (3 : Int32) 2 (by decide) (by decide)
  have : ((p1 &&& (1048575 : Int32))).toInt = (p1).toInt % (2 ^ 20 : Nat) := c_mask p1 (1048575 : Int32) 20 (by decide) (by decide)
  have := c_iadd x1 (1 : Int32)
  have := rng32 (x1 + (1 : Int32))
  have : ((p2 &&& (1048575 : Int32))).toInt = (p2).toInt % (2 ^ 20 : Nat) := c_mask p2 (1048575 : Int32) 20 (by decide) (by decide)
  have := c_iadd (x1 + (1 : Int32)) (p2 &&& (1048575 : Int32))
  have := rng32 ((x1 + (1 : Int32)) + (p2 &&& (1048575 : Int32)))
  have := c_iadd x2 (1 : Int32)
  have := rng32 (x2 + (1 : Int32))
  have : ((p3 &&& (1048575 : Int32))).toInt = (p3).toInt % (2 ^ 20 : Nat) := c_mask p3 (1048575 : Int32) 20 (by decide) (by decide)
  have := c_iadd (x2 + (1 : Int32)) (p3 &&& (1048575 : Int32))
  have := rng32 ((x2 + (1 : Int32)) + (p3 &&& (1048575 : Int32)))
  have := c_iadd x3 (1 : Int32)
  have := rng32 (x3 + (1 : Int32))
  try (simp only [Int32.lt_iff_toInt_lt, Int32.le_iff_toInt_le, Int64.lt_iff_toInt_lt, Int64.le_iff_toInt_le, ← Int32.toInt_inj, ← Int64.toInt_inj, ne_eq] at *)
  omega
theorem la_0_380_295 (p0 : Int32) (n_ : Int32) (hn_ : (p0 &&& (3 : Int32)) = n_) (hc92_33 : ¬ (n_ < (1 : Int32))) (hc107_80 : ¬ (n_ < (2 : Int32))) (hc122_198 : n_ < (3 : Int32)) : 0 ≤ n_.toInt := by
  have := rng32 p0
  have := rng32 n_
  have : (1 : Int32).toInt = 1 := by decide
  have : (2 : Int32).toInt = 2 := by decide
  have : (3 : Int32).toInt = 3 := by decide
  have : ((p0 &&& (3 : Int32))).toInt = (p0).toInt % (2 ^ 2 : Nat) := c_mask p0 (3 : Int32) 2 (by decide) (by decide)
  try (simp only [Int32.lt_iff_toInt_lt, Int32.le_iff_toInt_le, Int64.lt_iff_toInt_lt, Int64.le_iff_toInt_le, ← Int32.toInt_inj, ← Int64.toInt_inj, ne_eq] at *)
  omega
theorem la_0_380_296 (p0 : Int32) (n_ : Int32) (hn_ : (p0 &&& (3 : Int32)) = n_) (hc92_33 : ¬ (n_ < (1 : Int32))) (hc107_80 : ¬ (n_ < (2 : Int32))) (hc122_198 : n_ < (3 : Int32)) : n_.toInt < 3 := by
  have := rng32 p0
  have := rng32 n_
  have : (1 : Int32).toInt = 1 := by decide
  have : (2 : Int32).toInt = 2 := by decide
  have : (3 : Int32).toInt = 3 := by decide
  have : ((p0 &&& (3 : Int32))).toInt = (p0).toInt % (2 ^ 2 : Nat) := c_mask p0 (3 : Int32) 2 (by decide) (by decide)
  try (simp only [Int32.lt_iff_toInt_lt, Int32.le_iff_toInt_le, Int64.lt_iff_toInt_lt, Int64.le_iff_toInt_le, ← Int32.toInt_inj, ← Int64.toInt_inj, ne_eq] at *)
  omega
theorem ld_0_385_297 (p0 : Int32) (p4 : Int32) (p5 : Int32) (n_ : Int32) (x5 : Int32) (x6 : Int32) (x8 : Int32) (r294 : Int32) (hn_ : (p0 &&& (3 : Int32)) = n_) (hx5 : ((p4 &&& (1073741823 : Int32)) + (1 : Int32)) = x5) (hx6 : ((p5 &&& (1073741823 : Int32)) + (1 : Int32)) = x6) (hx8 : ((((p0.toUInt32 >>> ((2 : Int32) &&& 31).toUInt32).toInt32) &&& (255 : Int32)) + (1 : Int32)) = x8) (hc92_33 : ¬ (n_ < (1 : Int32))) (hc107_80 : ¬ (n_ < (2 : Int32))) (hc122_198 : n_ < (3 : Int32)) (hr294 : (n_.toInt = 0 ∧ r294 = x5) ∨ (n_.toInt = 1 ∧ r294 = x6) ∨ (n_.toInt = 2 ∧ r294 = x8)) : r294 = x8 := by
  have := rng32 p0
  have := rng32 p4
  have := rng32 p5
  have := rng32 n_
  have := rng32 x5
  have := rng32 x6
  have := rng32 x8
  have := rng32 r294
  have : (1 : Int32).toInt = 1 := by decide
  have : (1073741823 : Int32).toInt = 1073741823 := by decide
  have : (2 : Int32).toInt = 2 := by decide
  have : (255 : Int32).toInt = 255 := by decide
  have : (3 : Int32).toInt = 3 := by decide
  have : ((p0 &&& (3 : Int32))).toInt = (p0).toInt % (2 ^ 2 : Nat) := c_mask p0 (3 : Int32) 2 (by decide) (by decide)
  have : ((p4 &&& (1073741823 : Int32))).toInt = (p4).toInt % (2 ^ 30 : Nat) := c_mask p4 (1073741823 : Int32) 30 (by decide) (by decide)
  have := c_iadd (p4 &&& (1073741823 : Int32)) (1 : Int32)
  have := rng32 ((p4 &&& (1073741823 : Int32)) + (1 : Int32))
  have : ((p5 &&& (1073741823 : Int32))).toInt = (p5).toInt % (2 ^ 30 : Nat) := c_mask p5 (1073741823 : Int32) 30 (by decide) (by decide)
  have := c_iadd (p5 &&& (1073741823 : Int32)) (1 : Int32)
  have := rng32 ((p5 &&& (1073741823 : Int32)) + (1 : Int32))
  have := c_iushr p0 (2 : Int32) 2 (by decide) (by decide)
  have := rng32 ((p0.toUInt32 >>> ((2 : Int32) &&& 31).toUInt32).toInt32)
  have : ((((p0.toUInt32 >>> ((2 : Int32) &&& 31).toUInt32).toInt32) &&& (255 : Int32))).toInt = (((p0.toUInt32 >>> ((2 : Int32) &&& 31).toUInt32).toInt32)).toInt % (2 ^ 8 : Nat) := c_mask ((p0.toUInt32 >>> ((2 : Int32) &&& 31).toUInt32).toInt32) (255 : Int32) 8 (by decide) (by decide)
  have := c_iadd (((p0.toUInt32 >>> ((2 : Int32) &&& 31).toUInt32).toInt32) &&& (255 : Int32)) (1 : Int32)
  have := rng32 ((((p0.toUInt32 >>> ((2 : Int32) &&& 31).toUInt32).toInt32) &&& (255 : Int32)) + (1 : Int32))
  try (simp only [Int32.lt_iff_toInt_lt, Int32.le_iff_toInt_le, Int64.lt_iff_toInt_lt, Int64.le_iff_toInt_le, ← Int32.toInt_inj, ← Int64.toInt_inj, ne_eq] at *)
  omega
theorem ld_0_400_300 (p0 : Int32) (p4 : Int32) (p5 : Int32) (x5 : Int32) (x6 : Int32) (x8 : Int32) (x225 : Int64) (x226 : Int64) (r299 : Int64) (hx5 : ((p4 &&& (1073741823 : Int32)) + (1 : Int32)) = x5) (hx6 : ((p5 &&& (1073741823 : Int32)) + (1 : Int32)) = x6) (hx8 : ((((p0.toUInt32 >>> ((2 : Int32) &&& 31).toUInt32).toInt32) &&& (255 : Int32)) + (1 : Int32)) = x8) (hx225 : ((0 : Int64) + (x5.toInt64)) = x225) (hx226 : (x225 + (x6.toInt64)) = x226) (hr299 : (r299 = ((((0 : Int64) + (x5.toInt64)) + (x6.toInt64)) + (x8.toInt64)))) : r299 = (x226 + (x8.toInt64)) := by
  subst hx5
  subst hx6
  subst hx8
  subst hx225
  subst hx226
  exact hr299
theorem la_0_406_303   : 0 ≤ (0 : Int32).toInt := by
  have : (0 : Int32).toInt = 0 := by decide
  try (simp only [Int32.lt_iff_toInt_lt, Int32.le_iff_toInt_le, Int64.lt_iff_toInt_lt, Int64.le_iff_toInt_le, ← Int32.toInt_inj, ← Int64.toInt_inj, ne_eq] at *)
  omega
theorem la_0_406_304   : (0 : Int32).toInt < 3 := by
  have : (0 : Int32).toInt = 0 := by decide
  try (simp only [Int32.lt_iff_toInt_lt, Int32.le_iff_toInt_le, Int64.lt_iff_toInt_lt, Int64.le_iff_toInt_le, ← Int32.toInt_inj, ← Int64.toInt_inj, ne_eq] at *)
  omega
theorem ld_0_411_305 (p1 : Int32) (p2 : Int32) (x1 : Int32) (x2 : Int32) (x3 : Int32) (x4 : Int32) (r302 : Int32) (hx1 : (p1 &&& (1048575 : Int32)) = x1) (hx2 : ((x1 + (1 : Int32)) + (p2 &&& (1048575 : Int32))) = x2) (hx4 : (x3 + (1 : Int32)) = x4) (hr302 : ((0 : Int32).toInt = 0 ∧ r302 = x1) ∨ ((0 : Int32).toInt = 1 ∧ r302 = x2) ∨ ((0 : Int32).toInt = 2 ∧ r302 = x4)) : r302 = x1 := by
  have := rng32 p1
  have := rng32 p2
  have := rng32 x1
  have := rng32 x2
  have := rng32 x3
  have := rng32 x4
  have := rng32 r302
  have : (0 : Int32).toInt = 0 := by decide
  have : (1 : Int32).toInt = 1 := by decide
  have : (1048575 : Int32).toInt = 1048575 := by decide
  have : ((p1 &&& (1048575 : Int32))).toInt = (p1).toInt % (2 ^ 20 : Nat) := c_mask p1 (1048575 : Int32) 20 (by decide) (by decide)
  have := c_iadd x1 (1 : Int32)
  have := rng32 (x1 + (1 : Int32))
  have : ((p2 &&& (1048575 : Int32))).toInt = (p2).toInt % (2 ^ 20 : Nat) := c_mask p2 (1048575 : Int32) 20 (by decide) (by decide)
  have := c_iadd (x1 + (1 : Int32)) (p2 &&& (1048575 : Int32))
  have := rng32 ((x1 + (1 : Int32)) + (p2 &&& (1048575 : Int32)))
  have := c_iadd x3 (1 : Int32)
  have := rng32 (x3 + (1 : Int32))
  try (simp only [Int32.lt_iff_toInt_lt, Int32.le_iff_toInt_le, Int64.lt_iff_toInt_lt, Int64.le_iff_toInt_le, ← Int32.toInt_inj, ← Int64.toInt_inj, ne_eq] at *)
  omega
theorem la_0_417_308   : 0 ≤ (0 : Int32).toInt := by
  have : (0 : Int32).toInt = 0 := by decide
  try (simp only [Int32.lt_iff_toInt_lt, Int32.le_iff_toInt_le, Int64.lt_iff_toInt_lt, Int64.le_iff_toInt_le, ← Int32.toInt_inj, ← Int64.toInt_inj, ne_eq] at *)
  omega
theorem la_0_417_309   : (0 : Int32).toInt < 3 := by
  have : (0 : Int32).toInt = 0 := by decide
  try (simp only [Int32.lt_iff_toInt_lt, Int32.le_iff_toInt_le, Int64.lt_iff_toInt_lt, Int64.le_iff_toInt_le, ← Int32.toInt_inj, ← Int64.toInt_inj, ne_eq] at *)
  omega
theorem ld_0_422_310 (p0 : Int32) (p4 : Int32) (p5 : Int32) (x5 : Int32) (x6 : Int32) (x8 : Int32) (r307 : Int32) (hx5 : ((p4 &&& (1073741823 : Int32)) + (1 : Int32)) = x5) (hx6 : ((p5 &&& (1073741823 : Int32)) + (1 : Int32)) = x6) (hx8 : ((((p0.toUInt32 >>> ((2 : Int32) &&& 31).toUInt32).toInt32) &&& (255 : Int32)) + (1 : Int32)) = x8) (hr307 : ((0 : Int32).toInt = 0 ∧ r307 = x5) ∨ ((0 : Int32).toInt = 1 ∧ r307 = x6) ∨ ((0 : Int32).toInt = 2 ∧ r307 = x8)) : r307 = x5 := by
  have := rng32 p0
  have := rng32 p4
  have := rng32 p5
  have := rng32 x5
  have := rng32 x6
  have := rng32 x8
  have := rng32 r307
  have : (0 : Int32).toInt = 0 := by decide
  have : (1 : Int32).toInt = 1 := by decide
  have : (1073741823 : Int32).toInt = 1073741823 := by decide
  have : (2 : Int32).toInt = 2 := by decide
  have : (255 : Int32).toInt = 255 := by decide
  have : ((p4 &&& (1073741823 : Int32))).toInt = (p4).toInt % (2 ^ 30 : Nat) := c_mask p4 (1073741823 : Int32) 30 (by decide) (by decide)
  have := c_iadd (p4 &&& (1073741823 : Int32)) (1 : Int32)
  have := rng32 ((p4 &&& (1073741823 : Int32)) + (1 : Int32))
  have : ((p5 &&& (1073741823 : Int32))).toInt = (p5).toInt % (2 ^ 30 : Nat) := c_mask p5 (1073741823 : Int32) 30 (by decide) (by decide)
  have := c_iadd (p5 &&& (1073741823 : Int32)) (1 : Int32)
  have := rng32 ((p5 &&& (1073741823 : Int32)) + (1 : Int32))
  have := c_iushr p0 (2 : Int32) 2 (by decide) (by decide)
  have := rng32 ((p0.toUInt32 >>> ((2 : Int32) &&& 31).toUInt32).toInt32)
  have : ((((p0.toUInt32 >>> ((2 : Int32) &&& 31).toUInt32).toInt32) &&& (255 : Int32))).toInt = (((p0.toUInt32 >>> ((2 : Int32) &&& 31).toUInt32).toInt32)).toInt % (2 ^ 8 : Nat) := c_mask ((p0.toUInt32 >>> ((2 : Int32) &&& 31).toUInt32).toInt32) (255 : Int32) 8 (by decide) (by decide)
  have := c_iadd (((p0.toUInt32 >>> ((2 : Int32) &&& 31).toUInt32).toInt32) &&& (255 : Int32)) (1 : Int32)
  have := rng32 ((((p0.toUInt32 >>> ((2 : Int32) &&& 31).toUInt32).toInt32) &&& (255 : Int32)) + (1 : Int32))
  try (simp only [Int32.lt_iff_toInt_lt, Int32.le_iff_toInt_le, Int64.lt_iff_toInt_lt, Int64.le_iff_toInt_le, ← Int32.toInt_inj, ← Int64.toInt_inj, ne_eq] at *)
  omega
theorem ld_0_191_377 (p0 : Int32) (n_ : Int32) (r375 : Int32) (hn_ : (p0 &&& (3 : Int32)) = n_) (hc92_33 : ¬ (n_ < (1 : Int32))) (hc107_80 : ¬ (n_ < (2 : Int32))) (hc122_198 : ¬ (n_ < (3 : Int32))) (hr375 : (r375 = (3 : Int32))) : r375 = n_ := by
  have := rng32 p0
  have := rng32 n_
  have := rng32 r375
  have : (1 : Int32).toInt = 1 := by decide
  have : (2 : Int32).toInt = 2 := by decide
  have : (3 : Int32).toInt = 3 := by decide
  have : ((p0 &&& (3 : Int32))).toInt = (p0).toInt % (2 ^ 2 : Nat) := c_mask p0 (3 : Int32) 2 (by decide) (by decide)
  try (simp only [Int32.lt_iff_toInt_lt, Int32.le_iff_toInt_le, Int64.lt_iff_toInt_lt, Int64.le_iff_toInt_le, ← Int32.toInt_inj, ← Int64.toInt_inj, ne_eq] at *)
  omega
theorem ld_0_202_380 (p4 : Int32) (p5 : Int32) (x5 : Int32) (x6 : Int32) (x7 : Int32) (x372 : Int64) (x373 : Int64) (x374 : Int64) (r379 : Int64) (hx5 : ((p4 &&& (1073741823 : Int32)) + (1 : Int32)) = x5) (hx6 : ((p5 &&& (1073741823 : Int32)) + (1 : Int32)) = x6) (hx7 : (((p4 ^^^ p5) &&& (1073741823 : Int32)) + (1 : Int32)) = x7) (hx372 : ((0 : Int64) + (x5.toInt64)) = x372) (hx373 : (x372 + (x6.toInt64)) = x373) (hx374 : (x373 + (x7.toInt64)) = x374) (hr379 : (r379 = ((((0 : Int64) + (x5.toInt64)) + (x6.toInt64)) + (x7.toInt64)))) : r379 = x374 := by
  subst hx5
  subst hx6
  subst hx7
  subst hx372
  subst hx373
  subst hx374
  exact hr379
theorem la_0_226_383   : 0 ≤ (0 : Int32).toInt := by
  have : (0 : Int32).toInt = 0 := by decide
  try (simp only [Int32.lt_iff_toInt_lt, Int32.le_iff_toInt_le, Int64.lt_iff_toInt_lt, Int64.le_iff_toInt_le, ← Int32.toInt_inj, ← Int64.toInt_inj, ne_eq] at *)
  omega
theorem la_0_226_384   : (0 : Int32).toInt < 3 := by
  have : (0 : Int32).toInt = 0 := by decide
  try (simp only [Int32.lt_iff_toInt_lt, Int32.le_iff_toInt_le, Int64.lt_iff_toInt_lt, Int64.le_iff_toInt_le, ← Int32.toInt_inj, ← Int64.toInt_inj, ne_eq] at *)
  omega
theorem ld_0_231_385 (p1 : Int32) (p2 : Int32) (p3 : Int32) (x1 : Int32) (x2 : Int32) (x3 : Int32) (r382 : Int32) (hx1 : (p1 &&& (1048575 : Int32)) = x1) (hx2 : ((x1 + (1 : Int32)) + (p2 &&& (1048575 : Int32))) = x2) (hx3 : ((x2 + (1 : Int32)) + (p3 &&& (1048575 : Int32))) = x3) (hr382 : ((0 : Int32).toInt = 0 ∧ r382 = x1) ∨ ((0 : Int32).toInt = 1 ∧ r382 = x2) ∨ ((0 : Int32).toInt = 2 ∧ r382 = x3)) : r382 = x1 := by
  have := rng32 p1
  have := rng32 p2
  have := rng32 p3
  have := rng32 x1
  have := rng32 x2
  have := rng32 x3
  have := rng32 r382
  have : (0 : Int32).toInt = 0 := by decide
  have : (1 : Int32).toInt = 1 := by decide
  have : (1048575 : Int32).toInt = 1048575 := by decide
  have : ((p1 &&& (1048575 : Int32))).toInt = (p1).toInt % (2 ^ 20 : Nat) := c_mask p1 (1048575 : Int32) 20 (by decide) (by decide)
  have := c_iadd x1 (1 : Int32)
  have := rng32 (x1 + (1 : Int32))
  have : ((p2 &&& (1048575 : Int32))).toInt = (p2).toInt % (2 ^ 20 : Nat) := c_mask p2 (1048575 : Int32) 20 (by decide) (by decide)
  have := c_iadd (x1 + (1 : Int32)) (p2 &&& (1048575 : Int32))
  have := rng32 ((x1 + (1 : Int32)) + (p2 &&& (1048575 : Int32)))
  have := c_iadd x2 (1 : Int32)
  have := rng32 (x2 + (1 : Int32))
  have : ((p3 &&& (1048575 : Int32))).toInt = (p3).toInt % (2 ^ 20 : Nat) := c_mask p3 (1048575 : Int32) 20 (by decide) (by decide)
  have := c_iadd (x2 + (1 : Int32)) (p3 &&& (1048575 : Int32))
  have := rng32 ((x2 + (1 : Int32)) + (p3 &&& (1048575 : Int32)))
  try (simp only [Int32.lt_iff_toInt_lt, Int32.le_iff_toInt_le, Int64.lt_iff_toInt_lt, Int64.le_iff_toInt_le, ← Int32.toInt_inj, ← Int64.toInt_inj, ne_eq] at *)
  omega
theorem la_0_237_388   : 0 ≤ (0 : Int32).toInt := by
  have : (0 : Int32).toInt = 0 := by decide
  try (simp only [Int32.lt_iff_toInt_lt, Int32.le_iff_toInt_le, Int64.lt_iff_toInt_lt, Int64.le_iff_toInt_le, ← Int32.toInt_inj, ← Int64.toInt_inj, ne_eq] at *)
  omega
theorem la_0_237_389   : (0 : Int32).toInt < 3 := by
  have : (0 : Int32).toInt = 0 := by decide
  try (simp only [Int32.lt_iff_toInt_lt, Int32.le_iff_toInt_le, Int64.lt_iff_toInt_lt, Int64.le_iff_toInt_le, ← Int32.toInt_inj, ← Int64.toInt_inj, ne_eq] at *)
  omega
theorem ld_0_242_390 (p4 : Int32) (p5 : Int32) (x5 : Int32) (x6 : Int32) (x7 : Int32) (r387 : Int32) (hx5 : ((p4 &&& (1073741823 : Int32)) + (1 : Int32)) = x5) (hx6 : ((p5 &&& (1073741823 : Int32)) + (1 : Int32)) = x6) (hx7 : (((p4 ^^^ p5) &&& (1073741823 : Int32)) + (1 : Int32)) = x7) (hr387 : ((0 : Int32).toInt = 0 ∧ r387 = x5) ∨ ((0 : Int32).toInt = 1 ∧ r387 = x6) ∨ ((0 : Int32).toInt = 2 ∧ r387 = x7)) : r387 = x5 := by
  have := rng32 p4
  have := rng32 p5
  have := rng32 x5
  have := rng32 x6
  have := rng32 x7
  have := rng32 r387
  have : (0 : Int32).toInt = 0 := by decide
  have : (1 : Int32).toInt = 1 := by decide
  have : (1073741823 : Int32).toInt = 1073741823 := by decide
  have : ((p4 &&& (1073741823 : Int32))).toInt = (p4).toInt % (2 ^ 30 : Nat) := c_mask p4 (1073741823 : Int32) 30 (by decide) (by decide)
  have := c_iadd (p4 &&& (1073741823 : Int32)) (1 : Int32)
  have := rng32 ((p4 &&& (1073741823 : Int32)) + (1 : Int32))
  have : ((p5 &&& (1073741823 : Int32))).toInt = (p5).toInt % (2 ^ 30 : Nat) := c_mask p5 (1073741823 : Int32) 30 (by decide) (by decide)
  have := c_iadd (p5 &&& (1073741823 : Int32)) (1 : Int32)
  have := rng32 ((p5 &&& (1073741823 : Int32)) + (1 : Int32))
  have := rng32 (p4 ^^^ p5)
  have : (((p4 ^^^ p5) &&& (1073741823 : Int32))).toInt = ((p4 ^^^ p5)).toInt % (2 ^ 30 : Nat) := c_mask (p4 ^^^ p5) (1073741823 : Int32) 30 (by decide) (by decide)
  have := c_iadd ((p4 ^^^ p5) &&& (1073741823 : Int32)) (1 : Int32)
  have := rng32 (((p4 ^^^ p5) &&& (1073741823 : Int32)) + (1 : Int32))
  try (simp only [Int32.lt_iff_toInt_lt, Int32.le_iff_toInt_le, Int64.lt_iff_toInt_lt, Int64.le_iff_toInt_le, ← Int32.toInt_inj, ← Int64.toInt_inj, ne_eq] at *)
  omega
theorem la_0_266_393   : 0 ≤ (1 : Int32).toInt := by
  have : (1 : Int32).toInt = 1 := by decide
  try (simp only [Int32.lt_iff_toInt_lt, Int32.le_iff_toInt_le, Int64.lt_iff_toInt_lt, Int64.le_iff_toInt_le, ← Int32.toInt_inj, ← Int64.toInt_inj, ne_eq] at *)
  omega
theorem la_0_266_394   : (1 : Int32).toInt < 3 := by
  have : (1 : Int32).toInt = 1 := by decide
  try (simp only [Int32.lt_iff_toInt_lt, Int32.le_iff_toInt_le, Int64.lt_iff_toInt_lt, Int64.le_iff_toInt_le, ← Int32.toInt_inj, ← Int64.toInt_inj, ne_eq] at *)
  omega
theorem ld_0_271_395 (p1 : Int32) (p2 : Int32) (p3 : Int32) (x1 : Int32) (x2 : Int32) (x3 : Int32) (r392 : Int32) (hx1 : (p1 &&& (1048575 : Int32)) = x1) (hx2 : ((x1 + (1 : Int32)) + (p2 &&& (1048575 : Int32))) = x2) (hx3 : ((x2 + (1 : Int32)) + (p3 &&& (1048575 : Int32))) = x3) (hr392 : ((1 : Int32).toInt = 0 ∧ r392 = x1) ∨ ((1 : Int32).toInt = 1 ∧ r392 = x2) ∨ ((1 : Int32).toInt = 2 ∧ r392 = x3)) : r392 = x2 := by
  have := rng32 p1
  have := rng32 p2
  have := rng32 p3
  have := rng32 x1
  have := rng32 x2
  have := rng32 x3
  have := rng32 r392
  have : (1 : Int32).toInt = 1 := by decide
  have : (1048575 : Int32).toInt = 1048575 := by decide
  have : ((p1 &&& (1048575 : Int32))).toInt = (p1).toInt % (2 ^ 20 : Nat) := c_mask p1 (1048575 : Int32) 20 (by decide) (by decide)
  have := c_iadd x1 (1 : Int32)
  have := rng32 (x1 + (1 : Int32))
  have : ((p2 &&& (1048575 : Int32))).toInt = (p2).toInt % (2 ^ 20 : Nat) := c_mask p2 (1048575 : Int32) 20 (by decide) (by decide)
  have := c_iadd (x1 + (1 : Int32)) (p2 &&& (1048575 : Int32))
  have := rng32 ((x1 + (1 : Int32)) + (p2 &&& (1048575 : Int32)))
  have := c_iadd x2 (1 : Int32)
  have := rng32 (x2 + (1 : Int32))
  have : ((p3 &&& (1048575 : Int32))).toInt = (p3).toInt % (2 ^ 20 : Nat) := c_mask p3 (1048575 : Int32) 20 (by decide) (by decide)
  have := c_iadd (x2 + (1 : Int32)) (p3 &&& (1048575 : Int32))
  have := rng32 ((x2 + (1 : Int32)) + (p3 &&& (1048575 : Int32)))
  try (simp only [Int32.lt_iff_toInt_lt, Int32.le_iff_toInt_le, Int64.lt_iff_toInt_lt, Int64.le_iff_toInt_le, ← Int32.toInt_inj, ← Int64.toInt_inj, ne_eq] at *)
  omega
theorem la_0_277_398   : 0 ≤ (1 : Int32).toInt := by
  have : (1 : Int32).toInt = 1 := by decide
  try (simp only [Int32.lt_iff_toInt_lt, Int32.le_iff_toInt_le, Int64.lt_iff_toInt_lt, Int64.le_iff_toInt_le, ← Int32.toInt_inj, ← Int64.toInt_inj, ne_eq] at *)
  omega
theorem la_0_277_399   : (1 : Int32).toInt < 3 := by
  have : (1 : Int32).toInt = 1 := by decide
  try (simp only [Int32.lt_iff_toInt_lt, Int32.le_iff_toInt_le, Int64.lt_iff_toInt_lt, Int64.le_iff_toInt_le, ← Int32.toInt_inj, ← Int64.toInt_inj, ne_eq] at *)
  omega
theorem ld_0_282_400 (p4 : Int32) (p5 : Int32) (x5 : Int32) (x6 : Int32) (x7 : Int32) (r397 : Int32) (hx5 : ((p4 &&& (1073741823 : Int32)) + (1 : Int32)) = x5) (hx6 : ((p5 &&& (1073741823 : Int32)) + (1 : Int32)) = x6) (hx7 : (((p4 ^^^ p5) &&& (1073741823 : Int32)) + (1 : Int32)) = x7) (hr397 : ((1 : Int32).toInt = 0 ∧ r397 = x5) ∨ ((1 : Int32).toInt = 1 ∧ r397 = x6) ∨ ((1 : Int32).toInt = 2 ∧ r397 = x7)) : r397 = x6 := by
  have := rng32 p4
  have := rng32 p5
  have := rng32 x5
  have := rng32 x6
  have := rng32 x7
  have := rng32 r397
  have : (1 : Int32).toInt = 1 := by decide
  have : (1073741823 : Int32).toInt = 1073741823 := by decide
  have : ((p4 &&& (1073741823 : Int32))).toInt = (p4).toInt % (2 ^ 30 : Nat) := c_mask p4 (1073741823 : Int32) 30 (by decide) (by decide)
  have := c_iadd (p4 &&& (1073741823 : Int32)) (1 : Int32)
  have := rng32 ((p4 &&& (1073741823 : Int32)) + (1 : Int32))
  have : ((p5 &&& (1073741823 : Int32))).toInt = (p5).toInt % (2 ^ 30 : Nat) := c_mask p5 (1073741823 : Int32) 30 (by decide) (by decide)
  have := c_iadd (p5 &&& (1073741823 : Int32)) (1 : Int32)
  have := rng32 ((p5 &&& (1073741823 : Int32)) + (1 : Int32))
  have := rng32 (p4 ^^^ p5)
  have : (((p4 ^^^ p5) &&& (1073741823 : Int32))).toInt = ((p4 ^^^ p5)).toInt % (2 ^ 30 : Nat) := c_mask (p4 ^^^ p5) (1073741823 : Int32) 30 (by decide) (by decide)
  have := c_iadd ((p4 ^^^ p5) &&& (1073741823 : Int32)) (1 : Int32)
  have := rng32 (((p4 ^^^ p5) &&& (1073741823 : Int32)) + (1 : Int32))
  try (simp only [Int32.lt_iff_toInt_lt, Int32.le_iff_toInt_le, Int64.lt_iff_toInt_lt, Int64.le_iff_toInt_le, ← Int32.toInt_inj, ← Int64.toInt_inj, ne_eq] at *)
  omega
theorem la_0_306_403   : 0 ≤ (2 : Int32).toInt := by
  have : (2 : Int32).toInt = 2 := by decide
  try (simp only [Int32.lt_iff_toInt_lt, Int32.le_iff_toInt_le, Int64.lt_iff_toInt_lt, Int64.le_iff_toInt_le, ← Int32.toInt_inj, ← Int64.toInt_inj, ne_eq] at *)
  omega
theorem la_0_306_404   : (2 : Int32).toInt < 3 := by
  have : (2 : Int32).toInt = 2 := by decide
  try (simp only [Int32.lt_iff_toInt_lt, Int32.le_iff_toInt_le, Int64.lt_iff_toInt_lt, Int64.le_iff_toInt_le, ← Int32.toInt_inj, ← Int64.toInt_inj, ne_eq] at *)
  omega
theorem ld_0_311_405 (p1 : Int32) (p2 : Int32) (p3 : Int32) (x1 : Int32) (x2 : Int32) (x3 : Int32) (r402 : Int32) (hx1 : (p1 &&& (1048575 : Int32)) = x1) (hx2 : ((x1 + (1 : Int32)) + (p2 &&& (1048575 : Int32))) = x2) (hx3 : ((x2 + (1 : Int32)) + (p3 &&& (1048575 : Int32))) = x3) (hr402 : ((2 : Int32).toInt = 0 ∧ r402 = x1) ∨ ((2 : Int32).toInt = 1 ∧ r402 = x2) ∨ ((2 : Int32).toInt = 2 ∧ r402 = x3)) : r402 = x3 := by
  have := rng32 p1
  have := rng32 p2
  have := rng32 p3
  have := rng32 x1
  have := rng32 x2
  have := rng32 x3
  have := rng32 r402
  have : (1 : Int32).toInt = 1 := by decide
  have : (1048575 : Int32).toInt = 1048575 := by decide
  have : (2 : Int32).toInt = 2 := by decide
  have : ((p1 &&& (1048575 : Int32))).toInt = (p1).toInt % (2 ^ 20 : Nat) := c_mask p1 (1048575 : Int32) 20 (by decide) (by decide)
  have := c_iadd x1 (1 : Int32)
  have := rng32 (x1 + (1 : Int32))
  have : ((p2 &&& (1048575 : Int32))).toInt = (p2).toInt % (2 ^ 20 : Nat) := c_mask p2 (1048575 : Int32) 20 (by decide) (by decide)
  have := c_iadd (x1 + (1 : Int32)) (p2 &&& (1048575 : Int32))
  have := rng32 ((x1 + (1 : Int32)) + (p2 &&& (1048575 : Int32)))
  have := c_iadd x2 (1 : Int32)
  have := rng32 (x2 + (1 : Int32))
  have : ((p3 &&& (1048575 : Int32))).toInt = (p3).toInt % (2 ^ 20 : Nat) := c_mask p3 (1048575 : Int32) 20 (by decide) (by decide)
  have := c_iadd (x2 + (1 : Int32)) (p3 &&& (1048575 : Int32))
  have := rng32 ((x2 + (1 : Int32)) + (p3 &&& (1048575 : Int32)))
  try (simp only [Int32.lt_iff_toInt_lt, Int32.le_iff_toInt_le, Int64.lt_iff_toInt_lt, Int64.le_iff_toInt_le, ← Int32.toInt_inj, ← Int64.toInt_inj, ne_eq] at *)
  omega
theorem la_0_317_408   : 0 ≤ (2 : Int32).toInt := by
  have : (2 : Int32).toInt = 2 := by decide
  try (simp only [Int32.lt_iff_toInt_lt, Int32.le_iff_toInt_le, Int64.lt_iff_toInt_lt, Int64.le_iff_toInt_le, ← Int32.toInt_inj, ← Int64.toInt_inj, ne_eq] at *)
  omega
theorem la_0_317_409   : (2 : Int32).toInt < 3 := by
  have : (2 : Int32).toInt = 2 := by decide
  try (simp only [Int32.lt_iff_toInt_lt, Int32.le_iff_toInt_le, Int64.lt_iff_toInt_lt, Int64.le_iff_toInt_le, ← Int32.toInt_inj, ← Int64.toInt_inj, ne_eq] at *)
  omega
theorem ld_0_322_410 (p4 : Int32) (p5 : Int32) (x5 : Int32) (x6 : Int32) (x7 : Int32) (r407 : Int32) (hx5 : ((p4 &&& (1073741823 : Int32)) + (1 : Int32)) = x5) (hx6 : ((p5 &&& (1073741823 : Int32)) + (1 : Int32)) = x6) (hx7 : (((p4 ^^^ p5) &&& (1073741823 : Int32)) + (1 : Int32)) = x7) (hr407 : ((2 : Int32).toInt = 0 ∧ r407 = x5) ∨ ((2 : Int32).toInt = 1 ∧ r407 = x6) ∨ ((2 : Int32).toInt = 2 ∧ r407 = x7)) : r407 = x7 := by
  have := rng32 p4
  have := rng32 p5
  have := rng32 x5
  have := rng32 x6
  have := rng32 x7
  have := rng32 r407
  have : (1 : Int32).toInt = 1 := by decide
  have : (1073741823 : Int32).toInt = 1073741823 := by decide
  have : (2 : Int32).toInt = 2 := by decide
  have : ((p4 &&& (1073741823 : Int32))).toInt = (p4).toInt % (2 ^ 30 : Nat) := c_mask p4 (1073741823 : Int32) 30 (by decide) (by decide)
  have := c_iadd (p4 &&& (1073741823 : Int32)) (1 : Int32)
  have := rng32 ((p4 &&& (1073741823 : Int32)) + (1 : Int32))
  have : ((p5 &&& (1073741823 : Int32))).toInt = (p5).toInt % (2 ^ 30 : Nat) := c_mask p5 (1073741823 : Int32) 30 (by decide) (by decide)
  have := c_iadd (p5 &&& (1073741823 : Int32)) (1 : Int32)
  have := rng32 ((p5 &&& (1073741823 : Int32)) + (1 : Int32))
  have := rng32 (p4 ^^^ p5)
  have : (((p4 ^^^ p5) &&& (1073741823 : Int32))).toInt = ((p4 ^^^ p5)).toInt % (2 ^ 30 : Nat) := c_mask (p4 ^^^ p5) (1073741823 : Int32) 30 (by decide) (by decide)
  have := c_iadd ((p4 ^^^ p5) &&& (1073741823 : Int32)) (1 : Int32)
  have := rng32 (((p4 ^^^ p5) &&& (1073741823 : Int32)) + (1 : Int32))
  try (simp only [Int32.lt_iff_toInt_lt, Int32.le_iff_toInt_le, Int64.lt_iff_toInt_lt, Int64.le_iff_toInt_le, ← Int32.toInt_inj, ← Int64.toInt_inj, ne_eq] at *)
  omega
theorem ld_0_361_451 (p0 : Int32) (n_ : Int32) (r449 : Int32) (hn_ : (p0 &&& (3 : Int32)) = n_) (hc92_33 : ¬ (n_ < (1 : Int32))) (hc107_80 : ¬ (n_ < (2 : Int32))) (hc122_198 : ¬ (n_ < (3 : Int32))) (hr449 : (r449 = (4 : Int32))) : r449 = (n_ + (1 : Int32)) := by
  have := rng32 p0
  have := rng32 n_
  have := rng32 r449
  have : (1 : Int32).toInt = 1 := by decide
  have : (2 : Int32).toInt = 2 := by decide
  have : (3 : Int32).toInt = 3 := by decide
  have : (4 : Int32).toInt = 4 := by decide
  have : ((p0 &&& (3 : Int32))).toInt = (p0).toInt % (2 ^ 2 : Nat) := c_mask p0 (3 : Int32) 2 (by decide) (by decide)
  have := c_iadd n_ (1 : Int32)
  have := rng32 (n_ + (1 : Int32))
  try (simp only [Int32.lt_iff_toInt_lt, Int32.le_iff_toInt_le, Int64.lt_iff_toInt_lt, Int64.le_iff_toInt_le, ← Int32.toInt_inj, ← Int64.toInt_inj, ne_eq] at *)
  omega
theorem la_0_368_454 (p0 : Int32) (n_ : Int32) (hn_ : (p0 &&& (3 : Int32)) = n_) (hc92_33 : ¬ (n_ < (1 : Int32))) (hc107_80 : ¬ (n_ < (2 : Int32))) (hc122_198 : ¬ (n_ < (3 : Int32))) : 0 ≤ n_.toInt := by
  have := rng32 p0
  have := rng32 n_
  have : (1 : Int32).toInt = 1 := by decide
  have : (2 : Int32).toInt = 2 := by decide
  have : (3 : Int32).toInt = 3 := by decide
  have : ((p0 &&& (3 : Int32))).toInt = (p0).toInt % (2 ^ 2 : Nat) := c_mask p0 (3 : Int32) 2 (by decide) (by decide)
  try (simp only [Int32.lt_iff_toInt_lt, Int32.le_iff_toInt_le, Int64.lt_iff_toInt_lt, Int64.le_iff_toInt_le, ← Int32.toInt_inj, ← Int64.toInt_inj, ne_eq] at *)
  omega
theorem la_0_368_455 (p0 : Int32) (n_ : Int32) (hn_ : (p0 &&& (3 : Int32)) = n_) (hc92_33 : ¬ (n_ < (1 : Int32))) (hc107_80 : ¬ (n_ < (2 : Int32))) (hc122_198 : ¬ (n_ < (3 : Int32))) : n_.toInt < 4 := by
  have := rng32 p0
  have := rng32 n_
  have : (1 : Int32).toInt = 1 := by decide
  have : (2 : Int32).toInt = 2 := by decide
  have : (3 : Int32).toInt = 3 := by decide
  have : ((p0 &&& (3 : Int32))).toInt = (p0).toInt % (2 ^ 2 : Nat) := c_mask p0 (3 : Int32) 2 (by decide) (by decide)
  try (simp only [Int32.lt_iff_toInt_lt, Int32.le_iff_toInt_le, Int64.lt_iff_toInt_lt, Int64.le_iff_toInt_le, ← Int32.toInt_inj, ← Int64.toInt_inj, ne_eq] at *)
  omega
theorem ld_0_373_456 (p0 : Int32) (p1 : Int32) (p2 : Int32) (p3 : Int32) (n_ : Int32) (x1 : Int32) (x2 : Int32) (x3 : Int32) (x4 : Int32) (r453 : Int32) (hn_ : (p0 &&& (3 : Int32)) = n_) (hx1 : (p1 &&& (1048575 : Int32)) = x1) (hx2 : ((x1 + (1 : Int32)) + (p2 &&& (1048575 : Int32))) = x2) (hx3 : ((x2 + (1 : Int32)) + (p3 &&& (1048575 : Int32))) = x3) (hx4 : (x3 + (1 : Int32)) = x4) (hc92_33 : ¬ (n_ < (1 : Int32))) (hc107_80 : ¬ (n_ < (2 : Int32))) (hc122_198 : ¬ (n_ < (3 : Int32))) (hr453 : (n_.toInt = 0 ∧ r453 = x1) ∨ (n_.toInt = 1 ∧ r453 = x2) ∨ (n_.toInt = 2 ∧ r453 = x3) ∨ (n_.toInt = 3 ∧ r453 = x4)) : r453 = x4 := by
  have := rng32 p0
  have := rng32 p1
  have := rng32 p2
  have := rng32 p3
  have := rng32 n_
  have := rng32 x1
  have := rng32 x2
  have := rng32 x3
  have := rng32 x4
  have := rng32 r453
  have : (1 : Int32).toInt = 1 := by decide
  have : (1048575 : Int32).toInt = 1048575 := by decide
  have : (2 : Int32).toInt = 2 := by decide
  have : (3 : Int32).toInt = 3 := by decide
  have : ((p0 &&& (3 : Int32))).toInt = (p0).toInt % (2 ^ 2 : Nat) := c_mask p0 (3 : Int32) 2 (by decide) (by decide)
  have : ((p1 &&& (1048575 : Int32))).toInt = (p1).toInt % (2 ^ 20 : Nat) := c_mask p1 (1048575 : Int32) 20 (by decide) (by decide)
  have := c_iadd x1 (1 : Int32)
  have := rng32 (x1 + (1 : Int32))
  have : ((p2 &&& (1048575 : Int32))).toInt = (p2).toInt % (2 ^ 20 : Nat) := c_mask p2 (1048575 : Int32) 20 (by decide) (by decide)
  have := c_iadd (x1 + (1 : Int32)) (p2 &&& (1048575 : Int32))
  have := rng32 ((x1 + (1 : Int32)) + (p2 &&& (1048575 : Int32)))
  have := c_iadd x2 (1 : Int32)
  have := rng32 (x2 + (1 : Int32))
  have : ((p3 &&& (1048575 : Int32))).toInt = (p3).toInt % (2 ^ 20 : Nat) := c_mask p3 (1048575 : Int32) 20 (by decide) (by decide)
  have := c_iadd (x2 + (1 : Int32)) (p3 &&& (1048575 : Int32))
  have := rng32 ((x2 + (1 : Int32)) + (p3 &&& (1048575 : Int32)))
  have := c_iadd x3 (1 : Int32)
  have := rng32 (x3 + (1 : Int32))
  try (simp only [Int32.lt_iff_toInt_lt, Int32.le_iff_toInt_le, Int64.lt_iff_toInt_lt, Int64.le_iff_toInt_le, ← Int32.toInt_inj, ← Int64.toInt_inj, ne_eq] at *)
  omega
theorem la_0_380_459 (p0 : Int32) (n_ : Int32) (hn_ : (p0 &&& (3 : Int32)) = n_) (hc92_33 : ¬ (n_ < (1 : Int32))) (hc107_80 : ¬ (n_ < (2 : Int32))) (hc122_198 : ¬ (n_ < (3 : Int32))) : 0 ≤ n_.toInt := by
  have := rng32 p0
  have := rng32 n_
  have : (1 : Int32).toInt = 1 := by decide
  have : (2 : Int32).toInt = 2 := by decide
  have : (3 : Int32).toInt = 3 := by decide
  have : ((p0 &&& (3 : Int32))).toInt = (p0).toInt % (2 ^ 2 : Nat) := c_mask p0 (3 : Int32) 2 (by decide) (by decide)
  try (simp only [Int32.lt_iff_toInt_lt, Int32.le_iff_toInt_le, Int64.lt_iff_toInt_lt, Int64.le_iff_toInt_le, ← Int32.toInt_inj, ← Int64.toInt_inj, ne_eq] at *)
  omega
theorem la_0_380_460 (p0 : Int32) (n_ : Int32) (hn_ : (p0 &&& (3 : Int32)) = n_) (hc92_33 : ¬ (n_ < (1 : Int32))) (hc107_80 : ¬ (n_ < (2 : Int32))) (hc122_198 : ¬ (n_ < (3 : Int32))) : n_.toInt < 4 := by
  have := rng32 p0
  have := rng32 n_
  have : (1 : Int32).toInt = 1 := by decide
  have : (2 : Int32).toInt = 2 := by decide
  have : (3 : Int32).toInt = 3 := by decide
  have : ((p0 &&& (3 : Int32))).toInt = (p0).toInt % (2 ^ 2 : Nat) := c_mask p0 (3 : Int32) 2 (by decide) (by decide)
  try (simp only [Int32.lt_iff_toInt_lt, Int32.le_iff_toInt_le, Int64.lt_iff_toInt_lt, Int64.le_iff_toInt_le, ← Int32.toInt_inj, ← Int64.toInt_inj, ne_eq] at *)
  omega
theorem ld_0_385_461 (p0 : Int32) (p4 : Int32) (p5 : Int32) (n_ : Int32) (x5 : Int32) (x6 : Int32) (x7 : Int32) (x8 : Int32) (r458 : Int32) (hn_ : (p0 &&& (3 : Int32)) = n_) (hx5 : ((p4 &&& (1073741823 : Int32)) + (1 : Int32)) = x5) (hx6 : ((p5 &&& (1073741823 : Int32)) + (1 : Int32)) = x6) (hx7 : (((p4 ^^^ p5) &&& (1073741823 : Int32)) + (1 : Int32)) = x7) (hx8 : ((((p0.toUInt32 >>> ((2 : Int32) &&& 31).toUInt32).toInt32) &&& (255 : Int32)) + (1 : Int32)) = x8) (hc92_33 : ¬ (n_ < (1 : Int32))) (hc107_80 : ¬ (n_ < (2 : Int32))) (hc122_198 : ¬ (n_ < (3 : Int32))) (hr458 : (n_.toInt = 0 ∧ r458 = x5) ∨ (n_.toInt = 1 ∧ r458 = x6) ∨ (n_.toInt = 2 ∧ r458 = x7) ∨ (n_.toInt = 3 ∧ r458 = x8)) : r458 = x8 := by
  have := rng32 p0
  have := rng32 p4
  have := rng32 p5
  have := rng32 n_
  have := rng32 x5
  have := rng32 x6
  have := rng32 x7
  have := rng32 x8
  have := rng32 r458
  have : (1 : Int32).toInt = 1 := by decide
  have : (1073741823 : Int32).toInt = 1073741823 := by decide
  have : (2 : Int32).toInt = 2 := by decide
  have : (255 : Int32).toInt = 255 := by decide
  have : (3 : Int32).toInt = 3 := by decide
  have : ((p0 &&& (3 : Int32))).toInt = (p0).toInt % (2 ^ 2 : Nat) := c_mask p0 (3 : Int32) 2 (by decide) (by decide)
  have : ((p4 &&& (1073741823 : Int32))).toInt = (p4).toInt % (2 ^ 30 : Nat) := c_mask p4 (1073741823 : Int32) 30 (by decide) (by decide)
  have := c_iadd (p4 &&& (1073741823 : Int32)) (1 : Int32)
  have := rng32 ((p4 &&& (1073741823 : Int32)) + (1 : Int32))
  have : ((p5 &&& (1073741823 : Int32))).toInt = (p5).toInt % (2 ^ 30 : Nat) := c_mask p5 (1073741823 : Int32) 30 (by decide) (by decide)
  have := c_iadd (p5 &&& (1073741823 : Int32)) (1 : Int32)
  have := rng32 ((p5 &&& (1073741823 : Int32)) + (1 : Int32))
  have := rng32 (p4 ^^^ p5)
  have : (((p4 ^^^ p5) &&& (1073741823 : Int32))).toInt = ((p4 ^^^ p5)).toInt % (2 ^ 30 : Nat) := c_mask (p4 ^^^ p5) (1073741823 : Int32) 30 (by decide) (by decide)
  have := c_iadd ((p4 ^^^ p5) &&& (1073741823 : Int32)) (1 : Int32)
  have := rng32 (((p4 ^^^ p5) &&& (1073741823 : Int32)) + (1 : Int32))
  have := c_iushr p0 (2 : Int32) 2 (by decide) (by decide)
  have := rng32 ((p0.toUInt32 >>> ((2 : Int32) &&& 31).toUInt32).toInt32)
  have : ((((p0.toUInt32 >>> ((2 : Int32) &&& 31).toUInt32).toInt32) &&& (255 : Int32))).toInt = (((p0.toUInt32 >>> ((2 : Int32) &&& 31).toUInt32).toInt32)).toInt % (2 ^ 8 : Nat) := c_mask ((p0.toUInt32 >>> ((2 : Int32) &&& 31).toUInt32).toInt32) (255 : Int32) 8 (by decide) (by decide)
  have := c_iadd (((p0.toUInt32 >>> ((2 : Int32) &&& 31).toUInt32).toInt32) &&& (255 : Int32)) (1 : Int32)
  have := rng32 ((((p0.toUInt32 >>> ((2 : Int32) &&& 31).toUInt32).toInt32) &&& (255 : Int32)) + (1 : Int32))
  try (simp only [Int32.lt_iff_toInt_lt, Int32.le_iff_toInt_le, Int64.lt_iff_toInt_lt, Int64.le_iff_toInt_le, ← Int32.toInt_inj, ← Int64.toInt_inj, ne_eq] at *)
  omega
theorem ld_0_400_464 (p0 : Int32) (p4 : Int32) (p5 : Int32) (x5 : Int32) (x6 : Int32) (x7 : Int32) (x8 : Int32) (x372 : Int64) (x373 : Int64) (x374 : Int64) (r463 : Int64) (hx5 : ((p4 &&& (1073741823 : Int32)) + (1 : Int32)) = x5) (hx6 : ((p5 &&& (1073741823 : Int32)) + (1 : Int32)) = x6) (hx7 : (((p4 ^^^ p5) &&& (1073741823 : Int32)) + (1 : Int32)) = x7) (hx8 : ((((p0.toUInt32 >>> ((2 : Int32) &&& 31).toUInt32).toInt32) &&& (255 : Int32)) + (1 : Int32)) = x8) (hx372 : ((0 : Int64) + (x5.toInt64)) = x372) (hx373 : (x372 + (x6.toInt64)) = x373) (hx374 : (x373 + (x7.toInt64)) = x374) (hr463 : (r463 = (((((0 : Int64) + (x5.toInt64)) + (x6.toInt64)) + (x7.toInt64)) + (x8.toInt64)))) : r463 = (x374 + (x8.toInt64)) := by
  subst hx5
  subst hx6
  subst hx7
  subst hx8
  subst hx372
  subst hx373
  subst hx374
  exact hr463
theorem la_0_406_467   : 0 ≤ (0 : Int32).toInt := by
  have : (0 : Int32).toInt = 0 := by decide
  try (simp only [Int32.lt_iff_toInt_lt, Int32.le_iff_toInt_le, Int64.lt_iff_toInt_lt, Int64.le_iff_toInt_le, ← Int32.toInt_inj, ← Int64.toInt_inj, ne_eq] at *)
  omega
theorem la_0_406_468   : (0 : Int32).toInt < 4 := by
  have : (0 : Int32).toInt = 0 := by decide
  try (simp only [Int32.lt_iff_toInt_lt, Int32.le_iff_toInt_le, Int64.lt_iff_toInt_lt, Int64.le_iff_toInt_le, ← Int32.toInt_inj, ← Int64.toInt_inj, ne_eq] at *)
  omega
theorem ld_0_411_469 (p1 : Int32) (p2 : Int32) (p3 : Int32) (x1 : Int32) (x2 : Int32) (x3 : Int32) (x4 : Int32) (r466 : Int32) (hx1 : (p1 &&& (1048575 : Int32)) = x1) (hx2 : ((x1 + (1 : Int32)) + (p2 &&& (1048575 : Int32))) = x2) (hx3 : ((x2 + (1 : Int32)) + (p3 &&& (1048575 : Int32))) = x3) (hx4 : (x3 + (1 : Int32)) = x4) (hr466 : ((0 : Int32).toInt = 0 ∧ r466 = x1) ∨ ((0 : Int32).toInt = 1 ∧ r466 = x2) ∨ ((0 : Int32).toInt = 2 ∧ r466 = x3) ∨ ((0 : Int32).toInt = 3 ∧ r466 = x4)) : r466 = x1 := by
  have := rng32 p1
  have := rng32 p2
  have := rng32 p3
  have := rng32 x1
  have := rng32 x2
  have := rng32 x3
  have := rng32 x4
  have := rng32 r466
  have : (0 : Int32).toInt = 0 := by decide
  have : (1 : Int32).toInt = 1 := by decide
  have : (1048575 : Int32).toInt = 1048575 := by decide
  have : ((p1 &&& (1048575 : Int32))).toInt = (p1).toInt % (2 ^ 20 : Nat) := c_mask p1 (1048575 : Int32) 20 (by decide) (by decide)
  have := c_iadd x1 (1 : Int32)
  have := rng32 (x1 + (1 : Int32))
  have : ((p2 &&& (1048575 : Int32))).toInt = (p2).toInt % (2 ^ 20 : Nat) := c_mask p2 (1048575 : Int32) 20 (by decide) (by decide)
  have := c_iadd (x1 + (1 : Int32)) (p2 &&& (1048575 : Int32))
  have := rng32 ((x1 + (1 : Int32)) + (p2 &&& (1048575 : Int32)))
  have := c_iadd x2 (1 : Int32)
  have := rng32 (x2 + (1 : Int32))
  have : ((p3 &&& (1048575 : Int32))).toInt = (p3).toInt % (2 ^ 20 : Nat) := c_mask p3 (1048575 : Int32) 20 (by decide) (by decide)
  have := c_iadd (x2 + (1 : Int32)) (p3 &&& (1048575 : Int32))
  have := rng32 ((x2 + (1 : Int32)) + (p3 &&& (1048575 : Int32)))
  have := c_iadd x3 (1 : Int32)
  have := rng32 (x3 + (1 : Int32))
  try (simp only [Int32.lt_iff_toInt_lt, Int32.le_iff_toInt_le, Int64.lt_iff_toInt_lt, Int64.le_iff_toInt_le, ← Int32.toInt_inj, ← Int64.toInt_inj, ne_eq] at *)
  omega
theorem la_0_417_472   : 0 ≤ (0 : Int32).toInt := by
  have : (0 : Int32).toInt = 0 := by decide
  try (simp only [Int32.lt_iff_toInt_lt, Int32.le_iff_toInt_le, Int64.lt_iff_toInt_lt, Int64.le_iff_toInt_le, ← Int32.toInt_inj, ← Int64.toInt_inj, ne_eq] at *)
  omega
theorem la_0_417_473   : (0 : Int32).toInt < 4 := by
  have : (0 : Int32).toInt = 0 := by decide
  try (simp only [Int32.lt_iff_toInt_lt, Int32.le_iff_toInt_le, Int64.lt_iff_toInt_lt, Int64.le_iff_toInt_le, ← Int32.toInt_inj, ← Int64.toInt_inj, ne_eq] at *)
  omega
theorem ld_0_422_474 (p0 : Int32) (p4 : Int32) (p5 : Int32) (x5 : Int32) (x6 : Int32) (x7 : Int32) (x8 : Int32) (r471 : Int32) (hx5 : ((p4 &&& (1073741823 : Int32)) + (1 : Int32)) = x5) (hx6 : ((p5 &&& (1073741823 : Int32)) + (1 : Int32)) = x6) (hx7 : (((p4 ^^^ p5) &&& (1073741823 : Int32)) + (1 : Int32)) = x7) (hx8 : ((((p0.toUInt32 >>> ((2 : Int32) &&& 31).toUInt32).toInt32) &&& (255 : Int32)) + (1 : Int32)) = x8) (hr471 : ((0 : Int32).toInt = 0 ∧ r471 = x5) ∨ ((0 : Int32).toInt = 1 ∧ r471 = x6) ∨ ((0 : Int32).toInt = 2 ∧ r471 = x7) ∨ ((0 : Int32).toInt = 3 ∧ r471 = x8)) : r471 = x5 := by
  have := rng32 p0
  have := rng32 p4
  have := rng32 p5
  have := rng32 x5
  have := rng32 x6
  have := rng32 x7
  have := rng32 x8
  have := rng32 r471
  have : (0 : Int32).toInt = 0 := by decide
  have : (1 : Int32).toInt = 1 := by decide
  have : (1073741823 : Int32).toInt = 1073741823 := by decide
  have : (2 : Int32).toInt = 2 := by decide
  have : (255 : Int32).toInt = 255 := by decide
  have : ((p4 &&& (1073741823 : Int32))).toInt = (p4).toInt % (2 ^ 30 : Nat) := c_mask p4 (1073741823 : Int32) 30 (by decide) (by decide)
  have := c_iadd (p4 &&& (1073741823 : Int32)) (1 : Int32)
  have := rng32 ((p4 &&& (1073741823 : Int32)) + (1 : Int32))
  have : ((p5 &&& (1073741823 : Int32))).toInt = (p5).toInt % (2 ^ 30 : Nat) := c_mask p5 (1073741823 : Int32) 30 (by decide) (by decide)
  have := c_iadd (p5 &&& (1073741823 : Int32)) (1 : Int32)
  have := rng32 ((p5 &&& (1073741823 : Int32)) + (1 : Int32))
  have := rng32 (p4 ^^^ p5)
  have : (((p4 ^^^ p5) &&& (1073741823 : Int32))).toInt = ((p4 ^^^ p5)).toInt % (2 ^ 30 : Nat) := c_mask (p4 ^^^ p5) (1073741823 : Int32) 30 (by decide) (by decide)
  have := c_iadd ((p4 ^^^ p5) &&& (1073741823 : Int32)) (1 : Int32)
  have := rng32 (((p4 ^^^ p5) &&& (1073741823 : Int32)) + (1 : Int32))
  have := c_iushr p0 (2 : Int32) 2 (by decide) (by decide)
  have := rng32 ((p0.toUInt32 >>> ((2 : Int32) &&& 31).toUInt32).toInt32)
  have : ((((p0.toUInt32 >>> ((2 : Int32) &&& 31).toUInt32).toInt32) &&& (255 : Int32))).toInt = (((p0.toUInt32 >>> ((2 : Int32) &&& 31).toUInt32).toInt32)).toInt % (2 ^ 8 : Nat) := c_mask ((p0.toUInt32 >>> ((2 : Int32) &&& 31).toUInt32).toInt32) (255 : Int32) 8 (by decide) (by decide)
  have := c_iadd (((p0.toUInt32 >>> ((2 : Int32) &&& 31).toUInt32).toInt32) &&& (255 : Int32)) (1 : Int32)
  have := rng32 ((((p0.toUInt32 >>> ((2 : Int32) &&& 31).toUInt32).toInt32) &&& (255 : Int32)) + (1 : Int32))
  try (simp only [Int32.lt_iff_toInt_lt, Int32.le_iff_toInt_le, Int64.lt_iff_toInt_lt, Int64.le_iff_toInt_le, ← Int32.toInt_inj, ← Int64.toInt_inj, ne_eq] at *)
  omega
set_option maxRecDepth 65536 in
set_option maxHeartbeats 40000000 in
theorem rm0 (l : Launch) (Z : State) (a0 : Array Value) (hw : ∀ d ∈ tables_1, d.before a0 Z = true) (ws : List Jvm.Cond) (p0 : Int32) (p1 : Int32) (p2 : Int32) (p3 : Int32) (p4 : Int32) (p5 : Int32) (h0 : Heap) (n0 : Nat) (Z0 : n0 ≤ h0.size) :
    MetFree l x (head1 (Jvm.Cond.code x code maxLocals ret :: ws) room_1) (fun a U => a = #[(.int p0), (.int p1), (.int p2), (.int p3), (.int p4), (.int p5)] ∧ Z.Warmed39 U.vm ∧ U.heap = h0) (fun _ _ _ _ _ => True) (fun _ U o U' => ∃ v L, o = .returned v ∧ Q0 Z p0 p1 p2 p3 p4 p5 h0 n0 v U'.heap L ∧ FrameEnd U o U' L 32 192) := by
  refine MetFree.of_bodySF (plainFor_of_name (by first | (simp [plainName, overriddenIn]; done) | decide +kernel)) hisR ?_
  intro p e s m args below meth c s₁ Bd hml0 hP hK
  obtain ⟨rfl, hZ, hh⟩ := hP
  have hx := Bd.exec
  have hby := Bd.bytes
  have hml : c.maxLocals = 19 := hml0
  have hown : s.vm.findClass "com/example/robust_broker/robustbroker/PostingsTrimPinLaw" = some m.cls := findClass_of_methodNamed Bd.named
  have hnm := (name_of_methodNamed Bd.named Bd.method).1
  have hlk := BodyLoose.notSynchronized Bd
  have X0 : Stand p l e room_1 s m #[(.int p0), (.int p1), (.int p2), (.int p3), (.int p4), (.int p5)] below meth c s₁ [] 0 0 := Stand.of_body Bd
  have e0 : s₁.heap = h0 := by rw [← hh, Bd.state]; rfl
  have N0 := Fr.nil n0
  show Go p e below s (Q0 Z p0 p1 p2 p3 p4 p5 h0 n0) 32 192 (s₁.setTop (entryFrame m #[(.int p0), (.int p1), (.int p2), (.int p3), (.int p4), (.int p5)] maxLocals))
  rw [ef_0]
  show Go _ _ _ _ _ _ _ (s₁.setTop (mkF m 0 #[.val (.int p0), .val (.int p1), .val (.int p2), .val (.int p3), .val (.int p4), .val (.int p5), .unset, .unset, .unset, .unset, .unset, .unset, .unset, .unset, .unset, .unset, .unset, .unset, .unset] []))
  refine gob (fun _ k => XS.iloadN X0.here hx rfl (hb hby at_0) rfl k) ?_
  show Go _ _ _ _ _ _ _ (s₁.setTop (mkF m 1 #[.val (.int p0), .val (.int p1), .val (.int p2), .val (.int p3), .val (.int p4), .val (.int p5), .unset, .unset, .unset, .unset, .unset, .unset, .unset, .unset, .unset, .unset, .unset, .unset, .unset] [(.int p0)]))
  refine gob (fun _ k => XS.iconst X0.here hx rfl (hb hby at_1) k) ?_
  show Go _ _ _ _ _ _ _ (s₁.setTop (mkF m 2 #[.val (.int p0), .val (.int p1), .val (.int p2), .val (.int p3), .val (.int p4), .val (.int p5), .unset, .unset, .unset, .unset, .unset, .unset, .unset, .unset, .unset, .unset, .unset, .unset, .unset] [(.int (3 : Int32)), (.int p0)]))
  refine gob (fun _ k => XS.iand X0.here hx rfl (hb hby at_2) rfl k) ?_
  show Go _ _ _ _ _ _ _ (s₁.setTop (mkF m 3 #[.val (.int p0), .val (.int p1), .val (.int p2), .val (.int p3), .val (.int p4), .val (.int p5), .unset, .unset, .unset, .unset, .unset, .unset, .unset, .unset, .unset, .unset, .unset, .unset, .unset] [(.int (p0 &&& (3 : Int32)))]))
  refine gob (fun _ k => XS.istore X0.here hx rfl (hb hby at_3) rfl (l' := #[.val (.int p0), .val (.int p1), .val (.int p2), .val (.int p3), .val (.int p4), .val (.int p5), .val (.int (p0 &&& (3 : Int32))), .unset, .unset, .unset, .unset, .unset, .unset, .unset, .unset, .unset, .unset, .unset, .unset]) rfl k) ?_
  show Go _ _ _ _ _ _ _ (s₁.setTop (mkF m 5 #[.val (.int p0), .val (.int p1), .val (.int p2), .val (.int p3), .val (.int p4), .val (.int p5), .val (.int (p0 &&& (3 : Int32))), .unset, .unset, .unset, .unset, .unset, .unset, .unset, .unset, .unset, .unset, .unset, .unset] []))
  generalize hn_ : (p0 &&& (3 : Int32)) = n_
  show Go _ _ _ _ _ _ _ (s₁.setTop (mkF m 5 #[.val (.int p0), .val (.int p1), .val (.int p2), .val (.int p3), .val (.int p4), .val (.int p5), .val (.int n_), .unset, .unset, .unset, .unset, .unset, .unset, .unset, .unset, .unset, .unset, .unset, .unset] []))
  refine gob (fun _ k => XS.iloadN X0.here hx rfl (hb hby at_5) rfl k) ?_
  show Go _ _ _ _ _ _ _ (s₁.setTop (mkF m 6 #[.val (.int p0), .val (.int p1), .val (.int p2), .val (.int p3), .val (.int p4), .val (.int p5), .val (.int n_), .unset, .unset, .unset, .unset, .unset, .unset, .unset, .unset, .unset, .unset, .unset, .unset] [(.int p1)]))
  refine gob (X0.ldcInt hx hown (mvT hZ (hw _ (List.mem_of_getElem? (i := 0) rfl))) (g := (mkF m 6 #[.val (.int p0), .val (.int p1), .val (.int p2), .val (.int p3), .val (.int p4), .val (.int p5), .val (.int n_), .unset, .unset, .unset, .unset, .unset, .unset, .unset, .unset, .unset, .unset, .unset, .unset] [(.int p1)])) rfl (hb hby at_6)) ?_
  show Go _ _ _ _ _ _ _ (s₁.setTop (mkF m 8 #[.val (.int p0), .val (.int p1), .val (.int p2), .val (.int p3), .val (.int p4), .val (.int p5), .val (.int n_), .unset, .unset, .unset, .unset, .unset, .unset, .unset, .unset, .unset, .unset, .unset, .unset] [(.int (1048575 : Int32)), (.int p1)]))
  refine gob (fun _ k => XS.iand X0.here hx rfl (hb hby at_8) rfl k) ?_
  show Go _ _ _ _ _ _ _ (s₁.setTop (mkF m 9 #[.val (.int p0), .val (.int p1), .val (.int p2), .val (.int p3), .val (.int p4), .val (.int p5), .val (.int n_), .unset, .unset, .unset, .unset, .unset, .unset, .unset, .unset, .unset, .unset, .unset, .unset] [(.int (p1 &&& (1048575 : Int32)))]))
  refine gob (fun _ k => XS.istore X0.here hx rfl (hb hby at_9) rfl (l' := #[.val (.int p0), .val (.int p1), .val (.int p2), .val (.int p3), .val (.int p4), .val (.int p5), .val (.int n_), .val (.int (p1 &&& (1048575 : Int32))), .unset, .unset, .unset, .unset, .unset, .unset, .unset, .unset, .unset, .unset, .unset]) rfl k) ?_
  show Go _ _ _ _ _ _ _ (s₁.setTop (mkF m 11 #[.val (.int p0), .val (.int p1), .val (.int p2), .val (.int p3), .val (.int p4), .val (.int p5), .val (.int n_), .val (.int (p1 &&& (1048575 : Int32))), .unset, .unset, .unset, .unset, .unset, .unset, .unset, .unset, .unset, .unset, .unset] []))
  generalize hx1 : (p1 &&& (1048575 : Int32)) = x1
  show Go _ _ _ _ _ _ _ (s₁.setTop (mkF m 11 #[.val (.int p0), .val (.int p1), .val (.int p2), .val (.int p3), .val (.int p4), .val (.int p5), .val (.int n_), .val (.int x1), .unset, .unset, .unset, .unset, .unset, .unset, .unset, .unset, .unset, .unset, .unset] []))
  refine gob (fun _ k => XS.iload X0.here hx rfl (hb hby at_11) rfl k) ?_
  show Go _ _ _ _ _ _ _ (s₁.setTop (mkF m 13 #[.val (.int p0), .val (.int p1), .val (.int p2), .val (.int p3), .val (.int p4), .val (.int p5), .val (.int n_), .val (.int x1), .unset, .unset, .unset, .unset, .unset, .unset, .unset, .unset, .unset, .unset, .unset] [(.int x1)]))
  refine gob (fun _ k => XS.iconst X0.here hx rfl (hb hby at_13) k) ?_
  show Go _ _ _ _ _ _ _ (s₁.setTop (mkF m 14 #[.val (.int p0), .val (.int p1), .val (.int p2), .val (.int p3), .val (.int p4), .val (.int p5), .val (.int n_), .val (.int x1), .unset, .unset, .unset, .unset, .unset, .unset, .unset, .unset, .unset, .unset, .unset] [(.int (1 : Int32)), (.int x1)]))
  refine gob (fun _ k => XS.iadd X0.here hx rfl (hb hby at_14) rfl k) ?_
  show Go _ _ _ _ _ _ _ (s₁.setTop (mkF m 15 #[.val (.int p0), .val (.int p1), .val (.int p2), .val (.int p3), .val (.int p4), .val (.int p5), .val (.int n_), .val (.int x1), .unset, .unset, .unset, .unset, .unset, .unset, .unset, .unset, .unset, .unset, .unset] [(.int (x1 + (1 : Int32)))]))
  refine gob (fun _ k => XS.iloadN X0.here hx rfl (hb hby at_15) rfl k) ?_
  show Go _ _ _ _ _ _ _ (s₁.setTop (mkF m 16 #[.val (.int p0), .val (.int p1), .val (.int p2), .val (.int p3), .val (.int p4), .val (.int p5), .val (.int n_), .val (.int x1), .unset, .unset, .unset, .unset, .unset, .unset, .unset, .unset, .unset, .unset, .unset] [(.int p2), (.int (x1 + (1 : Int32)))]))
  refine gob (X0.ldcInt hx hown (mvT hZ (hw _ (List.mem_of_getElem? (i := 0) rfl))) (g := (mkF m 16 #[.val (.int p0), .val (.int p1), .val (.int p2), .val (.int p3), .val (.int p4), .val (.int p5), .val (.int n_), .val (.int x1), .unset, .unset, .unset, .unset, .unset, .unset, .unset, .unset, .unset, .unset, .unset] [(.int p2), (.int (x1 + (1 : Int32)))])) rfl (hb hby at_16)) ?_
  show Go _ _ _ _ _ _ _ (s₁.setTop (mkF m 18 #[.val (.int p0), .val (.int p1), .val (.int p2), .val (.int p3), .val (.int p4), .val (.int p5), .val (.int n_), .val (.int x1), .unset, .unset, .unset, .unset, .unset, .unset, .unset, .unset, .unset, .unset, .unset] [(.int (1048575 : Int32)), (.int p2), (.int (x1 + (1 : Int32)))]))
  refine gob (fun _ k => XS.iand X0.here hx rfl (hb hby at_18) rfl k) ?_
  show Go _ _ _ _ _ _ _ (s₁.setTop (mkF m 19 #[.val (.int p0), .val (.int p1), .val (.int p2), .val (.int p3), .val (.int p4), .val (.int p5), .val (.int n_), .val (.int x1), .unset, .unset, .unset, .unset, .unset, .unset, .unset, .unset, .unset, .unset, .unset] [(.int (p2 &&& (1048575 : Int32))), (.int (x1 + (1 : Int32)))]))
  refine gob (fun _ k => XS.iadd X0.here hx rfl (hb hby at_19) rfl k) ?_
  show Go _ _ _ _ _ _ _ (s₁.setTop (mkF m 20 #[.val (.int p0), .val (.int p1), .val (.int p2), .val (.int p3), .val (.int p4), .val (.int p5), .val (.int n_), .val (.int x1), .unset, .unset, .unset, .unset, .unset, .unset, .unset, .unset, .unset, .unset, .unset] [(.int ((x1 + (1 : Int32)) + (p2 &&& (1048575 : Int32))))]))
  refine gob (fun _ k => XS.istore X0.here hx rfl (hb hby at_20) rfl (l' := #[.val (.int p0), .val (.int p1), .val (.int p2), .val (.int p3), .val (.int p4), .val (.int p5), .val (.int n_), .val (.int x1), .val (.int ((x1 + (1 : Int32)) + (p2 &&& (1048575 : Int32)))), .unset, .unset, .unset, .unset, .unset, .unset, .unset, .unset, .unset, .unset]) rfl k) ?_
  show Go _ _ _ _ _ _ _ (s₁.setTop (mkF m 22 #[.val (.int p0), .val (.int p1), .val (.int p2), .val (.int p3), .val (.int p4), .val (.int p5), .val (.int n_), .val (.int x1), .val (.int ((x1 + (1 : Int32)) + (p2 &&& (1048575 : Int32)))), .unset, .unset, .unset, .unset, .unset, .unset, .unset, .unset, .unset, .unset] []))
  generalize hx2 : ((x1 + (1 : Int32)) + (p2 &&& (1048575 : Int32))) = x2
  show Go _ _ _ _ _ _ _ (s₁.setTop (mkF m 22 #[.val (.int p0), .val (.int p1), .val (.int p2), .val (.int p3), .val (.int p4), .val (.int p5), .val (.int n_), .val (.int x1), .val (.int x2), .unset, .unset, .unset, .unset, .unset, .unset, .unset, .unset, .unset, .unset] []))
  refine gob (fun _ k => XS.iload X0.here hx rfl (hb hby at_22) rfl k) ?_
  show Go _ _ _ _ _ _ _ (s₁.setTop (mkF m 24 #[.val (.int p0), .val (.int p1), .val (.int p2), .val (.int p3), .val (.int p4), .val (.int p5), .val (.int n_), .val (.int x1), .val (.int x2), .unset, .unset, .unset, .unset, .unset, .unset, .unset, .unset, .unset, .unset] [(.int x2)]))
  refine gob (fun _ k => XS.iconst X0.here hx rfl (hb hby at_24) k) ?_
  show Go _ _ _ _ _ _ _ (s₁.setTop (mkF m 25 #[.val (.int p0), .val (.int p1), .val (.int p2), .val (.int p3), .val (.int p4), .val (.int p5), .val (.int n_), .val (.int x1), .val (.int x2), .unset, .unset, .unset, .unset, .unset, .unset, .unset, .unset, .unset, .unset] [(.int (1 : Int32)), (.int x2)]))
  refine gob (fun _ k => XS.iadd X0.here hx rfl (hb hby at_25) rfl k) ?_
  show Go _ _ _ _ _ _ _ (s₁.setTop (mkF m 26 #[.val (.int p0), .val (.int p1), .val (.int p2), .val (.int p3), .val (.int p4), .val (.int p5), .val (.int n_), .val (.int x1), .val (.int x2), .unset, .unset, .unset, .unset, .unset, .unset, .unset, .unset, .unset, .unset] [(.int (x2 + (1 : Int32)))]))
  refine gob (fun _ k => XS.iloadN X0.here hx rfl (hb hby at_26) rfl k) ?_
  show Go _ _ _ _ _ _ _ (s₁.setTop (mkF m 27 #[.val (.int p0), .val (.int p1), .val (.int p2), .val (.int p3), .val (.int p4), .val (.int p5), .val (.int n_), .val (.int x1), .val (.int x2), .unset, .unset, .unset, .unset, .unset, .unset, .unset, .unset, .unset, .unset] [(.int p3), (.int (x2 + (1 : Int32)))]))
  refine gob (X0.ldcInt hx hown (mvT hZ (hw _ (List.mem_of_getElem? (i := 0) rfl))) (g := (mkF m 27 #[.val (.int p0), .val (.int p1), .val (.int p2), .val (.int p3), .val (.int p4), .val (.int p5), .val (.int n_), .val (.int x1), .val (.int x2), .unset, .unset, .unset, .unset, .unset, .unset, .unset, .unset, .unset, .unset] [(.int p3), (.int (x2 + (1 : Int32)))])) rfl (hb hby at_27)) ?_
  show Go _ _ _ _ _ _ _ (s₁.setTop (mkF m 29 #[.val (.int p0), .val (.int p1), .val (.int p2), .val (.int p3), .val (.int p4), .val (.int p5), .val (.int n_), .val (.int x1), .val (.int x2), .unset, .unset, .unset, .unset, .unset, .unset, .unset, .unset, .unset, .unset] [(.int (1048575 : Int32)), (.int p3), (.int (x2 + (1 : Int32)))]))
  refine gob (fun _ k => XS.iand X0.here hx rfl (hb hby at_29) rfl k) ?_
  show Go _ _ _ _ _ _ _ (s₁.setTop (mkF m 30 #[.val (.int p0), .val (.int p1), .val (.int p2), .val (.int p3), .val (.int p4), .val (.int p5), .val (.int n_), .val (.int x1), .val (.int x2), .unset, .unset, .unset, .unset, .unset, .unset, .unset, .unset, .unset, .unset] [(.int (p3 &&& (1048575 : Int32))), (.int (x2 + (1 : Int32)))]))
  refine gob (fun _ k => XS.iadd X0.here hx rfl (hb hby at_30) rfl k) ?_
  show Go _ _ _ _ _ _ _ (s₁.setTop (mkF m 31 #[.val (.int p0), .val (.int p1), .val (.int p2), .val (.int p3), .val (.int p4), .val (.int p5), .val (.int n_), .val (.int x1), .val (.int x2), .unset, .unset, .unset, .unset, .unset, .unset, .unset, .unset, .unset, .unset] [(.int ((x2 + (1 : Int32)) + (p3 &&& (1048575 : Int32))))]))
  refine gob (fun _ k => XS.istore X0.here hx rfl (hb hby at_31) rfl (l' := #[.val (.int p0), .val (.int p1), .val (.int p2), .val (.int p3), .val (.int p4), .val (.int p5), .val (.int n_), .val (.int x1), .val (.int x2), .val (.int ((x2 + (1 : Int32)) + (p3 &&& (1048575 : Int32)))), .unset, .unset, .unset, .unset, .unset, .unset, .unset, .unset, .unset]) rfl k) ?_
  show Go _ _ _ _ _ _ _ (s₁.setTop (mkF m 33 #[.val (.int p0), .val (.int p1), .val (.int p2), .val (.int p3), .val (.int p4), .val (.int p5), .val (.int n_), .val (.int x1), .val (.int x2), .val (.int ((x2 + (1 : Int32)) + (p3 &&& (1048575 : Int32)))), .unset, .unset, .unset, .unset, .unset, .unset, .unset, .unset, .unset] []))
  generalize hx3 : ((x2 + (1 : Int32)) + (p3 &&& (1048575 : Int32))) = x3
  show Go _ _ _ _ _ _ _ (s₁.setTop (mkF m 33 #[.val (.int p0), .val (.int p1), .val (.int p2), .val (.int p3), .val (.int p4), .val (.int p5), .val (.int n_), .val (.int x1), .val (.int x2), .val (.int x3), .unset, .unset, .unset, .unset, .unset, .unset, .unset, .unset, .unset] []))
  refine gob (fun _ k => XS.iload X0.here hx rfl (hb hby at_33) rfl k) ?_
  show Go _ _ _ _ _ _ _ (s₁.setTop (mkF m 35 #[.val (.int p0), .val (.int p1), .val (.int p2), .val (.int p3), .val (.int p4), .val (.int p5), .val (.int n_), .val (.int x1), .val (.int x2), .val (.int x3), .unset, .unset, .unset, .unset, .unset, .unset, .unset, .unset, .unset] [(.int x3)]))
  refine gob (fun _ k => XS.iconst X0.here hx rfl (hb hby at_35) k) ?_
  show Go _ _ _ _ _ _ _ (s₁.setTop (mkF m 36 #[.val (.int p0), .val (.int p1), .val (.int p2), .val (.int p3), .val (.int p4), .val (.int p5), .val (.int n_), .val (.int x1), .val (.int x2), .val (.int x3), .unset, .unset, .unset, .unset, .unset, .unset, .unset, .unset, .unset] [(.int (1 : Int32)), (.int x3)]))
  refine gob (fun _ k => XS.iadd X0.here hx rfl (hb hby at_36) rfl k) ?_
  show Go _ _ _ _ _ _ _ (s₁.setTop (mkF m 37 #[.val (.int p0), .val (.int p1), .val (.int p2), .val (.int p3), .val (.int p4), .val (.int p5), .val (.int n_), .val (.int x1), .val (.int x2), .val (.int x3), .unset, .unset, .unset, .unset, .unset, .unset, .unset, .unset, .unset] [(.int (x3 + (1 : Int32)))]))
  refine gob (fun _ k => XS.istore X0.here hx rfl (hb hby at_37) rfl (l' := #[.val (.int p0), .val (.int p1), .val (.int p2), .val (.int p3), .val (.int p4), .val (.int p5), .val (.int n_), .val (.int x1), .val (.int x2), .val (.int x3), .val (.int (x3 + (1 : Int32))), .unset, .unset, .unset, .unset, .unset, .unset, .unset, .unset]) rfl k) ?_
  show Go _ _ _ _ _ _ _ (s₁.setTop (mkF m 39 #[.val (.int p0), .val (.int p1), .val (.int p2), .val (.int p3), .val (.int p4), .val (.int p5), .val (.int n_), .val (.int x1), .val (.int x2), .val (.int x3), .val (.int (x3 + (1 : Int32))), .unset, .unset, .unset, .unset, .unset, .unset, .unset, .unset] []))
  generalize hx4 : (x3 + (1 : Int32)) = x4
  show Go _ _ _ _ _ _ _ (s₁.setTop (mkF m 39 #[.val (.int p0), .val (.int p1), .val (.int p2), .val (.int p3), .val (.int p4), .val (.int p5), .val (.int n_), .val (.int x1), .val (.int x2), .val (.int x3), .val (.int x4), .unset, .unset, .unset, .unset, .unset, .unset, .unset, .unset] []))
  refine gob (fun _ k => XS.iload X0.here hx rfl (hb hby at_39) rfl k) ?_
  show Go _ _ _ _ _ _ _ (s₁.setTop (mkF m 41 #[.val (.int p0), .val (.int p1), .val (.int p2), .val (.int p3), .val (.int p4), .val (.int p5), .val (.int n_), .val (.int x1), .val (.int x2), .val (.int x3), .val (.int x4), .unset, .unset, .unset, .unset, .unset, .unset, .unset, .unset] [(.int p4)]))
  refine gob (X0.ldcInt hx hown (mvT hZ (hw _ (List.mem_of_getElem? (i := 1) rfl))) (g := (mkF m 41 #[.val (.int p0), .val (.int p1), .val (.int p2), .val (.int p3), .val (.int p4), .val (.int p5), .val (.int n_), .val (.int x1), .val (.int x2), .val (.int x3), .val (.int x4), .unset, .unset, .unset, .unset, .unset, .unset, .unset, .unset] [(.int p4)])) rfl (hb hby at_41)) ?_
  show Go _ _ _ _ _ _ _ (s₁.setTop (mkF m 43 #[.val (.int p0), .val (.int p1), .val (.int p2), .val (.int p3), .val (.int p4), .val (.int p5), .val (.int n_), .val (.int x1), .val (.int x2), .val (.int x3), .val (.int x4), .unset, .unset, .unset, .unset, .unset, .unset, .unset, .unset] [(.int (1073741823 : Int32)), (.int p4)]))
  refine gob (fun _ k => XS.iand X0.here hx rfl (hb hby at_43) rfl k) ?_
  show Go _ _ _ _ _ _ _ (s₁.setTop (mkF m 44 #[.val (.int p0), .val (.int p1), .val (.int p2), .val (.int p3), .val (.int p4), .val (.int p5), .val (.int n_), .val (.int x1), .val (.int x2), .val (.int x3), .val (.int x4), .unset, .unset, .unset, .unset, .unset, .unset, .unset, .unset] [(.int (p4 &&& (1073741823 : Int32)))]))
  refine gob (fun _ k => XS.iconst X0.here hx rfl (hb hby at_44) k) ?_
  show Go _ _ _ _ _ _ _ (s₁.setTop (mkF m 45 #[.val (.int p0), .val (.int p1), .val (.int p2), .val (.int p3), .val (.int p4), .val (.int p5), .val (.int n_), .val (.int x1), .val (.int x2), .val (.int x3), .val (.int x4), .unset, .unset, .unset, .unset, .unset, .unset, .unset, .unset] [(.int (1 : Int32)), (.int (p4 &&& (1073741823 : Int32)))]))
  refine gob (fun _ k => XS.iadd X0.here hx rfl (hb hby at_45) rfl k) ?_
  show Go _ _ _ _ _ _ _ (s₁.setTop (mkF m 46 #[.val (.int p0), .val (.int p1), .val (.int p2), .val (.int p3), .val (.int p4), .val (.int p5), .val (.int n_), .val (.int x1), .val (.int x2), .val (.int x3), .val (.int x4), .unset, .unset, .unset, .unset, .unset, .unset, .unset, .unset] [(.int ((p4 &&& (1073741823 : Int32)) + (1 : Int32)))]))
  refine gob (fun _ k => XS.istore X0.here hx rfl (hb hby at_46) rfl (l' := #[.val (.int p0), .val (.int p1), .val (.int p2), .val (.int p3), .val (.int p4), .val (.int p5), .val (.int n_), .val (.int x1), .val (.int x2), .val (.int x3), .val (.int x4), .val (.int ((p4 &&& (1073741823 : Int32)) + (1 : Int32))), .unset, .unset, .unset, .unset, .unset, .unset, .unset]) rfl k) ?_
  show Go _ _ _ _ _ _ _ (s₁.setTop (mkF m 48 #[.val (.int p0), .val (.int p1), .val (.int p2), .val (.int p3), .val (.int p4), .val (.int p5), .val (.int n_), .val (.int x1), .val (.int x2), .val (.int x3), .val (.int x4), .val (.int ((p4 &&& (1073741823 : Int32)) + (1 : Int32))), .unset, .unset, .unset, .unset, .unset, .unset, .unset] []))
  generalize hx5 : ((p4 &&& (1073741823 : Int32)) + (1 : Int32)) = x5
  show Go _ _ _ _ _ _ _ (s₁.setTop (mkF m 48 #[.val (.int p0), .val (.int p1), .val (.int p2), .val (.int p3), .val (.int p4), .val (.int p5), .val (.int n_), .val (.int x1), .val (.int x2), .val (.int x3), .val (.int x4), .val (.int x5), .unset, .unset, .unset, .unset, .unset, .unset, .unset] []))
  refine gob (fun _ k => XS.iload X0.here hx rfl (hb hby at_48) rfl k) ?_
  show Go _ _ _ _ _ _ _ (s₁.setTop (mkF m 50 #[.val (.int p0), .val (.int p1), .val (.int p2), .val (.int p3), .val (.int p4), .val (.int p5), .val (.int n_), .val (.int x1), .val (.int x2), .val (.int x3), .val (.int x4), .val (.int x5), .unset, .unset, .unset, .unset, .unset, .unset, .unset] [(.int p5)]))
  refine gob (X0.ldcInt hx hown (mvT hZ (hw _ (List.mem_of_getElem? (i := 1) rfl))) (g := (mkF m 50 #[.val (.int p0), .val (.int p1), .val (.int p2), .val (.int p3), .val (.int p4), .val (.int p5), .val (.int n_), .val (.int x1), .val (.int x2), .val (.int x3), .val (.int x4), .val (.int x5), .unset, .unset, .unset, .unset, .unset, .unset, .unset] [(.int p5)])) rfl (hb hby at_50)) ?_
  show Go _ _ _ _ _ _ _ (s₁.setTop (mkF m 52 #[.val (.int p0), .val (.int p1), .val (.int p2), .val (.int p3), .val (.int p4), .val (.int p5), .val (.int n_), .val (.int x1), .val (.int x2), .val (.int x3), .val (.int x4), .val (.int x5), .unset, .unset, .unset, .unset, .unset, .unset, .unset] [(.int (1073741823 : Int32)), (.int p5)]))
  refine gob (fun _ k => XS.iand X0.here hx rfl (hb hby at_52) rfl k) ?_
  show Go _ _ _ _ _ _ _ (s₁.setTop (mkF m 53 #[.val (.int p0), .val (.int p1), .val (.int p2), .val (.int p3), .val (.int p4), .val (.int p5), .val (.int n_), .val (.int x1), .val (.int x2), .val (.int x3), .val (.int x4), .val (.int x5), .unset, .unset, .unset, .unset, .unset, .unset, .unset] [(.int (p5 &&& (1073741823 : Int32)))]))
  refine gob (fun _ k => XS.iconst X0.here hx rfl (hb hby at_53) k) ?_
  show Go _ _ _ _ _ _ _ (s₁.setTop (mkF m 54 #[.val (.int p0), .val (.int p1), .val (.int p2), .val (.int p3), .val (.int p4), .val (.int p5), .val (.int n_), .val (.int x1), .val (.int x2), .val (.int x3), .val (.int x4), .val (.int x5), .unset, .unset, .unset, .unset, .unset, .unset, .unset] [(.int (1 : Int32)), (.int (p5 &&& (1073741823 : Int32)))]))
  refine gob (fun _ k => XS.iadd X0.here hx rfl (hb hby at_54) rfl k) ?_
  show Go _ _ _ _ _ _ _ (s₁.setTop (mkF m 55 #[.val (.int p0), .val (.int p1), .val (.int p2), .val (.int p3), .val (.int p4), .val (.int p5), .val (.int n_), .val (.int x1), .val (.int x2), .val (.int x3), .val (.int x4), .val (.int x5), .unset, .unset, .unset, .unset, .unset, .unset, .unset] [(.int ((p5 &&& (1073741823 : Int32)) + (1 : Int32)))]))
  refine gob (fun _ k => XS.istore X0.here hx rfl (hb hby at_55) rfl (l' := #[.val (.int p0), .val (.int p1), .val (.int p2), .val (.int p3), .val (.int p4), .val (.int p5), .val (.int n_), .val (.int x1), .val (.int x2), .val (.int x3), .val (.int x4), .val (.int x5), .val (.int ((p5 &&& (1073741823 : Int32)) + (1 : Int32))), .unset, .unset, .unset, .unset, .unset, .unset]) rfl k) ?_
  show Go _ _ _ _ _ _ _ (s₁.setTop (mkF m 57 #[.val (.int p0), .val (.int p1), .val (.int p2), .val (.int p3), .val (.int p4), .val (.int p5), .val (.int n_), .val (.int x1), .val (.int x2), .val (.int x3), .val (.int x4), .val (.int x5), .val (.int ((p5 &&& (1073741823 : Int32)) + (1 : Int32))), .unset, .unset, .unset, .unset, .unset, .unset] []))
  generalize hx6 : ((p5 &&& (1073741823 : Int32)) + (1 : Int32)) = x6
  show Go _ _ _ _ _ _ _ (s₁.setTop (mkF m 57 #[.val (.int p0), .val (.int p1), .val (.int p2), .val (.int p3), .val (.int p4), .val (.int p5), .val (.int n_), .val (.int x1), .val (.int x2), .val (.int x3), .val (.int x4), .val (.int x5), .val (.int x6), .unset, .unset, .unset, .unset, .unset, .unset] []))
  refine gob (fun _ k => XS.iload X0.here hx rfl (hb hby at_57) rfl k) ?_
  show Go _ _ _ _ _ _ _ (s₁.setTop (mkF m 59 #[.val (.int p0), .val (.int p1), .val (.int p2), .val (.int p3), .val (.int p4), .val (.int p5), .val (.int n_), .val (.int x1), .val (.int x2), .val (.int x3), .val (.int x4), .val (.int x5), .val (.int x6), .unset, .unset, .unset, .unset, .unset, .unset] [(.int p4)]))
  refine gob (fun _ k => XS.iload X0.here hx rfl (hb hby at_59) rfl k) ?_
  show Go _ _ _ _ _ _ _ (s₁.setTop (mkF m 61 #[.val (.int p0), .val (.int p1), .val (.int p2), .val (.int p3), .val (.int p4), .val (.int p5), .val (.int n_), .val (.int x1), .val (.int x2), .val (.int x3), .val (.int x4), .val (.int x5), .val (.int x6), .unset, .unset, .unset, .unset, .unset, .unset] [(.int p5), (.int p4)]))
  refine gob (fun _ k => XS.ixor X0.here hx rfl (hb hby at_61) rfl k) ?_
  show Go _ _ _ _ _ _ _ (s₁.setTop (mkF m 62 #[.val (.int p0), .val (.int p1), .val (.int p2), .val (.int p3), .val (.int p4), .val (.int p5), .val (.int n_), .val (.int x1), .val (.int x2), .val (.int x3), .val (.int x4), .val (.int x5), .val (.int x6), .unset, .unset, .unset, .unset, .unset, .unset] [(.int (p4 ^^^ p5))]))
  refine gob (X0.ldcInt hx hown (mvT hZ (hw _ (List.mem_of_getElem? (i := 1) rfl))) (g := (mkF m 62 #[.val (.int p0), .val (.int p1), .val (.int p2), .val (.int p3), .val (.int p4), .val (.int p5), .val (.int n_), .val (.int x1), .val (.int x2), .val (.int x3), .val (.int x4), .val (.int x5), .val (.int x6), .unset, .unset, .unset, .unset, .unset, .unset] [(.int (p4 ^^^ p5))])) rfl (hb hby at_62)) ?_
  show Go _ _ _ _ _ _ _ (s₁.setTop (mkF m 64 #[.val (.int p0), .val (.int p1), .val (.int p2), .val (.int p3), .val (.int p4), .val (.int p5), .val (.int n_), .val (.int x1), .val (.int x2), .val (.int x3), .val (.int x4), .val (.int x5), .val (.int x6), .unset, .unset, .unset, .unset, .unset, .unset] [(.int (1073741823 : Int32)), (.int (p4 ^^^ p5))]))
  refine gob (fun _ k => XS.iand X0.here hx rfl (hb hby at_64) rfl k) ?_
  show Go _ _ _ _ _ _ _ (s₁.setTop (mkF m 65 #[.val (.int p0), .val (.int p1), .val (.int p2), .val (.int p3), .val (.int p4), .val (.int p5), .val (.int n_), .val (.int x1), .val (.int x2), .val (.int x3), .val (.int x4), .val (.int x5), .val (.int x6), .unset, .unset, .unset, .unset, .unset, .unset] [(.int ((p4 ^^^ p5) &&& (1073741823 : Int32)))]))
  refine gob (fun _ k => XS.iconst X0.here hx rfl (hb hby at_65) k) ?_
  show Go _ _ _ _ _ _ _ (s₁.setTop (mkF m 66 #[.val (.int p0), .val (.int p1), .val (.int p2), .val (.int p3), .val (.int p4), .val (.int p5), .val (.int n_), .val (.int x1), .val (.int x2), .val (.int x3), .val (.int x4), .val (.int x5), .val (.int x6), .unset, .unset, .unset, .unset, .unset, .unset] [(.int (1 : Int32)), (.int ((p4 ^^^ p5) &&& (1073741823 : Int32)))]))
  refine gob (fun _ k => XS.iadd X0.here hx rfl (hb hby at_66) rfl k) ?_
  show Go _ _ _ _ _ _ _ (s₁.setTop (mkF m 67 #[.val (.int p0), .val (.int p1), .val (.int p2), .val (.int p3), .val (.int p4), .val (.int p5), .val (.int n_), .val (.int x1), .val (.int x2), .val (.int x3), .val (.int x4), .val (.int x5), .val (.int x6), .unset, .unset, .unset, .unset, .unset, .unset] [(.int (((p4 ^^^ p5) &&& (1073741823 : Int32)) + (1 : Int32)))]))
  refine gob (fun _ k => XS.istore X0.here hx rfl (hb hby at_67) rfl (l' := #[.val (.int p0), .val (.int p1), .val (.int p2), .val (.int p3), .val (.int p4), .val (.int p5), .val (.int n_), .val (.int x1), .val (.int x2), .val (.int x3), .val (.int x4), .val (.int x5), .val (.int x6), .val (.int (((p4 ^^^ p5) &&& (1073741823 : Int32)) + (1 : Int32))), .unset, .unset, .unset, .unset, .unset]) rfl k) ?_
  show Go _ _ _ _ _ _ _ (s₁.setTop (mkF m 69 #[.val (.int p0), .val (.int p1), .val (.int p2), .val (.int p3), .val (.int p4), .val (.int p5), .val (.int n_), .val (.int x1), .val (.int x2), .val (.int x3), .val (.int x4), .val (.int x5), .val (.int x6), .val (.int (((p4 ^^^ p5) &&& (1073741823 : Int32)) + (1 : Int32))), .unset, .unset, .unset, .unset, .unset] []))
  generalize hx7 : (((p4 ^^^ p5) &&& (1073741823 : Int32)) + (1 : Int32)) = x7
  show Go _ _ _ _ _ _ _ (s₁.setTop (mkF m 69 #[.val (.int p0), .val (.int p1), .val (.int p2), .val (.int p3), .val (.int p4), .val (.int p5), .val (.int n_), .val (.int x1), .val (.int x2), .val (.int x3), .val (.int x4), .val (.int x5), .val (.int x6), .val (.int x7), .unset, .unset, .unset, .unset, .unset] []))
  refine gob (fun _ k => XS.iloadN X0.here hx rfl (hb hby at_69) rfl k) ?_
  show Go _ _ _ _ _ _ _ (s₁.setTop (mkF m 70 #[.val (.int p0), .val (.int p1), .val (.int p2), .val (.int p3), .val (.int p4), .val (.int p5), .val (.int n_), .val (.int x1), .val (.int x2), .val (.int x3), .val (.int x4), .val (.int x5), .val (.int x6), .val (.int x7), .unset, .unset, .unset, .unset, .unset] [(.int p0)]))
  refine gob (fun _ k => XS.iconst X0.here hx rfl (hb hby at_70) k) ?_
  show Go _ _ _ _ _ _ _ (s₁.setTop (mkF m 71 #[.val (.int p0), .val (.int p1), .val (.int p2), .val (.int p3), .val (.int p4), .val (.int p5), .val (.int n_), .val (.int x1), .val (.int x2), .val (.int x3), .val (.int x4), .val (.int x5), .val (.int x6), .val (.int x7), .unset, .unset, .unset, .unset, .unset] [(.int (2 : Int32)), (.int p0)]))
  refine gob (fun _ k => XS.iushr X0.here hx rfl (hb hby at_71) rfl k) ?_
  show Go _ _ _ _ _ _ _ (s₁.setTop (mkF m 72 #[.val (.int p0), .val (.int p1), .val (.int p2), .val (.int p3), .val (.int p4), .val (.int p5), .val (.int n_), .val (.int x1), .val (.int x2), .val (.int x3), .val (.int x4), .val (.int x5), .val (.int x6), .val (.int x7), .unset, .unset, .unset, .unset, .unset] [(.int ((p0.toUInt32 >>> ((2 : Int32) &&& 31).toUInt32).toInt32))]))
  refine gob (fun _ k => XS.sipush X0.here hx rfl (hb hby at_72) k) ?_
  show Go _ _ _ _ _ _ _ (s₁.setTop (mkF m 75 #[.val (.int p0), .val (.int p1), .val (.int p2), .val (.int p3), .val (.int p4), .val (.int p5), .val (.int n_), .val (.int x1), .val (.int x2), .val (.int x3), .val (.int x4), .val (.int x5), .val (.int x6), .val (.int x7), .unset, .unset, .unset, .unset, .unset] [(.int (255 : Int32)), (.int ((p0.toUInt32 >>> ((2 : Int32) &&& 31).toUInt32).toInt32))]))
  refine gob (fun _ k => XS.iand X0.here hx rfl (hb hby at_75) rfl k) ?_
  show Go _ _ _ _ _ _ _ (s₁.setTop (mkF m 76 #[.val (.int p0), .val (.int p1), .val (.int p2), .val (.int p3), .val (.int p4), .val (.int p5), .val (.int n_), .val (.int x1), .val (.int x2), .val (.int x3), .val (.int x4), .val (.int x5), .val (.int x6), .val (.int x7), .unset, .unset, .unset, .unset, .unset] [(.int (((p0.toUInt32 >>> ((2 : Int32) &&& 31).toUInt32).toInt32) &&& (255 : Int32)))]))
  refine gob (fun _ k => XS.iconst X0.here hx rfl (hb hby at_76) k) ?_
  show Go _ _ _ _ _ _ _ (s₁.setTop (mkF m 77 #[.val (.int p0), .val (.int p1), .val (.int p2), .val (.int p3), .val (.int p4), .val (.int p5), .val (.int n_), .val (.int x1), .val (.int x2), .val (.int x3), .val (.int x4), .val (.int x5), .val (.int x6), .val (.int x7), .unset, .unset, .unset, .unset, .unset] [(.int (1 : Int32)), (.int (((p0.toUInt32 >>> ((2 : Int32) &&& 31).toUInt32).toInt32) &&& (255 : Int32)))]))
  refine gob (fun _ k => XS.iadd X0.here hx rfl (hb hby at_77) rfl k) ?_
  show Go _ _ _ _ _ _ _ (s₁.setTop (mkF m 78 #[.val (.int p0), .val (.int p1), .val (.int p2), .val (.int p3), .val (.int p4), .val (.int p5), .val (.int n_), .val (.int x1), .val (.int x2), .val (.int x3), .val (.int x4), .val (.int x5), .val (.int x6), .val (.int x7), .unset, .unset, .unset, .unset, .unset] [(.int ((((p0.toUInt32 >>> ((2 : Int32) &&& 31).toUInt32).toInt32) &&& (255 : Int32)) + (1 : Int32)))]))
  refine gob (fun _ k => XS.istore X0.here hx rfl (hb hby at_78) rfl (l' := #[.val (.int p0), .val (.int p1), .val (.int p2), .val (.int p3), .val (.int p4), .val (.int p5), .val (.int n_), .val (.int x1), .val (.int x2), .val (.int x3), .val (.int x4), .val (.int x5), .val (.int x6), .val (.int x7), .val (.int ((((p0.toUInt32 >>> ((2 : Int32) &&& 31).toUInt32).toInt32) &&& (255 : Int32)) + (1 : Int32))), .unset, .unset, .unset, .unset]) rfl k) ?_
  show Go _ _ _ _ _ _ _ (s₁.setTop (mkF m 80 #[.val (.int p0), .val (.int p1), .val (.int p2), .val (.int p3), .val (.int p4), .val (.int p5), .val (.int n_), .val (.int x1), .val (.int x2), .val (.int x3), .val (.int x4), .val (.int x5), .val (.int x6), .val (.int x7), .val (.int ((((p0.toUInt32 >>> ((2 : Int32) &&& 31).toUInt32).toInt32) &&& (255 : Int32)) + (1 : Int32))), .unset, .unset, .unset, .unset] []))
  generalize hx8 : ((((p0.toUInt32 >>> ((2 : Int32) &&& 31).toUInt32).toInt32) &&& (255 : Int32)) + (1 : Int32)) = x8
  show Go _ _ _ _ _ _ _ (s₁.setTop (mkF m 80 #[.val (.int p0), .val (.int p1), .val (.int p2), .val (.int p3), .val (.int p4), .val (.int p5), .val (.int n_), .val (.int x1), .val (.int x2), .val (.int x3), .val (.int x4), .val (.int x5), .val (.int x6), .val (.int x7), .val (.int x8), .unset, .unset, .unset, .unset] []))
  obtain ⟨T9, h9, X9, e9, E9, A9, D9, -, st9⟩ := newO X0 hx hZ hown (hw _ (List.mem_of_getElem? (i := 2) rfl)) (hw _ (List.mem_of_getElem? (i := 3) rfl)) (hw _ (List.mem_of_getElem? (i := 4) rfl)) e0 (g := (mkF m 80 #[.val (.int p0), .val (.int p1), .val (.int p2), .val (.int p3), .val (.int p4), .val (.int p5), .val (.int n_), .val (.int x1), .val (.int x2), .val (.int x3), .val (.int x4), .val (.int x5), .val (.int x6), .val (.int x7), .val (.int x8), .unset, .unset, .unset, .unset] [])) rfl (hb hby at_80) (by decide) (by decide)
  obtain ⟨b9, g9⟩ : ∃ z, z = h0.size := ⟨_, rfl⟩
  rw [← g9] at A9 D9 st9
  have g10 : n0 ≤ b9 := Nat.le_trans Z0 (Nat.le_of_eq g9.symm)
  have z11 : n0 ≤ h9.size := Nat.le_trans Z0 E9.1
  have F9_documents : Fld Z h9 b9 "com/example/robust_broker/robustbroker/Postings" "documents" "[I" .null := D9 (Or.inl (hw _ (List.mem_of_getElem? (i := 13) rfl))) (ty := (.array .int)) (by decide)
  have F9_frequencies : Fld Z h9 b9 "com/example/robust_broker/robustbroker/Postings" "frequencies" "[I" .null := D9 (Or.inl (hw _ (List.mem_of_getElem? (i := 15) rfl))) (ty := (.array .int)) (by decide)
  have F9_size : Fld Z h9 b9 "com/example/robust_broker/robustbroker/Postings" "size" "I" (.int (0 : Int32)) := D9 (Or.inl (hw _ (List.mem_of_getElem? (i := 22) rfl))) (ty := .int) (by decide)
  have F9_collectionFrequency : Fld Z h9 b9 "com/example/robust_broker/robustbroker/Postings" "collectionFrequency" "J" (.long (0 : Int64)) := D9 (Or.inl (hw _ (List.mem_of_getElem? (i := 46) rfl))) (ty := .long) (by decide)
  refine gob st9 ?_
  show Go _ _ _ _ _ _ _ (T9.setTop (mkF m 83 #[.val (.int p0), .val (.int p1), .val (.int p2), .val (.int p3), .val (.int p4), .val (.int p5), .val (.int n_), .val (.int x1), .val (.int x2), .val (.int x3), .val (.int x4), .val (.int x5), .val (.int x6), .val (.int x7), .val (.int x8), .unset, .unset, .unset, .unset] [(.ref b9)]))
  refine gob (fun _ k => XS.dup X9.here hx rfl (hb hby at_83) rfl rfl k) ?_
  show Go _ _ _ _ _ _ _ (T9.setTop (mkF m 84 #[.val (.int p0), .val (.int p1), .val (.int p2), .val (.int p3), .val (.int p4), .val (.int p5), .val (.int n_), .val (.int x1), .val (.int x2), .val (.int x3), .val (.int x4), .val (.int x5), .val (.int x6), .val (.int x7), .val (.int x8), .unset, .unset, .unset, .unset] [(.ref b9), (.ref b9)]))
  obtain ⟨_, _, ⟨T12, L12, k12, n12⟩, -, X12, ⟨Lc12, hQ12, l12, y12, z12⟩, st12⟩ := X9.specialBack hx (y := (⟨"com/example/robust_broker/robustbroker/Postings", "<init>", "()V"⟩ : MethodName)) rfl hown (mvT hZ (hw _ (List.mem_of_getElem? (i := 5) rfl))) (mvT hZ (hw _ (List.mem_of_getElem? (i := 6) rfl))) (mvT hZ (hw _ (List.mem_of_getElem? (i := 7) rfl))) (by decide) (backOf (W := 1) (rm1 l Z a0 hw [] b9 h9 n0 z11 F9_size F9_collectionFrequency A9 F9_documents g10 F9_frequencies) hZ (hw _ (List.mem_of_getElem? (i := 7) rfl)) (hw _ (List.mem_of_getElem? (i := 4) rfl)) (by decide) (by decide)) (g := (mkF m 84 #[.val (.int p0), .val (.int p1), .val (.int p2), .val (.int p3), .val (.int p4), .val (.int p5), .val (.int n_), .val (.int x1), .val (.int x2), .val (.int x3), .val (.int x4), .val (.int x5), .val (.int x6), .val (.int x7), .val (.int x8), .unset, .unset, .unset, .unset] [(.ref b9), (.ref b9)])) rfl (by rw [hml]; rfl) (Steps.refl _) (a := b9) (argsL := []) (rest := [(.ref b9)]) (lenOf pd_2 rfl) rfl (by show 2 * 0 + _ ≤ _; exact Nat.le_of_eq rfl) (hb hby at_84) (fun _ _ => ⟨rfl, e9, (by decide : 1 + 2 ≤ _), (by decide : 4 + 4 ≤ _)⟩)
  dsimp only [Pt.U, Pt.locs, Pt.cells, Pt.slots] at X12 l12 y12 z12 st12 hQ12
  subst l12 y12 z12
  obtain ⟨b13, b14, k15, k16, rfl, Nq12, K12, hz17, hz18, hn19, F20, F21, F22, F23, F24, F25, F26, F27⟩ := hQ12
  have N12 := Fr.app N0 Nq12
  have n28 : b9 ≠ b13 := Nat.ne_of_lt (Nat.lt_of_lt_of_le A9.lt hz17)
  have g29 : n0 ≤ b13 := Nat.le_trans z11 hz17
  have n30 : b9 ≠ b14 := Nat.ne_of_lt (Nat.lt_of_lt_of_le A9.lt hz18)
  have g31 : n0 ≤ b14 := Nat.le_trans z11 hz18
  have z32 : n0 ≤ T12.heap.size := Nat.le_trans z11 K12.1
  refine gob (fun _ k => st12.trans k) ?_
  show Go _ _ _ _ _ _ _ (T12.setTop (mkF m 87 #[.val (.int p0), .val (.int p1), .val (.int p2), .val (.int p3), .val (.int p4), .val (.int p5), .val (.int n_), .val (.int x1), .val (.int x2), .val (.int x3), .val (.int x4), .val (.int x5), .val (.int x6), .val (.int x7), .val (.int x8), .unset, .unset, .unset, .unset] [(.ref b9)]))
  refine gob (fun _ k => XS.astore X12.here hx rfl (hb hby at_87) rfl rfl (l' := #[.val (.int p0), .val (.int p1), .val (.int p2), .val (.int p3), .val (.int p4), .val (.int p5), .val (.int n_), .val (.int x1), .val (.int x2), .val (.int x3), .val (.int x4), .val (.int x5), .val (.int x6), .val (.int x7), .val (.int x8), .val (.ref b9), .unset, .unset, .unset]) rfl k) ?_
  show Go _ _ _ _ _ _ _ (T12.setTop (mkF m 89 #[.val (.int p0), .val (.int p1), .val (.int p2), .val (.int p3), .val (.int p4), .val (.int p5), .val (.int n_), .val (.int x1), .val (.int x2), .val (.int x3), .val (.int x4), .val (.int x5), .val (.int x6), .val (.int x7), .val (.int x8), .val (.ref b9), .unset, .unset, .unset] []))
  refine gob (fun _ k => XS.iload X12.here hx rfl (hb hby at_89) rfl k) ?_
  show Go _ _ _ _ _ _ _ (T12.setTop (mkF m 91 #[.val (.int p0), .val (.int p1), .val (.int p2), .val (.int p3), .val (.int p4), .val (.int p5), .val (.int n_), .val (.int x1), .val (.int x2), .val (.int x3), .val (.int x4), .val (.int x5), .val (.int x6), .val (.int x7), .val (.int x8), .val (.ref b9), .unset, .unset, .unset] [(.int n_)]))
  refine gob (fun _ k => XS.iconst X12.here hx rfl (hb hby at_91) k) ?_
  show Go _ _ _ _ _ _ _ (T12.setTop (mkF m 92 #[.val (.int p0), .val (.int p1), .val (.int p2), .val (.int p3), .val (.int p4), .val (.int p5), .val (.int n_), .val (.int x1), .val (.int x2), .val (.int x3), .val (.int x4), .val (.int x5), .val (.int x6), .val (.int x7), .val (.int x8), .val (.ref b9), .unset, .unset, .unset] [(.int (1 : Int32)), (.int n_)]))
  by_cases hc92_33 : n_ < (1 : Int32)
  · skip
    refine gob (fun _ k => XS.icmpYes X12.here hx rfl (pc0 := 92) (pc' := 104) rfl (hb hby at_92) rfl (tlt hc92_33).1 (by decide) (by decide) k) ?_
    show Go _ _ _ _ _ _ _ (T12.setTop (mkF m 104 #[.val (.int p0), .val (.int p1), .val (.int p2), .val (.int p3), .val (.int p4), .val (.int p5), .val (.int n_), .val (.int x1), .val (.int x2), .val (.int x3), .val (.int x4), .val (.int x5), .val (.int x6), .val (.int x7), .val (.int x8), .val (.ref b9), .unset, .unset, .unset] []))
    refine gob (fun _ k => XS.iload X12.here hx rfl (hb hby at_104) rfl k) ?_
    show Go _ _ _ _ _ _ _ (T12.setTop (mkF m 106 #[.val (.int p0), .val (.int p1), .val (.int p2), .val (.int p3), .val (.int p4), .val (.int p5), .val (.int n_), .val (.int x1), .val (.int x2), .val (.int x3), .val (.int x4), .val (.int x5), .val (.int x6), .val (.int x7), .val (.int x8), .val (.ref b9), .unset, .unset, .unset] [(.int n_)]))
    refine gob (fun _ k => XS.iconst X12.here hx rfl (hb hby at_106) k) ?_
    show Go _ _ _ _ _ _ _ (T12.setTop (mkF m 107 #[.val (.int p0), .val (.int p1), .val (.int p2), .val (.int p3), .val (.int p4), .val (.int p5), .val (.int n_), .val (.int x1), .val (.int x2), .val (.int x3), .val (.int x4), .val (.int x5), .val (.int x6), .val (.int x7), .val (.int x8), .val (.ref b9), .unset, .unset, .unset] [(.int (2 : Int32)), (.int n_)]))
    have hd35 : n_ < (2 : Int32) := ld_0_107_34 p0 n_ hn_ hc92_33
    refine gob (fun _ k => XS.icmpYes X12.here hx rfl (pc0 := 107) (pc' := 119) rfl (hb hby at_107) rfl (tlt hd35).1 (by decide) (by decide) k) ?_
    show Go _ _ _ _ _ _ _ (T12.setTop (mkF m 119 #[.val (.int p0), .val (.int p1), .val (.int p2), .val (.int p3), .val (.int p4), .val (.int p5), .val (.int n_), .val (.int x1), .val (.int x2), .val (.int x3), .val (.int x4), .val (.int x5), .val (.int x6), .val (.int x7), .val (.int x8), .val (.ref b9), .unset, .unset, .unset] []))
    refine gob (fun _ k => XS.iload X12.here hx rfl (hb hby at_119) rfl k) ?_
    show Go _ _ _ _ _ _ _ (T12.setTop (mkF m 121 #[.val (.int p0), .val (.int p1), .val (.int p2), .val (.int p3), .val (.int p4), .val (.int p5), .val (.int n_), .val (.int x1), .val (.int x2), .val (.int x3), .val (.int x4), .val (.int x5), .val (.int x6), .val (.int x7), .val (.int x8), .val (.ref b9), .unset, .unset, .unset] [(.int n_)]))
    refine gob (fun _ k => XS.iconst X12.here hx rfl (hb hby at_121) k) ?_
    show Go _ _ _ _ _ _ _ (T12.setTop (mkF m 122 #[.val (.int p0), .val (.int p1), .val (.int p2), .val (.int p3), .val (.int p4), .val (.int p5), .val (.int n_), .val (.int x1), .val (.int x2), .val (.int x3), .val (.int x4), .val (.int x5), .val (.int x6), .val (.int x7), .val (.int x8), .val (.ref b9), .unset, .unset, .unset] [(.int (3 : Int32)), (.int n_)]))
    have hd37 : n_ < (3 : Int32) := ld_0_122_36 p0 n_ hn_ hc92_33
    refine gob (fun _ k => XS.icmpYes X12.here hx rfl (pc0 := 122) (pc' := 134) rfl (hb hby at_122) rfl (tlt hd37).1 (by decide) (by decide) k) ?_
    show Go _ _ _ _ _ _ _ (T12.setTop (mkF m 134 #[.val (.int p0), .val (.int p1), .val (.int p2), .val (.int p3), .val (.int p4), .val (.int p5), .val (.int n_), .val (.int x1), .val (.int x2), .val (.int x3), .val (.int x4), .val (.int x5), .val (.int x6), .val (.int x7), .val (.int x8), .val (.ref b9), .unset, .unset, .unset] []))
    refine gob (fun _ k => XS.aload X12.here hx rfl (hb hby at_134) rfl rfl k) ?_
    show Go _ _ _ _ _ _ _ (T12.setTop (mkF m 136 #[.val (.int p0), .val (.int p1), .val (.int p2), .val (.int p3), .val (.int p4), .val (.int p5), .val (.int n_), .val (.int x1), .val (.int x2), .val (.int x3), .val (.int x4), .val (.int x5), .val (.int x6), .val (.int x7), .val (.int x8), .val (.ref b9), .unset, .unset, .unset] [(.ref b9)]))
    have c39 := (A9.keep K12)
    obtain ⟨cq38, kq38, q38a, q38b, q38c⟩ := isOf hZ (rfl : T12.heap = _) c39
    obtain ⟨_, _, ⟨T38, L38, k38, n38⟩, -, X38, ⟨Lc38, hQ38, l38, y38, z38⟩, st38⟩ := X12.virtualBack hx (y := (⟨"com/example/robust_broker/robustbroker/Postings", "trim", "()V"⟩ : MethodName)) (z := (⟨"com/example/robust_broker/robustbroker/Postings", "trim", "()V"⟩ : MethodName)) hown (mvT hZ (hw _ (List.mem_of_getElem? (i := 16) rfl))) (mvT hZ (hw _ (List.mem_of_getElem? (i := 17) rfl))) (notFace_of_selects (args := #[]) (mvT hZ (hw _ (List.mem_of_getElem? (i := 19) rfl)))) (mvT hZ (hw _ (List.mem_of_getElem? (i := 19) rfl))) (mvT hZ (hw _ (List.mem_of_getElem? (i := 18) rfl))) (by decide) (backOf (W := 0) (rmtrim_2_0 l Z a0 hw [] b9 b13 k15 b14 k16 (0 : Int64) T12.heap n0 z32 F24 F23 F22 F27 F26 F25 F20 F21 n28 n30 hn19 c39 g10) hZ (hw _ (List.mem_of_getElem? (i := 20) rfl)) (hw _ (List.mem_of_getElem? (i := 4) rfl)) (by decide) (by decide)) q38a q38c (g := (mkF m 136 #[.val (.int p0), .val (.int p1), .val (.int p2), .val (.int p3), .val (.int p4), .val (.int p5), .val (.int n_), .val (.int x1), .val (.int x2), .val (.int x3), .val (.int x4), .val (.int x5), .val (.int x6), .val (.int x7), .val (.int x8), .val (.ref b9), .unset, .unset, .unset] [(.ref b9)])) rfl (by rw [hml]; rfl) (Steps.refl _) (argsL := []) (rest := []) (lenOf pd_2 rfl) rfl (by show 2 * 0 + _ ≤ _; exact Nat.le_of_eq rfl) (hb hby at_136) (fun _ _ => ⟨rfl, (rfl : T12.heap = _), (by decide : 3 + 2 ≤ _), (by decide : 8 + 0 ≤ _)⟩)
    dsimp only [Pt.U, Pt.locs, Pt.cells, Pt.slots] at X38 l38 y38 z38 st38 hQ38
    subst l38 y38 z38
    obtain ⟨b40, b41, k42, k43, rfl, Nq38, K38, hz44, hz45, hn46, F47, F48, F49, F50, F51, F52, F53, F54⟩ := hQ38
    have N38 := Fr.app N12 Nq38
    have n55 : b9 ≠ b40 := Nat.ne_of_lt (Nat.lt_of_lt_of_le c39.lt hz44)
    have n56 : b13 ≠ b40 := Nat.ne_of_lt (Nat.lt_of_lt_of_le F22.lt hz44)
    have n57 : b14 ≠ b40 := Nat.ne_of_lt (Nat.lt_of_lt_of_le F25.lt hz44)
    have g58 : n0 ≤ b40 := Nat.le_trans z32 hz44
    have n59 : b9 ≠ b41 := Nat.ne_of_lt (Nat.lt_of_lt_of_le c39.lt hz45)
    have n60 : b13 ≠ b41 := Nat.ne_of_lt (Nat.lt_of_lt_of_le F22.lt hz45)
    have n61 : b14 ≠ b41 := Nat.ne_of_lt (Nat.lt_of_lt_of_le F25.lt hz45)
    have g62 : n0 ≤ b41 := Nat.le_trans z32 hz45
    have z63 : n0 ≤ T38.heap.size := Nat.le_trans z32 K38.1
    refine gob (fun _ k => st38.trans k) ?_
    show Go _ _ _ _ _ _ _ (T38.setTop (mkF m 139 #[.val (.int p0), .val (.int p1), .val (.int p2), .val (.int p3), .val (.int p4), .val (.int p5), .val (.int n_), .val (.int x1), .val (.int x2), .val (.int x3), .val (.int x4), .val (.int x5), .val (.int x6), .val (.int x7), .val (.int x8), .val (.ref b9), .unset, .unset, .unset] []))
    refine gob (fun _ k => XS.lconst X38.here hx rfl (hb hby at_139) k) ?_
    show Go _ _ _ _ _ _ _ (T38.setTop (mkF m 140 #[.val (.int p0), .val (.int p1), .val (.int p2), .val (.int p3), .val (.int p4), .val (.int p5), .val (.int n_), .val (.int x1), .val (.int x2), .val (.int x3), .val (.int x4), .val (.int x5), .val (.int x6), .val (.int x7), .val (.int x8), .val (.ref b9), .unset, .unset, .unset] [(.long (0 : Int64))]))
    refine gob (fun _ k => XS.lstore X38.here hx rfl (hb hby at_140) rfl (l' := #[.val (.int p0), .val (.int p1), .val (.int p2), .val (.int p3), .val (.int p4), .val (.int p5), .val (.int n_), .val (.int x1), .val (.int x2), .val (.int x3), .val (.int x4), .val (.int x5), .val (.int x6), .val (.int x7), .val (.int x8), .val (.ref b9), .val (.long (0 : Int64)), .second, .unset]) rfl k) ?_
    show Go _ _ _ _ _ _ _ (T38.setTop (mkF m 142 #[.val (.int p0), .val (.int p1), .val (.int p2), .val (.int p3), .val (.int p4), .val (.int p5), .val (.int n_), .val (.int x1), .val (.int x2), .val (.int x3), .val (.int x4), .val (.int x5), .val (.int x6), .val (.int x7), .val (.int x8), .val (.ref b9), .val (.long (0 : Int64)), .second, .unset] []))
    refine gob (fun _ k => XS.iload X38.here hx rfl (hb hby at_142) rfl k) ?_
    show Go _ _ _ _ _ _ _ (T38.setTop (mkF m 144 #[.val (.int p0), .val (.int p1), .val (.int p2), .val (.int p3), .val (.int p4), .val (.int p5), .val (.int n_), .val (.int x1), .val (.int x2), .val (.int x3), .val (.int x4), .val (.int x5), .val (.int x6), .val (.int x7), .val (.int x8), .val (.ref b9), .val (.long (0 : Int64)), .second, .unset] [(.int n_)]))
    refine gob (fun _ k => XS.iconst X38.here hx rfl (hb hby at_144) k) ?_
    show Go _ _ _ _ _ _ _ (T38.setTop (mkF m 145 #[.val (.int p0), .val (.int p1), .val (.int p2), .val (.int p3), .val (.int p4), .val (.int p5), .val (.int n_), .val (.int x1), .val (.int x2), .val (.int x3), .val (.int x4), .val (.int x5), .val (.int x6), .val (.int x7), .val (.int x8), .val (.ref b9), .val (.long (0 : Int64)), .second, .unset] [(.int (1 : Int32)), (.int n_)]))
    refine gob (fun _ k => XS.icmpYes X38.here hx rfl (pc0 := 145) (pc' := 156) rfl (hb hby at_145) rfl (tlt hc92_33).1 (by decide) (by decide) k) ?_
    show Go _ _ _ _ _ _ _ (T38.setTop (mkF m 156 #[.val (.int p0), .val (.int p1), .val (.int p2), .val (.int p3), .val (.int p4), .val (.int p5), .val (.int n_), .val (.int x1), .val (.int x2), .val (.int x3), .val (.int x4), .val (.int x5), .val (.int x6), .val (.int x7), .val (.int x8), .val (.ref b9), .val (.long (0 : Int64)), .second, .unset] []))
    refine gob (fun _ k => XS.iload X38.here hx rfl (hb hby at_156) rfl k) ?_
    show Go _ _ _ _ _ _ _ (T38.setTop (mkF m 158 #[.val (.int p0), .val (.int p1), .val (.int p2), .val (.int p3), .val (.int p4), .val (.int p5), .val (.int n_), .val (.int x1), .val (.int x2), .val (.int x3), .val (.int x4), .val (.int x5), .val (.int x6), .val (.int x7), .val (.int x8), .val (.ref b9), .val (.long (0 : Int64)), .second, .unset] [(.int n_)]))
    refine gob (fun _ k => XS.iconst X38.here hx rfl (hb hby at_158) k) ?_
    show Go _ _ _ _ _ _ _ (T38.setTop (mkF m 159 #[.val (.int p0), .val (.int p1), .val (.int p2), .val (.int p3), .val (.int p4), .val (.int p5), .val (.int n_), .val (.int x1), .val (.int x2), .val (.int x3), .val (.int x4), .val (.int x5), .val (.int x6), .val (.int x7), .val (.int x8), .val (.ref b9), .val (.long (0 : Int64)), .second, .unset] [(.int (2 : Int32)), (.int n_)]))
    refine gob (fun _ k => XS.icmpYes X38.here hx rfl (pc0 := 159) (pc' := 170) rfl (hb hby at_159) rfl (tlt hd35).1 (by decide) (by decide) k) ?_
    show Go _ _ _ _ _ _ _ (T38.setTop (mkF m 170 #[.val (.int p0), .val (.int p1), .val (.int p2), .val (.int p3), .val (.int p4), .val (.int p5), .val (.int n_), .val (.int x1), .val (.int x2), .val (.int x3), .val (.int x4), .val (.int x5), .val (.int x6), .val (.int x7), .val (.int x8), .val (.ref b9), .val (.long (0 : Int64)), .second, .unset] []))
    refine gob (fun _ k => XS.iload X38.here hx rfl (hb hby at_170) rfl k) ?_
    show Go _ _ _ _ _ _ _ (T38.setTop (mkF m 172 #[.val (.int p0), .val (.int p1), .val (.int p2), .val (.int p3), .val (.int p4), .val (.int p5), .val (.int n_), .val (.int x1), .val (.int x2), .val (.int x3), .val (.int x4), .val (.int x5), .val (.int x6), .val (.int x7), .val (.int x8), .val (.ref b9), .val (.long (0 : Int64)), .second, .unset] [(.int n_)]))
    refine gob (fun _ k => XS.iconst X38.here hx rfl (hb hby at_172) k) ?_
    show Go _ _ _ _ _ _ _ (T38.setTop (mkF m 173 #[.val (.int p0), .val (.int p1), .val (.int p2), .val (.int p3), .val (.int p4), .val (.int p5), .val (.int n_), .val (.int x1), .val (.int x2), .val (.int x3), .val (.int x4), .val (.int x5), .val (.int x6), .val (.int x7), .val (.int x8), .val (.ref b9), .val (.long (0 : Int64)), .second, .unset] [(.int (3 : Int32)), (.int n_)]))
    refine gob (fun _ k => XS.icmpYes X38.here hx rfl (pc0 := 173) (pc' := 184) rfl (hb hby at_173) rfl (tlt hd37).1 (by decide) (by decide) k) ?_
    show Go _ _ _ _ _ _ _ (T38.setTop (mkF m 184 #[.val (.int p0), .val (.int p1), .val (.int p2), .val (.int p3), .val (.int p4), .val (.int p5), .val (.int n_), .val (.int x1), .val (.int x2), .val (.int x3), .val (.int x4), .val (.int x5), .val (.int x6), .val (.int x7), .val (.int x8), .val (.ref b9), .val (.long (0 : Int64)), .second, .unset] []))
    refine gob (fun _ k => XS.aload X38.here hx rfl (hb hby at_184) rfl rfl k) ?_
    show Go _ _ _ _ _ _ _ (T38.setTop (mkF m 186 #[.val (.int p0), .val (.int p1), .val (.int p2), .val (.int p3), .val (.int p4), .val (.int p5), .val (.int n_), .val (.int x1), .val (.int x2), .val (.int x3), .val (.int x4), .val (.int x5), .val (.int x6), .val (.int x7), .val (.int x8), .val (.ref b9), .val (.long (0 : Int64)), .second, .unset] [(.ref b9)]))
    have c65 := (c39.keep K38)
    obtain ⟨cq64, kq64, q64a, q64b, q64c⟩ := isOf hZ (rfl : T38.heap = _) c65
    obtain ⟨_, _, ⟨T64, L64, k64, n64⟩, -, X64, ⟨Lc64, hQ64, l64, y64, z64⟩, st64⟩ := X38.virtualBack hx (y := (⟨"com/example/robust_broker/robustbroker/Postings", "size", "()I"⟩ : MethodName)) (z := (⟨"com/example/robust_broker/robustbroker/Postings", "size", "()I"⟩ : MethodName)) hown (mvT hZ (hw _ (List.mem_of_getElem? (i := 35) rfl))) (mvT hZ (hw _ (List.mem_of_getElem? (i := 36) rfl))) (notFace_of_selects (args := #[]) (mvT hZ (hw _ (List.mem_of_getElem? (i := 38) rfl)))) (mvT hZ (hw _ (List.mem_of_getElem? (i := 38) rfl))) (mvT hZ (hw _ (List.mem_of_getElem? (i := 37) rfl))) (by decide) (backOf (W := 0) (rm6 l Z a0 hw [] b9 (0 : Int32) T38.heap n0 z63 F49) hZ (hw _ (List.mem_of_getElem? (i := 39) rfl)) (hw _ (List.mem_of_getElem? (i := 4) rfl)) (by decide) (by decide)) q64a q64c (g := (mkF m 186 #[.val (.int p0), .val (.int p1), .val (.int p2), .val (.int p3), .val (.int p4), .val (.int p5), .val (.int n_), .val (.int x1), .val (.int x2), .val (.int x3), .val (.int x4), .val (.int x5), .val (.int x6), .val (.int x7), .val (.int x8), .val (.ref b9), .val (.long (0 : Int64)), .second, .unset] [(.ref b9)])) rfl (by rw [hml]; rfl) (Steps.refl _) (argsL := []) (rest := []) (lenOf pd_3 rfl) rfl (by show 2 * 0 + _ ≤ _; exact Nat.le_of_eq rfl) (hb hby at_186) (fun _ _ => ⟨rfl, (rfl : T38.heap = _), (by decide : 5 + 0 ≤ _), (by decide : 8 + 0 ≤ _)⟩)
    dsimp only [Pt.U, Pt.locs, Pt.cells, Pt.slots] at X64 l64 y64 z64 st64 hQ64
    subst l64 y64 z64
    obtain ⟨r64, rfl, hr64, Nq64, e64⟩ := hQ64
    have N64 := Fr.app N38 Nq64
    refine gob (fun _ k => st64.trans k) ?_
    show Go _ _ _ _ _ _ _ (T64.setTop (mkF m 189 #[.val (.int p0), .val (.int p1), .val (.int p2), .val (.int p3), .val (.int p4), .val (.int p5), .val (.int n_), .val (.int x1), .val (.int x2), .val (.int x3), .val (.int x4), .val (.int x5), .val (.int x6), .val (.int x7), .val (.int x8), .val (.ref b9), .val (.long (0 : Int64)), .second, .unset] [(.int r64)]))
    refine gob (fun _ k => XS.iload X64.here hx rfl (hb hby at_189) rfl k) ?_
    show Go _ _ _ _ _ _ _ (T64.setTop (mkF m 191 #[.val (.int p0), .val (.int p1), .val (.int p2), .val (.int p3), .val (.int p4), .val (.int p5), .val (.int n_), .val (.int x1), .val (.int x2), .val (.int x3), .val (.int x4), .val (.int x5), .val (.int x6), .val (.int x7), .val (.int x8), .val (.ref b9), .val (.long (0 : Int64)), .second, .unset] [(.int n_), (.int r64)]))
    have hd67 : r64 = n_ := ld_0_191_66 p0 n_ r64 hn_ hc92_33 hr64
    refine gob (fun _ k => XS.icmpNo X64.here hx rfl (hb hby at_191) rfl (teq hd67).2 k) ?_
    show Go _ _ _ _ _ _ _ (T64.setTop (mkF m 194 #[.val (.int p0), .val (.int p1), .val (.int p2), .val (.int p3), .val (.int p4), .val (.int p5), .val (.int n_), .val (.int x1), .val (.int x2), .val (.int x3), .val (.int x4), .val (.int x5), .val (.int x6), .val (.int x7), .val (.int x8), .val (.ref b9), .val (.long (0 : Int64)), .second, .unset] []))
    refine gob (fun _ k => XS.aload X64.here hx rfl (hb hby at_194) rfl rfl k) ?_
    show Go _ _ _ _ _ _ _ (T64.setTop (mkF m 196 #[.val (.int p0), .val (.int p1), .val (.int p2), .val (.int p3), .val (.int p4), .val (.int p5), .val (.int n_), .val (.int x1), .val (.int x2), .val (.int x3), .val (.int x4), .val (.int x5), .val (.int x6), .val (.int x7), .val (.int x8), .val (.ref b9), .val (.long (0 : Int64)), .second, .unset] [(.ref b9)]))
    obtain ⟨cq68, kq68, q68a, q68b, q68c⟩ := isOf hZ e64 c65
    obtain ⟨_, _, ⟨T68, L68, k68, n68⟩, -, X68, ⟨Lc68, hQ68, l68, y68, z68⟩, st68⟩ := X64.virtualBack hx (y := (⟨"com/example/robust_broker/robustbroker/Postings", "collectionFrequency", "()J"⟩ : MethodName)) (z := (⟨"com/example/robust_broker/robustbroker/Postings", "collectionFrequency", "()J"⟩ : MethodName)) hown (mvT hZ (hw _ (List.mem_of_getElem? (i := 40) rfl))) (mvT hZ (hw _ (List.mem_of_getElem? (i := 41) rfl))) (notFace_of_selects (args := #[]) (mvT hZ (hw _ (List.mem_of_getElem? (i := 43) rfl)))) (mvT hZ (hw _ (List.mem_of_getElem? (i := 43) rfl))) (mvT hZ (hw _ (List.mem_of_getElem? (i := 42) rfl))) (by decide) (backOf (W := 0) (rm7 l Z a0 hw [] b9 (0 : Int64) T38.heap n0 z63 F50) hZ (hw _ (List.mem_of_getElem? (i := 44) rfl)) (hw _ (List.mem_of_getElem? (i := 4) rfl)) (by decide) (by decide)) q68a q68c (g := (mkF m 196 #[.val (.int p0), .val (.int p1), .val (.int p2), .val (.int p3), .val (.int p4), .val (.int p5), .val (.int n_), .val (.int x1), .val (.int x2), .val (.int x3), .val (.int x4), .val (.int x5), .val (.int x6), .val (.int x7), .val (.int x8), .val (.ref b9), .val (.long (0 : Int64)), .second, .unset] [(.ref b9)])) rfl (by rw [hml]; rfl) (Steps.refl _) (argsL := []) (rest := []) (lenOf pd_4 rfl) rfl (by show 2 * 0 + _ ≤ _; exact Nat.le_of_eq rfl) (hb hby at_196) (fun _ _ => ⟨rfl, e64, (by decide : 5 + 0 ≤ _), (by decide : 8 + 0 ≤ _)⟩)
    dsimp only [Pt.U, Pt.locs, Pt.cells, Pt.slots] at X68 l68 y68 z68 st68 hQ68
    subst l68 y68 z68
    obtain ⟨r68, rfl, hr68, Nq68, e68⟩ := hQ68
    have N68 := Fr.app N64 Nq68
    refine gob (fun _ k => st68.trans k) ?_
    show Go _ _ _ _ _ _ _ (T68.setTop (mkF m 199 #[.val (.int p0), .val (.int p1), .val (.int p2), .val (.int p3), .val (.int p4), .val (.int p5), .val (.int n_), .val (.int x1), .val (.int x2), .val (.int x3), .val (.int x4), .val (.int x5), .val (.int x6), .val (.int x7), .val (.int x8), .val (.ref b9), .val (.long (0 : Int64)), .second, .unset] [(.long r68)]))
    refine gob (fun _ k => XS.lload X68.here hx rfl (hb hby at_199) rfl k) ?_
    show Go _ _ _ _ _ _ _ (T68.setTop (mkF m 201 #[.val (.int p0), .val (.int p1), .val (.int p2), .val (.int p3), .val (.int p4), .val (.int p5), .val (.int n_), .val (.int x1), .val (.int x2), .val (.int x3), .val (.int x4), .val (.int x5), .val (.int x6), .val (.int x7), .val (.int x8), .val (.ref b9), .val (.long (0 : Int64)), .second, .unset] [(.long (0 : Int64)), (.long r68)]))
    refine gob (fun _ k => XS.lcmp X68.here hx rfl (hb hby at_201) rfl k) ?_
    show Go _ _ _ _ _ _ _ (T68.setTop (mkF m 202 #[.val (.int p0), .val (.int p1), .val (.int p2), .val (.int p3), .val (.int p4), .val (.int p5), .val (.int n_), .val (.int x1), .val (.int x2), .val (.int x3), .val (.int x4), .val (.int x5), .val (.int x6), .val (.int x7), .val (.int x8), .val (.ref b9), .val (.long (0 : Int64)), .second, .unset] [(.int (lcmpW r68 (0 : Int64)))]))
    have hd70 : r68 = (0 : Int64) := ld_0_202_69 r68 hr68
    refine gob (fun _ k => XS.ifNo X68.here hx rfl (hb hby at_202) rfl ((if0 _ _).trans (teq ((lw_eq _ _).mpr hd70)).2) k) ?_
    show Go _ _ _ _ _ _ _ (T68.setTop (mkF m 205 #[.val (.int p0), .val (.int p1), .val (.int p2), .val (.int p3), .val (.int p4), .val (.int p5), .val (.int n_), .val (.int x1), .val (.int x2), .val (.int x3), .val (.int x4), .val (.int x5), .val (.int x6), .val (.int x7), .val (.int x8), .val (.ref b9), .val (.long (0 : Int64)), .second, .unset] []))
    refine gob (fun _ k => XS.iconst X68.here hx rfl (hb hby at_205) k) ?_
    show Go _ _ _ _ _ _ _ (T68.setTop (mkF m 206 #[.val (.int p0), .val (.int p1), .val (.int p2), .val (.int p3), .val (.int p4), .val (.int p5), .val (.int n_), .val (.int x1), .val (.int x2), .val (.int x3), .val (.int x4), .val (.int x5), .val (.int x6), .val (.int x7), .val (.int x8), .val (.ref b9), .val (.long (0 : Int64)), .second, .unset] [(.int (1 : Int32))]))
    refine gob (fun _ k => XS.goto X68.here hx rfl (pc0 := 206) (pc' := 210) rfl (hb hby at_206) (by decide) (by decide) k) ?_
    show Go _ _ _ _ _ _ _ (T68.setTop (mkF m 210 #[.val (.int p0), .val (.int p1), .val (.int p2), .val (.int p3), .val (.int p4), .val (.int p5), .val (.int n_), .val (.int x1), .val (.int x2), .val (.int x3), .val (.int x4), .val (.int x5), .val (.int x6), .val (.int x7), .val (.int x8), .val (.ref b9), .val (.long (0 : Int64)), .second, .unset] [(.int (1 : Int32))]))
    refine gob (fun _ k => XS.istore X68.here hx rfl (hb hby at_210) rfl (l' := #[.val (.int p0), .val (.int p1), .val (.int p2), .val (.int p3), .val (.int p4), .val (.int p5), .val (.int n_), .val (.int x1), .val (.int x2), .val (.int x3), .val (.int x4), .val (.int x5), .val (.int x6), .val (.int x7), .val (.int x8), .val (.ref b9), .val (.long (0 : Int64)), .second, .val (.int (1 : Int32))]) rfl k) ?_
    show Go _ _ _ _ _ _ _ (T68.setTop (mkF m 212 #[.val (.int p0), .val (.int p1), .val (.int p2), .val (.int p3), .val (.int p4), .val (.int p5), .val (.int n_), .val (.int x1), .val (.int x2), .val (.int x3), .val (.int x4), .val (.int x5), .val (.int x6), .val (.int x7), .val (.int x8), .val (.ref b9), .val (.long (0 : Int64)), .second, .val (.int (1 : Int32))] []))
    refine gob (fun _ k => XS.iload X68.here hx rfl (hb hby at_212) rfl k) ?_
    show Go _ _ _ _ _ _ _ (T68.setTop (mkF m 214 #[.val (.int p0), .val (.int p1), .val (.int p2), .val (.int p3), .val (.int p4), .val (.int p5), .val (.int n_), .val (.int x1), .val (.int x2), .val (.int x3), .val (.int x4), .val (.int x5), .val (.int x6), .val (.int x7), .val (.int x8), .val (.ref b9), .val (.long (0 : Int64)), .second, .val (.int (1 : Int32))] [(.int (1 : Int32))]))
    refine gob (fun _ k => XS.ifNo X68.here hx rfl (hb hby at_214) rfl ((if0 _ _).trans (feq (by decide : ¬ ((1 : Int32) = (0 : Int32)))).1) k) ?_
    show Go _ _ _ _ _ _ _ (T68.setTop (mkF m 217 #[.val (.int p0), .val (.int p1), .val (.int p2), .val (.int p3), .val (.int p4), .val (.int p5), .val (.int n_), .val (.int x1), .val (.int x2), .val (.int x3), .val (.int x4), .val (.int x5), .val (.int x6), .val (.int x7), .val (.int x8), .val (.ref b9), .val (.long (0 : Int64)), .second, .val (.int (1 : Int32))] []))
    refine gob (fun _ k => XS.iload X68.here hx rfl (hb hby at_217) rfl k) ?_
    show Go _ _ _ _ _ _ _ (T68.setTop (mkF m 219 #[.val (.int p0), .val (.int p1), .val (.int p2), .val (.int p3), .val (.int p4), .val (.int p5), .val (.int n_), .val (.int x1), .val (.int x2), .val (.int x3), .val (.int x4), .val (.int x5), .val (.int x6), .val (.int x7), .val (.int x8), .val (.ref b9), .val (.long (0 : Int64)), .second, .val (.int (1 : Int32))] [(.int n_)]))
    refine gob (fun _ k => XS.iconst X68.here hx rfl (hb hby at_219) k) ?_
    show Go _ _ _ _ _ _ _ (T68.setTop (mkF m 220 #[.val (.int p0), .val (.int p1), .val (.int p2), .val (.int p3), .val (.int p4), .val (.int p5), .val (.int n_), .val (.int x1), .val (.int x2), .val (.int x3), .val (.int x4), .val (.int x5), .val (.int x6), .val (.int x7), .val (.int x8), .val (.ref b9), .val (.long (0 : Int64)), .second, .val (.int (1 : Int32))] [(.int (1 : Int32)), (.int n_)]))
    refine gob (fun _ k => XS.icmpYes X68.here hx rfl (pc0 := 220) (pc' := 252) rfl (hb hby at_220) rfl (tlt hc92_33).1 (by decide) (by decide) k) ?_
    show Go _ _ _ _ _ _ _ (T68.setTop (mkF m 252 #[.val (.int p0), .val (.int p1), .val (.int p2), .val (.int p3), .val (.int p4), .val (.int p5), .val (.int n_), .val (.int x1), .val (.int x2), .val (.int x3), .val (.int x4), .val (.int x5), .val (.int x6), .val (.int x7), .val (.int x8), .val (.ref b9), .val (.long (0 : Int64)), .second, .val (.int (1 : Int32))] []))
    refine gob (fun _ k => XS.iload X68.here hx rfl (hb hby at_252) rfl k) ?_
    show Go _ _ _ _ _ _ _ (T68.setTop (mkF m 254 #[.val (.int p0), .val (.int p1), .val (.int p2), .val (.int p3), .val (.int p4), .val (.int p5), .val (.int n_), .val (.int x1), .val (.int x2), .val (.int x3), .val (.int x4), .val (.int x5), .val (.int x6), .val (.int x7), .val (.int x8), .val (.ref b9), .val (.long (0 : Int64)), .second, .val (.int (1 : Int32))] [(.int (1 : Int32))]))
    refine gob (fun _ k => XS.ifNo X68.here hx rfl (hb hby at_254) rfl ((if0 _ _).trans (feq (by decide : ¬ ((1 : Int32) = (0 : Int32)))).1) k) ?_
    show Go _ _ _ _ _ _ _ (T68.setTop (mkF m 257 #[.val (.int p0), .val (.int p1), .val (.int p2), .val (.int p3), .val (.int p4), .val (.int p5), .val (.int n_), .val (.int x1), .val (.int x2), .val (.int x3), .val (.int x4), .val (.int x5), .val (.int x6), .val (.int x7), .val (.int x8), .val (.ref b9), .val (.long (0 : Int64)), .second, .val (.int (1 : Int32))] []))
    refine gob (fun _ k => XS.iload X68.here hx rfl (hb hby at_257) rfl k) ?_
    show Go _ _ _ _ _ _ _ (T68.setTop (mkF m 259 #[.val (.int p0), .val (.int p1), .val (.int p2), .val (.int p3), .val (.int p4), .val (.int p5), .val (.int n_), .val (.int x1), .val (.int x2), .val (.int x3), .val (.int x4), .val (.int x5), .val (.int x6), .val (.int x7), .val (.int x8), .val (.ref b9), .val (.long (0 : Int64)), .second, .val (.int (1 : Int32))] [(.int n_)]))
    refine gob (fun _ k => XS.iconst X68.here hx rfl (hb hby at_259) k) ?_
    show Go _ _ _ _ _ _ _ (T68.setTop (mkF m 260 #[.val (.int p0), .val (.int p1), .val (.int p2), .val (.int p3), .val (.int p4), .val (.int p5), .val (.int n_), .val (.int x1), .val (.int x2), .val (.int x3), .val (.int x4), .val (.int x5), .val (.int x6), .val (.int x7), .val (.int x8), .val (.ref b9), .val (.long (0 : Int64)), .second, .val (.int (1 : Int32))] [(.int (2 : Int32)), (.int n_)]))
    refine gob (fun _ k => XS.icmpYes X68.here hx rfl (pc0 := 260) (pc' := 292) rfl (hb hby at_260) rfl (tlt hd35).1 (by decide) (by decide) k) ?_
    show Go _ _ _ _ _ _ _ (T68.setTop (mkF m 292 #[.val (.int p0), .val (.int p1), .val (.int p2), .val (.int p3), .val (.int p4), .val (.int p5), .val (.int n_), .val (.int x1), .val (.int x2), .val (.int x3), .val (.int x4), .val (.int x5), .val (.int x6), .val (.int x7), .val (.int x8), .val (.ref b9), .val (.long (0 : Int64)), .second, .val (.int (1 : Int32))] []))
    refine gob (fun _ k => XS.iload X68.here hx rfl (hb hby at_292) rfl k) ?_
    show Go _ _ _ _ _ _ _ (T68.setTop (mkF m 294 #[.val (.int p0), .val (.int p1), .val (.int p2), .val (.int p3), .val (.int p4), .val (.int p5), .val (.int n_), .val (.int x1), .val (.int x2), .val (.int x3), .val (.int x4), .val (.int x5), .val (.int x6), .val (.int x7), .val (.int x8), .val (.ref b9), .val (.long (0 : Int64)), .second, .val (.int (1 : Int32))] [(.int (1 : Int32))]))
    refine gob (fun _ k => XS.ifNo X68.here hx rfl (hb hby at_294) rfl ((if0 _ _).trans (feq (by decide : ¬ ((1 : Int32) = (0 : Int32)))).1) k) ?_
    show Go _ _ _ _ _ _ _ (T68.setTop (mkF m 297 #[.val (.int p0), .val (.int p1), .val (.int p2), .val (.int p3), .val (.int p4), .val (.int p5), .val (.int n_), .val (.int x1), .val (.int x2), .val (.int x3), .val (.int x4), .val (.int x5), .val (.int x6), .val (.int x7), .val (.int x8), .val (.ref b9), .val (.long (0 : Int64)), .second, .val (.int (1 : Int32))] []))
    refine gob (fun _ k => XS.iload X68.here hx rfl (hb hby at_297) rfl k) ?_
    show Go _ _ _ _ _ _ _ (T68.setTop (mkF m 299 #[.val (.int p0), .val (.int p1), .val (.int p2), .val (.int p3), .val (.int p4), .val (.int p5), .val (.int n_), .val (.int x1), .val (.int x2), .val (.int x3), .val (.int x4), .val (.int x5), .val (.int x6), .val (.int x7), .val (.int x8), .val (.ref b9), .val (.long (0 : Int64)), .second, .val (.int (1 : Int32))] [(.int n_)]))
    refine gob (fun _ k => XS.iconst X68.here hx rfl (hb hby at_299) k) ?_
    show Go _ _ _ _ _ _ _ (T68.setTop (mkF m 300 #[.val (.int p0), .val (.int p1), .val (.int p2), .val (.int p3), .val (.int p4), .val (.int p5), .val (.int n_), .val (.int x1), .val (.int x2), .val (.int x3), .val (.int x4), .val (.int x5), .val (.int x6), .val (.int x7), .val (.int x8), .val (.ref b9), .val (.long (0 : Int64)), .second, .val (.int (1 : Int32))] [(.int (3 : Int32)), (.int n_)]))
    refine gob (fun _ k => XS.icmpYes X68.here hx rfl (pc0 := 300) (pc' := 332) rfl (hb hby at_300) rfl (tlt hd37).1 (by decide) (by decide) k) ?_
    show Go _ _ _ _ _ _ _ (T68.setTop (mkF m 332 #[.val (.int p0), .val (.int p1), .val (.int p2), .val (.int p3), .val (.int p4), .val (.int p5), .val (.int n_), .val (.int x1), .val (.int x2), .val (.int x3), .val (.int x4), .val (.int x5), .val (.int x6), .val (.int x7), .val (.int x8), .val (.ref b9), .val (.long (0 : Int64)), .second, .val (.int (1 : Int32))] []))
    refine gob (fun _ k => XS.iload X68.here hx rfl (hb hby at_332) rfl k) ?_
    show Go _ _ _ _ _ _ _ (T68.setTop (mkF m 334 #[.val (.int p0), .val (.int p1), .val (.int p2), .val (.int p3), .val (.int p4), .val (.int p5), .val (.int n_), .val (.int x1), .val (.int x2), .val (.int x3), .val (.int x4), .val (.int x5), .val (.int x6), .val (.int x7), .val (.int x8), .val (.ref b9), .val (.long (0 : Int64)), .second, .val (.int (1 : Int32))] [(.int (1 : Int32))]))
    refine gob (fun _ k => XS.ifNo X68.here hx rfl (hb hby at_334) rfl ((if0 _ _).trans (feq (by decide : ¬ ((1 : Int32) = (0 : Int32)))).1) k) ?_
    show Go _ _ _ _ _ _ _ (T68.setTop (mkF m 337 #[.val (.int p0), .val (.int p1), .val (.int p2), .val (.int p3), .val (.int p4), .val (.int p5), .val (.int n_), .val (.int x1), .val (.int x2), .val (.int x3), .val (.int x4), .val (.int x5), .val (.int x6), .val (.int x7), .val (.int x8), .val (.ref b9), .val (.long (0 : Int64)), .second, .val (.int (1 : Int32))] []))
    refine gob (fun _ k => XS.iload X68.here hx rfl (hb hby at_337) rfl k) ?_
    show Go _ _ _ _ _ _ _ (T68.setTop (mkF m 339 #[.val (.int p0), .val (.int p1), .val (.int p2), .val (.int p3), .val (.int p4), .val (.int p5), .val (.int n_), .val (.int x1), .val (.int x2), .val (.int x3), .val (.int x4), .val (.int x5), .val (.int x6), .val (.int x7), .val (.int x8), .val (.ref b9), .val (.long (0 : Int64)), .second, .val (.int (1 : Int32))] [(.int n_)]))
    refine gob (fun _ k => XS.iconst X68.here hx rfl (hb hby at_339) k) ?_
    show Go _ _ _ _ _ _ _ (T68.setTop (mkF m 340 #[.val (.int p0), .val (.int p1), .val (.int p2), .val (.int p3), .val (.int p4), .val (.int p5), .val (.int n_), .val (.int x1), .val (.int x2), .val (.int x3), .val (.int x4), .val (.int x5), .val (.int x6), .val (.int x7), .val (.int x8), .val (.ref b9), .val (.long (0 : Int64)), .second, .val (.int (1 : Int32))] [(.int (1 : Int32)), (.int n_)]))
    refine gob (fun _ k => XS.icmpYes X68.here hx rfl (pc0 := 340) (pc' := 432) rfl (hb hby at_340) rfl (tlt hc92_33).1 (by decide) (by decide) k) ?_
    show Go _ _ _ _ _ _ _ (T68.setTop (mkF m 432 #[.val (.int p0), .val (.int p1), .val (.int p2), .val (.int p3), .val (.int p4), .val (.int p5), .val (.int n_), .val (.int x1), .val (.int x2), .val (.int x3), .val (.int x4), .val (.int x5), .val (.int x6), .val (.int x7), .val (.int x8), .val (.ref b9), .val (.long (0 : Int64)), .second, .val (.int (1 : Int32))] []))
    refine gob (fun _ k => XS.iload X68.here hx rfl (hb hby at_432) rfl k) ?_
    show Go _ _ _ _ _ _ _ (T68.setTop (mkF m 434 #[.val (.int p0), .val (.int p1), .val (.int p2), .val (.int p3), .val (.int p4), .val (.int p5), .val (.int n_), .val (.int x1), .val (.int x2), .val (.int x3), .val (.int x4), .val (.int x5), .val (.int x6), .val (.int x7), .val (.int x8), .val (.ref b9), .val (.long (0 : Int64)), .second, .val (.int (1 : Int32))] [(.int (1 : Int32))]))
    refine goZ X68 hx hlk (t := .boolean) Bd.returns (by simp) (hb hby at_434) (z' := (1 : Int32)) rfl ?_ (by decide) (by decide)
    show Q0 Z p0 p1 p2 p3 p4 p5 h0 n0 (some (.int (1 : Int32))) T68.heap _
    exact ⟨rfl, N68⟩
  · skip
    refine gob (fun _ k => XS.icmpNo X12.here hx rfl (hb hby at_92) rfl (flt hc92_33).1 k) ?_
    show Go _ _ _ _ _ _ _ (T12.setTop (mkF m 95 #[.val (.int p0), .val (.int p1), .val (.int p2), .val (.int p3), .val (.int p4), .val (.int p5), .val (.int n_), .val (.int x1), .val (.int x2), .val (.int x3), .val (.int x4), .val (.int x5), .val (.int x6), .val (.int x7), .val (.int x8), .val (.ref b9), .unset, .unset, .unset] []))
    refine gob (fun _ k => XS.aload X12.here hx rfl (hb hby at_95) rfl rfl k) ?_
    show Go _ _ _ _ _ _ _ (T12.setTop (mkF m 97 #[.val (.int p0), .val (.int p1), .val (.int p2), .val (.int p3), .val (.int p4), .val (.int p5), .val (.int n_), .val (.int x1), .val (.int x2), .val (.int x3), .val (.int x4), .val (.int x5), .val (.int x6), .val (.int x7), .val (.int x8), .val (.ref b9), .unset, .unset, .unset] [(.ref b9)]))
    refine gob (fun _ k => XS.iload X12.here hx rfl (hb hby at_97) rfl k) ?_
    show Go _ _ _ _ _ _ _ (T12.setTop (mkF m 99 #[.val (.int p0), .val (.int p1), .val (.int p2), .val (.int p3), .val (.int p4), .val (.int p5), .val (.int n_), .val (.int x1), .val (.int x2), .val (.int x3), .val (.int x4), .val (.int x5), .val (.int x6), .val (.int x7), .val (.int x8), .val (.ref b9), .unset, .unset, .unset] [(.int x1), (.ref b9)]))
    refine gob (fun _ k => XS.iload X12.here hx rfl (hb hby at_99) rfl k) ?_
    show Go _ _ _ _ _ _ _ (T12.setTop (mkF m 101 #[.val (.int p0), .val (.int p1), .val (.int p2), .val (.int p3), .val (.int p4), .val (.int p5), .val (.int n_), .val (.int x1), .val (.int x2), .val (.int x3), .val (.int x4), .val (.int x5), .val (.int x6), .val (.int x7), .val (.int x8), .val (.ref b9), .unset, .unset, .unset] [(.int x5), (.int x1), (.ref b9)]))
    have c72 := (A9.keep K12)
    obtain ⟨cq71, kq71, q71a, q71b, q71c⟩ := isOf hZ (rfl : T12.heap = _) c72
    obtain ⟨_, _, ⟨T71, L71, k71, n71⟩, -, X71, ⟨Lc71, hQ71, l71, y71, z71⟩, st71⟩ := X12.virtualBack hx (y := (⟨"com/example/robust_broker/robustbroker/Postings", "add", "(II)V"⟩ : MethodName)) (z := (⟨"com/example/robust_broker/robustbroker/Postings", "add", "(II)V"⟩ : MethodName)) hown (mvT hZ (hw _ (List.mem_of_getElem? (i := 47) rfl))) (mvT hZ (hw _ (List.mem_of_getElem? (i := 48) rfl))) (notFace_of_selects (args := #[]) (mvT hZ (hw _ (List.mem_of_getElem? (i := 50) rfl)))) (mvT hZ (hw _ (List.mem_of_getElem? (i := 50) rfl))) (mvT hZ (hw _ (List.mem_of_getElem? (i := 49) rfl))) (by decide) (backOf (W := 0) (rmadd_2_0 l Z a0 hw [] b9 x1 x5 b13 k15 b14 k16 (0 : Int64) T12.heap n0 z32 F24 F23 F22 F27 F26 F25 F20 F21 n28 n30 hn19 g29 g31 c72 g10) hZ (hw _ (List.mem_of_getElem? (i := 51) rfl)) (hw _ (List.mem_of_getElem? (i := 4) rfl)) (by decide) (by decide)) q71a q71c (g := (mkF m 101 #[.val (.int p0), .val (.int p1), .val (.int p2), .val (.int p3), .val (.int p4), .val (.int p5), .val (.int n_), .val (.int x1), .val (.int x2), .val (.int x3), .val (.int x4), .val (.int x5), .val (.int x6), .val (.int x7), .val (.int x8), .val (.ref b9), .unset, .unset, .unset] [(.int x5), (.int x1), (.ref b9)])) rfl (by rw [hml]; rfl) (Steps.refl _) (argsL := [(.int x1), (.int x5)]) (rest := []) (lenOf pd_5 rfl) rfl (by show 2 * 0 + _ ≤ _; exact Nat.le_of_eq rfl) (hb hby at_101) (fun _ _ => ⟨rfl, (rfl : T12.heap = _), (by decide : 3 + 0 ≤ _), (by decide : 8 + 0 ≤ _)⟩)
    dsimp only [Pt.U, Pt.locs, Pt.cells, Pt.slots] at X71 l71 y71 z71 st71 hQ71
    subst l71 y71 z71
    obtain ⟨rfl, Nq71, K71, F73, F74, F75, F76, F77, F78⟩ := hQ71
    have N71 := Fr.app N12 Nq71
    have z79 : n0 ≤ T71.heap.size := Nat.le_trans z32 K71.1
    refine gob (fun _ k => st71.trans k) ?_
    show Go _ _ _ _ _ _ _ (T71.setTop (mkF m 104 #[.val (.int p0), .val (.int p1), .val (.int p2), .val (.int p3), .val (.int p4), .val (.int p5), .val (.int n_), .val (.int x1), .val (.int x2), .val (.int x3), .val (.int x4), .val (.int x5), .val (.int x6), .val (.int x7), .val (.int x8), .val (.ref b9), .unset, .unset, .unset] []))
    refine gob (fun _ k => XS.iload X71.here hx rfl (hb hby at_104) rfl k) ?_
    show Go _ _ _ _ _ _ _ (T71.setTop (mkF m 106 #[.val (.int p0), .val (.int p1), .val (.int p2), .val (.int p3), .val (.int p4), .val (.int p5), .val (.int n_), .val (.int x1), .val (.int x2), .val (.int x3), .val (.int x4), .val (.int x5), .val (.int x6), .val (.int x7), .val (.int x8), .val (.ref b9), .unset, .unset, .unset] [(.int n_)]))
    refine gob (fun _ k => XS.iconst X71.here hx rfl (hb hby at_106) k) ?_
    show Go _ _ _ _ _ _ _ (T71.setTop (mkF m 107 #[.val (.int p0), .val (.int p1), .val (.int p2), .val (.int p3), .val (.int p4), .val (.int p5), .val (.int n_), .val (.int x1), .val (.int x2), .val (.int x3), .val (.int x4), .val (.int x5), .val (.int x6), .val (.int x7), .val (.int x8), .val (.ref b9), .unset, .unset, .unset] [(.int (2 : Int32)), (.int n_)]))
    by_cases hc107_80 : n_ < (2 : Int32)
    · skip
      refine gob (fun _ k => XS.icmpYes X71.here hx rfl (pc0 := 107) (pc' := 119) rfl (hb hby at_107) rfl (tlt hc107_80).1 (by decide) (by decide) k) ?_
      show Go _ _ _ _ _ _ _ (T71.setTop (mkF m 119 #[.val (.int p0), .val (.int p1), .val (.int p2), .val (.int p3), .val (.int p4), .val (.int p5), .val (.int n_), .val (.int x1), .val (.int x2), .val (.int x3), .val (.int x4), .val (.int x5), .val (.int x6), .val (.int x7), .val (.int x8), .val (.ref b9), .unset, .unset, .unset] []))
      refine gob (fun _ k => XS.iload X71.here hx rfl (hb hby at_119) rfl k) ?_
      show Go _ _ _ _ _ _ _ (T71.setTop (mkF m 121 #[.val (.int p0), .val (.int p1), .val (.int p2), .val (.int p3), .val (.int p4), .val (.int p5), .val (.int n_), .val (.int x1), .val (.int x2), .val (.int x3), .val (.int x4), .val (.int x5), .val (.int x6), .val (.int x7), .val (.int x8), .val (.ref b9), .unset, .unset, .unset] [(.int n_)]))
      refine gob (fun _ k => XS.iconst X71.here hx rfl (hb hby at_121) k) ?_
      show Go _ _ _ _ _ _ _ (T71.setTop (mkF m 122 #[.val (.int p0), .val (.int p1), .val (.int p2), .val (.int p3), .val (.int p4), .val (.int p5), .val (.int n_), .val (.int x1), .val (.int x2), .val (.int x3), .val (.int x4), .val (.int x5), .val (.int x6), .val (.int x7), .val (.int x8), .val (.ref b9), .unset, .unset, .unset] [(.int (3 : Int32)), (.int n_)]))
      have hd82 : n_ < (3 : Int32) := ld_0_122_81 p0 n_ hn_ hc92_33 hc107_80
      refine gob (fun _ k => XS.icmpYes X71.here hx rfl (pc0 := 122) (pc' := 134) rfl (hb hby at_122) rfl (tlt hd82).1 (by decide) (by decide) k) ?_
      show Go _ _ _ _ _ _ _ (T71.setTop (mkF m 134 #[.val (.int p0), .val (.int p1), .val (.int p2), .val (.int p3), .val (.int p4), .val (.int p5), .val (.int n_), .val (.int x1), .val (.int x2), .val (.int x3), .val (.int x4), .val (.int x5), .val (.int x6), .val (.int x7), .val (.int x8), .val (.ref b9), .unset, .unset, .unset] []))
      refine gob (fun _ k => XS.aload X71.here hx rfl (hb hby at_134) rfl rfl k) ?_
      show Go _ _ _ _ _ _ _ (T71.setTop (mkF m 136 #[.val (.int p0), .val (.int p1), .val (.int p2), .val (.int p3), .val (.int p4), .val (.int p5), .val (.int n_), .val (.int x1), .val (.int x2), .val (.int x3), .val (.int x4), .val (.int x5), .val (.int x6), .val (.int x7), .val (.int x8), .val (.ref b9), .unset, .unset, .unset] [(.ref b9)]))
      have c84 := (F22.keep K71)
      have c85 := (F25.keep K71)
      have c86 := (c72.keep K71)
      obtain ⟨cq83, kq83, q83a, q83b, q83c⟩ := isOf hZ (rfl : T71.heap = _) c86
      obtain ⟨_, _, ⟨T83, L83, k83, n83⟩, -, X83, ⟨Lc83, hQ83, l83, y83, z83⟩, st83⟩ := X71.virtualBack hx (y := (⟨"com/example/robust_broker/robustbroker/Postings", "trim", "()V"⟩ : MethodName)) (z := (⟨"com/example/robust_broker/robustbroker/Postings", "trim", "()V"⟩ : MethodName)) hown (mvT hZ (hw _ (List.mem_of_getElem? (i := 16) rfl))) (mvT hZ (hw _ (List.mem_of_getElem? (i := 17) rfl))) (notFace_of_selects (args := #[]) (mvT hZ (hw _ (List.mem_of_getElem? (i := 19) rfl)))) (mvT hZ (hw _ (List.mem_of_getElem? (i := 19) rfl))) (mvT hZ (hw _ (List.mem_of_getElem? (i := 18) rfl))) (by decide) (backOf (W := 0) (rmtrim_2_1 l Z a0 hw [] b9 b13 k15 x1 b14 k16 x5 ((0 : Int64) + (x5.toInt64)) T71.heap n0 z79 F73 F74 c84 F75 F76 c85 F77 F78 n28 n30 hn19 c86 g10) hZ (hw _ (List.mem_of_getElem? (i := 20) rfl)) (hw _ (List.mem_of_getElem? (i := 4) rfl)) (by decide) (by decide)) q83a q83c (g := (mkF m 136 #[.val (.int p0), .val (.int p1), .val (.int p2), .val (.int p3), .val (.int p4), .val (.int p5), .val (.int n_), .val (.int x1), .val (.int x2), .val (.int x3), .val (.int x4), .val (.int x5), .val (.int x6), .val (.int x7), .val (.int x8), .val (.ref b9), .unset, .unset, .unset] [(.ref b9)])) rfl (by rw [hml]; rfl) (Steps.refl _) (argsL := []) (rest := []) (lenOf pd_2 rfl) rfl (by show 2 * 0 + _ ≤ _; exact Nat.le_of_eq rfl) (hb hby at_136) (fun _ _ => ⟨rfl, (rfl : T71.heap = _), (by decide : 3 + 2 ≤ _), (by decide : 8 + 2 ≤ _)⟩)
      dsimp only [Pt.U, Pt.locs, Pt.cells, Pt.slots] at X83 l83 y83 z83 st83 hQ83
      subst l83 y83 z83
      obtain ⟨b87, b88, k89, k90, rfl, Nq83, K83, hz91, hz92, hn93, F94, F95, F96, F97, F98, F99, F100, F101⟩ := hQ83
      have N83 := Fr.app N71 Nq83
      have n102 : b9 ≠ b87 := Nat.ne_of_lt (Nat.lt_of_lt_of_le c86.lt hz91)
      have n103 : b13 ≠ b87 := Nat.ne_of_lt (Nat.lt_of_lt_of_le c84.lt hz91)
      have n104 : b14 ≠ b87 := Nat.ne_of_lt (Nat.lt_of_lt_of_le c85.lt hz91)
      have g105 : n0 ≤ b87 := Nat.le_trans z79 hz91
      have n106 : b9 ≠ b88 := Nat.ne_of_lt (Nat.lt_of_lt_of_le c86.lt hz92)
      have n107 : b13 ≠ b88 := Nat.ne_of_lt (Nat.lt_of_lt_of_le c84.lt hz92)
      have n108 : b14 ≠ b88 := Nat.ne_of_lt (Nat.lt_of_lt_of_le c85.lt hz92)
      have g109 : n0 ≤ b88 := Nat.le_trans z79 hz92
      have z110 : n0 ≤ T83.heap.size := Nat.le_trans z79 K83.1
      refine gob (fun _ k => st83.trans k) ?_
      show Go _ _ _ _ _ _ _ (T83.setTop (mkF m 139 #[.val (.int p0), .val (.int p1), .val (.int p2), .val (.int p3), .val (.int p4), .val (.int p5), .val (.int n_), .val (.int x1), .val (.int x2), .val (.int x3), .val (.int x4), .val (.int x5), .val (.int x6), .val (.int x7), .val (.int x8), .val (.ref b9), .unset, .unset, .unset] []))
      refine gob (fun _ k => XS.lconst X83.here hx rfl (hb hby at_139) k) ?_
      show Go _ _ _ _ _ _ _ (T83.setTop (mkF m 140 #[.val (.int p0), .val (.int p1), .val (.int p2), .val (.int p3), .val (.int p4), .val (.int p5), .val (.int n_), .val (.int x1), .val (.int x2), .val (.int x3), .val (.int x4), .val (.int x5), .val (.int x6), .val (.int x7), .val (.int x8), .val (.ref b9), .unset, .unset, .unset] [(.long (0 : Int64))]))
      refine gob (fun _ k => XS.lstore X83.here hx rfl (hb hby at_140) rfl (l' := #[.val (.int p0), .val (.int p1), .val (.int p2), .val (.int p3), .val (.int p4), .val (.int p5), .val (.int n_), .val (.int x1), .val (.int x2), .val (.int x3), .val (.int x4), .val (.int x5), .val (.int x6), .val (.int x7), .val (.int x8), .val (.ref b9), .val (.long (0 : Int64)), .second, .unset]) rfl k) ?_
      show Go _ _ _ _ _ _ _ (T83.setTop (mkF m 142 #[.val (.int p0), .val (.int p1), .val (.int p2), .val (.int p3), .val (.int p4), .val (.int p5), .val (.int n_), .val (.int x1), .val (.int x2), .val (.int x3), .val (.int x4), .val (.int x5), .val (.int x6), .val (.int x7), .val (.int x8), .val (.ref b9), .val (.long (0 : Int64)), .second, .unset] []))
      refine gob (fun _ k => XS.iload X83.here hx rfl (hb hby at_142) rfl k) ?_
      show Go _ _ _ _ _ _ _ (T83.setTop (mkF m 144 #[.val (.int p0), .val (.int p1), .val (.int p2), .val (.int p3), .val (.int p4), .val (.int p5), .val (.int n_), .val (.int x1), .val (.int x2), .val (.int x3), .val (.int x4), .val (.int x5), .val (.int x6), .val (.int x7), .val (.int x8), .val (.ref b9), .val (.long (0 : Int64)), .second, .unset] [(.int n_)]))
      refine gob (fun _ k => XS.iconst X83.here hx rfl (hb hby at_144) k) ?_
      show Go _ _ _ _ _ _ _ (T83.setTop (mkF m 145 #[.val (.int p0), .val (.int p1), .val (.int p2), .val (.int p3), .val (.int p4), .val (.int p5), .val (.int n_), .val (.int x1), .val (.int x2), .val (.int x3), .val (.int x4), .val (.int x5), .val (.int x6), .val (.int x7), .val (.int x8), .val (.ref b9), .val (.long (0 : Int64)), .second, .unset] [(.int (1 : Int32)), (.int n_)]))
      refine gob (fun _ k => XS.icmpNo X83.here hx rfl (hb hby at_145) rfl (flt hc92_33).1 k) ?_
      show Go _ _ _ _ _ _ _ (T83.setTop (mkF m 148 #[.val (.int p0), .val (.int p1), .val (.int p2), .val (.int p3), .val (.int p4), .val (.int p5), .val (.int n_), .val (.int x1), .val (.int x2), .val (.int x3), .val (.int x4), .val (.int x5), .val (.int x6), .val (.int x7), .val (.int x8), .val (.ref b9), .val (.long (0 : Int64)), .second, .unset] []))
      refine gob (fun _ k => XS.lload X83.here hx rfl (hb hby at_148) rfl k) ?_
      show Go _ _ _ _ _ _ _ (T83.setTop (mkF m 150 #[.val (.int p0), .val (.int p1), .val (.int p2), .val (.int p3), .val (.int p4), .val (.int p5), .val (.int n_), .val (.int x1), .val (.int x2), .val (.int x3), .val (.int x4), .val (.int x5), .val (.int x6), .val (.int x7), .val (.int x8), .val (.ref b9), .val (.long (0 : Int64)), .second, .unset] [(.long (0 : Int64))]))
      refine gob (fun _ k => XS.iload X83.here hx rfl (hb hby at_150) rfl k) ?_
      show Go _ _ _ _ _ _ _ (T83.setTop (mkF m 152 #[.val (.int p0), .val (.int p1), .val (.int p2), .val (.int p3), .val (.int p4), .val (.int p5), .val (.int n_), .val (.int x1), .val (.int x2), .val (.int x3), .val (.int x4), .val (.int x5), .val (.int x6), .val (.int x7), .val (.int x8), .val (.ref b9), .val (.long (0 : Int64)), .second, .unset] [(.int x5), (.long (0 : Int64))]))
      refine gob (fun _ k => XS.i2l X83.here hx rfl (hb hby at_152) rfl k) ?_
      show Go _ _ _ _ _ _ _ (T83.setTop (mkF m 153 #[.val (.int p0), .val (.int p1), .val (.int p2), .val (.int p3), .val (.int p4), .val (.int p5), .val (.int n_), .val (.int x1), .val (.int x2), .val (.int x3), .val (.int x4), .val (.int x5), .val (.int x6), .val (.int x7), .val (.int x8), .val (.ref b9), .val (.long (0 : Int64)), .second, .unset] [(.long (x5.toInt64)), (.long (0 : Int64))]))
      refine gob (fun _ k => XS.ladd X83.here hx rfl (hb hby at_153) rfl k) ?_
      show Go _ _ _ _ _ _ _ (T83.setTop (mkF m 154 #[.val (.int p0), .val (.int p1), .val (.int p2), .val (.int p3), .val (.int p4), .val (.int p5), .val (.int n_), .val (.int x1), .val (.int x2), .val (.int x3), .val (.int x4), .val (.int x5), .val (.int x6), .val (.int x7), .val (.int x8), .val (.ref b9), .val (.long (0 : Int64)), .second, .unset] [(.long ((0 : Int64) + (x5.toInt64)))]))
      refine gob (fun _ k => XS.lstore X83.here hx rfl (hb hby at_154) rfl (l' := #[.val (.int p0), .val (.int p1), .val (.int p2), .val (.int p3), .val (.int p4), .val (.int p5), .val (.int n_), .val (.int x1), .val (.int x2), .val (.int x3), .val (.int x4), .val (.int x5), .val (.int x6), .val (.int x7), .val (.int x8), .val (.ref b9), .val (.long ((0 : Int64) + (x5.toInt64))), .second, .unset]) rfl k) ?_
      show Go _ _ _ _ _ _ _ (T83.setTop (mkF m 156 #[.val (.int p0), .val (.int p1), .val (.int p2), .val (.int p3), .val (.int p4), .val (.int p5), .val (.int n_), .val (.int x1), .val (.int x2), .val (.int x3), .val (.int x4), .val (.int x5), .val (.int x6), .val (.int x7), .val (.int x8), .val (.ref b9), .val (.long ((0 : Int64) + (x5.toInt64))), .second, .unset] []))
      generalize hx111 : ((0 : Int64) + (x5.toInt64)) = x111
      show Go _ _ _ _ _ _ _ (T83.setTop (mkF m 156 #[.val (.int p0), .val (.int p1), .val (.int p2), .val (.int p3), .val (.int p4), .val (.int p5), .val (.int n_), .val (.int x1), .val (.int x2), .val (.int x3), .val (.int x4), .val (.int x5), .val (.int x6), .val (.int x7), .val (.int x8), .val (.ref b9), .val (.long x111), .second, .unset] []))
      refine gob (fun _ k => XS.iload X83.here hx rfl (hb hby at_156) rfl k) ?_
      show Go _ _ _ _ _ _ _ (T83.setTop (mkF m 158 #[.val (.int p0), .val (.int p1), .val (.int p2), .val (.int p3), .val (.int p4), .val (.int p5), .val (.int n_), .val (.int x1), .val (.int x2), .val (.int x3), .val (.int x4), .val (.int x5), .val (.int x6), .val (.int x7), .val (.int x8), .val (.ref b9), .val (.long x111), .second, .unset] [(.int n_)]))
      refine gob (fun _ k => XS.iconst X83.here hx rfl (hb hby at_158) k) ?_
      show Go _ _ _ _ _ _ _ (T83.setTop (mkF m 159 #[.val (.int p0), .val (.int p1), .val (.int p2), .val (.int p3), .val (.int p4), .val (.int p5), .val (.int n_), .val (.int x1), .val (.int x2), .val (.int x3), .val (.int x4), .val (.int x5), .val (.int x6), .val (.int x7), .val (.int x8), .val (.ref b9), .val (.long x111), .second, .unset] [(.int (2 : Int32)), (.int n_)]))
      refine gob (fun _ k => XS.icmpYes X83.here hx rfl (pc0 := 159) (pc' := 170) rfl (hb hby at_159) rfl (tlt hc107_80).1 (by decide) (by decide) k) ?_
      show Go _ _ _ _ _ _ _ (T83.setTop (mkF m 170 #[.val (.int p0), .val (.int p1), .val (.int p2), .val (.int p3), .val (.int p4), .val (.int p5), .val (.int n_), .val (.int x1), .val (.int x2), .val (.int x3), .val (.int x4), .val (.int x5), .val (.int x6), .val (.int x7), .val (.int x8), .val (.ref b9), .val (.long x111), .second, .unset] []))
      refine gob (fun _ k => XS.iload X83.here hx rfl (hb hby at_170) rfl k) ?_
      show Go _ _ _ _ _ _ _ (T83.setTop (mkF m 172 #[.val (.int p0), .val (.int p1), .val (.int p2), .val (.int p3), .val (.int p4), .val (.int p5), .val (.int n_), .val (.int x1), .val (.int x2), .val (.int x3), .val (.int x4), .val (.int x5), .val (.int x6), .val (.int x7), .val (.int x8), .val (.ref b9), .val (.long x111), .second, .unset] [(.int n_)]))
      refine gob (fun _ k => XS.iconst X83.here hx rfl (hb hby at_172) k) ?_
      show Go _ _ _ _ _ _ _ (T83.setTop (mkF m 173 #[.val (.int p0), .val (.int p1), .val (.int p2), .val (.int p3), .val (.int p4), .val (.int p5), .val (.int n_), .val (.int x1), .val (.int x2), .val (.int x3), .val (.int x4), .val (.int x5), .val (.int x6), .val (.int x7), .val (.int x8), .val (.ref b9), .val (.long x111), .second, .unset] [(.int (3 : Int32)), (.int n_)]))
      refine gob (fun _ k => XS.icmpYes X83.here hx rfl (pc0 := 173) (pc' := 184) rfl (hb hby at_173) rfl (tlt hd82).1 (by decide) (by decide) k) ?_
      show Go _ _ _ _ _ _ _ (T83.setTop (mkF m 184 #[.val (.int p0), .val (.int p1), .val (.int p2), .val (.int p3), .val (.int p4), .val (.int p5), .val (.int n_), .val (.int x1), .val (.int x2), .val (.int x3), .val (.int x4), .val (.int x5), .val (.int x6), .val (.int x7), .val (.int x8), .val (.ref b9), .val (.long x111), .second, .unset] []))
      refine gob (fun _ k => XS.aload X83.here hx rfl (hb hby at_184) rfl rfl k) ?_
      show Go _ _ _ _ _ _ _ (T83.setTop (mkF m 186 #[.val (.int p0), .val (.int p1), .val (.int p2), .val (.int p3), .val (.int p4), .val (.int p5), .val (.int n_), .val (.int x1), .val (.int x2), .val (.int x3), .val (.int x4), .val (.int x5), .val (.int x6), .val (.int x7), .val (.int x8), .val (.ref b9), .val (.long x111), .second, .unset] [(.ref b9)]))
      have c113 := (c86.keep K83)
      obtain ⟨cq112, kq112, q112a, q112b, q112c⟩ := isOf hZ (rfl : T83.heap = _) c113
      obtain ⟨_, _, ⟨T112, L112, k112, n112⟩, -, X112, ⟨Lc112, hQ112, l112, y112, z112⟩, st112⟩ := X83.virtualBack hx (y := (⟨"com/example/robust_broker/robustbroker/Postings", "size", "()I"⟩ : MethodName)) (z := (⟨"com/example/robust_broker/robustbroker/Postings", "size", "()I"⟩ : MethodName)) hown (mvT hZ (hw _ (List.mem_of_getElem? (i := 35) rfl))) (mvT hZ (hw _ (List.mem_of_getElem? (i := 36) rfl))) (notFace_of_selects (args := #[]) (mvT hZ (hw _ (List.mem_of_getElem? (i := 38) rfl)))) (mvT hZ (hw _ (List.mem_of_getElem? (i := 38) rfl))) (mvT hZ (hw _ (List.mem_of_getElem? (i := 37) rfl))) (by decide) (backOf (W := 0) (rm6 l Z a0 hw [] b9 (1 : Int32) T83.heap n0 z110 F96) hZ (hw _ (List.mem_of_getElem? (i := 39) rfl)) (hw _ (List.mem_of_getElem? (i := 4) rfl)) (by decide) (by decide)) q112a q112c (g := (mkF m 186 #[.val (.int p0), .val (.int p1), .val (.int p2), .val (.int p3), .val (.int p4), .val (.int p5), .val (.int n_), .val (.int x1), .val (.int x2), .val (.int x3), .val (.int x4), .val (.int x5), .val (.int x6), .val (.int x7), .val (.int x8), .val (.ref b9), .val (.long x111), .second, .unset] [(.ref b9)])) rfl (by rw [hml]; rfl) (Steps.refl _) (argsL := []) (rest := []) (lenOf pd_3 rfl) rfl (by show 2 * 0 + _ ≤ _; exact Nat.le_of_eq rfl) (hb hby at_186) (fun _ _ => ⟨rfl, (rfl : T83.heap = _), (by decide : 5 + 0 ≤ _), (by decide : 10 + 0 ≤ _)⟩)
      dsimp only [Pt.U, Pt.locs, Pt.cells, Pt.slots] at X112 l112 y112 z112 st112 hQ112
      subst l112 y112 z112
      obtain ⟨r112, rfl, hr112, Nq112, e112⟩ := hQ112
      have N112 := Fr.app N83 Nq112
      refine gob (fun _ k => st112.trans k) ?_
      show Go _ _ _ _ _ _ _ (T112.setTop (mkF m 189 #[.val (.int p0), .val (.int p1), .val (.int p2), .val (.int p3), .val (.int p4), .val (.int p5), .val (.int n_), .val (.int x1), .val (.int x2), .val (.int x3), .val (.int x4), .val (.int x5), .val (.int x6), .val (.int x7), .val (.int x8), .val (.ref b9), .val (.long x111), .second, .unset] [(.int r112)]))
      refine gob (fun _ k => XS.iload X112.here hx rfl (hb hby at_189) rfl k) ?_
      show Go _ _ _ _ _ _ _ (T112.setTop (mkF m 191 #[.val (.int p0), .val (.int p1), .val (.int p2), .val (.int p3), .val (.int p4), .val (.int p5), .val (.int n_), .val (.int x1), .val (.int x2), .val (.int x3), .val (.int x4), .val (.int x5), .val (.int x6), .val (.int x7), .val (.int x8), .val (.ref b9), .val (.long x111), .second, .unset] [(.int n_), (.int r112)]))
      have hd115 : r112 = n_ := ld_0_191_114 p0 n_ r112 hn_ hc92_33 hc107_80 hr112
      refine gob (fun _ k => XS.icmpNo X112.here hx rfl (hb hby at_191) rfl (teq hd115).2 k) ?_
      show Go _ _ _ _ _ _ _ (T112.setTop (mkF m 194 #[.val (.int p0), .val (.int p1), .val (.int p2), .val (.int p3), .val (.int p4), .val (.int p5), .val (.int n_), .val (.int x1), .val (.int x2), .val (.int x3), .val (.int x4), .val (.int x5), .val (.int x6), .val (.int x7), .val (.int x8), .val (.ref b9), .val (.long x111), .second, .unset] []))
      refine gob (fun _ k => XS.aload X112.here hx rfl (hb hby at_194) rfl rfl k) ?_
      show Go _ _ _ _ _ _ _ (T112.setTop (mkF m 196 #[.val (.int p0), .val (.int p1), .val (.int p2), .val (.int p3), .val (.int p4), .val (.int p5), .val (.int n_), .val (.int x1), .val (.int x2), .val (.int x3), .val (.int x4), .val (.int x5), .val (.int x6), .val (.int x7), .val (.int x8), .val (.ref b9), .val (.long x111), .second, .unset] [(.ref b9)]))
      obtain ⟨cq116, kq116, q116a, q116b, q116c⟩ := isOf hZ e112 c113
      obtain ⟨_, _, ⟨T116, L116, k116, n116⟩, -, X116, ⟨Lc116, hQ116, l116, y116, z116⟩, st116⟩ := X112.virtualBack hx (y := (⟨"com/example/robust_broker/robustbroker/Postings", "collectionFrequency", "()J"⟩ : MethodName)) (z := (⟨"com/example/robust_broker/robustbroker/Postings", "collectionFrequency", "()J"⟩ : MethodName)) hown (mvT hZ (hw _ (List.mem_of_getElem? (i := 40) rfl))) (mvT hZ (hw _ (List.mem_of_getElem? (i := 41) rfl))) (notFace_of_selects (args := #[]) (mvT hZ (hw _ (List.mem_of_getElem? (i := 43) rfl)))) (mvT hZ (hw _ (List.mem_of_getElem? (i := 43) rfl))) (mvT hZ (hw _ (List.mem_of_getElem? (i := 42) rfl))) (by decide) (backOf (W := 0) (rm7 l Z a0 hw [] b9 ((0 : Int64) + (x5.toInt64)) T83.heap n0 z110 F97) hZ (hw _ (List.mem_of_getElem? (i := 44) rfl)) (hw _ (List.mem_of_getElem? (i := 4) rfl)) (by decide) (by decide)) q116a q116c (g := (mkF m 196 #[.val (.int p0), .val (.int p1), .val (.int p2), .val (.int p3), .val (.int p4), .val (.int p5), .val (.int n_), .val (.int x1), .val (.int x2), .val (.int x3), .val (.int x4), .val (.int x5), .val (.int x6), .val (.int x7), .val (.int x8), .val (.ref b9), .val (.long x111), .second, .unset] [(.ref b9)])) rfl (by rw [hml]; rfl) (Steps.refl _) (argsL := []) (rest := []) (lenOf pd_4 rfl) rfl (by show 2 * 0 + _ ≤ _; exact Nat.le_of_eq rfl) (hb hby at_196) (fun _ _ => ⟨rfl, e112, (by decide : 5 + 0 ≤ _), (by decide : 10 + 0 ≤ _)⟩)
      dsimp only [Pt.U, Pt.locs, Pt.cells, Pt.slots] at X116 l116 y116 z116 st116 hQ116
      subst l116 y116 z116
      obtain ⟨r116, rfl, hr116, Nq116, e116⟩ := hQ116
      have N116 := Fr.app N112 Nq116
      refine gob (fun _ k => st116.trans k) ?_
      show Go _ _ _ _ _ _ _ (T116.setTop (mkF m 199 #[.val (.int p0), .val (.int p1), .val (.int p2), .val (.int p3), .val (.int p4), .val (.int p5), .val (.int n_), .val (.int x1), .val (.int x2), .val (.int x3), .val (.int x4), .val (.int x5), .val (.int x6), .val (.int x7), .val (.int x8), .val (.ref b9), .val (.long x111), .second, .unset] [(.long r116)]))
      refine gob (fun _ k => XS.lload X116.here hx rfl (hb hby at_199) rfl k) ?_
      show Go _ _ _ _ _ _ _ (T116.setTop (mkF m 201 #[.val (.int p0), .val (.int p1), .val (.int p2), .val (.int p3), .val (.int p4), .val (.int p5), .val (.int n_), .val (.int x1), .val (.int x2), .val (.int x3), .val (.int x4), .val (.int x5), .val (.int x6), .val (.int x7), .val (.int x8), .val (.ref b9), .val (.long x111), .second, .unset] [(.long x111), (.long r116)]))
      refine gob (fun _ k => XS.lcmp X116.here hx rfl (hb hby at_201) rfl k) ?_
      show Go _ _ _ _ _ _ _ (T116.setTop (mkF m 202 #[.val (.int p0), .val (.int p1), .val (.int p2), .val (.int p3), .val (.int p4), .val (.int p5), .val (.int n_), .val (.int x1), .val (.int x2), .val (.int x3), .val (.int x4), .val (.int x5), .val (.int x6), .val (.int x7), .val (.int x8), .val (.ref b9), .val (.long x111), .second, .unset] [(.int (lcmpW r116 x111))]))
      have hd118 : r116 = x111 := ld_0_202_117 p4 x5 x111 r116 hx5 hx111 hr116
      refine gob (fun _ k => XS.ifNo X116.here hx rfl (hb hby at_202) rfl ((if0 _ _).trans (teq ((lw_eq _ _).mpr hd118)).2) k) ?_
      show Go _ _ _ _ _ _ _ (T116.setTop (mkF m 205 #[.val (.int p0), .val (.int p1), .val (.int p2), .val (.int p3), .val (.int p4), .val (.int p5), .val (.int n_), .val (.int x1), .val (.int x2), .val (.int x3), .val (.int x4), .val (.int x5), .val (.int x6), .val (.int x7), .val (.int x8), .val (.ref b9), .val (.long x111), .second, .unset] []))
      refine gob (fun _ k => XS.iconst X116.here hx rfl (hb hby at_205) k) ?_
      show Go _ _ _ _ _ _ _ (T116.setTop (mkF m 206 #[.val (.int p0), .val (.int p1), .val (.int p2), .val (.int p3), .val (.int p4), .val (.int p5), .val (.int n_), .val (.int x1), .val (.int x2), .val (.int x3), .val (.int x4), .val (.int x5), .val (.int x6), .val (.int x7), .val (.int x8), .val (.ref b9), .val (.long x111), .second, .unset] [(.int (1 : Int32))]))
      refine gob (fun _ k => XS.goto X116.here hx rfl (pc0 := 206) (pc' := 210) rfl (hb hby at_206) (by decide) (by decide) k) ?_
      show Go _ _ _ _ _ _ _ (T116.setTop (mkF m 210 #[.val (.int p0), .val (.int p1), .val (.int p2), .val (.int p3), .val (.int p4), .val (.int p5), .val (.int n_), .val (.int x1), .val (.int x2), .val (.int x3), .val (.int x4), .val (.int x5), .val (.int x6), .val (.int x7), .val (.int x8), .val (.ref b9), .val (.long x111), .second, .unset] [(.int (1 : Int32))]))
      refine gob (fun _ k => XS.istore X116.here hx rfl (hb hby at_210) rfl (l' := #[.val (.int p0), .val (.int p1), .val (.int p2), .val (.int p3), .val (.int p4), .val (.int p5), .val (.int n_), .val (.int x1), .val (.int x2), .val (.int x3), .val (.int x4), .val (.int x5), .val (.int x6), .val (.int x7), .val (.int x8), .val (.ref b9), .val (.long x111), .second, .val (.int (1 : Int32))]) rfl k) ?_
      show Go _ _ _ _ _ _ _ (T116.setTop (mkF m 212 #[.val (.int p0), .val (.int p1), .val (.int p2), .val (.int p3), .val (.int p4), .val (.int p5), .val (.int n_), .val (.int x1), .val (.int x2), .val (.int x3), .val (.int x4), .val (.int x5), .val (.int x6), .val (.int x7), .val (.int x8), .val (.ref b9), .val (.long x111), .second, .val (.int (1 : Int32))] []))
      refine gob (fun _ k => XS.iload X116.here hx rfl (hb hby at_212) rfl k) ?_
      show Go _ _ _ _ _ _ _ (T116.setTop (mkF m 214 #[.val (.int p0), .val (.int p1), .val (.int p2), .val (.int p3), .val (.int p4), .val (.int p5), .val (.int n_), .val (.int x1), .val (.int x2), .val (.int x3), .val (.int x4), .val (.int x5), .val (.int x6), .val (.int x7), .val (.int x8), .val (.ref b9), .val (.long x111), .second, .val (.int (1 : Int32))] [(.int (1 : Int32))]))
      refine gob (fun _ k => XS.ifNo X116.here hx rfl (hb hby at_214) rfl ((if0 _ _).trans (feq (by decide : ¬ ((1 : Int32) = (0 : Int32)))).1) k) ?_
      show Go _ _ _ _ _ _ _ (T116.setTop (mkF m 217 #[.val (.int p0), .val (.int p1), .val (.int p2), .val (.int p3), .val (.int p4), .val (.int p5), .val (.int n_), .val (.int x1), .val (.int x2), .val (.int x3), .val (.int x4), .val (.int x5), .val (.int x6), .val (.int x7), .val (.int x8), .val (.ref b9), .val (.long x111), .second, .val (.int (1 : Int32))] []))
      refine gob (fun _ k => XS.iload X116.here hx rfl (hb hby at_217) rfl k) ?_
      show Go _ _ _ _ _ _ _ (T116.setTop (mkF m 219 #[.val (.int p0), .val (.int p1), .val (.int p2), .val (.int p3), .val (.int p4), .val (.int p5), .val (.int n_), .val (.int x1), .val (.int x2), .val (.int x3), .val (.int x4), .val (.int x5), .val (.int x6), .val (.int x7), .val (.int x8), .val (.ref b9), .val (.long x111), .second, .val (.int (1 : Int32))] [(.int n_)]))
      refine gob (fun _ k => XS.iconst X116.here hx rfl (hb hby at_219) k) ?_
      show Go _ _ _ _ _ _ _ (T116.setTop (mkF m 220 #[.val (.int p0), .val (.int p1), .val (.int p2), .val (.int p3), .val (.int p4), .val (.int p5), .val (.int n_), .val (.int x1), .val (.int x2), .val (.int x3), .val (.int x4), .val (.int x5), .val (.int x6), .val (.int x7), .val (.int x8), .val (.ref b9), .val (.long x111), .second, .val (.int (1 : Int32))] [(.int (1 : Int32)), (.int n_)]))
      refine gob (fun _ k => XS.icmpNo X116.here hx rfl (hb hby at_220) rfl (flt hc92_33).1 k) ?_
      show Go _ _ _ _ _ _ _ (T116.setTop (mkF m 223 #[.val (.int p0), .val (.int p1), .val (.int p2), .val (.int p3), .val (.int p4), .val (.int p5), .val (.int n_), .val (.int x1), .val (.int x2), .val (.int x3), .val (.int x4), .val (.int x5), .val (.int x6), .val (.int x7), .val (.int x8), .val (.ref b9), .val (.long x111), .second, .val (.int (1 : Int32))] []))
      refine gob (fun _ k => XS.aload X116.here hx rfl (hb hby at_223) rfl rfl k) ?_
      show Go _ _ _ _ _ _ _ (T116.setTop (mkF m 225 #[.val (.int p0), .val (.int p1), .val (.int p2), .val (.int p3), .val (.int p4), .val (.int p5), .val (.int n_), .val (.int x1), .val (.int x2), .val (.int x3), .val (.int x4), .val (.int x5), .val (.int x6), .val (.int x7), .val (.int x8), .val (.ref b9), .val (.long x111), .second, .val (.int (1 : Int32))] [(.ref b9)]))
      refine gob (fun _ k => XS.iconst X116.here hx rfl (hb hby at_225) k) ?_
      show Go _ _ _ _ _ _ _ (T116.setTop (mkF m 226 #[.val (.int p0), .val (.int p1), .val (.int p2), .val (.int p3), .val (.int p4), .val (.int p5), .val (.int n_), .val (.int x1), .val (.int x2), .val (.int x3), .val (.int x4), .val (.int x5), .val (.int x6), .val (.int x7), .val (.int x8), .val (.ref b9), .val (.long x111), .second, .val (.int (1 : Int32))] [(.int (0 : Int32)), (.ref b9)]))
      obtain ⟨cq119, kq119, q119a, q119b, q119c⟩ := isOf hZ e116 c113
      obtain ⟨_, _, ⟨T119, L119, k119, n119⟩, -, X119, ⟨Lc119, hQ119, l119, y119, z119⟩, st119⟩ := X116.virtualBack hx (y := (⟨"com/example/robust_broker/robustbroker/Postings", "document", "(I)I"⟩ : MethodName)) (z := (⟨"com/example/robust_broker/robustbroker/Postings", "document", "(I)I"⟩ : MethodName)) hown (mvT hZ (hw _ (List.mem_of_getElem? (i := 52) rfl))) (mvT hZ (hw _ (List.mem_of_getElem? (i := 53) rfl))) (notFace_of_selects (args := #[]) (mvT hZ (hw _ (List.mem_of_getElem? (i := 55) rfl)))) (mvT hZ (hw _ (List.mem_of_getElem? (i := 55) rfl))) (mvT hZ (hw _ (List.mem_of_getElem? (i := 54) rfl))) (by decide) (backOf (W := 0) (rmdoc_1_1 l Z a0 hw [] b9 (0 : Int32) b87 k89 x1 T83.heap n0 z110 F94 F99 F98 (la_0_226_120  ) (la_0_226_121  )) hZ (hw _ (List.mem_of_getElem? (i := 56) rfl)) (hw _ (List.mem_of_getElem? (i := 4) rfl)) (by decide) (by decide)) q119a q119c (g := (mkF m 226 #[.val (.int p0), .val (.int p1), .val (.int p2), .val (.int p3), .val (.int p4), .val (.int p5), .val (.int n_), .val (.int x1), .val (.int x2), .val (.int x3), .val (.int x4), .val (.int x5), .val (.int x6), .val (.int x7), .val (.int x8), .val (.ref b9), .val (.long x111), .second, .val (.int (1 : Int32))] [(.int (0 : Int32)), (.ref b9)])) rfl (by rw [hml]; rfl) (Steps.refl _) (argsL := [(.int (0 : Int32))]) (rest := []) (lenOf pd_6 rfl) rfl (by show 2 * 0 + _ ≤ _; exact Nat.le_of_eq rfl) (hb hby at_226) (fun _ _ => ⟨rfl, e116, (by decide : 5 + 0 ≤ _), (by decide : 10 + 0 ≤ _)⟩)
      dsimp only [Pt.U, Pt.locs, Pt.cells, Pt.slots] at X119 l119 y119 z119 st119 hQ119
      subst l119 y119 z119
      obtain ⟨r119, rfl, hr119, Nq119, e119⟩ := hQ119
      have N119 := Fr.app N116 Nq119
      refine gob (fun _ k => st119.trans k) ?_
      show Go _ _ _ _ _ _ _ (T119.setTop (mkF m 229 #[.val (.int p0), .val (.int p1), .val (.int p2), .val (.int p3), .val (.int p4), .val (.int p5), .val (.int n_), .val (.int x1), .val (.int x2), .val (.int x3), .val (.int x4), .val (.int x5), .val (.int x6), .val (.int x7), .val (.int x8), .val (.ref b9), .val (.long x111), .second, .val (.int (1 : Int32))] [(.int r119)]))
      refine gob (fun _ k => XS.iload X119.here hx rfl (hb hby at_229) rfl k) ?_
      show Go _ _ _ _ _ _ _ (T119.setTop (mkF m 231 #[.val (.int p0), .val (.int p1), .val (.int p2), .val (.int p3), .val (.int p4), .val (.int p5), .val (.int n_), .val (.int x1), .val (.int x2), .val (.int x3), .val (.int x4), .val (.int x5), .val (.int x6), .val (.int x7), .val (.int x8), .val (.ref b9), .val (.long x111), .second, .val (.int (1 : Int32))] [(.int x1), (.int r119)]))
      have hd123 : r119 = x1 := ld_0_231_122 p1 x1 r119 hx1 hr119
      refine gob (fun _ k => XS.icmpNo X119.here hx rfl (hb hby at_231) rfl (teq hd123).2 k) ?_
      show Go _ _ _ _ _ _ _ (T119.setTop (mkF m 234 #[.val (.int p0), .val (.int p1), .val (.int p2), .val (.int p3), .val (.int p4), .val (.int p5), .val (.int n_), .val (.int x1), .val (.int x2), .val (.int x3), .val (.int x4), .val (.int x5), .val (.int x6), .val (.int x7), .val (.int x8), .val (.ref b9), .val (.long x111), .second, .val (.int (1 : Int32))] []))
      refine gob (fun _ k => XS.aload X119.here hx rfl (hb hby at_234) rfl rfl k) ?_
      show Go _ _ _ _ _ _ _ (T119.setTop (mkF m 236 #[.val (.int p0), .val (.int p1), .val (.int p2), .val (.int p3), .val (.int p4), .val (.int p5), .val (.int n_), .val (.int x1), .val (.int x2), .val (.int x3), .val (.int x4), .val (.int x5), .val (.int x6), .val (.int x7), .val (.int x8), .val (.ref b9), .val (.long x111), .second, .val (.int (1 : Int32))] [(.ref b9)]))
      refine gob (fun _ k => XS.iconst X119.here hx rfl (hb hby at_236) k) ?_
      show Go _ _ _ _ _ _ _ (T119.setTop (mkF m 237 #[.val (.int p0), .val (.int p1), .val (.int p2), .val (.int p3), .val (.int p4), .val (.int p5), .val (.int n_), .val (.int x1), .val (.int x2), .val (.int x3), .val (.int x4), .val (.int x5), .val (.int x6), .val (.int x7), .val (.int x8), .val (.ref b9), .val (.long x111), .second, .val (.int (1 : Int32))] [(.int (0 : Int32)), (.ref b9)]))
      obtain ⟨cq124, kq124, q124a, q124b, q124c⟩ := isOf hZ e119 c113
      obtain ⟨_, _, ⟨T124, L124, k124, n124⟩, -, X124, ⟨Lc124, hQ124, l124, y124, z124⟩, st124⟩ := X119.virtualBack hx (y := (⟨"com/example/robust_broker/robustbroker/Postings", "frequency", "(I)I"⟩ : MethodName)) (z := (⟨"com/example/robust_broker/robustbroker/Postings", "frequency", "(I)I"⟩ : MethodName)) hown (mvT hZ (hw _ (List.mem_of_getElem? (i := 57) rfl))) (mvT hZ (hw _ (List.mem_of_getElem? (i := 58) rfl))) (notFace_of_selects (args := #[]) (mvT hZ (hw _ (List.mem_of_getElem? (i := 60) rfl)))) (mvT hZ (hw _ (List.mem_of_getElem? (i := 60) rfl))) (mvT hZ (hw _ (List.mem_of_getElem? (i := 59) rfl))) (by decide) (backOf (W := 0) (rmfre_1_1 l Z a0 hw [] b9 (0 : Int32) b88 k90 x5 T83.heap n0 z110 F95 F101 F100 (la_0_237_125  ) (la_0_237_126  )) hZ (hw _ (List.mem_of_getElem? (i := 61) rfl)) (hw _ (List.mem_of_getElem? (i := 4) rfl)) (by decide) (by decide)) q124a q124c (g := (mkF m 237 #[.val (.int p0), .val (.int p1), .val (.int p2), .val (.int p3), .val (.int p4), .val (.int p5), .val (.int n_), .val (.int x1), .val (.int x2), .val (.int x3), .val (.int x4), .val (.int x5), .val (.int x6), .val (.int x7), .val (.int x8), .val (.ref b9), .val (.long x111), .second, .val (.int (1 : Int32))] [(.int (0 : Int32)), (.ref b9)])) rfl (by rw [hml]; rfl) (Steps.refl _) (argsL := [(.int (0 : Int32))]) (rest := []) (lenOf pd_6 rfl) rfl (by show 2 * 0 + _ ≤ _; exact Nat.le_of_eq rfl) (hb hby at_237) (fun _ _ => ⟨rfl, e119, (by decide : 5 + 0 ≤ _), (by decide : 10 + 0 ≤ _)⟩)
      dsimp only [Pt.U, Pt.locs, Pt.cells, Pt.slots] at X124 l124 y124 z124 st124 hQ124
      subst l124 y124 z124
      obtain ⟨r124, rfl, hr124, Nq124, e124⟩ := hQ124
      have N124 := Fr.app N119 Nq124
      refine gob (fun _ k => st124.trans k) ?_
      show Go _ _ _ _ _ _ _ (T124.setTop (mkF m 240 #[.val (.int p0), .val (.int p1), .val (.int p2), .val (.int p3), .val (.int p4), .val (.int p5), .val (.int n_), .val (.int x1), .val (.int x2), .val (.int x3), .val (.int x4), .val (.int x5), .val (.int x6), .val (.int x7), .val (.int x8), .val (.ref b9), .val (.long x111), .second, .val (.int (1 : Int32))] [(.int r124)]))
      refine gob (fun _ k => XS.iload X124.here hx rfl (hb hby at_240) rfl k) ?_
      show Go _ _ _ _ _ _ _ (T124.setTop (mkF m 242 #[.val (.int p0), .val (.int p1), .val (.int p2), .val (.int p3), .val (.int p4), .val (.int p5), .val (.int n_), .val (.int x1), .val (.int x2), .val (.int x3), .val (.int x4), .val (.int x5), .val (.int x6), .val (.int x7), .val (.int x8), .val (.ref b9), .val (.long x111), .second, .val (.int (1 : Int32))] [(.int x5), (.int r124)]))
      have hd128 : r124 = x5 := ld_0_242_127 p4 x5 r124 hx5 hr124
      refine gob (fun _ k => XS.icmpNo X124.here hx rfl (hb hby at_242) rfl (teq hd128).2 k) ?_
      show Go _ _ _ _ _ _ _ (T124.setTop (mkF m 245 #[.val (.int p0), .val (.int p1), .val (.int p2), .val (.int p3), .val (.int p4), .val (.int p5), .val (.int n_), .val (.int x1), .val (.int x2), .val (.int x3), .val (.int x4), .val (.int x5), .val (.int x6), .val (.int x7), .val (.int x8), .val (.ref b9), .val (.long x111), .second, .val (.int (1 : Int32))] []))
      refine gob (fun _ k => XS.iconst X124.here hx rfl (hb hby at_245) k) ?_
      show Go _ _ _ _ _ _ _ (T124.setTop (mkF m 246 #[.val (.int p0), .val (.int p1), .val (.int p2), .val (.int p3), .val (.int p4), .val (.int p5), .val (.int n_), .val (.int x1), .val (.int x2), .val (.int x3), .val (.int x4), .val (.int x5), .val (.int x6), .val (.int x7), .val (.int x8), .val (.ref b9), .val (.long x111), .second, .val (.int (1 : Int32))] [(.int (1 : Int32))]))
      refine gob (fun _ k => XS.goto X124.here hx rfl (pc0 := 246) (pc' := 250) rfl (hb hby at_246) (by decide) (by decide) k) ?_
      show Go _ _ _ _ _ _ _ (T124.setTop (mkF m 250 #[.val (.int p0), .val (.int p1), .val (.int p2), .val (.int p3), .val (.int p4), .val (.int p5), .val (.int n_), .val (.int x1), .val (.int x2), .val (.int x3), .val (.int x4), .val (.int x5), .val (.int x6), .val (.int x7), .val (.int x8), .val (.ref b9), .val (.long x111), .second, .val (.int (1 : Int32))] [(.int (1 : Int32))]))
      refine gob (fun _ k => XS.istore X124.here hx rfl (hb hby at_250) rfl (l' := #[.val (.int p0), .val (.int p1), .val (.int p2), .val (.int p3), .val (.int p4), .val (.int p5), .val (.int n_), .val (.int x1), .val (.int x2), .val (.int x3), .val (.int x4), .val (.int x5), .val (.int x6), .val (.int x7), .val (.int x8), .val (.ref b9), .val (.long x111), .second, .val (.int (1 : Int32))]) rfl k) ?_
      show Go _ _ _ _ _ _ _ (T124.setTop (mkF m 252 #[.val (.int p0), .val (.int p1), .val (.int p2), .val (.int p3), .val (.int p4), .val (.int p5), .val (.int n_), .val (.int x1), .val (.int x2), .val (.int x3), .val (.int x4), .val (.int x5), .val (.int x6), .val (.int x7), .val (.int x8), .val (.ref b9), .val (.long x111), .second, .val (.int (1 : Int32))] []))
      refine gob (fun _ k => XS.iload X124.here hx rfl (hb hby at_252) rfl k) ?_
      show Go _ _ _ _ _ _ _ (T124.setTop (mkF m 254 #[.val (.int p0), .val (.int p1), .val (.int p2), .val (.int p3), .val (.int p4), .val (.int p5), .val (.int n_), .val (.int x1), .val (.int x2), .val (.int x3), .val (.int x4), .val (.int x5), .val (.int x6), .val (.int x7), .val (.int x8), .val (.ref b9), .val (.long x111), .second, .val (.int (1 : Int32))] [(.int (1 : Int32))]))
      refine gob (fun _ k => XS.ifNo X124.here hx rfl (hb hby at_254) rfl ((if0 _ _).trans (feq (by decide : ¬ ((1 : Int32) = (0 : Int32)))).1) k) ?_
      show Go _ _ _ _ _ _ _ (T124.setTop (mkF m 257 #[.val (.int p0), .val (.int p1), .val (.int p2), .val (.int p3), .val (.int p4), .val (.int p5), .val (.int n_), .val (.int x1), .val (.int x2), .val (.int x3), .val (.int x4), .val (.int x5), .val (.int x6), .val (.int x7), .val (.int x8), .val (.ref b9), .val (.long x111), .second, .val (.int (1 : Int32))] []))
      refine gob (fun _ k => XS.iload X124.here hx rfl (hb hby at_257) rfl k) ?_
      show Go _ _ _ _ _ _ _ (T124.setTop (mkF m 259 #[.val (.int p0), .val (.int p1), .val (.int p2), .val (.int p3), .val (.int p4), .val (.int p5), .val (.int n_), .val (.int x1), .val (.int x2), .val (.int x3), .val (.int x4), .val (.int x5), .val (.int x6), .val (.int x7), .val (.int x8), .val (.ref b9), .val (.long x111), .second, .val (.int (1 : Int32))] [(.int n_)]))
      refine gob (fun _ k => XS.iconst X124.here hx rfl (hb hby at_259) k) ?_
      show Go _ _ _ _ _ _ _ (T124.setTop (mkF m 260 #[.val (.int p0), .val (.int p1), .val (.int p2), .val (.int p3), .val (.int p4), .val (.int p5), .val (.int n_), .val (.int x1), .val (.int x2), .val (.int x3), .val (.int x4), .val (.int x5), .val (.int x6), .val (.int x7), .val (.int x8), .val (.ref b9), .val (.long x111), .second, .val (.int (1 : Int32))] [(.int (2 : Int32)), (.int n_)]))
      refine gob (fun _ k => XS.icmpYes X124.here hx rfl (pc0 := 260) (pc' := 292) rfl (hb hby at_260) rfl (tlt hc107_80).1 (by decide) (by decide) k) ?_
      show Go _ _ _ _ _ _ _ (T124.setTop (mkF m 292 #[.val (.int p0), .val (.int p1), .val (.int p2), .val (.int p3), .val (.int p4), .val (.int p5), .val (.int n_), .val (.int x1), .val (.int x2), .val (.int x3), .val (.int x4), .val (.int x5), .val (.int x6), .val (.int x7), .val (.int x8), .val (.ref b9), .val (.long x111), .second, .val (.int (1 : Int32))] []))
      refine gob (fun _ k => XS.iload X124.here hx rfl (hb hby at_292) rfl k) ?_
      show Go _ _ _ _ _ _ _ (T124.setTop (mkF m 294 #[.val (.int p0), .val (.int p1), .val (.int p2), .val (.int p3), .val (.int p4), .val (.int p5), .val (.int n_), .val (.int x1), .val (.int x2), .val (.int x3), .val (.int x4), .val (.int x5), .val (.int x6), .val (.int x7), .val (.int x8), .val (.ref b9), .val (.long x111), .second, .val (.int (1 : Int32))] [(.int (1 : Int32))]))
      refine gob (fun _ k => XS.ifNo X124.here hx rfl (hb hby at_294) rfl ((if0 _ _).trans (feq (by decide : ¬ ((1 : Int32) = (0 : Int32)))).1) k) ?_
      show Go _ _ _ _ _ _ _ (T124.setTop (mkF m 297 #[.val (.int p0), .val (.int p1), .val (.int p2), .val (.int p3), .val (.int p4), .val (.int p5), .val (.int n_), .val (.int x1), .val (.int x2), .val (.int x3), .val (.int x4), .val (.int x5), .val (.int x6), .val (.int x7), .val (.int x8), .val (.ref b9), .val (.long x111), .second, .val (.int (1 : Int32))] []))
      refine gob (fun _ k => XS.iload X124.here hx rfl (hb hby at_297) rfl k) ?_
      show Go _ _ _ _ _ _ _ (T124.setTop (mkF m 299 #[.val (.int p0), .val (.int p1), .val (.int p2), .val (.int p3), .val (.int p4), .val (.int p5), .val (.int n_), .val (.int x1), .val (.int x2), .val (.int x3), .val (.int x4), .val (.int x5), .val (.int x6), .val (.int x7), .val (.int x8), .val (.ref b9), .val (.long x111), .second, .val (.int (1 : Int32))] [(.int n_)]))
      refine gob (fun _ k => XS.iconst X124.here hx rfl (hb hby at_299) k) ?_
      show Go _ _ _ _ _ _ _ (T124.setTop (mkF m 300 #[.val (.int p0), .val (.int p1), .val (.int p2), .val (.int p3), .val (.int p4), .val (.int p5), .val (.int n_), .val (.int x1), .val (.int x2), .val (.int x3), .val (.int x4), .val (.int x5), .val (.int x6), .val (.int x7), .val (.int x8), .val (.ref b9), .val (.long x111), .second, .val (.int (1 : Int32))] [(.int (3 : Int32)), (.int n_)]))
      refine gob (fun _ k => XS.icmpYes X124.here hx rfl (pc0 := 300) (pc' := 332) rfl (hb hby at_300) rfl (tlt hd82).1 (by decide) (by decide) k) ?_
      show Go _ _ _ _ _ _ _ (T124.setTop (mkF m 332 #[.val (.int p0), .val (.int p1), .val (.int p2), .val (.int p3), .val (.int p4), .val (.int p5), .val (.int n_), .val (.int x1), .val (.int x2), .val (.int x3), .val (.int x4), .val (.int x5), .val (.int x6), .val (.int x7), .val (.int x8), .val (.ref b9), .val (.long x111), .second, .val (.int (1 : Int32))] []))
      refine gob (fun _ k => XS.iload X124.here hx rfl (hb hby at_332) rfl k) ?_
      show Go _ _ _ _ _ _ _ (T124.setTop (mkF m 334 #[.val (.int p0), .val (.int p1), .val (.int p2), .val (.int p3), .val (.int p4), .val (.int p5), .val (.int n_), .val (.int x1), .val (.int x2), .val (.int x3), .val (.int x4), .val (.int x5), .val (.int x6), .val (.int x7), .val (.int x8), .val (.ref b9), .val (.long x111), .second, .val (.int (1 : Int32))] [(.int (1 : Int32))]))
      refine gob (fun _ k => XS.ifNo X124.here hx rfl (hb hby at_334) rfl ((if0 _ _).trans (feq (by decide : ¬ ((1 : Int32) = (0 : Int32)))).1) k) ?_
      show Go _ _ _ _ _ _ _ (T124.setTop (mkF m 337 #[.val (.int p0), .val (.int p1), .val (.int p2), .val (.int p3), .val (.int p4), .val (.int p5), .val (.int n_), .val (.int x1), .val (.int x2), .val (.int x3), .val (.int x4), .val (.int x5), .val (.int x6), .val (.int x7), .val (.int x8), .val (.ref b9), .val (.long x111), .second, .val (.int (1 : Int32))] []))
      refine gob (fun _ k => XS.iload X124.here hx rfl (hb hby at_337) rfl k) ?_
      show Go _ _ _ _ _ _ _ (T124.setTop (mkF m 339 #[.val (.int p0), .val (.int p1), .val (.int p2), .val (.int p3), .val (.int p4), .val (.int p5), .val (.int n_), .val (.int x1), .val (.int x2), .val (.int x3), .val (.int x4), .val (.int x5), .val (.int x6), .val (.int x7), .val (.int x8), .val (.ref b9), .val (.long x111), .second, .val (.int (1 : Int32))] [(.int n_)]))
      refine gob (fun _ k => XS.iconst X124.here hx rfl (hb hby at_339) k) ?_
      show Go _ _ _ _ _ _ _ (T124.setTop (mkF m 340 #[.val (.int p0), .val (.int p1), .val (.int p2), .val (.int p3), .val (.int p4), .val (.int p5), .val (.int n_), .val (.int x1), .val (.int x2), .val (.int x3), .val (.int x4), .val (.int x5), .val (.int x6), .val (.int x7), .val (.int x8), .val (.ref b9), .val (.long x111), .second, .val (.int (1 : Int32))] [(.int (1 : Int32)), (.int n_)]))
      refine gob (fun _ k => XS.icmpNo X124.here hx rfl (hb hby at_340) rfl (flt hc92_33).1 k) ?_
      show Go _ _ _ _ _ _ _ (T124.setTop (mkF m 343 #[.val (.int p0), .val (.int p1), .val (.int p2), .val (.int p3), .val (.int p4), .val (.int p5), .val (.int n_), .val (.int x1), .val (.int x2), .val (.int x3), .val (.int x4), .val (.int x5), .val (.int x6), .val (.int x7), .val (.int x8), .val (.ref b9), .val (.long x111), .second, .val (.int (1 : Int32))] []))
      refine gob (fun _ k => XS.aload X124.here hx rfl (hb hby at_343) rfl rfl k) ?_
      show Go _ _ _ _ _ _ _ (T124.setTop (mkF m 345 #[.val (.int p0), .val (.int p1), .val (.int p2), .val (.int p3), .val (.int p4), .val (.int p5), .val (.int n_), .val (.int x1), .val (.int x2), .val (.int x3), .val (.int x4), .val (.int x5), .val (.int x6), .val (.int x7), .val (.int x8), .val (.ref b9), .val (.long x111), .second, .val (.int (1 : Int32))] [(.ref b9)]))
      refine gob (fun _ k => XS.iload X124.here hx rfl (hb hby at_345) rfl k) ?_
      show Go _ _ _ _ _ _ _ (T124.setTop (mkF m 347 #[.val (.int p0), .val (.int p1), .val (.int p2), .val (.int p3), .val (.int p4), .val (.int p5), .val (.int n_), .val (.int x1), .val (.int x2), .val (.int x3), .val (.int x4), .val (.int x5), .val (.int x6), .val (.int x7), .val (.int x8), .val (.ref b9), .val (.long x111), .second, .val (.int (1 : Int32))] [(.int x4), (.ref b9)]))
      refine gob (fun _ k => XS.iload X124.here hx rfl (hb hby at_347) rfl k) ?_
      show Go _ _ _ _ _ _ _ (T124.setTop (mkF m 349 #[.val (.int p0), .val (.int p1), .val (.int p2), .val (.int p3), .val (.int p4), .val (.int p5), .val (.int n_), .val (.int x1), .val (.int x2), .val (.int x3), .val (.int x4), .val (.int x5), .val (.int x6), .val (.int x7), .val (.int x8), .val (.ref b9), .val (.long x111), .second, .val (.int (1 : Int32))] [(.int x8), (.int x4), (.ref b9)]))
      obtain ⟨cq129, kq129, q129a, q129b, q129c⟩ := isOf hZ e124 c113
      obtain ⟨_, _, ⟨T129, L129, k129, n129⟩, -, X129, ⟨Lc129, hQ129, l129, y129, z129⟩, st129⟩ := X124.virtualBack hx (y := (⟨"com/example/robust_broker/robustbroker/Postings", "add", "(II)V"⟩ : MethodName)) (z := (⟨"com/example/robust_broker/robustbroker/Postings", "add", "(II)V"⟩ : MethodName)) hown (mvT hZ (hw _ (List.mem_of_getElem? (i := 47) rfl))) (mvT hZ (hw _ (List.mem_of_getElem? (i := 48) rfl))) (notFace_of_selects (args := #[]) (mvT hZ (hw _ (List.mem_of_getElem? (i := 50) rfl)))) (mvT hZ (hw _ (List.mem_of_getElem? (i := 50) rfl))) (mvT hZ (hw _ (List.mem_of_getElem? (i := 49) rfl))) (by decide) (backOf (W := 0) (rmadd_1_1 l Z a0 hw [] b9 x4 x8 b87 k89 x1 b88 k90 x5 ((0 : Int64) + (x5.toInt64)) T83.heap n0 z110 F94 F99 F98 F95 F101 F100 F96 F97 n102 n106 hn93 c113 g10) hZ (hw _ (List.mem_of_getElem? (i := 51) rfl)) (hw _ (List.mem_of_getElem? (i := 4) rfl)) (by decide) (by decide)) q129a q129c (g := (mkF m 349 #[.val (.int p0), .val (.int p1), .val (.int p2), .val (.int p3), .val (.int p4), .val (.int p5), .val (.int n_), .val (.int x1), .val (.int x2), .val (.int x3), .val (.int x4), .val (.int x5), .val (.int x6), .val (.int x7), .val (.int x8), .val (.ref b9), .val (.long x111), .second, .val (.int (1 : Int32))] [(.int x8), (.int x4), (.ref b9)])) rfl (by rw [hml]; rfl) (Steps.refl _) (argsL := [(.int x4), (.int x8)]) (rest := []) (lenOf pd_5 rfl) rfl (by show 2 * 0 + _ ≤ _; exact Nat.le_of_eq rfl) (hb hby at_349) (fun _ _ => ⟨rfl, e124, (by decide : 5 + 2 ≤ _), (by decide : 10 + 4 ≤ _)⟩)
      dsimp only [Pt.U, Pt.locs, Pt.cells, Pt.slots] at X129 l129 y129 z129 st129 hQ129
      subst l129 y129 z129
      obtain ⟨b130, b131, k132, k133, rfl, Nq129, K129, hz134, hz135, hn136, F137, F138, F139, F140, F141, F142, F143, F144⟩ := hQ129
      have N129 := Fr.app N124 Nq129
      have n145 : b9 ≠ b130 := Nat.ne_of_lt (Nat.lt_of_lt_of_le c113.lt hz134)
      have c147 := (c84.keep K83)
      have n146 : b13 ≠ b130 := Nat.ne_of_lt (Nat.lt_of_lt_of_le c147.lt hz134)
      have c149 := (c85.keep K83)
      have n148 : b14 ≠ b130 := Nat.ne_of_lt (Nat.lt_of_lt_of_le c149.lt hz134)
      have n150 : b87 ≠ b130 := Nat.ne_of_lt (Nat.lt_of_lt_of_le F98.lt hz134)
      have n151 : b88 ≠ b130 := Nat.ne_of_lt (Nat.lt_of_lt_of_le F100.lt hz134)
      have g152 : n0 ≤ b130 := Nat.le_trans z110 hz134
      have n153 : b9 ≠ b131 := Nat.ne_of_lt (Nat.lt_of_lt_of_le c113.lt hz135)
      have n154 : b13 ≠ b131 := Nat.ne_of_lt (Nat.lt_of_lt_of_le c147.lt hz135)
      have n155 : b14 ≠ b131 := Nat.ne_of_lt (Nat.lt_of_lt_of_le c149.lt hz135)
      have n156 : b87 ≠ b131 := Nat.ne_of_lt (Nat.lt_of_lt_of_le F98.lt hz135)
      have n157 : b88 ≠ b131 := Nat.ne_of_lt (Nat.lt_of_lt_of_le F100.lt hz135)
      have g158 : n0 ≤ b131 := Nat.le_trans z110 hz135
      have z159 : n0 ≤ T129.heap.size := Nat.le_trans z110 K129.1
      refine gob (fun _ k => st129.trans k) ?_
      show Go _ _ _ _ _ _ _ (T129.setTop (mkF m 352 #[.val (.int p0), .val (.int p1), .val (.int p2), .val (.int p3), .val (.int p4), .val (.int p5), .val (.int n_), .val (.int x1), .val (.int x2), .val (.int x3), .val (.int x4), .val (.int x5), .val (.int x6), .val (.int x7), .val (.int x8), .val (.ref b9), .val (.long x111), .second, .val (.int (1 : Int32))] []))
      refine gob (fun _ k => XS.aload X129.here hx rfl (hb hby at_352) rfl rfl k) ?_
      show Go _ _ _ _ _ _ _ (T129.setTop (mkF m 354 #[.val (.int p0), .val (.int p1), .val (.int p2), .val (.int p3), .val (.int p4), .val (.int p5), .val (.int n_), .val (.int x1), .val (.int x2), .val (.int x3), .val (.int x4), .val (.int x5), .val (.int x6), .val (.int x7), .val (.int x8), .val (.ref b9), .val (.long x111), .second, .val (.int (1 : Int32))] [(.ref b9)]))
      have c161 := (c113.keep K129)
      obtain ⟨cq160, kq160, q160a, q160b, q160c⟩ := isOf hZ (rfl : T129.heap = _) c161
      obtain ⟨_, _, ⟨T160, L160, k160, n160⟩, -, X160, ⟨Lc160, hQ160, l160, y160, z160⟩, st160⟩ := X129.virtualBack hx (y := (⟨"com/example/robust_broker/robustbroker/Postings", "size", "()I"⟩ : MethodName)) (z := (⟨"com/example/robust_broker/robustbroker/Postings", "size", "()I"⟩ : MethodName)) hown (mvT hZ (hw _ (List.mem_of_getElem? (i := 35) rfl))) (mvT hZ (hw _ (List.mem_of_getElem? (i := 36) rfl))) (notFace_of_selects (args := #[]) (mvT hZ (hw _ (List.mem_of_getElem? (i := 38) rfl)))) (mvT hZ (hw _ (List.mem_of_getElem? (i := 38) rfl))) (mvT hZ (hw _ (List.mem_of_getElem? (i := 37) rfl))) (by decide) (backOf (W := 0) (rm6 l Z a0 hw [] b9 (2 : Int32) T129.heap n0 z159 F139) hZ (hw _ (List.mem_of_getElem? (i := 39) rfl)) (hw _ (List.mem_of_getElem? (i := 4) rfl)) (by decide) (by decide)) q160a q160c (g := (mkF m 354 #[.val (.int p0), .val (.int p1), .val (.int p2), .val (.int p3), .val (.int p4), .val (.int p5), .val (.int n_), .val (.int x1), .val (.int x2), .val (.int x3), .val (.int x4), .val (.int x5), .val (.int x6), .val (.int x7), .val (.int x8), .val (.ref b9), .val (.long x111), .second, .val (.int (1 : Int32))] [(.ref b9)])) rfl (by rw [hml]; rfl) (Steps.refl _) (argsL := []) (rest := []) (lenOf pd_3 rfl) rfl (by show 2 * 0 + _ ≤ _; exact Nat.le_of_eq rfl) (hb hby at_354) (fun _ _ => ⟨rfl, (rfl : T129.heap = _), (by decide : 7 + 0 ≤ _), (by decide : 14 + 0 ≤ _)⟩)
      dsimp only [Pt.U, Pt.locs, Pt.cells, Pt.slots] at X160 l160 y160 z160 st160 hQ160
      subst l160 y160 z160
      obtain ⟨r160, rfl, hr160, Nq160, e160⟩ := hQ160
      have N160 := Fr.app N129 Nq160
      refine gob (fun _ k => st160.trans k) ?_
      show Go _ _ _ _ _ _ _ (T160.setTop (mkF m 357 #[.val (.int p0), .val (.int p1), .val (.int p2), .val (.int p3), .val (.int p4), .val (.int p5), .val (.int n_), .val (.int x1), .val (.int x2), .val (.int x3), .val (.int x4), .val (.int x5), .val (.int x6), .val (.int x7), .val (.int x8), .val (.ref b9), .val (.long x111), .second, .val (.int (1 : Int32))] [(.int r160)]))
      refine gob (fun _ k => XS.iload X160.here hx rfl (hb hby at_357) rfl k) ?_
      show Go _ _ _ _ _ _ _ (T160.setTop (mkF m 359 #[.val (.int p0), .val (.int p1), .val (.int p2), .val (.int p3), .val (.int p4), .val (.int p5), .val (.int n_), .val (.int x1), .val (.int x2), .val (.int x3), .val (.int x4), .val (.int x5), .val (.int x6), .val (.int x7), .val (.int x8), .val (.ref b9), .val (.long x111), .second, .val (.int (1 : Int32))] [(.int n_), (.int r160)]))
      refine gob (fun _ k => XS.iconst X160.here hx rfl (hb hby at_359) k) ?_
      show Go _ _ _ _ _ _ _ (T160.setTop (mkF m 360 #[.val (.int p0), .val (.int p1), .val (.int p2), .val (.int p3), .val (.int p4), .val (.int p5), .val (.int n_), .val (.int x1), .val (.int x2), .val (.int x3), .val (.int x4), .val (.int x5), .val (.int x6), .val (.int x7), .val (.int x8), .val (.ref b9), .val (.long x111), .second, .val (.int (1 : Int32))] [(.int (1 : Int32)), (.int n_), (.int r160)]))
      refine gob (fun _ k => XS.iadd X160.here hx rfl (hb hby at_360) rfl k) ?_
      show Go _ _ _ _ _ _ _ (T160.setTop (mkF m 361 #[.val (.int p0), .val (.int p1), .val (.int p2), .val (.int p3), .val (.int p4), .val (.int p5), .val (.int n_), .val (.int x1), .val (.int x2), .val (.int x3), .val (.int x4), .val (.int x5), .val (.int x6), .val (.int x7), .val (.int x8), .val (.ref b9), .val (.long x111), .second, .val (.int (1 : Int32))] [(.int (n_ + (1 : Int32))), (.int r160)]))
      have hd163 : r160 = (n_ + (1 : Int32)) := ld_0_361_162 p0 n_ r160 hn_ hc92_33 hc107_80 hr160
      refine gob (fun _ k => XS.icmpNo X160.here hx rfl (hb hby at_361) rfl (teq hd163).2 k) ?_
      show Go _ _ _ _ _ _ _ (T160.setTop (mkF m 364 #[.val (.int p0), .val (.int p1), .val (.int p2), .val (.int p3), .val (.int p4), .val (.int p5), .val (.int n_), .val (.int x1), .val (.int x2), .val (.int x3), .val (.int x4), .val (.int x5), .val (.int x6), .val (.int x7), .val (.int x8), .val (.ref b9), .val (.long x111), .second, .val (.int (1 : Int32))] []))
      refine gob (fun _ k => XS.aload X160.here hx rfl (hb hby at_364) rfl rfl k) ?_
      show Go _ _ _ _ _ _ _ (T160.setTop (mkF m 366 #[.val (.int p0), .val (.int p1), .val (.int p2), .val (.int p3), .val (.int p4), .val (.int p5), .val (.int n_), .val (.int x1), .val (.int x2), .val (.int x3), .val (.int x4), .val (.int x5), .val (.int x6), .val (.int x7), .val (.int x8), .val (.ref b9), .val (.long x111), .second, .val (.int (1 : Int32))] [(.ref b9)]))
      refine gob (fun _ k => XS.iload X160.here hx rfl (hb hby at_366) rfl k) ?_
      show Go _ _ _ _ _ _ _ (T160.setTop (mkF m 368 #[.val (.int p0), .val (.int p1), .val (.int p2), .val (.int p3), .val (.int p4), .val (.int p5), .val (.int n_), .val (.int x1), .val (.int x2), .val (.int x3), .val (.int x4), .val (.int x5), .val (.int x6), .val (.int x7), .val (.int x8), .val (.ref b9), .val (.long x111), .second, .val (.int (1 : Int32))] [(.int n_), (.ref b9)]))
      obtain ⟨cq164, kq164, q164a, q164b, q164c⟩ := isOf hZ e160 c161
      obtain ⟨_, _, ⟨T164, L164, k164, n164⟩, -, X164, ⟨Lc164, hQ164, l164, y164, z164⟩, st164⟩ := X160.virtualBack hx (y := (⟨"com/example/robust_broker/robustbroker/Postings", "document", "(I)I"⟩ : MethodName)) (z := (⟨"com/example/robust_broker/robustbroker/Postings", "document", "(I)I"⟩ : MethodName)) hown (mvT hZ (hw _ (List.mem_of_getElem? (i := 52) rfl))) (mvT hZ (hw _ (List.mem_of_getElem? (i := 53) rfl))) (notFace_of_selects (args := #[]) (mvT hZ (hw _ (List.mem_of_getElem? (i := 55) rfl)))) (mvT hZ (hw _ (List.mem_of_getElem? (i := 55) rfl))) (mvT hZ (hw _ (List.mem_of_getElem? (i := 54) rfl))) (by decide) (backOf (W := 0) (rmdoc_2_2 l Z a0 hw [] b9 n_ b130 k132 x1 x4 T129.heap n0 z159 F137 F142 F141 (la_0_368_165 p0 n_ hn_ hc92_33 hc107_80) (la_0_368_166 p0 n_ hn_ hc92_33 hc107_80)) hZ (hw _ (List.mem_of_getElem? (i := 56) rfl)) (hw _ (List.mem_of_getElem? (i := 4) rfl)) (by decide) (by decide)) q164a q164c (g := (mkF m 368 #[.val (.int p0), .val (.int p1), .val (.int p2), .val (.int p3), .val (.int p4), .val (.int p5), .val (.int n_), .val (.int x1), .val (.int x2), .val (.int x3), .val (.int x4), .val (.int x5), .val (.int x6), .val (.int x7), .val (.int x8), .val (.ref b9), .val (.long x111), .second, .val (.int (1 : Int32))] [(.int n_), (.ref b9)])) rfl (by rw [hml]; rfl) (Steps.refl _) (argsL := [(.int n_)]) (rest := []) (lenOf pd_6 rfl) rfl (by show 2 * 0 + _ ≤ _; exact Nat.le_of_eq rfl) (hb hby at_368) (fun _ _ => ⟨rfl, e160, (by decide : 7 + 0 ≤ _), (by decide : 14 + 0 ≤ _)⟩)
      dsimp only [Pt.U, Pt.locs, Pt.cells, Pt.slots] at X164 l164 y164 z164 st164 hQ164
      subst l164 y164 z164
      obtain ⟨r164, rfl, hr164, Nq164, e164⟩ := hQ164
      have N164 := Fr.app N160 Nq164
      refine gob (fun _ k => st164.trans k) ?_
      show Go _ _ _ _ _ _ _ (T164.setTop (mkF m 371 #[.val (.int p0), .val (.int p1), .val (.int p2), .val (.int p3), .val (.int p4), .val (.int p5), .val (.int n_), .val (.int x1), .val (.int x2), .val (.int x3), .val (.int x4), .val (.int x5), .val (.int x6), .val (.int x7), .val (.int x8), .val (.ref b9), .val (.long x111), .second, .val (.int (1 : Int32))] [(.int r164)]))
      refine gob (fun _ k => XS.iload X164.here hx rfl (hb hby at_371) rfl k) ?_
      show Go _ _ _ _ _ _ _ (T164.setTop (mkF m 373 #[.val (.int p0), .val (.int p1), .val (.int p2), .val (.int p3), .val (.int p4), .val (.int p5), .val (.int n_), .val (.int x1), .val (.int x2), .val (.int x3), .val (.int x4), .val (.int x5), .val (.int x6), .val (.int x7), .val (.int x8), .val (.ref b9), .val (.long x111), .second, .val (.int (1 : Int32))] [(.int x4), (.int r164)]))
      have hd168 : r164 = x4 := ld_0_373_167 p0 p1 p3 n_ x1 x2 x3 x4 r164 hn_ hx1 hx3 hx4 hc92_33 hc107_80 hr164
      refine gob (fun _ k => XS.icmpNo X164.here hx rfl (hb hby at_373) rfl (teq hd168).2 k) ?_
      show Go _ _ _ _ _ _ _ (T164.setTop (mkF m 376 #[.val (.int p0), .val (.int p1), .val (.int p2), .val (.int p3), .val (.int p4), .val (.int p5), .val (.int n_), .val (.int x1), .val (.int x2), .val (.int x3), .val (.int x4), .val (.int x5), .val (.int x6), .val (.int x7), .val (.int x8), .val (.ref b9), .val (.long x111), .second, .val (.int (1 : Int32))] []))
      refine gob (fun _ k => XS.aload X164.here hx rfl (hb hby at_376) rfl rfl k) ?_
      show Go _ _ _ _ _ _ _ (T164.setTop (mkF m 378 #[.val (.int p0), .val (.int p1), .val (.int p2), .val (.int p3), .val (.int p4), .val (.int p5), .val (.int n_), .val (.int x1), .val (.int x2), .val (.int x3), .val (.int x4), .val (.int x5), .val (.int x6), .val (.int x7), .val (.int x8), .val (.ref b9), .val (.long x111), .second, .val (.int (1 : Int32))] [(.ref b9)]))
      refine gob (fun _ k => XS.iload X164.here hx rfl (hb hby at_378) rfl k) ?_
      show Go _ _ _ _ _ _ _ (T164.setTop (mkF m 380 #[.val (.int p0), .val (.int p1), .val (.int p2), .val (.int p3), .val (.int p4), .val (.int p5), .val (.int n_), .val (.int x1), .val (.int x2), .val (.int x3), .val (.int x4), .val (.int x5), .val (.int x6), .val (.int x7), .val (.int x8), .val (.ref b9), .val (.long x111), .second, .val (.int (1 : Int32))] [(.int n_), (.ref b9)]))
      obtain ⟨cq169, kq169, q169a, q169b, q169c⟩ := isOf hZ e164 c161
      obtain ⟨_, _, ⟨T169, L169, k169, n169⟩, -, X169, ⟨Lc169, hQ169, l169, y169, z169⟩, st169⟩ := X164.virtualBack hx (y := (⟨"com/example/robust_broker/robustbroker/Postings", "frequency", "(I)I"⟩ : MethodName)) (z := (⟨"com/example/robust_broker/robustbroker/Postings", "frequency", "(I)I"⟩ : MethodName)) hown (mvT hZ (hw _ (List.mem_of_getElem? (i := 57) rfl))) (mvT hZ (hw _ (List.mem_of_getElem? (i := 58) rfl))) (notFace_of_selects (args := #[]) (mvT hZ (hw _ (List.mem_of_getElem? (i := 60) rfl)))) (mvT hZ (hw _ (List.mem_of_getElem? (i := 60) rfl))) (mvT hZ (hw _ (List.mem_of_getElem? (i := 59) rfl))) (by decide) (backOf (W := 0) (rmfre_2_2 l Z a0 hw [] b9 n_ b131 k133 x5 x8 T129.heap n0 z159 F138 F144 F143 (la_0_380_170 p0 n_ hn_ hc92_33 hc107_80) (la_0_380_171 p0 n_ hn_ hc92_33 hc107_80)) hZ (hw _ (List.mem_of_getElem? (i := 61) rfl)) (hw _ (List.mem_of_getElem? (i := 4) rfl)) (by decide) (by decide)) q169a q169c (g := (mkF m 380 #[.val (.int p0), .val (.int p1), .val (.int p2), .val (.int p3), .val (.int p4), .val (.int p5), .val (.int n_), .val (.int x1), .val (.int x2), .val (.int x3), .val (.int x4), .val (.int x5), .val (.int x6), .val (.int x7), .val (.int x8), .val (.ref b9), .val (.long x111), .second, .val (.int (1 : Int32))] [(.int n_), (.ref b9)])) rfl (by rw [hml]; rfl) (Steps.refl _) (argsL := [(.int n_)]) (rest := []) (lenOf pd_6 rfl) rfl (by show 2 * 0 + _ ≤ _; exact Nat.le_of_eq rfl) (hb hby at_380) (fun _ _ => ⟨rfl, e164, (by decide : 7 + 0 ≤ _), (by decide : 14 + 0 ≤ _)⟩)
      dsimp only [Pt.U, Pt.locs, Pt.cells, Pt.slots] at X169 l169 y169 z169 st169 hQ169
      subst l169 y169 z169
      obtain ⟨r169, rfl, hr169, Nq169, e169⟩ := hQ169
      have N169 := Fr.app N164 Nq169
      refine gob (fun _ k => st169.trans k) ?_
      show Go _ _ _ _ _ _ _ (T169.setTop (mkF m 383 #[.val (.int p0), .val (.int p1), .val (.int p2), .val (.int p3), .val (.int p4), .val (.int p5), .val (.int n_), .val (.int x1), .val (.int x2), .val (.int x3), .val (.int x4), .val (.int x5), .val (.int x6), .val (.int x7), .val (.int x8), .val (.ref b9), .val (.long x111), .second, .val (.int (1 : Int32))] [(.int r169)]))
      refine gob (fun _ k => XS.iload X169.here hx rfl (hb hby at_383) rfl k) ?_
      show Go _ _ _ _ _ _ _ (T169.setTop (mkF m 385 #[.val (.int p0), .val (.int p1), .val (.int p2), .val (.int p3), .val (.int p4), .val (.int p5), .val (.int n_), .val (.int x1), .val (.int x2), .val (.int x3), .val (.int x4), .val (.int x5), .val (.int x6), .val (.int x7), .val (.int x8), .val (.ref b9), .val (.long x111), .second, .val (.int (1 : Int32))] [(.int x8), (.int r169)]))
      have hd173 : r169 = x8 := ld_0_385_172 p0 p4 n_ x5 x8 r169 hn_ hx5 hx8 hc92_33 hc107_80 hr169
      refine gob (fun _ k => XS.icmpNo X169.here hx rfl (hb hby at_385) rfl (teq hd173).2 k) ?_
      show Go _ _ _ _ _ _ _ (T169.setTop (mkF m 388 #[.val (.int p0), .val (.int p1), .val (.int p2), .val (.int p3), .val (.int p4), .val (.int p5), .val (.int n_), .val (.int x1), .val (.int x2), .val (.int x3), .val (.int x4), .val (.int x5), .val (.int x6), .val (.int x7), .val (.int x8), .val (.ref b9), .val (.long x111), .second, .val (.int (1 : Int32))] []))
      refine gob (fun _ k => XS.aload X169.here hx rfl (hb hby at_388) rfl rfl k) ?_
      show Go _ _ _ _ _ _ _ (T169.setTop (mkF m 390 #[.val (.int p0), .val (.int p1), .val (.int p2), .val (.int p3), .val (.int p4), .val (.int p5), .val (.int n_), .val (.int x1), .val (.int x2), .val (.int x3), .val (.int x4), .val (.int x5), .val (.int x6), .val (.int x7), .val (.int x8), .val (.ref b9), .val (.long x111), .second, .val (.int (1 : Int32))] [(.ref b9)]))
      obtain ⟨cq174, kq174, q174a, q174b, q174c⟩ := isOf hZ e169 c161
      obtain ⟨_, _, ⟨T174, L174, k174, n174⟩, -, X174, ⟨Lc174, hQ174, l174, y174, z174⟩, st174⟩ := X169.virtualBack hx (y := (⟨"com/example/robust_broker/robustbroker/Postings", "collectionFrequency", "()J"⟩ : MethodName)) (z := (⟨"com/example/robust_broker/robustbroker/Postings", "collectionFrequency", "()J"⟩ : MethodName)) hown (mvT hZ (hw _ (List.mem_of_getElem? (i := 40) rfl))) (mvT hZ (hw _ (List.mem_of_getElem? (i := 41) rfl))) (notFace_of_selects (args := #[]) (mvT hZ (hw _ (List.mem_of_getElem? (i := 43) rfl)))) (mvT hZ (hw _ (List.mem_of_getElem? (i := 43) rfl))) (mvT hZ (hw _ (List.mem_of_getElem? (i := 42) rfl))) (by decide) (backOf (W := 0) (rm7 l Z a0 hw [] b9 (((0 : Int64) + (x5.toInt64)) + (x8.toInt64)) T129.heap n0 z159 F140) hZ (hw _ (List.mem_of_getElem? (i := 44) rfl)) (hw _ (List.mem_of_getElem? (i := 4) rfl)) (by decide) (by decide)) q174a q174c (g := (mkF m 390 #[.val (.int p0), .val (.int p1), .val (.int p2), .val (.int p3), .val (.int p4), .val (.int p5), .val (.int n_), .val (.int x1), .val (.int x2), .val (.int x3), .val (.int x4), .val (.int x5), .val (.int x6), .val (.int x7), .val (.int x8), .val (.ref b9), .val (.long x111), .second, .val (.int (1 : Int32))] [(.ref b9)])) rfl (by rw [hml]; rfl) (Steps.refl _) (argsL := []) (rest := []) (lenOf pd_4 rfl) rfl (by show 2 * 0 + _ ≤ _; exact Nat.le_of_eq rfl) (hb hby at_390) (fun _ _ => ⟨rfl, e169, (by decide : 7 + 0 ≤ _), (by decide : 14 + 0 ≤ _)⟩)
      dsimp only [Pt.U, Pt.locs, Pt.cells, Pt.slots] at X174 l174 y174 z174 st174 hQ174
      subst l174 y174 z174
      obtain ⟨r174, rfl, hr174, Nq174, e174⟩ := hQ174
      have N174 := Fr.app N169 Nq174
      refine gob (fun _ k => st174.trans k) ?_
      show Go _ _ _ _ _ _ _ (T174.setTop (mkF m 393 #[.val (.int p0), .val (.int p1), .val (.int p2), .val (.int p3), .val (.int p4), .val (.int p5), .val (.int n_), .val (.int x1), .val (.int x2), .val (.int x3), .val (.int x4), .val (.int x5), .val (.int x6), .val (.int x7), .val (.int x8), .val (.ref b9), .val (.long x111), .second, .val (.int (1 : Int32))] [(.long r174)]))
      refine gob (fun _ k => XS.lload X174.here hx rfl (hb hby at_393) rfl k) ?_
      show Go _ _ _ _ _ _ _ (T174.setTop (mkF m 395 #[.val (.int p0), .val (.int p1), .val (.int p2), .val (.int p3), .val (.int p4), .val (.int p5), .val (.int n_), .val (.int x1), .val (.int x2), .val (.int x3), .val (.int x4), .val (.int x5), .val (.int x6), .val (.int x7), .val (.int x8), .val (.ref b9), .val (.long x111), .second, .val (.int (1 : Int32))] [(.long x111), (.long r174)]))
      refine gob (fun _ k => XS.iload X174.here hx rfl (hb hby at_395) rfl k) ?_
      show Go _ _ _ _ _ _ _ (T174.setTop (mkF m 397 #[.val (.int p0), .val (.int p1), .val (.int p2), .val (.int p3), .val (.int p4), .val (.int p5), .val (.int n_), .val (.int x1), .val (.int x2), .val (.int x3), .val (.int x4), .val (.int x5), .val (.int x6), .val (.int x7), .val (.int x8), .val (.ref b9), .val (.long x111), .second, .val (.int (1 : Int32))] [(.int x8), (.long x111), (.long r174)]))
      refine gob (fun _ k => XS.i2l X174.here hx rfl (hb hby at_397) rfl k) ?_
      show Go _ _ _ _ _ _ _ (T174.setTop (mkF m 398 #[.val (.int p0), .val (.int p1), .val (.int p2), .val (.int p3), .val (.int p4), .val (.int p5), .val (.int n_), .val (.int x1), .val (.int x2), .val (.int x3), .val (.int x4), .val (.int x5), .val (.int x6), .val (.int x7), .val (.int x8), .val (.ref b9), .val (.long x111), .second, .val (.int (1 : Int32))] [(.long (x8.toInt64)), (.long x111), (.long r174)]))
      refine gob (fun _ k => XS.ladd X174.here hx rfl (hb hby at_398) rfl k) ?_
      show Go _ _ _ _ _ _ _ (T174.setTop (mkF m 399 #[.val (.int p0), .val (.int p1), .val (.int p2), .val (.int p3), .val (.int p4), .val (.int p5), .val (.int n_), .val (.int x1), .val (.int x2), .val (.int x3), .val (.int x4), .val (.int x5), .val (.int x6), .val (.int x7), .val (.int x8), .val (.ref b9), .val (.long x111), .second, .val (.int (1 : Int32))] [(.long (x111 + (x8.toInt64))), (.long r174)]))
      refine gob (fun _ k => XS.lcmp X174.here hx rfl (hb hby at_399) rfl k) ?_
      show Go _ _ _ _ _ _ _ (T174.setTop (mkF m 400 #[.val (.int p0), .val (.int p1), .val (.int p2), .val (.int p3), .val (.int p4), .val (.int p5), .val (.int n_), .val (.int x1), .val (.int x2), .val (.int x3), .val (.int x4), .val (.int x5), .val (.int x6), .val (.int x7), .val (.int x8), .val (.ref b9), .val (.long x111), .second, .val (.int (1 : Int32))] [(.int (lcmpW r174 (x111 + (x8.toInt64))))]))
      have hd176 : r174 = (x111 + (x8.toInt64)) := ld_0_400_175 p0 p4 x5 x8 x111 r174 hx5 hx8 hx111 hr174
      refine gob (fun _ k => XS.ifNo X174.here hx rfl (hb hby at_400) rfl ((if0 _ _).trans (teq ((lw_eq _ _).mpr hd176)).2) k) ?_
      show Go _ _ _ _ _ _ _ (T174.setTop (mkF m 403 #[.val (.int p0), .val (.int p1), .val (.int p2), .val (.int p3), .val (.int p4), .val (.int p5), .val (.int n_), .val (.int x1), .val (.int x2), .val (.int x3), .val (.int x4), .val (.int x5), .val (.int x6), .val (.int x7), .val (.int x8), .val (.ref b9), .val (.long x111), .second, .val (.int (1 : Int32))] []))
      refine gob (fun _ k => XS.aload X174.here hx rfl (hb hby at_403) rfl rfl k) ?_
      show Go _ _ _ _ _ _ _ (T174.setTop (mkF m 405 #[.val (.int p0), .val (.int p1), .val (.int p2), .val (.int p3), .val (.int p4), .val (.int p5), .val (.int n_), .val (.int x1), .val (.int x2), .val (.int x3), .val (.int x4), .val (.int x5), .val (.int x6), .val (.int x7), .val (.int x8), .val (.ref b9), .val (.long x111), .second, .val (.int (1 : Int32))] [(.ref b9)]))
      refine gob (fun _ k => XS.iconst X174.here hx rfl (hb hby at_405) k) ?_
      show Go _ _ _ _ _ _ _ (T174.setTop (mkF m 406 #[.val (.int p0), .val (.int p1), .val (.int p2), .val (.int p3), .val (.int p4), .val (.int p5), .val (.int n_), .val (.int x1), .val (.int x2), .val (.int x3), .val (.int x4), .val (.int x5), .val (.int x6), .val (.int x7), .val (.int x8), .val (.ref b9), .val (.long x111), .second, .val (.int (1 : Int32))] [(.int (0 : Int32)), (.ref b9)]))
      obtain ⟨cq177, kq177, q177a, q177b, q177c⟩ := isOf hZ e174 c161
      obtain ⟨_, _, ⟨T177, L177, k177, n177⟩, -, X177, ⟨Lc177, hQ177, l177, y177, z177⟩, st177⟩ := X174.virtualBack hx (y := (⟨"com/example/robust_broker/robustbroker/Postings", "document", "(I)I"⟩ : MethodName)) (z := (⟨"com/example/robust_broker/robustbroker/Postings", "document", "(I)I"⟩ : MethodName)) hown (mvT hZ (hw _ (List.mem_of_getElem? (i := 52) rfl))) (mvT hZ (hw _ (List.mem_of_getElem? (i := 53) rfl))) (notFace_of_selects (args := #[]) (mvT hZ (hw _ (List.mem_of_getElem? (i := 55) rfl)))) (mvT hZ (hw _ (List.mem_of_getElem? (i := 55) rfl))) (mvT hZ (hw _ (List.mem_of_getElem? (i := 54) rfl))) (by decide) (backOf (W := 0) (rmdoc_2_2 l Z a0 hw [] b9 (0 : Int32) b130 k132 x1 x4 T129.heap n0 z159 F137 F142 F141 (la_0_406_178  ) (la_0_406_179  )) hZ (hw _ (List.mem_of_getElem? (i := 56) rfl)) (hw _ (List.mem_of_getElem? (i := 4) rfl)) (by decide) (by decide)) q177a q177c (g := (mkF m 406 #[.val (.int p0), .val (.int p1), .val (.int p2), .val (.int p3), .val (.int p4), .val (.int p5), .val (.int n_), .val (.int x1), .val (.int x2), .val (.int x3), .val (.int x4), .val (.int x5), .val (.int x6), .val (.int x7), .val (.int x8), .val (.ref b9), .val (.long x111), .second, .val (.int (1 : Int32))] [(.int (0 : Int32)), (.ref b9)])) rfl (by rw [hml]; rfl) (Steps.refl _) (argsL := [(.int (0 : Int32))]) (rest := []) (lenOf pd_6 rfl) rfl (by show 2 * 0 + _ ≤ _; exact Nat.le_of_eq rfl) (hb hby at_406) (fun _ _ => ⟨rfl, e174, (by decide : 7 + 0 ≤ _), (by decide : 14 + 0 ≤ _)⟩)
      dsimp only [Pt.U, Pt.locs, Pt.cells, Pt.slots] at X177 l177 y177 z177 st177 hQ177
      subst l177 y177 z177
      obtain ⟨r177, rfl, hr177, Nq177, e177⟩ := hQ177
      have N177 := Fr.app N174 Nq177
      refine gob (fun _ k => st177.trans k) ?_
      show Go _ _ _ _ _ _ _ (T177.setTop (mkF m 409 #[.val (.int p0), .val (.int p1), .val (.int p2), .val (.int p3), .val (.int p4), .val (.int p5), .val (.int n_), .val (.int x1), .val (.int x2), .val (.int x3), .val (.int x4), .val (.int x5), .val (.int x6), .val (.int x7), .val (.int x8), .val (.ref b9), .val (.long x111), .second, .val (.int (1 : Int32))] [(.int r177)]))
      refine gob (fun _ k => XS.iload X177.here hx rfl (hb hby at_409) rfl k) ?_
      show Go _ _ _ _ _ _ _ (T177.setTop (mkF m 411 #[.val (.int p0), .val (.int p1), .val (.int p2), .val (.int p3), .val (.int p4), .val (.int p5), .val (.int n_), .val (.int x1), .val (.int x2), .val (.int x3), .val (.int x4), .val (.int x5), .val (.int x6), .val (.int x7), .val (.int x8), .val (.ref b9), .val (.long x111), .second, .val (.int (1 : Int32))] [(.int x1), (.int r177)]))
      have hd181 : r177 = x1 := ld_0_411_180 p1 x1 x3 x4 r177 hx1 hx4 hr177
      refine gob (fun _ k => XS.icmpNo X177.here hx rfl (hb hby at_411) rfl (teq hd181).2 k) ?_
      show Go _ _ _ _ _ _ _ (T177.setTop (mkF m 414 #[.val (.int p0), .val (.int p1), .val (.int p2), .val (.int p3), .val (.int p4), .val (.int p5), .val (.int n_), .val (.int x1), .val (.int x2), .val (.int x3), .val (.int x4), .val (.int x5), .val (.int x6), .val (.int x7), .val (.int x8), .val (.ref b9), .val (.long x111), .second, .val (.int (1 : Int32))] []))
      refine gob (fun _ k => XS.aload X177.here hx rfl (hb hby at_414) rfl rfl k) ?_
      show Go _ _ _ _ _ _ _ (T177.setTop (mkF m 416 #[.val (.int p0), .val (.int p1), .val (.int p2), .val (.int p3), .val (.int p4), .val (.int p5), .val (.int n_), .val (.int x1), .val (.int x2), .val (.int x3), .val (.int x4), .val (.int x5), .val (.int x6), .val (.int x7), .val (.int x8), .val (.ref b9), .val (.long x111), .second, .val (.int (1 : Int32))] [(.ref b9)]))
      refine gob (fun _ k => XS.iconst X177.here hx rfl (hb hby at_416) k) ?_
      show Go _ _ _ _ _ _ _ (T177.setTop (mkF m 417 #[.val (.int p0), .val (.int p1), .val (.int p2), .val (.int p3), .val (.int p4), .val (.int p5), .val (.int n_), .val (.int x1), .val (.int x2), .val (.int x3), .val (.int x4), .val (.int x5), .val (.int x6), .val (.int x7), .val (.int x8), .val (.ref b9), .val (.long x111), .second, .val (.int (1 : Int32))] [(.int (0 : Int32)), (.ref b9)]))
      obtain ⟨cq182, kq182, q182a, q182b, q182c⟩ := isOf hZ e177 c161
      obtain ⟨_, _, ⟨T182, L182, k182, n182⟩, -, X182, ⟨Lc182, hQ182, l182, y182, z182⟩, st182⟩ := X177.virtualBack hx (y := (⟨"com/example/robust_broker/robustbroker/Postings", "frequency", "(I)I"⟩ : MethodName)) (z := (⟨"com/example/robust_broker/robustbroker/Postings", "frequency", "(I)I"⟩ : MethodName)) hown (mvT hZ (hw _ (List.mem_of_getElem? (i := 57) rfl))) (mvT hZ (hw _ (List.mem_of_getElem? (i := 58) rfl))) (notFace_of_selects (args := #[]) (mvT hZ (hw _ (List.mem_of_getElem? (i := 60) rfl)))) (mvT hZ (hw _ (List.mem_of_getElem? (i := 60) rfl))) (mvT hZ (hw _ (List.mem_of_getElem? (i := 59) rfl))) (by decide) (backOf (W := 0) (rmfre_2_2 l Z a0 hw [] b9 (0 : Int32) b131 k133 x5 x8 T129.heap n0 z159 F138 F144 F143 (la_0_417_183  ) (la_0_417_184  )) hZ (hw _ (List.mem_of_getElem? (i := 61) rfl)) (hw _ (List.mem_of_getElem? (i := 4) rfl)) (by decide) (by decide)) q182a q182c (g := (mkF m 417 #[.val (.int p0), .val (.int p1), .val (.int p2), .val (.int p3), .val (.int p4), .val (.int p5), .val (.int n_), .val (.int x1), .val (.int x2), .val (.int x3), .val (.int x4), .val (.int x5), .val (.int x6), .val (.int x7), .val (.int x8), .val (.ref b9), .val (.long x111), .second, .val (.int (1 : Int32))] [(.int (0 : Int32)), (.ref b9)])) rfl (by rw [hml]; rfl) (Steps.refl _) (argsL := [(.int (0 : Int32))]) (rest := []) (lenOf pd_6 rfl) rfl (by show 2 * 0 + _ ≤ _; exact Nat.le_of_eq rfl) (hb hby at_417) (fun _ _ => ⟨rfl, e177, (by decide : 7 + 0 ≤ _), (by decide : 14 + 0 ≤ _)⟩)
      dsimp only [Pt.U, Pt.locs, Pt.cells, Pt.slots] at X182 l182 y182 z182 st182 hQ182
      subst l182 y182 z182
      obtain ⟨r182, rfl, hr182, Nq182, e182⟩ := hQ182
      have N182 := Fr.app N177 Nq182
      refine gob (fun _ k => st182.trans k) ?_
      show Go _ _ _ _ _ _ _ (T182.setTop (mkF m 420 #[.val (.int p0), .val (.int p1), .val (.int p2), .val (.int p3), .val (.int p4), .val (.int p5), .val (.int n_), .val (.int x1), .val (.int x2), .val (.int x3), .val (.int x4), .val (.int x5), .val (.int x6), .val (.int x7), .val (.int x8), .val (.ref b9), .val (.long x111), .second, .val (.int (1 : Int32))] [(.int r182)]))
      refine gob (fun _ k => XS.iload X182.here hx rfl (hb hby at_420) rfl k) ?_
      show Go _ _ _ _ _ _ _ (T182.setTop (mkF m 422 #[.val (.int p0), .val (.int p1), .val (.int p2), .val (.int p3), .val (.int p4), .val (.int p5), .val (.int n_), .val (.int x1), .val (.int x2), .val (.int x3), .val (.int x4), .val (.int x5), .val (.int x6), .val (.int x7), .val (.int x8), .val (.ref b9), .val (.long x111), .second, .val (.int (1 : Int32))] [(.int x5), (.int r182)]))
      have hd186 : r182 = x5 := ld_0_422_185 p0 p4 x5 x8 r182 hx5 hx8 hr182
      refine gob (fun _ k => XS.icmpNo X182.here hx rfl (hb hby at_422) rfl (teq hd186).2 k) ?_
      show Go _ _ _ _ _ _ _ (T182.setTop (mkF m 425 #[.val (.int p0), .val (.int p1), .val (.int p2), .val (.int p3), .val (.int p4), .val (.int p5), .val (.int n_), .val (.int x1), .val (.int x2), .val (.int x3), .val (.int x4), .val (.int x5), .val (.int x6), .val (.int x7), .val (.int x8), .val (.ref b9), .val (.long x111), .second, .val (.int (1 : Int32))] []))
      refine gob (fun _ k => XS.iconst X182.here hx rfl (hb hby at_425) k) ?_
      show Go _ _ _ _ _ _ _ (T182.setTop (mkF m 426 #[.val (.int p0), .val (.int p1), .val (.int p2), .val (.int p3), .val (.int p4), .val (.int p5), .val (.int n_), .val (.int x1), .val (.int x2), .val (.int x3), .val (.int x4), .val (.int x5), .val (.int x6), .val (.int x7), .val (.int x8), .val (.ref b9), .val (.long x111), .second, .val (.int (1 : Int32))] [(.int (1 : Int32))]))
      refine gob (fun _ k => XS.goto X182.here hx rfl (pc0 := 426) (pc' := 430) rfl (hb hby at_426) (by decide) (by decide) k) ?_
      show Go _ _ _ _ _ _ _ (T182.setTop (mkF m 430 #[.val (.int p0), .val (.int p1), .val (.int p2), .val (.int p3), .val (.int p4), .val (.int p5), .val (.int n_), .val (.int x1), .val (.int x2), .val (.int x3), .val (.int x4), .val (.int x5), .val (.int x6), .val (.int x7), .val (.int x8), .val (.ref b9), .val (.long x111), .second, .val (.int (1 : Int32))] [(.int (1 : Int32))]))
      refine gob (fun _ k => XS.istore X182.here hx rfl (hb hby at_430) rfl (l' := #[.val (.int p0), .val (.int p1), .val (.int p2), .val (.int p3), .val (.int p4), .val (.int p5), .val (.int n_), .val (.int x1), .val (.int x2), .val (.int x3), .val (.int x4), .val (.int x5), .val (.int x6), .val (.int x7), .val (.int x8), .val (.ref b9), .val (.long x111), .second, .val (.int (1 : Int32))]) rfl k) ?_
      show Go _ _ _ _ _ _ _ (T182.setTop (mkF m 432 #[.val (.int p0), .val (.int p1), .val (.int p2), .val (.int p3), .val (.int p4), .val (.int p5), .val (.int n_), .val (.int x1), .val (.int x2), .val (.int x3), .val (.int x4), .val (.int x5), .val (.int x6), .val (.int x7), .val (.int x8), .val (.ref b9), .val (.long x111), .second, .val (.int (1 : Int32))] []))
      refine gob (fun _ k => XS.iload X182.here hx rfl (hb hby at_432) rfl k) ?_
      show Go _ _ _ _ _ _ _ (T182.setTop (mkF m 434 #[.val (.int p0), .val (.int p1), .val (.int p2), .val (.int p3), .val (.int p4), .val (.int p5), .val (.int n_), .val (.int x1), .val (.int x2), .val (.int x3), .val (.int x4), .val (.int x5), .val (.int x6), .val (.int x7), .val (.int x8), .val (.ref b9), .val (.long x111), .second, .val (.int (1 : Int32))] [(.int (1 : Int32))]))
      refine goZ X182 hx hlk (t := .boolean) Bd.returns (by simp) (hb hby at_434) (z' := (1 : Int32)) rfl ?_ (by decide) (by decide)
      show Q0 Z p0 p1 p2 p3 p4 p5 h0 n0 (some (.int (1 : Int32))) T182.heap _
      exact ⟨rfl, N182⟩
    · skip
      refine gob (fun _ k => XS.icmpNo X71.here hx rfl (hb hby at_107) rfl (flt hc107_80).1 k) ?_
      show Go _ _ _ _ _ _ _ (T71.setTop (mkF m 110 #[.val (.int p0), .val (.int p1), .val (.int p2), .val (.int p3), .val (.int p4), .val (.int p5), .val (.int n_), .val (.int x1), .val (.int x2), .val (.int x3), .val (.int x4), .val (.int x5), .val (.int x6), .val (.int x7), .val (.int x8), .val (.ref b9), .unset, .unset, .unset] []))
      refine gob (fun _ k => XS.aload X71.here hx rfl (hb hby at_110) rfl rfl k) ?_
      show Go _ _ _ _ _ _ _ (T71.setTop (mkF m 112 #[.val (.int p0), .val (.int p1), .val (.int p2), .val (.int p3), .val (.int p4), .val (.int p5), .val (.int n_), .val (.int x1), .val (.int x2), .val (.int x3), .val (.int x4), .val (.int x5), .val (.int x6), .val (.int x7), .val (.int x8), .val (.ref b9), .unset, .unset, .unset] [(.ref b9)]))
      refine gob (fun _ k => XS.iload X71.here hx rfl (hb hby at_112) rfl k) ?_
      show Go _ _ _ _ _ _ _ (T71.setTop (mkF m 114 #[.val (.int p0), .val (.int p1), .val (.int p2), .val (.int p3), .val (.int p4), .val (.int p5), .val (.int n_), .val (.int x1), .val (.int x2), .val (.int x3), .val (.int x4), .val (.int x5), .val (.int x6), .val (.int x7), .val (.int x8), .val (.ref b9), .unset, .unset, .unset] [(.int x2), (.ref b9)]))
      refine gob (fun _ k => XS.iload X71.here hx rfl (hb hby at_114) rfl k) ?_
      show Go _ _ _ _ _ _ _ (T71.setTop (mkF m 116 #[.val (.int p0), .val (.int p1), .val (.int p2), .val (.int p3), .val (.int p4), .val (.int p5), .val (.int n_), .val (.int x1), .val (.int x2), .val (.int x3), .val (.int x4), .val (.int x5), .val (.int x6), .val (.int x7), .val (.int x8), .val (.ref b9), .unset, .unset, .unset] [(.int x6), (.int x2), (.ref b9)]))
      have c188 := (F22.keep K71)
      have c189 := (F25.keep K71)
      have c190 := (c72.keep K71)
      obtain ⟨cq187, kq187, q187a, q187b, q187c⟩ := isOf hZ (rfl : T71.heap = _) c190
      obtain ⟨_, _, ⟨T187, L187, k187, n187⟩, -, X187, ⟨Lc187, hQ187, l187, y187, z187⟩, st187⟩ := X71.virtualBack hx (y := (⟨"com/example/robust_broker/robustbroker/Postings", "add", "(II)V"⟩ : MethodName)) (z := (⟨"com/example/robust_broker/robustbroker/Postings", "add", "(II)V"⟩ : MethodName)) hown (mvT hZ (hw _ (List.mem_of_getElem? (i := 47) rfl))) (mvT hZ (hw _ (List.mem_of_getElem? (i := 48) rfl))) (notFace_of_selects (args := #[]) (mvT hZ (hw _ (List.mem_of_getElem? (i := 50) rfl)))) (mvT hZ (hw _ (List.mem_of_getElem? (i := 50) rfl))) (mvT hZ (hw _ (List.mem_of_getElem? (i := 49) rfl))) (by decide) (backOf (W := 0) (rmadd_2_1 l Z a0 hw [] b9 x2 x6 b13 k15 x1 b14 k16 x5 ((0 : Int64) + (x5.toInt64)) T71.heap n0 z79 F73 F74 c188 F75 F76 c189 F77 F78 n28 n30 hn19 g29 g31 c190 g10) hZ (hw _ (List.mem_of_getElem? (i := 51) rfl)) (hw _ (List.mem_of_getElem? (i := 4) rfl)) (by decide) (by decide)) q187a q187c (g := (mkF m 116 #[.val (.int p0), .val (.int p1), .val (.int p2), .val (.int p3), .val (.int p4), .val (.int p5), .val (.int n_), .val (.int x1), .val (.int x2), .val (.int x3), .val (.int x4), .val (.int x5), .val (.int x6), .val (.int x7), .val (.int x8), .val (.ref b9), .unset, .unset, .unset] [(.int x6), (.int x2), (.ref b9)])) rfl (by rw [hml]; rfl) (Steps.refl _) (argsL := [(.int x2), (.int x6)]) (rest := []) (lenOf pd_5 rfl) rfl (by show 2 * 0 + _ ≤ _; exact Nat.le_of_eq rfl) (hb hby at_116) (fun _ _ => ⟨rfl, (rfl : T71.heap = _), (by decide : 3 + 0 ≤ _), (by decide : 8 + 0 ≤ _)⟩)
      dsimp only [Pt.U, Pt.locs, Pt.cells, Pt.slots] at X187 l187 y187 z187 st187 hQ187
      subst l187 y187 z187
      obtain ⟨rfl, Nq187, K187, F191, F192, F193, F194, F195, F196⟩ := hQ187
      have N187 := Fr.app N71 Nq187
      have z197 : n0 ≤ T187.heap.size := Nat.le_trans z79 K187.1
      refine gob (fun _ k => st187.trans k) ?_
      show Go _ _ _ _ _ _ _ (T187.setTop (mkF m 119 #[.val (.int p0), .val (.int p1), .val (.int p2), .val (.int p3), .val (.int p4), .val (.int p5), .val (.int n_), .val (.int x1), .val (.int x2), .val (.int x3), .val (.int x4), .val (.int x5), .val (.int x6), .val (.int x7), .val (.int x8), .val (.ref b9), .unset, .unset, .unset] []))
      refine gob (fun _ k => XS.iload X187.here hx rfl (hb hby at_119) rfl k) ?_
      show Go _ _ _ _ _ _ _ (T187.setTop (mkF m 121 #[.val (.int p0), .val (.int p1), .val (.int p2), .val (.int p3), .val (.int p4), .val (.int p5), .val (.int n_), .val (.int x1), .val (.int x2), .val (.int x3), .val (.int x4), .val (.int x5), .val (.int x6), .val (.int x7), .val (.int x8), .val (.ref b9), .unset, .unset, .unset] [(.int n_)]))
      refine gob (fun _ k => XS.iconst X187.here hx rfl (hb hby at_121) k) ?_
      show Go _ _ _ _ _ _ _ (T187.setTop (mkF m 122 #[.val (.int p0), .val (.int p1), .val (.int p2), .val (.int p3), .val (.int p4), .val (.int p5), .val (.int n_), .val (.int x1), .val (.int x2), .val (.int x3), .val (.int x4), .val (.int x5), .val (.int x6), .val (.int x7), .val (.int x8), .val (.ref b9), .unset, .unset, .unset] [(.int (3 : Int32)), (.int n_)]))
      by_cases hc122_198 : n_ < (3 : Int32)
      · skip
        refine gob (fun _ k => XS.icmpYes X187.here hx rfl (pc0 := 122) (pc' := 134) rfl (hb hby at_122) rfl (tlt hc122_198).1 (by decide) (by decide) k) ?_
        show Go _ _ _ _ _ _ _ (T187.setTop (mkF m 134 #[.val (.int p0), .val (.int p1), .val (.int p2), .val (.int p3), .val (.int p4), .val (.int p5), .val (.int n_), .val (.int x1), .val (.int x2), .val (.int x3), .val (.int x4), .val (.int x5), .val (.int x6), .val (.int x7), .val (.int x8), .val (.ref b9), .unset, .unset, .unset] []))
        refine gob (fun _ k => XS.aload X187.here hx rfl (hb hby at_134) rfl rfl k) ?_
        show Go _ _ _ _ _ _ _ (T187.setTop (mkF m 136 #[.val (.int p0), .val (.int p1), .val (.int p2), .val (.int p3), .val (.int p4), .val (.int p5), .val (.int n_), .val (.int x1), .val (.int x2), .val (.int x3), .val (.int x4), .val (.int x5), .val (.int x6), .val (.int x7), .val (.int x8), .val (.ref b9), .unset, .unset, .unset] [(.ref b9)]))
        have c200 := (c188.keep K187)
        have c201 := (c189.keep K187)
        have c202 := (c190.keep K187)
        obtain ⟨cq199, kq199, q199a, q199b, q199c⟩ := isOf hZ (rfl : T187.heap = _) c202
        obtain ⟨_, _, ⟨T199, L199, k199, n199⟩, -, X199, ⟨Lc199, hQ199, l199, y199, z199⟩, st199⟩ := X187.virtualBack hx (y := (⟨"com/example/robust_broker/robustbroker/Postings", "trim", "()V"⟩ : MethodName)) (z := (⟨"com/example/robust_broker/robustbroker/Postings", "trim", "()V"⟩ : MethodName)) hown (mvT hZ (hw _ (List.mem_of_getElem? (i := 16) rfl))) (mvT hZ (hw _ (List.mem_of_getElem? (i := 17) rfl))) (notFace_of_selects (args := #[]) (mvT hZ (hw _ (List.mem_of_getElem? (i := 19) rfl)))) (mvT hZ (hw _ (List.mem_of_getElem? (i := 19) rfl))) (mvT hZ (hw _ (List.mem_of_getElem? (i := 18) rfl))) (by decide) (backOf (W := 0) (rmtrim_2_2 l Z a0 hw [] b9 b13 k15 x1 x2 b14 k16 x5 x6 (((0 : Int64) + (x5.toInt64)) + (x6.toInt64)) T187.heap n0 z197 F191 F192 c200 F193 F194 c201 F195 F196 n28 n30 hn19 c202 g10) hZ (hw _ (List.mem_of_getElem? (i := 20) rfl)) (hw _ (List.mem_of_getElem? (i := 4) rfl)) (by decide) (by decide)) q199a q199c (g := (mkF m 136 #[.val (.int p0), .val (.int p1), .val (.int p2), .val (.int p3), .val (.int p4), .val (.int p5), .val (.int n_), .val (.int x1), .val (.int x2), .val (.int x3), .val (.int x4), .val (.int x5), .val (.int x6), .val (.int x7), .val (.int x8), .val (.ref b9), .unset, .unset, .unset] [(.ref b9)])) rfl (by rw [hml]; rfl) (Steps.refl _) (argsL := []) (rest := []) (lenOf pd_2 rfl) rfl (by show 2 * 0 + _ ≤ _; exact Nat.le_of_eq rfl) (hb hby at_136) (fun _ _ => ⟨rfl, (rfl : T187.heap = _), (by decide : 3 + 2 ≤ _), (by decide : 8 + 4 ≤ _)⟩)
        dsimp only [Pt.U, Pt.locs, Pt.cells, Pt.slots] at X199 l199 y199 z199 st199 hQ199
        subst l199 y199 z199
        obtain ⟨b203, b204, rfl, Nq199, K199, hz205, hz206, hn207, F208, F209, F210, F211, F212, F213, F214, F215⟩ := hQ199
        have N199 := Fr.app N187 Nq199
        have n216 : b9 ≠ b203 := Nat.ne_of_lt (Nat.lt_of_lt_of_le c202.lt hz205)
        have n217 : b13 ≠ b203 := Nat.ne_of_lt (Nat.lt_of_lt_of_le c200.lt hz205)
        have n218 : b14 ≠ b203 := Nat.ne_of_lt (Nat.lt_of_lt_of_le c201.lt hz205)
        have g219 : n0 ≤ b203 := Nat.le_trans z197 hz205
        have n220 : b9 ≠ b204 := Nat.ne_of_lt (Nat.lt_of_lt_of_le c202.lt hz206)
        have n221 : b13 ≠ b204 := Nat.ne_of_lt (Nat.lt_of_lt_of_le c200.lt hz206)
        have n222 : b14 ≠ b204 := Nat.ne_of_lt (Nat.lt_of_lt_of_le c201.lt hz206)
        have g223 : n0 ≤ b204 := Nat.le_trans z197 hz206
        have z224 : n0 ≤ T199.heap.size := Nat.le_trans z197 K199.1
        refine gob (fun _ k => st199.trans k) ?_
        show Go _ _ _ _ _ _ _ (T199.setTop (mkF m 139 #[.val (.int p0), .val (.int p1), .val (.int p2), .val (.int p3), .val (.int p4), .val (.int p5), .val (.int n_), .val (.int x1), .val (.int x2), .val (.int x3), .val (.int x4), .val (.int x5), .val (.int x6), .val (.int x7), .val (.int x8), .val (.ref b9), .unset, .unset, .unset] []))
        refine gob (fun _ k => XS.lconst X199.here hx rfl (hb hby at_139) k) ?_
        show Go _ _ _ _ _ _ _ (T199.setTop (mkF m 140 #[.val (.int p0), .val (.int p1), .val (.int p2), .val (.int p3), .val (.int p4), .val (.int p5), .val (.int n_), .val (.int x1), .val (.int x2), .val (.int x3), .val (.int x4), .val (.int x5), .val (.int x6), .val (.int x7), .val (.int x8), .val (.ref b9), .unset, .unset, .unset] [(.long (0 : Int64))]))
        refine gob (fun _ k => XS.lstore X199.here hx rfl (hb hby at_140) rfl (l' := #[.val (.int p0), .val (.int p1), .val (.int p2), .val (.int p3), .val (.int p4), .val (.int p5), .val (.int n_), .val (.int x1), .val (.int x2), .val (.int x3), .val (.int x4), .val (.int x5), .val (.int x6), .val (.int x7), .val (.int x8), .val (.ref b9), .val (.long (0 : Int64)), .second, .unset]) rfl k) ?_
        show Go _ _ _ _ _ _ _ (T199.setTop (mkF m 142 #[.val (.int p0), .val (.int p1), .val (.int p2), .val (.int p3), .val (.int p4), .val (.int p5), .val (.int n_), .val (.int x1), .val (.int x2), .val (.int x3), .val (.int x4), .val (.int x5), .val (.int x6), .val (.int x7), .val (.int x8), .val (.ref b9), .val (.long (0 : Int64)), .second, .unset] []))
        refine gob (fun _ k => XS.iload X199.here hx rfl (hb hby at_142) rfl k) ?_
        show Go _ _ _ _ _ _ _ (T199.setTop (mkF m 144 #[.val (.int p0), .val (.int p1), .val (.int p2), .val (.int p3), .val (.int p4), .val (.int p5), .val (.int n_), .val (.int x1), .val (.int x2), .val (.int x3), .val (.int x4), .val (.int x5), .val (.int x6), .val (.int x7), .val (.int x8), .val (.ref b9), .val (.long (0 : Int64)), .second, .unset] [(.int n_)]))
        refine gob (fun _ k => XS.iconst X199.here hx rfl (hb hby at_144) k) ?_
        show Go _ _ _ _ _ _ _ (T199.setTop (mkF m 145 #[.val (.int p0), .val (.int p1), .val (.int p2), .val (.int p3), .val (.int p4), .val (.int p5), .val (.int n_), .val (.int x1), .val (.int x2), .val (.int x3), .val (.int x4), .val (.int x5), .val (.int x6), .val (.int x7), .val (.int x8), .val (.ref b9), .val (.long (0 : Int64)), .second, .unset] [(.int (1 : Int32)), (.int n_)]))
        refine gob (fun _ k => XS.icmpNo X199.here hx rfl (hb hby at_145) rfl (flt hc92_33).1 k) ?_
        show Go _ _ _ _ _ _ _ (T199.setTop (mkF m 148 #[.val (.int p0), .val (.int p1), .val (.int p2), .val (.int p3), .val (.int p4), .val (.int p5), .val (.int n_), .val (.int x1), .val (.int x2), .val (.int x3), .val (.int x4), .val (.int x5), .val (.int x6), .val (.int x7), .val (.int x8), .val (.ref b9), .val (.long (0 : Int64)), .second, .unset] []))
        refine gob (fun _ k => XS.lload X199.here hx rfl (hb hby at_148) rfl k) ?_
        show Go _ _ _ _ _ _ _ (T199.setTop (mkF m 150 #[.val (.int p0), .val (.int p1), .val (.int p2), .val (.int p3), .val (.int p4), .val (.int p5), .val (.int n_), .val (.int x1), .val (.int x2), .val (.int x3), .val (.int x4), .val (.int x5), .val (.int x6), .val (.int x7), .val (.int x8), .val (.ref b9), .val (.long (0 : Int64)), .second, .unset] [(.long (0 : Int64))]))
        refine gob (fun _ k => XS.iload X199.here hx rfl (hb hby at_150) rfl k) ?_
        show Go _ _ _ _ _ _ _ (T199.setTop (mkF m 152 #[.val (.int p0), .val (.int p1), .val (.int p2), .val (.int p3), .val (.int p4), .val (.int p5), .val (.int n_), .val (.int x1), .val (.int x2), .val (.int x3), .val (.int x4), .val (.int x5), .val (.int x6), .val (.int x7), .val (.int x8), .val (.ref b9), .val (.long (0 : Int64)), .second, .unset] [(.int x5), (.long (0 : Int64))]))
        refine gob (fun _ k => XS.i2l X199.here hx rfl (hb hby at_152) rfl k) ?_
        show Go _ _ _ _ _ _ _ (T199.setTop (mkF m 153 #[.val (.int p0), .val (.int p1), .val (.int p2), .val (.int p3), .val (.int p4), .val (.int p5), .val (.int n_), .val (.int x1), .val (.int x2), .val (.int x3), .val (.int x4), .val (.int x5), .val (.int x6), .val (.int x7), .val (.int x8), .val (.ref b9), .val (.long (0 : Int64)), .second, .unset] [(.long (x5.toInt64)), (.long (0 : Int64))]))
        refine gob (fun _ k => XS.ladd X199.here hx rfl (hb hby at_153) rfl k) ?_
        show Go _ _ _ _ _ _ _ (T199.setTop (mkF m 154 #[.val (.int p0), .val (.int p1), .val (.int p2), .val (.int p3), .val (.int p4), .val (.int p5), .val (.int n_), .val (.int x1), .val (.int x2), .val (.int x3), .val (.int x4), .val (.int x5), .val (.int x6), .val (.int x7), .val (.int x8), .val (.ref b9), .val (.long (0 : Int64)), .second, .unset] [(.long ((0 : Int64) + (x5.toInt64)))]))
        refine gob (fun _ k => XS.lstore X199.here hx rfl (hb hby at_154) rfl (l' := #[.val (.int p0), .val (.int p1), .val (.int p2), .val (.int p3), .val (.int p4), .val (.int p5), .val (.int n_), .val (.int x1), .val (.int x2), .val (.int x3), .val (.int x4), .val (.int x5), .val (.int x6), .val (.int x7), .val (.int x8), .val (.ref b9), .val (.long ((0 : Int64) + (x5.toInt64))), .second, .unset]) rfl k) ?_
        show Go _ _ _ _ _ _ _ (T199.setTop (mkF m 156 #[.val (.int p0), .val (.int p1), .val (.int p2), .val (.int p3), .val (.int p4), .val (.int p5), .val (.int n_), .val (.int x1), .val (.int x2), .val (.int x3), .val (.int x4), .val (.int x5), .val (.int x6), .val (.int x7), .val (.int x8), .val (.ref b9), .val (.long ((0 : Int64) + (x5.toInt64))), .second, .unset] []))
        generalize hx225 : ((0 : Int64) + (x5.toInt64)) = x225
        show Go _ _ _ _ _ _ _ (T199.setTop (mkF m 156 #[.val (.int p0), .val (.int p1), .val (.int p2), .val (.int p3), .val (.int p4), .val (.int p5), .val (.int n_), .val (.int x1), .val (.int x2), .val (.int x3), .val (.int x4), .val (.int x5), .val (.int x6), .val (.int x7), .val (.int x8), .val (.ref b9), .val (.long x225), .second, .unset] []))
        refine gob (fun _ k => XS.iload X199.here hx rfl (hb hby at_156) rfl k) ?_
        show Go _ _ _ _ _ _ _ (T199.setTop (mkF m 158 #[.val (.int p0), .val (.int p1), .val (.int p2), .val (.int p3), .val (.int p4), .val (.int p5), .val (.int n_), .val (.int x1), .val (.int x2), .val (.int x3), .val (.int x4), .val (.int x5), .val (.int x6), .val (.int x7), .val (.int x8), .val (.ref b9), .val (.long x225), .second, .unset] [(.int n_)]))
        refine gob (fun _ k => XS.iconst X199.here hx rfl (hb hby at_158) k) ?_
        show Go _ _ _ _ _ _ _ (T199.setTop (mkF m 159 #[.val (.int p0), .val (.int p1), .val (.int p2), .val (.int p3), .val (.int p4), .val (.int p5), .val (.int n_), .val (.int x1), .val (.int x2), .val (.int x3), .val (.int x4), .val (.int x5), .val (.int x6), .val (.int x7), .val (.int x8), .val (.ref b9), .val (.long x225), .second, .unset] [(.int (2 : Int32)), (.int n_)]))
        refine gob (fun _ k => XS.icmpNo X199.here hx rfl (hb hby at_159) rfl (flt hc107_80).1 k) ?_
        show Go _ _ _ _ _ _ _ (T199.setTop (mkF m 162 #[.val (.int p0), .val (.int p1), .val (.int p2), .val (.int p3), .val (.int p4), .val (.int p5), .val (.int n_), .val (.int x1), .val (.int x2), .val (.int x3), .val (.int x4), .val (.int x5), .val (.int x6), .val (.int x7), .val (.int x8), .val (.ref b9), .val (.long x225), .second, .unset] []))
        refine gob (fun _ k => XS.lload X199.here hx rfl (hb hby at_162) rfl k) ?_
        show Go _ _ _ _ _ _ _ (T199.setTop (mkF m 164 #[.val (.int p0), .val (.int p1), .val (.int p2), .val (.int p3), .val (.int p4), .val (.int p5), .val (.int n_), .val (.int x1), .val (.int x2), .val (.int x3), .val (.int x4), .val (.int x5), .val (.int x6), .val (.int x7), .val (.int x8), .val (.ref b9), .val (.long x225), .second, .unset] [(.long x225)]))
        refine gob (fun _ k => XS.iload X199.here hx rfl (hb hby at_164) rfl k) ?_
        show Go _ _ _ _ _ _ _ (T199.setTop (mkF m 166 #[.val (.int p0), .val (.int p1), .val (.int p2), .val (.int p3), .val (.int p4), .val (.int p5), .val (.int n_), .val (.int x1), .val (.int x2), .val (.int x3), .val (.int x4), .val (.int x5), .val (.int x6), .val (.int x7), .val (.int x8), .val (.ref b9), .val (.long x225), .second, .unset] [(.int x6), (.long x225)]))
        refine gob (fun _ k => XS.i2l X199.here hx rfl (hb hby at_166) rfl k) ?_
        show Go _ _ _ _ _ _ _ (T199.setTop (mkF m 167 #[.val (.int p0), .val (.int p1), .val (.int p2), .val (.int p3), .val (.int p4), .val (.int p5), .val (.int n_), .val (.int x1), .val (.int x2), .val (.int x3), .val (.int x4), .val (.int x5), .val (.int x6), .val (.int x7), .val (.int x8), .val (.ref b9), .val (.long x225), .second, .unset] [(.long (x6.toInt64)), (.long x225)]))
        refine gob (fun _ k => XS.ladd X199.here hx rfl (hb hby at_167) rfl k) ?_
        show Go _ _ _ _ _ _ _ (T199.setTop (mkF m 168 #[.val (.int p0), .val (.int p1), .val (.int p2), .val (.int p3), .val (.int p4), .val (.int p5), .val (.int n_), .val (.int x1), .val (.int x2), .val (.int x3), .val (.int x4), .val (.int x5), .val (.int x6), .val (.int x7), .val (.int x8), .val (.ref b9), .val (.long x225), .second, .unset] [(.long (x225 + (x6.toInt64)))]))
        refine gob (fun _ k => XS.lstore X199.here hx rfl (hb hby at_168) rfl (l' := #[.val (.int p0), .val (.int p1), .val (.int p2), .val (.int p3), .val (.int p4), .val (.int p5), .val (.int n_), .val (.int x1), .val (.int x2), .val (.int x3), .val (.int x4), .val (.int x5), .val (.int x6), .val (.int x7), .val (.int x8), .val (.ref b9), .val (.long (x225 + (x6.toInt64))), .second, .unset]) rfl k) ?_
        show Go _ _ _ _ _ _ _ (T199.setTop (mkF m 170 #[.val (.int p0), .val (.int p1), .val (.int p2), .val (.int p3), .val (.int p4), .val (.int p5), .val (.int n_), .val (.int x1), .val (.int x2), .val (.int x3), .val (.int x4), .val (.int x5), .val (.int x6), .val (.int x7), .val (.int x8), .val (.ref b9), .val (.long (x225 + (x6.toInt64))), .second, .unset] []))
        generalize hx226 : (x225 + (x6.toInt64)) = x226
        show Go _ _ _ _ _ _ _ (T199.setTop (mkF m 170 #[.val (.int p0), .val (.int p1), .val (.int p2), .val (.int p3), .val (.int p4), .val (.int p5), .val (.int n_), .val (.int x1), .val (.int x2), .val (.int x3), .val (.int x4), .val (.int x5), .val (.int x6), .val (.int x7), .val (.int x8), .val (.ref b9), .val (.long x226), .second, .unset] []))
        refine gob (fun _ k => XS.iload X199.here hx rfl (hb hby at_170) rfl k) ?_
        show Go _ _ _ _ _ _ _ (T199.setTop (mkF m 172 #[.val (.int p0), .val (.int p1), .val (.int p2), .val (.int p3), .val (.int p4), .val (.int p5), .val (.int n_), .val (.int x1), .val (.int x2), .val (.int x3), .val (.int x4), .val (.int x5), .val (.int x6), .val (.int x7), .val (.int x8), .val (.ref b9), .val (.long x226), .second, .unset] [(.int n_)]))
        refine gob (fun _ k => XS.iconst X199.here hx rfl (hb hby at_172) k) ?_
        show Go _ _ _ _ _ _ _ (T199.setTop (mkF m 173 #[.val (.int p0), .val (.int p1), .val (.int p2), .val (.int p3), .val (.int p4), .val (.int p5), .val (.int n_), .val (.int x1), .val (.int x2), .val (.int x3), .val (.int x4), .val (.int x5), .val (.int x6), .val (.int x7), .val (.int x8), .val (.ref b9), .val (.long x226), .second, .unset] [(.int (3 : Int32)), (.int n_)]))
        refine gob (fun _ k => XS.icmpYes X199.here hx rfl (pc0 := 173) (pc' := 184) rfl (hb hby at_173) rfl (tlt hc122_198).1 (by decide) (by decide) k) ?_
        show Go _ _ _ _ _ _ _ (T199.setTop (mkF m 184 #[.val (.int p0), .val (.int p1), .val (.int p2), .val (.int p3), .val (.int p4), .val (.int p5), .val (.int n_), .val (.int x1), .val (.int x2), .val (.int x3), .val (.int x4), .val (.int x5), .val (.int x6), .val (.int x7), .val (.int x8), .val (.ref b9), .val (.long x226), .second, .unset] []))
        refine gob (fun _ k => XS.aload X199.here hx rfl (hb hby at_184) rfl rfl k) ?_
        show Go _ _ _ _ _ _ _ (T199.setTop (mkF m 186 #[.val (.int p0), .val (.int p1), .val (.int p2), .val (.int p3), .val (.int p4), .val (.int p5), .val (.int n_), .val (.int x1), .val (.int x2), .val (.int x3), .val (.int x4), .val (.int x5), .val (.int x6), .val (.int x7), .val (.int x8), .val (.ref b9), .val (.long x226), .second, .unset] [(.ref b9)]))
        have c228 := (c202.keep K199)
        obtain ⟨cq227, kq227, q227a, q227b, q227c⟩ := isOf hZ (rfl : T199.heap = _) c228
        obtain ⟨_, _, ⟨T227, L227, k227, n227⟩, -, X227, ⟨Lc227, hQ227, l227, y227, z227⟩, st227⟩ := X199.virtualBack hx (y := (⟨"com/example/robust_broker/robustbroker/Postings", "size", "()I"⟩ : MethodName)) (z := (⟨"com/example/robust_broker/robustbroker/Postings", "size", "()I"⟩ : MethodName)) hown (mvT hZ (hw _ (List.mem_of_getElem? (i := 35) rfl))) (mvT hZ (hw _ (List.mem_of_getElem? (i := 36) rfl))) (notFace_of_selects (args := #[]) (mvT hZ (hw _ (List.mem_of_getElem? (i := 38) rfl)))) (mvT hZ (hw _ (List.mem_of_getElem? (i := 38) rfl))) (mvT hZ (hw _ (List.mem_of_getElem? (i := 37) rfl))) (by decide) (backOf (W := 0) (rm6 l Z a0 hw [] b9 (2 : Int32) T199.heap n0 z224 F210) hZ (hw _ (List.mem_of_getElem? (i := 39) rfl)) (hw _ (List.mem_of_getElem? (i := 4) rfl)) (by decide) (by decide)) q227a q227c (g := (mkF m 186 #[.val (.int p0), .val (.int p1), .val (.int p2), .val (.int p3), .val (.int p4), .val (.int p5), .val (.int n_), .val (.int x1), .val (.int x2), .val (.int x3), .val (.int x4), .val (.int x5), .val (.int x6), .val (.int x7), .val (.int x8), .val (.ref b9), .val (.long x226), .second, .unset] [(.ref b9)])) rfl (by rw [hml]; rfl) (Steps.refl _) (argsL := []) (rest := []) (lenOf pd_3 rfl) rfl (by show 2 * 0 + _ ≤ _; exact Nat.le_of_eq rfl) (hb hby at_186) (fun _ _ => ⟨rfl, (rfl : T199.heap = _), (by decide : 5 + 0 ≤ _), (by decide : 12 + 0 ≤ _)⟩)
        dsimp only [Pt.U, Pt.locs, Pt.cells, Pt.slots] at X227 l227 y227 z227 st227 hQ227
        subst l227 y227 z227
        obtain ⟨r227, rfl, hr227, Nq227, e227⟩ := hQ227
        have N227 := Fr.app N199 Nq227
        refine gob (fun _ k => st227.trans k) ?_
        show Go _ _ _ _ _ _ _ (T227.setTop (mkF m 189 #[.val (.int p0), .val (.int p1), .val (.int p2), .val (.int p3), .val (.int p4), .val (.int p5), .val (.int n_), .val (.int x1), .val (.int x2), .val (.int x3), .val (.int x4), .val (.int x5), .val (.int x6), .val (.int x7), .val (.int x8), .val (.ref b9), .val (.long x226), .second, .unset] [(.int r227)]))
        refine gob (fun _ k => XS.iload X227.here hx rfl (hb hby at_189) rfl k) ?_
        show Go _ _ _ _ _ _ _ (T227.setTop (mkF m 191 #[.val (.int p0), .val (.int p1), .val (.int p2), .val (.int p3), .val (.int p4), .val (.int p5), .val (.int n_), .val (.int x1), .val (.int x2), .val (.int x3), .val (.int x4), .val (.int x5), .val (.int x6), .val (.int x7), .val (.int x8), .val (.ref b9), .val (.long x226), .second, .unset] [(.int n_), (.int r227)]))
        have hd230 : r227 = n_ := ld_0_191_229 p0 n_ r227 hn_ hc92_33 hc107_80 hc122_198 hr227
        refine gob (fun _ k => XS.icmpNo X227.here hx rfl (hb hby at_191) rfl (teq hd230).2 k) ?_
        show Go _ _ _ _ _ _ _ (T227.setTop (mkF m 194 #[.val (.int p0), .val (.int p1), .val (.int p2), .val (.int p3), .val (.int p4), .val (.int p5), .val (.int n_), .val (.int x1), .val (.int x2), .val (.int x3), .val (.int x4), .val (.int x5), .val (.int x6), .val (.int x7), .val (.int x8), .val (.ref b9), .val (.long x226), .second, .unset] []))
        refine gob (fun _ k => XS.aload X227.here hx rfl (hb hby at_194) rfl rfl k) ?_
        show Go _ _ _ _ _ _ _ (T227.setTop (mkF m 196 #[.val (.int p0), .val (.int p1), .val (.int p2), .val (.int p3), .val (.int p4), .val (.int p5), .val (.int n_), .val (.int x1), .val (.int x2), .val (.int x3), .val (.int x4), .val (.int x5), .val (.int x6), .val (.int x7), .val (.int x8), .val (.ref b9), .val (.long x226), .second, .unset] [(.ref b9)]))
        obtain ⟨cq231, kq231, q231a, q231b, q231c⟩ := isOf hZ e227 c228
        obtain ⟨_, _, ⟨T231, L231, k231, n231⟩, -, X231, ⟨Lc231, hQ231, l231, y231, z231⟩, st231⟩ := X227.virtualBack hx (y := (⟨"com/example/robust_broker/robustbroker/Postings", "collectionFrequency", "()J"⟩ : MethodName)) (z := (⟨"com/example/robust_broker/robustbroker/Postings", "collectionFrequency", "()J"⟩ : MethodName)) hown (mvT hZ (hw _ (List.mem_of_getElem? (i := 40) rfl))) (mvT hZ (hw _ (List.mem_of_getElem? (i := 41) rfl))) (notFace_of_selects (args := #[]) (mvT hZ (hw _ (List.mem_of_getElem? (i := 43) rfl)))) (mvT hZ (hw _ (List.mem_of_getElem? (i := 43) rfl))) (mvT hZ (hw _ (List.mem_of_getElem? (i := 42) rfl))) (by decide) (backOf (W := 0) (rm7 l Z a0 hw [] b9 (((0 : Int64) + (x5.toInt64)) + (x6.toInt64)) T199.heap n0 z224 F211) hZ (hw _ (List.mem_of_getElem? (i := 44) rfl)) (hw _ (List.mem_of_getElem? (i := 4) rfl)) (by decide) (by decide)) q231a q231c (g := (mkF m 196 #[.val (.int p0), .val (.int p1), .val (.int p2), .val (.int p3), .val (.int p4), .val (.int p5), .val (.int n_), .val (.int x1), .val (.int x2), .val (.int x3), .val (.int x4), .val (.int x5), .val (.int x6), .val (.int x7), .val (.int x8), .val (.ref b9), .val (.long x226), .second, .unset] [(.ref b9)])) rfl (by rw [hml]; rfl) (Steps.refl _) (argsL := []) (rest := []) (lenOf pd_4 rfl) rfl (by show 2 * 0 + _ ≤ _; exact Nat.le_of_eq rfl) (hb hby at_196) (fun _ _ => ⟨rfl, e227, (by decide : 5 + 0 ≤ _), (by decide : 12 + 0 ≤ _)⟩)
        dsimp only [Pt.U, Pt.locs, Pt.cells, Pt.slots] at X231 l231 y231 z231 st231 hQ231
        subst l231 y231 z231
        obtain ⟨r231, rfl, hr231, Nq231, e231⟩ := hQ231
        have N231 := Fr.app N227 Nq231
        refine gob (fun _ k => st231.trans k) ?_
        show Go _ _ _ _ _ _ _ (T231.setTop (mkF m 199 #[.val (.int p0), .val (.int p1), .val (.int p2), .val (.int p3), .val (.int p4), .val (.int p5), .val (.int n_), .val (.int x1), .val (.int x2), .val (.int x3), .val (.int x4), .val (.int x5), .val (.int x6), .val (.int x7), .val (.int x8), .val (.ref b9), .val (.long x226), .second, .unset] [(.long r231)]))
        refine gob (fun _ k => XS.lload X231.here hx rfl (hb hby at_199) rfl k) ?_
        show Go _ _ _ _ _ _ _ (T231.setTop (mkF m 201 #[.val (.int p0), .val (.int p1), .val (.int p2), .val (.int p3), .val (.int p4), .val (.int p5), .val (.int n_), .val (.int x1), .val (.int x2), .val (.int x3), .val (.int x4), .val (.int x5), .val (.int x6), .val (.int x7), .val (.int x8), .val (.ref b9), .val (.long x226), .second, .unset] [(.long x226), (.long r231)]))
        refine gob (fun _ k => XS.lcmp X231.here hx rfl (hb hby at_201) rfl k) ?_
        show Go _ _ _ _ _ _ _ (T231.setTop (mkF m 202 #[.val (.int p0), .val (.int p1), .val (.int p2), .val (.int p3), .val (.int p4), .val (.int p5), .val (.int n_), .val (.int x1), .val (.int x2), .val (.int x3), .val (.int x4), .val (.int x5), .val (.int x6), .val (.int x7), .val (.int x8), .val (.ref b9), .val (.long x226), .second, .unset] [(.int (lcmpW r231 x226))]))
        have hd233 : r231 = x226 := ld_0_202_232 p4 p5 x5 x6 x225 x226 r231 hx5 hx6 hx225 hx226 hr231
        refine gob (fun _ k => XS.ifNo X231.here hx rfl (hb hby at_202) rfl ((if0 _ _).trans (teq ((lw_eq _ _).mpr hd233)).2) k) ?_
        show Go _ _ _ _ _ _ _ (T231.setTop (mkF m 205 #[.val (.int p0), .val (.int p1), .val (.int p2), .val (.int p3), .val (.int p4), .val (.int p5), .val (.int n_), .val (.int x1), .val (.int x2), .val (.int x3), .val (.int x4), .val (.int x5), .val (.int x6), .val (.int x7), .val (.int x8), .val (.ref b9), .val (.long x226), .second, .unset] []))
        refine gob (fun _ k => XS.iconst X231.here hx rfl (hb hby at_205) k) ?_
        show Go _ _ _ _ _ _ _ (T231.setTop (mkF m 206 #[.val (.int p0), .val (.int p1), .val (.int p2), .val (.int p3), .val (.int p4), .val (.int p5), .val (.int n_), .val (.int x1), .val (.int x2), .val (.int x3), .val (.int x4), .val (.int x5), .val (.int x6), .val (.int x7), .val (.int x8), .val (.ref b9), .val (.long x226), .second, .unset] [(.int (1 : Int32))]))
        refine gob (fun _ k => XS.goto X231.here hx rfl (pc0 := 206) (pc' := 210) rfl (hb hby at_206) (by decide) (by decide) k) ?_
        show Go _ _ _ _ _ _ _ (T231.setTop (mkF m 210 #[.val (.int p0), .val (.int p1), .val (.int p2), .val (.int p3), .val (.int p4), .val (.int p5), .val (.int n_), .val (.int x1), .val (.int x2), .val (.int x3), .val (.int x4), .val (.int x5), .val (.int x6), .val (.int x7), .val (.int x8), .val (.ref b9), .val (.long x226), .second, .unset] [(.int (1 : Int32))]))
        refine gob (fun _ k => XS.istore X231.here hx rfl (hb hby at_210) rfl (l' := #[.val (.int p0), .val (.int p1), .val (.int p2), .val (.int p3), .val (.int p4), .val (.int p5), .val (.int n_), .val (.int x1), .val (.int x2), .val (.int x3), .val (.int x4), .val (.int x5), .val (.int x6), .val (.int x7), .val (.int x8), .val (.ref b9), .val (.long x226), .second, .val (.int (1 : Int32))]) rfl k) ?_
        show Go _ _ _ _ _ _ _ (T231.setTop (mkF m 212 #[.val (.int p0), .val (.int p1), .val (.int p2), .val (.int p3), .val (.int p4), .val (.int p5), .val (.int n_), .val (.int x1), .val (.int x2), .val (.int x3), .val (.int x4), .val (.int x5), .val (.int x6), .val (.int x7), .val (.int x8), .val (.ref b9), .val (.long x226), .second, .val (.int (1 : Int32))] []))
        refine gob (fun _ k => XS.iload X231.here hx rfl (hb hby at_212) rfl k) ?_
        show Go _ _ _ _ _ _ _ (T231.setTop (mkF m 214 #[.val (.int p0), .val (.int p1), .val (.int p2), .val (.int p3), .val (.int p4), .val (.int p5), .val (.int n_), .val (.int x1), .val (.int x2), .val (.int x3), .val (.int x4), .val (.int x5), .val (.int x6), .val (.int x7), .val (.int x8), .val (.ref b9), .val (.long x226), .second, .val (.int (1 : Int32))] [(.int (1 : Int32))]))
        refine gob (fun _ k => XS.ifNo X231.here hx rfl (hb hby at_214) rfl ((if0 _ _).trans (feq (by decide : ¬ ((1 : Int32) = (0 : Int32)))).1) k) ?_
        show Go _ _ _ _ _ _ _ (T231.setTop (mkF m 217 #[.val (.int p0), .val (.int p1), .val (.int p2), .val (.int p3), .val (.int p4), .val (.int p5), .val (.int n_), .val (.int x1), .val (.int x2), .val (.int x3), .val (.int x4), .val (.int x5), .val (.int x6), .val (.int x7), .val (.int x8), .val (.ref b9), .val (.long x226), .second, .val (.int (1 : Int32))] []))
        refine gob (fun _ k => XS.iload X231.here hx rfl (hb hby at_217) rfl k) ?_
        show Go _ _ _ _ _ _ _ (T231.setTop (mkF m 219 #[.val (.int p0), .val (.int p1), .val (.int p2), .val (.int p3), .val (.int p4), .val (.int p5), .val (.int n_), .val (.int x1), .val (.int x2), .val (.int x3), .val (.int x4), .val (.int x5), .val (.int x6), .val (.int x7), .val (.int x8), .val (.ref b9), .val (.long x226), .second, .val (.int (1 : Int32))] [(.int n_)]))
        refine gob (fun _ k => XS.iconst X231.here hx rfl (hb hby at_219) k) ?_
        show Go _ _ _ _ _ _ _ (T231.setTop (mkF m 220 #[.val (.int p0), .val (.int p1), .val (.int p2), .val (.int p3), .val (.int p4), .val (.int p5), .val (.int n_), .val (.int x1), .val (.int x2), .val (.int x3), .val (.int x4), .val (.int x5), .val (.int x6), .val (.int x7), .val (.int x8), .val (.ref b9), .val (.long x226), .second, .val (.int (1 : Int32))] [(.int (1 : Int32)), (.int n_)]))
        refine gob (fun _ k => XS.icmpNo X231.here hx rfl (hb hby at_220) rfl (flt hc92_33).1 k) ?_
        show Go _ _ _ _ _ _ _ (T231.setTop (mkF m 223 #[.val (.int p0), .val (.int p1), .val (.int p2), .val (.int p3), .val (.int p4), .val (.int p5), .val (.int n_), .val (.int x1), .val (.int x2), .val (.int x3), .val (.int x4), .val (.int x5), .val (.int x6), .val (.int x7), .val (.int x8), .val (.ref b9), .val (.long x226), .second, .val (.int (1 : Int32))] []))
        refine gob (fun _ k => XS.aload X231.here hx rfl (hb hby at_223) rfl rfl k) ?_
        show Go _ _ _ _ _ _ _ (T231.setTop (mkF m 225 #[.val (.int p0), .val (.int p1), .val (.int p2), .val (.int p3), .val (.int p4), .val (.int p5), .val (.int n_), .val (.int x1), .val (.int x2), .val (.int x3), .val (.int x4), .val (.int x5), .val (.int x6), .val (.int x7), .val (.int x8), .val (.ref b9), .val (.long x226), .second, .val (.int (1 : Int32))] [(.ref b9)]))
        refine gob (fun _ k => XS.iconst X231.here hx rfl (hb hby at_225) k) ?_
        show Go _ _ _ _ _ _ _ (T231.setTop (mkF m 226 #[.val (.int p0), .val (.int p1), .val (.int p2), .val (.int p3), .val (.int p4), .val (.int p5), .val (.int n_), .val (.int x1), .val (.int x2), .val (.int x3), .val (.int x4), .val (.int x5), .val (.int x6), .val (.int x7), .val (.int x8), .val (.ref b9), .val (.long x226), .second, .val (.int (1 : Int32))] [(.int (0 : Int32)), (.ref b9)]))
        obtain ⟨cq234, kq234, q234a, q234b, q234c⟩ := isOf hZ e231 c228
        obtain ⟨_, _, ⟨T234, L234, k234, n234⟩, -, X234, ⟨Lc234, hQ234, l234, y234, z234⟩, st234⟩ := X231.virtualBack hx (y := (⟨"com/example/robust_broker/robustbroker/Postings", "document", "(I)I"⟩ : MethodName)) (z := (⟨"com/example/robust_broker/robustbroker/Postings", "document", "(I)I"⟩ : MethodName)) hown (mvT hZ (hw _ (List.mem_of_getElem? (i := 52) rfl))) (mvT hZ (hw _ (List.mem_of_getElem? (i := 53) rfl))) (notFace_of_selects (args := #[]) (mvT hZ (hw _ (List.mem_of_getElem? (i := 55) rfl)))) (mvT hZ (hw _ (List.mem_of_getElem? (i := 55) rfl))) (mvT hZ (hw _ (List.mem_of_getElem? (i := 54) rfl))) (by decide) (backOf (W := 0) (rmdoc_2_2 l Z a0 hw [] b9 (0 : Int32) b203 k15 x1 x2 T199.heap n0 z224 F208 F212 F213 (la_0_226_235  ) (la_0_226_236  )) hZ (hw _ (List.mem_of_getElem? (i := 56) rfl)) (hw _ (List.mem_of_getElem? (i := 4) rfl)) (by decide) (by decide)) q234a q234c (g := (mkF m 226 #[.val (.int p0), .val (.int p1), .val (.int p2), .val (.int p3), .val (.int p4), .val (.int p5), .val (.int n_), .val (.int x1), .val (.int x2), .val (.int x3), .val (.int x4), .val (.int x5), .val (.int x6), .val (.int x7), .val (.int x8), .val (.ref b9), .val (.long x226), .second, .val (.int (1 : Int32))] [(.int (0 : Int32)), (.ref b9)])) rfl (by rw [hml]; rfl) (Steps.refl _) (argsL := [(.int (0 : Int32))]) (rest := []) (lenOf pd_6 rfl) rfl (by show 2 * 0 + _ ≤ _; exact Nat.le_of_eq rfl) (hb hby at_226) (fun _ _ => ⟨rfl, e231, (by decide : 5 + 0 ≤ _), (by decide : 12 + 0 ≤ _)⟩)
        dsimp only [Pt.U, Pt.locs, Pt.cells, Pt.slots] at X234 l234 y234 z234 st234 hQ234
        subst l234 y234 z234
        obtain ⟨r234, rfl, hr234, Nq234, e234⟩ := hQ234
        have N234 := Fr.app N231 Nq234
        refine gob (fun _ k => st234.trans k) ?_
        show Go _ _ _ _ _ _ _ (T234.setTop (mkF m 229 #[.val (.int p0), .val (.int p1), .val (.int p2), .val (.int p3), .val (.int p4), .val (.int p5), .val (.int n_), .val (.int x1), .val (.int x2), .val (.int x3), .val (.int x4), .val (.int x5), .val (.int x6), .val (.int x7), .val (.int x8), .val (.ref b9), .val (.long x226), .second, .val (.int (1 : Int32))] [(.int r234)]))
        refine gob (fun _ k => XS.iload X234.here hx rfl (hb hby at_229) rfl k) ?_
        show Go _ _ _ _ _ _ _ (T234.setTop (mkF m 231 #[.val (.int p0), .val (.int p1), .val (.int p2), .val (.int p3), .val (.int p4), .val (.int p5), .val (.int n_), .val (.int x1), .val (.int x2), .val (.int x3), .val (.int x4), .val (.int x5), .val (.int x6), .val (.int x7), .val (.int x8), .val (.ref b9), .val (.long x226), .second, .val (.int (1 : Int32))] [(.int x1), (.int r234)]))
        have hd238 : r234 = x1 := ld_0_231_237 p1 p2 x1 x2 r234 hx1 hx2 hr234
        refine gob (fun _ k => XS.icmpNo X234.here hx rfl (hb hby at_231) rfl (teq hd238).2 k) ?_
        show Go _ _ _ _ _ _ _ (T234.setTop (mkF m 234 #[.val (.int p0), .val (.int p1), .val (.int p2), .val (.int p3), .val (.int p4), .val (.int p5), .val (.int n_), .val (.int x1), .val (.int x2), .val (.int x3), .val (.int x4), .val (.int x5), .val (.int x6), .val (.int x7), .val (.int x8), .val (.ref b9), .val (.long x226), .second, .val (.int (1 : Int32))] []))
        refine gob (fun _ k => XS.aload X234.here hx rfl (hb hby at_234) rfl rfl k) ?_
        show Go _ _ _ _ _ _ _ (T234.setTop (mkF m 236 #[.val (.int p0), .val (.int p1), .val (.int p2), .val (.int p3), .val (.int p4), .val (.int p5), .val (.int n_), .val (.int x1), .val (.int x2), .val (.int x3), .val (.int x4), .val (.int x5), .val (.int x6), .val (.int x7), .val (.int x8), .val (.ref b9), .val (.long x226), .second, .val (.int (1 : Int32))] [(.ref b9)]))
        refine gob (fun _ k => XS.iconst X234.here hx rfl (hb hby at_236) k) ?_
        show Go _ _ _ _ _ _ _ (T234.setTop (mkF m 237 #[.val (.int p0), .val (.int p1), .val (.int p2), .val (.int p3), .val (.int p4), .val (.int p5), .val (.int n_), .val (.int x1), .val (.int x2), .val (.int x3), .val (.int x4), .val (.int x5), .val (.int x6), .val (.int x7), .val (.int x8), .val (.ref b9), .val (.long x226), .second, .val (.int (1 : Int32))] [(.int (0 : Int32)), (.ref b9)]))
        obtain ⟨cq239, kq239, q239a, q239b, q239c⟩ := isOf hZ e234 c228
        obtain ⟨_, _, ⟨T239, L239, k239, n239⟩, -, X239, ⟨Lc239, hQ239, l239, y239, z239⟩, st239⟩ := X234.virtualBack hx (y := (⟨"com/example/robust_broker/robustbroker/Postings", "frequency", "(I)I"⟩ : MethodName)) (z := (⟨"com/example/robust_broker/robustbroker/Postings", "frequency", "(I)I"⟩ : MethodName)) hown (mvT hZ (hw _ (List.mem_of_getElem? (i := 57) rfl))) (mvT hZ (hw _ (List.mem_of_getElem? (i := 58) rfl))) (notFace_of_selects (args := #[]) (mvT hZ (hw _ (List.mem_of_getElem? (i := 60) rfl)))) (mvT hZ (hw _ (List.mem_of_getElem? (i := 60) rfl))) (mvT hZ (hw _ (List.mem_of_getElem? (i := 59) rfl))) (by decide) (backOf (W := 0) (rmfre_2_2 l Z a0 hw [] b9 (0 : Int32) b204 k16 x5 x6 T199.heap n0 z224 F209 F214 F215 (la_0_237_240  ) (la_0_237_241  )) hZ (hw _ (List.mem_of_getElem? (i := 61) rfl)) (hw _ (List.mem_of_getElem? (i := 4) rfl)) (by decide) (by decide)) q239a q239c (g := (mkF m 237 #[.val (.int p0), .val (.int p1), .val (.int p2), .val (.int p3), .val (.int p4), .val (.int p5), .val (.int n_), .val (.int x1), .val (.int x2), .val (.int x3), .val (.int x4), .val (.int x5), .val (.int x6), .val (.int x7), .val (.int x8), .val (.ref b9), .val (.long x226), .second, .val (.int (1 : Int32))] [(.int (0 : Int32)), (.ref b9)])) rfl (by rw [hml]; rfl) (Steps.refl _) (argsL := [(.int (0 : Int32))]) (rest := []) (lenOf pd_6 rfl) rfl (by show 2 * 0 + _ ≤ _; exact Nat.le_of_eq rfl) (hb hby at_237) (fun _ _ => ⟨rfl, e234, (by decide : 5 + 0 ≤ _), (by decide : 12 + 0 ≤ _)⟩)
        dsimp only [Pt.U, Pt.locs, Pt.cells, Pt.slots] at X239 l239 y239 z239 st239 hQ239
        subst l239 y239 z239
        obtain ⟨r239, rfl, hr239, Nq239, e239⟩ := hQ239
        have N239 := Fr.app N234 Nq239
        refine gob (fun _ k => st239.trans k) ?_
        show Go _ _ _ _ _ _ _ (T239.setTop (mkF m 240 #[.val (.int p0), .val (.int p1), .val (.int p2), .val (.int p3), .val (.int p4), .val (.int p5), .val (.int n_), .val (.int x1), .val (.int x2), .val (.int x3), .val (.int x4), .val (.int x5), .val (.int x6), .val (.int x7), .val (.int x8), .val (.ref b9), .val (.long x226), .second, .val (.int (1 : Int32))] [(.int r239)]))
        refine gob (fun _ k => XS.iload X239.here hx rfl (hb hby at_240) rfl k) ?_
        show Go _ _ _ _ _ _ _ (T239.setTop (mkF m 242 #[.val (.int p0), .val (.int p1), .val (.int p2), .val (.int p3), .val (.int p4), .val (.int p5), .val (.int n_), .val (.int x1), .val (.int x2), .val (.int x3), .val (.int x4), .val (.int x5), .val (.int x6), .val (.int x7), .val (.int x8), .val (.ref b9), .val (.long x226), .second, .val (.int (1 : Int32))] [(.int x5), (.int r239)]))
        have hd243 : r239 = x5 := ld_0_242_242 p4 p5 x5 x6 r239 hx5 hx6 hr239
        refine gob (fun _ k => XS.icmpNo X239.here hx rfl (hb hby at_242) rfl (teq hd243).2 k) ?_
        show Go _ _ _ _ _ _ _ (T239.setTop (mkF m 245 #[.val (.int p0), .val (.int p1), .val (.int p2), .val (.int p3), .val (.int p4), .val (.int p5), .val (.int n_), .val (.int x1), .val (.int x2), .val (.int x3), .val (.int x4), .val (.int x5), .val (.int x6), .val (.int x7), .val (.int x8), .val (.ref b9), .val (.long x226), .second, .val (.int (1 : Int32))] []))
        refine gob (fun _ k => XS.iconst X239.here hx rfl (hb hby at_245) k) ?_
        show Go _ _ _ _ _ _ _ (T239.setTop (mkF m 246 #[.val (.int p0), .val (.int p1), .val (.int p2), .val (.int p3), .val (.int p4), .val (.int p5), .val (.int n_), .val (.int x1), .val (.int x2), .val (.int x3), .val (.int x4), .val (.int x5), .val (.int x6), .val (.int x7), .val (.int x8), .val (.ref b9), .val (.long x226), .second, .val (.int (1 : Int32))] [(.int (1 : Int32))]))
        refine gob (fun _ k => XS.goto X239.here hx rfl (pc0 := 246) (pc' := 250) rfl (hb hby at_246) (by decide) (by decide) k) ?_
        show Go _ _ _ _ _ _ _ (T239.setTop (mkF m 250 #[.val (.int p0), .val (.int p1), .val (.int p2), .val (.int p3), .val (.int p4), .val (.int p5), .val (.int n_), .val (.int x1), .val (.int x2), .val (.int x3), .val (.int x4), .val (.int x5), .val (.int x6), .val (.int x7), .val (.int x8), .val (.ref b9), .val (.long x226), .second, .val (.int (1 : Int32))] [(.int (1 : Int32))]))
        refine gob (fun _ k => XS.istore X239.here hx rfl (hb hby at_250) rfl (l' := #[.val (.int p0), .val (.int p1), .val (.int p2), .val (.int p3), .val (.int p4), .val (.int p5), .val (.int n_), .val (.int x1), .val (.int x2), .val (.int x3), .val (.int x4), .val (.int x5), .val (.int x6), .val (.int x7), .val (.int x8), .val (.ref b9), .val (.long x226), .second, .val (.int (1 : Int32))]) rfl k) ?_
        show Go _ _ _ _ _ _ _ (T239.setTop (mkF m 252 #[.val (.int p0), .val (.int p1), .val (.int p2), .val (.int p3), .val (.int p4), .val (.int p5), .val (.int n_), .val (.int x1), .val (.int x2), .val (.int x3), .val (.int x4), .val (.int x5), .val (.int x6), .val (.int x7), .val (.int x8), .val (.ref b9), .val (.long x226), .second, .val (.int (1 : Int32))] []))
        refine gob (fun _ k => XS.iload X239.here hx rfl (hb hby at_252) rfl k) ?_
        show Go _ _ _ _ _ _ _ (T239.setTop (mkF m 254 #[.val (.int p0), .val (.int p1), .val (.int p2), .val (.int p3), .val (.int p4), .val (.int p5), .val (.int n_), .val (.int x1), .val (.int x2), .val (.int x3), .val (.int x4), .val (.int x5), .val (.int x6), .val (.int x7), .val (.int x8), .val (.ref b9), .val (.long x226), .second, .val (.int (1 : Int32))] [(.int (1 : Int32))]))
        refine gob (fun _ k => XS.ifNo X239.here hx rfl (hb hby at_254) rfl ((if0 _ _).trans (feq (by decide : ¬ ((1 : Int32) = (0 : Int32)))).1) k) ?_
        show Go _ _ _ _ _ _ _ (T239.setTop (mkF m 257 #[.val (.int p0), .val (.int p1), .val (.int p2), .val (.int p3), .val (.int p4), .val (.int p5), .val (.int n_), .val (.int x1), .val (.int x2), .val (.int x3), .val (.int x4), .val (.int x5), .val (.int x6), .val (.int x7), .val (.int x8), .val (.ref b9), .val (.long x226), .second, .val (.int (1 : Int32))] []))
        refine gob (fun _ k => XS.iload X239.here hx rfl (hb hby at_257) rfl k) ?_
        show Go _ _ _ _ _ _ _ (T239.setTop (mkF m 259 #[.val (.int p0), .val (.int p1), .val (.int p2), .val (.int p3), .val (.int p4), .val (.int p5), .val (.int n_), .val (.int x1), .val (.int x2), .val (.int x3), .val (.int x4), .val (.int x5), .val (.int x6), .val (.int x7), .val (.int x8), .val (.ref b9), .val (.long x226), .second, .val (.int (1 : Int32))] [(.int n_)]))
        refine gob (fun _ k => XS.iconst X239.here hx rfl (hb hby at_259) k) ?_
        show Go _ _ _ _ _ _ _ (T239.setTop (mkF m 260 #[.val (.int p0), .val (.int p1), .val (.int p2), .val (.int p3), .val (.int p4), .val (.int p5), .val (.int n_), .val (.int x1), .val (.int x2), .val (.int x3), .val (.int x4), .val (.int x5), .val (.int x6), .val (.int x7), .val (.int x8), .val (.ref b9), .val (.long x226), .second, .val (.int (1 : Int32))] [(.int (2 : Int32)), (.int n_)]))
        refine gob (fun _ k => XS.icmpNo X239.here hx rfl (hb hby at_260) rfl (flt hc107_80).1 k) ?_
        show Go _ _ _ _ _ _ _ (T239.setTop (mkF m 263 #[.val (.int p0), .val (.int p1), .val (.int p2), .val (.int p3), .val (.int p4), .val (.int p5), .val (.int n_), .val (.int x1), .val (.int x2), .val (.int x3), .val (.int x4), .val (.int x5), .val (.int x6), .val (.int x7), .val (.int x8), .val (.ref b9), .val (.long x226), .second, .val (.int (1 : Int32))] []))
        refine gob (fun _ k => XS.aload X239.here hx rfl (hb hby at_263) rfl rfl k) ?_
        show Go _ _ _ _ _ _ _ (T239.setTop (mkF m 265 #[.val (.int p0), .val (.int p1), .val (.int p2), .val (.int p3), .val (.int p4), .val (.int p5), .val (.int n_), .val (.int x1), .val (.int x2), .val (.int x3), .val (.int x4), .val (.int x5), .val (.int x6), .val (.int x7), .val (.int x8), .val (.ref b9), .val (.long x226), .second, .val (.int (1 : Int32))] [(.ref b9)]))
        refine gob (fun _ k => XS.iconst X239.here hx rfl (hb hby at_265) k) ?_
        show Go _ _ _ _ _ _ _ (T239.setTop (mkF m 266 #[.val (.int p0), .val (.int p1), .val (.int p2), .val (.int p3), .val (.int p4), .val (.int p5), .val (.int n_), .val (.int x1), .val (.int x2), .val (.int x3), .val (.int x4), .val (.int x5), .val (.int x6), .val (.int x7), .val (.int x8), .val (.ref b9), .val (.long x226), .second, .val (.int (1 : Int32))] [(.int (1 : Int32)), (.ref b9)]))
        obtain ⟨cq244, kq244, q244a, q244b, q244c⟩ := isOf hZ e239 c228
        obtain ⟨_, _, ⟨T244, L244, k244, n244⟩, -, X244, ⟨Lc244, hQ244, l244, y244, z244⟩, st244⟩ := X239.virtualBack hx (y := (⟨"com/example/robust_broker/robustbroker/Postings", "document", "(I)I"⟩ : MethodName)) (z := (⟨"com/example/robust_broker/robustbroker/Postings", "document", "(I)I"⟩ : MethodName)) hown (mvT hZ (hw _ (List.mem_of_getElem? (i := 52) rfl))) (mvT hZ (hw _ (List.mem_of_getElem? (i := 53) rfl))) (notFace_of_selects (args := #[]) (mvT hZ (hw _ (List.mem_of_getElem? (i := 55) rfl)))) (mvT hZ (hw _ (List.mem_of_getElem? (i := 55) rfl))) (mvT hZ (hw _ (List.mem_of_getElem? (i := 54) rfl))) (by decide) (backOf (W := 0) (rmdoc_2_2 l Z a0 hw [] b9 (1 : Int32) b203 k15 x1 x2 T199.heap n0 z224 F208 F212 F213 (la_0_266_245  ) (la_0_266_246  )) hZ (hw _ (List.mem_of_getElem? (i := 56) rfl)) (hw _ (List.mem_of_getElem? (i := 4) rfl)) (by decide) (by decide)) q244a q244c (g := (mkF m 266 #[.val (.int p0), .val (.int p1), .val (.int p2), .val (.int p3), .val (.int p4), .val (.int p5), .val (.int n_), .val (.int x1), .val (.int x2), .val (.int x3), .val (.int x4), .val (.int x5), .val (.int x6), .val (.int x7), .val (.int x8), .val (.ref b9), .val (.long x226), .second, .val (.int (1 : Int32))] [(.int (1 : Int32)), (.ref b9)])) rfl (by rw [hml]; rfl) (Steps.refl _) (argsL := [(.int (1 : Int32))]) (rest := []) (lenOf pd_6 rfl) rfl (by show 2 * 0 + _ ≤ _; exact Nat.le_of_eq rfl) (hb hby at_266) (fun _ _ => ⟨rfl, e239, (by decide : 5 + 0 ≤ _), (by decide : 12 + 0 ≤ _)⟩)
        dsimp only [Pt.U, Pt.locs, Pt.cells, Pt.slots] at X244 l244 y244 z244 st244 hQ244
        subst l244 y244 z244
        obtain ⟨r244, rfl, hr244, Nq244, e244⟩ := hQ244
        have N244 := Fr.app N239 Nq244
        refine gob (fun _ k => st244.trans k) ?_
        show Go _ _ _ _ _ _ _ (T244.setTop (mkF m 269 #[.val (.int p0), .val (.int p1), .val (.int p2), .val (.int p3), .val (.int p4), .val (.int p5), .val (.int n_), .val (.int x1), .val (.int x2), .val (.int x3), .val (.int x4), .val (.int x5), .val (.int x6), .val (.int x7), .val (.int x8), .val (.ref b9), .val (.long x226), .second, .val (.int (1 : Int32))] [(.int r244)]))
        refine gob (fun _ k => XS.iload X244.here hx rfl (hb hby at_269) rfl k) ?_
        show Go _ _ _ _ _ _ _ (T244.setTop (mkF m 271 #[.val (.int p0), .val (.int p1), .val (.int p2), .val (.int p3), .val (.int p4), .val (.int p5), .val (.int n_), .val (.int x1), .val (.int x2), .val (.int x3), .val (.int x4), .val (.int x5), .val (.int x6), .val (.int x7), .val (.int x8), .val (.ref b9), .val (.long x226), .second, .val (.int (1 : Int32))] [(.int x2), (.int r244)]))
        have hd248 : r244 = x2 := ld_0_271_247 p1 p2 x1 x2 r244 hx1 hx2 hr244
        refine gob (fun _ k => XS.icmpNo X244.here hx rfl (hb hby at_271) rfl (teq hd248).2 k) ?_
        show Go _ _ _ _ _ _ _ (T244.setTop (mkF m 274 #[.val (.int p0), .val (.int p1), .val (.int p2), .val (.int p3), .val (.int p4), .val (.int p5), .val (.int n_), .val (.int x1), .val (.int x2), .val (.int x3), .val (.int x4), .val (.int x5), .val (.int x6), .val (.int x7), .val (.int x8), .val (.ref b9), .val (.long x226), .second, .val (.int (1 : Int32))] []))
        refine gob (fun _ k => XS.aload X244.here hx rfl (hb hby at_274) rfl rfl k) ?_
        show Go _ _ _ _ _ _ _ (T244.setTop (mkF m 276 #[.val (.int p0), .val (.int p1), .val (.int p2), .val (.int p3), .val (.int p4), .val (.int p5), .val (.int n_), .val (.int x1), .val (.int x2), .val (.int x3), .val (.int x4), .val (.int x5), .val (.int x6), .val (.int x7), .val (.int x8), .val (.ref b9), .val (.long x226), .second, .val (.int (1 : Int32))] [(.ref b9)]))
        refine gob (fun _ k => XS.iconst X244.here hx rfl (hb hby at_276) k) ?_
        show Go _ _ _ _ _ _ _ (T244.setTop (mkF m 277 #[.val (.int p0), .val (.int p1), .val (.int p2), .val (.int p3), .val (.int p4), .val (.int p5), .val (.int n_), .val (.int x1), .val (.int x2), .val (.int x3), .val (.int x4), .val (.int x5), .val (.int x6), .val (.int x7), .val (.int x8), .val (.ref b9), .val (.long x226), .second, .val (.int (1 : Int32))] [(.int (1 : Int32)), (.ref b9)]))
        obtain ⟨cq249, kq249, q249a, q249b, q249c⟩ := isOf hZ e244 c228
        obtain ⟨_, _, ⟨T249, L249, k249, n249⟩, -, X249, ⟨Lc249, hQ249, l249, y249, z249⟩, st249⟩ := X244.virtualBack hx (y := (⟨"com/example/robust_broker/robustbroker/Postings", "frequency", "(I)I"⟩ : MethodName)) (z := (⟨"com/example/robust_broker/robustbroker/Postings", "frequency", "(I)I"⟩ : MethodName)) hown (mvT hZ (hw _ (List.mem_of_getElem? (i := 57) rfl))) (mvT hZ (hw _ (List.mem_of_getElem? (i := 58) rfl))) (notFace_of_selects (args := #[]) (mvT hZ (hw _ (List.mem_of_getElem? (i := 60) rfl)))) (mvT hZ (hw _ (List.mem_of_getElem? (i := 60) rfl))) (mvT hZ (hw _ (List.mem_of_getElem? (i := 59) rfl))) (by decide) (backOf (W := 0) (rmfre_2_2 l Z a0 hw [] b9 (1 : Int32) b204 k16 x5 x6 T199.heap n0 z224 F209 F214 F215 (la_0_277_250  ) (la_0_277_251  )) hZ (hw _ (List.mem_of_getElem? (i := 61) rfl)) (hw _ (List.mem_of_getElem? (i := 4) rfl)) (by decide) (by decide)) q249a q249c (g := (mkF m 277 #[.val (.int p0), .val (.int p1), .val (.int p2), .val (.int p3), .val (.int p4), .val (.int p5), .val (.int n_), .val (.int x1), .val (.int x2), .val (.int x3), .val (.int x4), .val (.int x5), .val (.int x6), .val (.int x7), .val (.int x8), .val (.ref b9), .val (.long x226), .second, .val (.int (1 : Int32))] [(.int (1 : Int32)), (.ref b9)])) rfl (by rw [hml]; rfl) (Steps.refl _) (argsL := [(.int (1 : Int32))]) (rest := []) (lenOf pd_6 rfl) rfl (by show 2 * 0 + _ ≤ _; exact Nat.le_of_eq rfl) (hb hby at_277) (fun _ _ => ⟨rfl, e244, (by decide : 5 + 0 ≤ _), (by decide : 12 + 0 ≤ _)⟩)
        dsimp only [Pt.U, Pt.locs, Pt.cells, Pt.slots] at X249 l249 y249 z249 st249 hQ249
        subst l249 y249 z249
        obtain ⟨r249, rfl, hr249, Nq249, e249⟩ := hQ249
        have N249 := Fr.app N244 Nq249
        refine gob (fun _ k => st249.trans k) ?_
        show Go _ _ _ _ _ _ _ (T249.setTop (mkF m 280 #[.val (.int p0), .val (.int p1), .val (.int p2), .val (.int p3), .val (.int p4), .val (.int p5), .val (.int n_), .val (.int x1), .val (.int x2), .val (.int x3), .val (.int x4), .val (.int x5), .val (.int x6), .val (.int x7), .val (.int x8), .val (.ref b9), .val (.long x226), .second, .val (.int (1 : Int32))] [(.int r249)]))
        refine gob (fun _ k => XS.iload X249.here hx rfl (hb hby at_280) rfl k) ?_
        show Go _ _ _ _ _ _ _ (T249.setTop (mkF m 282 #[.val (.int p0), .val (.int p1), .val (.int p2), .val (.int p3), .val (.int p4), .val (.int p5), .val (.int n_), .val (.int x1), .val (.int x2), .val (.int x3), .val (.int x4), .val (.int x5), .val (.int x6), .val (.int x7), .val (.int x8), .val (.ref b9), .val (.long x226), .second, .val (.int (1 : Int32))] [(.int x6), (.int r249)]))
        have hd253 : r249 = x6 := ld_0_282_252 p4 p5 x5 x6 r249 hx5 hx6 hr249
        refine gob (fun _ k => XS.icmpNo X249.here hx rfl (hb hby at_282) rfl (teq hd253).2 k) ?_
        show Go _ _ _ _ _ _ _ (T249.setTop (mkF m 285 #[.val (.int p0), .val (.int p1), .val (.int p2), .val (.int p3), .val (.int p4), .val (.int p5), .val (.int n_), .val (.int x1), .val (.int x2), .val (.int x3), .val (.int x4), .val (.int x5), .val (.int x6), .val (.int x7), .val (.int x8), .val (.ref b9), .val (.long x226), .second, .val (.int (1 : Int32))] []))
        refine gob (fun _ k => XS.iconst X249.here hx rfl (hb hby at_285) k) ?_
        show Go _ _ _ _ _ _ _ (T249.setTop (mkF m 286 #[.val (.int p0), .val (.int p1), .val (.int p2), .val (.int p3), .val (.int p4), .val (.int p5), .val (.int n_), .val (.int x1), .val (.int x2), .val (.int x3), .val (.int x4), .val (.int x5), .val (.int x6), .val (.int x7), .val (.int x8), .val (.ref b9), .val (.long x226), .second, .val (.int (1 : Int32))] [(.int (1 : Int32))]))
        refine gob (fun _ k => XS.goto X249.here hx rfl (pc0 := 286) (pc' := 290) rfl (hb hby at_286) (by decide) (by decide) k) ?_
        show Go _ _ _ _ _ _ _ (T249.setTop (mkF m 290 #[.val (.int p0), .val (.int p1), .val (.int p2), .val (.int p3), .val (.int p4), .val (.int p5), .val (.int n_), .val (.int x1), .val (.int x2), .val (.int x3), .val (.int x4), .val (.int x5), .val (.int x6), .val (.int x7), .val (.int x8), .val (.ref b9), .val (.long x226), .second, .val (.int (1 : Int32))] [(.int (1 : Int32))]))
        refine gob (fun _ k => XS.istore X249.here hx rfl (hb hby at_290) rfl (l' := #[.val (.int p0), .val (.int p1), .val (.int p2), .val (.int p3), .val (.int p4), .val (.int p5), .val (.int n_), .val (.int x1), .val (.int x2), .val (.int x3), .val (.int x4), .val (.int x5), .val (.int x6), .val (.int x7), .val (.int x8), .val (.ref b9), .val (.long x226), .second, .val (.int (1 : Int32))]) rfl k) ?_
        show Go _ _ _ _ _ _ _ (T249.setTop (mkF m 292 #[.val (.int p0), .val (.int p1), .val (.int p2), .val (.int p3), .val (.int p4), .val (.int p5), .val (.int n_), .val (.int x1), .val (.int x2), .val (.int x3), .val (.int x4), .val (.int x5), .val (.int x6), .val (.int x7), .val (.int x8), .val (.ref b9), .val (.long x226), .second, .val (.int (1 : Int32))] []))
        refine gob (fun _ k => XS.iload X249.here hx rfl (hb hby at_292) rfl k) ?_
        show Go _ _ _ _ _ _ _ (T249.setTop (mkF m 294 #[.val (.int p0), .val (.int p1), .val (.int p2), .val (.int p3), .val (.int p4), .val (.int p5), .val (.int n_), .val (.int x1), .val (.int x2), .val (.int x3), .val (.int x4), .val (.int x5), .val (.int x6), .val (.int x7), .val (.int x8), .val (.ref b9), .val (.long x226), .second, .val (.int (1 : Int32))] [(.int (1 : Int32))]))
        refine gob (fun _ k => XS.ifNo X249.here hx rfl (hb hby at_294) rfl ((if0 _ _).trans (feq (by decide : ¬ ((1 : Int32) = (0 : Int32)))).1) k) ?_
        show Go _ _ _ _ _ _ _ (T249.setTop (mkF m 297 #[.val (.int p0), .val (.int p1), .val (.int p2), .val (.int p3), .val (.int p4), .val (.int p5), .val (.int n_), .val (.int x1), .val (.int x2), .val (.int x3), .val (.int x4), .val (.int x5), .val (.int x6), .val (.int x7), .val (.int x8), .val (.ref b9), .val (.long x226), .second, .val (.int (1 : Int32))] []))
        refine gob (fun _ k => XS.iload X249.here hx rfl (hb hby at_297) rfl k) ?_
        show Go _ _ _ _ _ _ _ (T249.setTop (mkF m 299 #[.val (.int p0), .val (.int p1), .val (.int p2), .val (.int p3), .val (.int p4), .val (.int p5), .val (.int n_), .val (.int x1), .val (.int x2), .val (.int x3), .val (.int x4), .val (.int x5), .val (.int x6), .val (.int x7), .val (.int x8), .val (.ref b9), .val (.long x226), .second, .val (.int (1 : Int32))] [(.int n_)]))
        refine gob (fun _ k => XS.iconst X249.here hx rfl (hb hby at_299) k) ?_
        show Go _ _ _ _ _ _ _ (T249.setTop (mkF m 300 #[.val (.int p0), .val (.int p1), .val (.int p2), .val (.int p3), .val (.int p4), .val (.int p5), .val (.int n_), .val (.int x1), .val (.int x2), .val (.int x3), .val (.int x4), .val (.int x5), .val (.int x6), .val (.int x7), .val (.int x8), .val (.ref b9), .val (.long x226), .second, .val (.int (1 : Int32))] [(.int (3 : Int32)), (.int n_)]))
        refine gob (fun _ k => XS.icmpYes X249.here hx rfl (pc0 := 300) (pc' := 332) rfl (hb hby at_300) rfl (tlt hc122_198).1 (by decide) (by decide) k) ?_
        show Go _ _ _ _ _ _ _ (T249.setTop (mkF m 332 #[.val (.int p0), .val (.int p1), .val (.int p2), .val (.int p3), .val (.int p4), .val (.int p5), .val (.int n_), .val (.int x1), .val (.int x2), .val (.int x3), .val (.int x4), .val (.int x5), .val (.int x6), .val (.int x7), .val (.int x8), .val (.ref b9), .val (.long x226), .second, .val (.int (1 : Int32))] []))
        refine gob (fun _ k => XS.iload X249.here hx rfl (hb hby at_332) rfl k) ?_
        show Go _ _ _ _ _ _ _ (T249.setTop (mkF m 334 #[.val (.int p0), .val (.int p1), .val (.int p2), .val (.int p3), .val (.int p4), .val (.int p5), .val (.int n_), .val (.int x1), .val (.int x2), .val (.int x3), .val (.int x4), .val (.int x5), .val (.int x6), .val (.int x7), .val (.int x8), .val (.ref b9), .val (.long x226), .second, .val (.int (1 : Int32))] [(.int (1 : Int32))]))
        refine gob (fun _ k => XS.ifNo X249.here hx rfl (hb hby at_334) rfl ((if0 _ _).trans (feq (by decide : ¬ ((1 : Int32) = (0 : Int32)))).1) k) ?_
        show Go _ _ _ _ _ _ _ (T249.setTop (mkF m 337 #[.val (.int p0), .val (.int p1), .val (.int p2), .val (.int p3), .val (.int p4), .val (.int p5), .val (.int n_), .val (.int x1), .val (.int x2), .val (.int x3), .val (.int x4), .val (.int x5), .val (.int x6), .val (.int x7), .val (.int x8), .val (.ref b9), .val (.long x226), .second, .val (.int (1 : Int32))] []))
        refine gob (fun _ k => XS.iload X249.here hx rfl (hb hby at_337) rfl k) ?_
        show Go _ _ _ _ _ _ _ (T249.setTop (mkF m 339 #[.val (.int p0), .val (.int p1), .val (.int p2), .val (.int p3), .val (.int p4), .val (.int p5), .val (.int n_), .val (.int x1), .val (.int x2), .val (.int x3), .val (.int x4), .val (.int x5), .val (.int x6), .val (.int x7), .val (.int x8), .val (.ref b9), .val (.long x226), .second, .val (.int (1 : Int32))] [(.int n_)]))
        refine gob (fun _ k => XS.iconst X249.here hx rfl (hb hby at_339) k) ?_
        show Go _ _ _ _ _ _ _ (T249.setTop (mkF m 340 #[.val (.int p0), .val (.int p1), .val (.int p2), .val (.int p3), .val (.int p4), .val (.int p5), .val (.int n_), .val (.int x1), .val (.int x2), .val (.int x3), .val (.int x4), .val (.int x5), .val (.int x6), .val (.int x7), .val (.int x8), .val (.ref b9), .val (.long x226), .second, .val (.int (1 : Int32))] [(.int (1 : Int32)), (.int n_)]))
        refine gob (fun _ k => XS.icmpNo X249.here hx rfl (hb hby at_340) rfl (flt hc92_33).1 k) ?_
        show Go _ _ _ _ _ _ _ (T249.setTop (mkF m 343 #[.val (.int p0), .val (.int p1), .val (.int p2), .val (.int p3), .val (.int p4), .val (.int p5), .val (.int n_), .val (.int x1), .val (.int x2), .val (.int x3), .val (.int x4), .val (.int x5), .val (.int x6), .val (.int x7), .val (.int x8), .val (.ref b9), .val (.long x226), .second, .val (.int (1 : Int32))] []))
        refine gob (fun _ k => XS.aload X249.here hx rfl (hb hby at_343) rfl rfl k) ?_
        show Go _ _ _ _ _ _ _ (T249.setTop (mkF m 345 #[.val (.int p0), .val (.int p1), .val (.int p2), .val (.int p3), .val (.int p4), .val (.int p5), .val (.int n_), .val (.int x1), .val (.int x2), .val (.int x3), .val (.int x4), .val (.int x5), .val (.int x6), .val (.int x7), .val (.int x8), .val (.ref b9), .val (.long x226), .second, .val (.int (1 : Int32))] [(.ref b9)]))
        refine gob (fun _ k => XS.iload X249.here hx rfl (hb hby at_345) rfl k) ?_
        show Go _ _ _ _ _ _ _ (T249.setTop (mkF m 347 #[.val (.int p0), .val (.int p1), .val (.int p2), .val (.int p3), .val (.int p4), .val (.int p5), .val (.int n_), .val (.int x1), .val (.int x2), .val (.int x3), .val (.int x4), .val (.int x5), .val (.int x6), .val (.int x7), .val (.int x8), .val (.ref b9), .val (.long x226), .second, .val (.int (1 : Int32))] [(.int x4), (.ref b9)]))
        refine gob (fun _ k => XS.iload X249.here hx rfl (hb hby at_347) rfl k) ?_
        show Go _ _ _ _ _ _ _ (T249.setTop (mkF m 349 #[.val (.int p0), .val (.int p1), .val (.int p2), .val (.int p3), .val (.int p4), .val (.int p5), .val (.int n_), .val (.int x1), .val (.int x2), .val (.int x3), .val (.int x4), .val (.int x5), .val (.int x6), .val (.int x7), .val (.int x8), .val (.ref b9), .val (.long x226), .second, .val (.int (1 : Int32))] [(.int x8), (.int x4), (.ref b9)]))
        obtain ⟨cq254, kq254, q254a, q254b, q254c⟩ := isOf hZ e249 c228
        obtain ⟨_, _, ⟨T254, L254, k254, n254⟩, -, X254, ⟨Lc254, hQ254, l254, y254, z254⟩, st254⟩ := X249.virtualBack hx (y := (⟨"com/example/robust_broker/robustbroker/Postings", "add", "(II)V"⟩ : MethodName)) (z := (⟨"com/example/robust_broker/robustbroker/Postings", "add", "(II)V"⟩ : MethodName)) hown (mvT hZ (hw _ (List.mem_of_getElem? (i := 47) rfl))) (mvT hZ (hw _ (List.mem_of_getElem? (i := 48) rfl))) (notFace_of_selects (args := #[]) (mvT hZ (hw _ (List.mem_of_getElem? (i := 50) rfl)))) (mvT hZ (hw _ (List.mem_of_getElem? (i := 50) rfl))) (mvT hZ (hw _ (List.mem_of_getElem? (i := 49) rfl))) (by decide) (backOf (W := 0) (rmadd_2_2 l Z a0 hw [] b9 x4 x8 b203 k15 x1 x2 b204 k16 x5 x6 (((0 : Int64) + (x5.toInt64)) + (x6.toInt64)) T199.heap n0 z224 F208 F212 F213 F209 F214 F215 F210 F211 n216 n220 hn207 c228 g10) hZ (hw _ (List.mem_of_getElem? (i := 51) rfl)) (hw _ (List.mem_of_getElem? (i := 4) rfl)) (by decide) (by decide)) q254a q254c (g := (mkF m 349 #[.val (.int p0), .val (.int p1), .val (.int p2), .val (.int p3), .val (.int p4), .val (.int p5), .val (.int n_), .val (.int x1), .val (.int x2), .val (.int x3), .val (.int x4), .val (.int x5), .val (.int x6), .val (.int x7), .val (.int x8), .val (.ref b9), .val (.long x226), .second, .val (.int (1 : Int32))] [(.int x8), (.int x4), (.ref b9)])) rfl (by rw [hml]; rfl) (Steps.refl _) (argsL := [(.int x4), (.int x8)]) (rest := []) (lenOf pd_5 rfl) rfl (by show 2 * 0 + _ ≤ _; exact Nat.le_of_eq rfl) (hb hby at_349) (fun _ _ => ⟨rfl, e249, (by decide : 5 + 2 ≤ _), (by decide : 12 + 8 ≤ _)⟩)
        dsimp only [Pt.U, Pt.locs, Pt.cells, Pt.slots] at X254 l254 y254 z254 st254 hQ254
        subst l254 y254 z254
        obtain ⟨b255, b256, k257, k258, rfl, Nq254, K254, hz259, hz260, hn261, F262, F263, F264, F265, F266, F267, F268, F269⟩ := hQ254
        have N254 := Fr.app N249 Nq254
        have n270 : b9 ≠ b255 := Nat.ne_of_lt (Nat.lt_of_lt_of_le c228.lt hz259)
        have c272 := (c200.keep K199)
        have n271 : b13 ≠ b255 := Nat.ne_of_lt (Nat.lt_of_lt_of_le c272.lt hz259)
        have c274 := (c201.keep K199)
        have n273 : b14 ≠ b255 := Nat.ne_of_lt (Nat.lt_of_lt_of_le c274.lt hz259)
        have n275 : b203 ≠ b255 := Nat.ne_of_lt (Nat.lt_of_lt_of_le F212.lt hz259)
        have n276 : b204 ≠ b255 := Nat.ne_of_lt (Nat.lt_of_lt_of_le F214.lt hz259)
        have g277 : n0 ≤ b255 := Nat.le_trans z224 hz259
        have n278 : b9 ≠ b256 := Nat.ne_of_lt (Nat.lt_of_lt_of_le c228.lt hz260)
        have n279 : b13 ≠ b256 := Nat.ne_of_lt (Nat.lt_of_lt_of_le c272.lt hz260)
        have n280 : b14 ≠ b256 := Nat.ne_of_lt (Nat.lt_of_lt_of_le c274.lt hz260)
        have n281 : b203 ≠ b256 := Nat.ne_of_lt (Nat.lt_of_lt_of_le F212.lt hz260)
        have n282 : b204 ≠ b256 := Nat.ne_of_lt (Nat.lt_of_lt_of_le F214.lt hz260)
        have g283 : n0 ≤ b256 := Nat.le_trans z224 hz260
        have z284 : n0 ≤ T254.heap.size := Nat.le_trans z224 K254.1
        refine gob (fun _ k => st254.trans k) ?_
        show Go _ _ _ _ _ _ _ (T254.setTop (mkF m 352 #[.val (.int p0), .val (.int p1), .val (.int p2), .val (.int p3), .val (.int p4), .val (.int p5), .val (.int n_), .val (.int x1), .val (.int x2), .val (.int x3), .val (.int x4), .val (.int x5), .val (.int x6), .val (.int x7), .val (.int x8), .val (.ref b9), .val (.long x226), .second, .val (.int (1 : Int32))] []))
        refine gob (fun _ k => XS.aload X254.here hx rfl (hb hby at_352) rfl rfl k) ?_
        show Go _ _ _ _ _ _ _ (T254.setTop (mkF m 354 #[.val (.int p0), .val (.int p1), .val (.int p2), .val (.int p3), .val (.int p4), .val (.int p5), .val (.int n_), .val (.int x1), .val (.int x2), .val (.int x3), .val (.int x4), .val (.int x5), .val (.int x6), .val (.int x7), .val (.int x8), .val (.ref b9), .val (.long x226), .second, .val (.int (1 : Int32))] [(.ref b9)]))
        have c286 := (c228.keep K254)
        obtain ⟨cq285, kq285, q285a, q285b, q285c⟩ := isOf hZ (rfl : T254.heap = _) c286
        obtain ⟨_, _, ⟨T285, L285, k285, n285⟩, -, X285, ⟨Lc285, hQ285, l285, y285, z285⟩, st285⟩ := X254.virtualBack hx (y := (⟨"com/example/robust_broker/robustbroker/Postings", "size", "()I"⟩ : MethodName)) (z := (⟨"com/example/robust_broker/robustbroker/Postings", "size", "()I"⟩ : MethodName)) hown (mvT hZ (hw _ (List.mem_of_getElem? (i := 35) rfl))) (mvT hZ (hw _ (List.mem_of_getElem? (i := 36) rfl))) (notFace_of_selects (args := #[]) (mvT hZ (hw _ (List.mem_of_getElem? (i := 38) rfl)))) (mvT hZ (hw _ (List.mem_of_getElem? (i := 38) rfl))) (mvT hZ (hw _ (List.mem_of_getElem? (i := 37) rfl))) (by decide) (backOf (W := 0) (rm6 l Z a0 hw [] b9 (3 : Int32) T254.heap n0 z284 F264) hZ (hw _ (List.mem_of_getElem? (i := 39) rfl)) (hw _ (List.mem_of_getElem? (i := 4) rfl)) (by decide) (by decide)) q285a q285c (g := (mkF m 354 #[.val (.int p0), .val (.int p1), .val (.int p2), .val (.int p3), .val (.int p4), .val (.int p5), .val (.int n_), .val (.int x1), .val (.int x2), .val (.int x3), .val (.int x4), .val (.int x5), .val (.int x6), .val (.int x7), .val (.int x8), .val (.ref b9), .val (.long x226), .second, .val (.int (1 : Int32))] [(.ref b9)])) rfl (by rw [hml]; rfl) (Steps.refl _) (argsL := []) (rest := []) (lenOf pd_3 rfl) rfl (by show 2 * 0 + _ ≤ _; exact Nat.le_of_eq rfl) (hb hby at_354) (fun _ _ => ⟨rfl, (rfl : T254.heap = _), (by decide : 7 + 0 ≤ _), (by decide : 20 + 0 ≤ _)⟩)
        dsimp only [Pt.U, Pt.locs, Pt.cells, Pt.slots] at X285 l285 y285 z285 st285 hQ285
        subst l285 y285 z285
        obtain ⟨r285, rfl, hr285, Nq285, e285⟩ := hQ285
        have N285 := Fr.app N254 Nq285
        refine gob (fun _ k => st285.trans k) ?_
        show Go _ _ _ _ _ _ _ (T285.setTop (mkF m 357 #[.val (.int p0), .val (.int p1), .val (.int p2), .val (.int p3), .val (.int p4), .val (.int p5), .val (.int n_), .val (.int x1), .val (.int x2), .val (.int x3), .val (.int x4), .val (.int x5), .val (.int x6), .val (.int x7), .val (.int x8), .val (.ref b9), .val (.long x226), .second, .val (.int (1 : Int32))] [(.int r285)]))
        refine gob (fun _ k => XS.iload X285.here hx rfl (hb hby at_357) rfl k) ?_
        show Go _ _ _ _ _ _ _ (T285.setTop (mkF m 359 #[.val (.int p0), .val (.int p1), .val (.int p2), .val (.int p3), .val (.int p4), .val (.int p5), .val (.int n_), .val (.int x1), .val (.int x2), .val (.int x3), .val (.int x4), .val (.int x5), .val (.int x6), .val (.int x7), .val (.int x8), .val (.ref b9), .val (.long x226), .second, .val (.int (1 : Int32))] [(.int n_), (.int r285)]))
        refine gob (fun _ k => XS.iconst X285.here hx rfl (hb hby at_359) k) ?_
        show Go _ _ _ _ _ _ _ (T285.setTop (mkF m 360 #[.val (.int p0), .val (.int p1), .val (.int p2), .val (.int p3), .val (.int p4), .val (.int p5), .val (.int n_), .val (.int x1), .val (.int x2), .val (.int x3), .val (.int x4), .val (.int x5), .val (.int x6), .val (.int x7), .val (.int x8), .val (.ref b9), .val (.long x226), .second, .val (.int (1 : Int32))] [(.int (1 : Int32)), (.int n_), (.int r285)]))
        refine gob (fun _ k => XS.iadd X285.here hx rfl (hb hby at_360) rfl k) ?_
        show Go _ _ _ _ _ _ _ (T285.setTop (mkF m 361 #[.val (.int p0), .val (.int p1), .val (.int p2), .val (.int p3), .val (.int p4), .val (.int p5), .val (.int n_), .val (.int x1), .val (.int x2), .val (.int x3), .val (.int x4), .val (.int x5), .val (.int x6), .val (.int x7), .val (.int x8), .val (.ref b9), .val (.long x226), .second, .val (.int (1 : Int32))] [(.int (n_ + (1 : Int32))), (.int r285)]))
        have hd288 : r285 = (n_ + (1 : Int32)) := ld_0_361_287 p0 n_ r285 hn_ hc92_33 hc107_80 hc122_198 hr285
        refine gob (fun _ k => XS.icmpNo X285.here hx rfl (hb hby at_361) rfl (teq hd288).2 k) ?_
        show Go _ _ _ _ _ _ _ (T285.setTop (mkF m 364 #[.val (.int p0), .val (.int p1), .val (.int p2), .val (.int p3), .val (.int p4), .val (.int p5), .val (.int n_), .val (.int x1), .val (.int x2), .val (.int x3), .val (.int x4), .val (.int x5), .val (.int x6), .val (.int x7), .val (.int x8), .val (.ref b9), .val (.long x226), .second, .val (.int (1 : Int32))] []))
        refine gob (fun _ k => XS.aload X285.here hx rfl (hb hby at_364) rfl rfl k) ?_
        show Go _ _ _ _ _ _ _ (T285.setTop (mkF m 366 #[.val (.int p0), .val (.int p1), .val (.int p2), .val (.int p3), .val (.int p4), .val (.int p5), .val (.int n_), .val (.int x1), .val (.int x2), .val (.int x3), .val (.int x4), .val (.int x5), .val (.int x6), .val (.int x7), .val (.int x8), .val (.ref b9), .val (.long x226), .second, .val (.int (1 : Int32))] [(.ref b9)]))
        refine gob (fun _ k => XS.iload X285.here hx rfl (hb hby at_366) rfl k) ?_
        show Go _ _ _ _ _ _ _ (T285.setTop (mkF m 368 #[.val (.int p0), .val (.int p1), .val (.int p2), .val (.int p3), .val (.int p4), .val (.int p5), .val (.int n_), .val (.int x1), .val (.int x2), .val (.int x3), .val (.int x4), .val (.int x5), .val (.int x6), .val (.int x7), .val (.int x8), .val (.ref b9), .val (.long x226), .second, .val (.int (1 : Int32))] [(.int n_), (.ref b9)]))
        obtain ⟨cq289, kq289, q289a, q289b, q289c⟩ := isOf hZ e285 c286
        obtain ⟨_, _, ⟨T289, L289, k289, n289⟩, -, X289, ⟨Lc289, hQ289, l289, y289, z289⟩, st289⟩ := X285.virtualBack hx (y := (⟨"com/example/robust_broker/robustbroker/Postings", "document", "(I)I"⟩ : MethodName)) (z := (⟨"com/example/robust_broker/robustbroker/Postings", "document", "(I)I"⟩ : MethodName)) hown (mvT hZ (hw _ (List.mem_of_getElem? (i := 52) rfl))) (mvT hZ (hw _ (List.mem_of_getElem? (i := 53) rfl))) (notFace_of_selects (args := #[]) (mvT hZ (hw _ (List.mem_of_getElem? (i := 55) rfl)))) (mvT hZ (hw _ (List.mem_of_getElem? (i := 55) rfl))) (mvT hZ (hw _ (List.mem_of_getElem? (i := 54) rfl))) (by decide) (backOf (W := 0) (rmdoc_4_3 l Z a0 hw [] b9 n_ b255 k257 x1 x2 x4 T254.heap n0 z284 F262 F267 F266 (la_0_368_290 p0 n_ hn_ hc92_33 hc107_80 hc122_198) (la_0_368_291 p0 n_ hn_ hc92_33 hc107_80 hc122_198)) hZ (hw _ (List.mem_of_getElem? (i := 56) rfl)) (hw _ (List.mem_of_getElem? (i := 4) rfl)) (by decide) (by decide)) q289a q289c (g := (mkF m 368 #[.val (.int p0), .val (.int p1), .val (.int p2), .val (.int p3), .val (.int p4), .val (.int p5), .val (.int n_), .val (.int x1), .val (.int x2), .val (.int x3), .val (.int x4), .val (.int x5), .val (.int x6), .val (.int x7), .val (.int x8), .val (.ref b9), .val (.long x226), .second, .val (.int (1 : Int32))] [(.int n_), (.ref b9)])) rfl (by rw [hml]; rfl) (Steps.refl _) (argsL := [(.int n_)]) (rest := []) (lenOf pd_6 rfl) rfl (by show 2 * 0 + _ ≤ _; exact Nat.le_of_eq rfl) (hb hby at_368) (fun _ _ => ⟨rfl, e285, (by decide : 7 + 0 ≤ _), (by decide : 20 + 0 ≤ _)⟩)
        dsimp only [Pt.U, Pt.locs, Pt.cells, Pt.slots] at X289 l289 y289 z289 st289 hQ289
        subst l289 y289 z289
        obtain ⟨r289, rfl, hr289, Nq289, e289⟩ := hQ289
        have N289 := Fr.app N285 Nq289
        refine gob (fun _ k => st289.trans k) ?_
        show Go _ _ _ _ _ _ _ (T289.setTop (mkF m 371 #[.val (.int p0), .val (.int p1), .val (.int p2), .val (.int p3), .val (.int p4), .val (.int p5), .val (.int n_), .val (.int x1), .val (.int x2), .val (.int x3), .val (.int x4), .val (.int x5), .val (.int x6), .val (.int x7), .val (.int x8), .val (.ref b9), .val (.long x226), .second, .val (.int (1 : Int32))] [(.int r289)]))
        refine gob (fun _ k => XS.iload X289.here hx rfl (hb hby at_371) rfl k) ?_
        show Go _ _ _ _ _ _ _ (T289.setTop (mkF m 373 #[.val (.int p0), .val (.int p1), .val (.int p2), .val (.int p3), .val (.int p4), .val (.int p5), .val (.int n_), .val (.int x1), .val (.int x2), .val (.int x3), .val (.int x4), .val (.int x5), .val (.int x6), .val (.int x7), .val (.int x8), .val (.ref b9), .val (.long x226), .second, .val (.int (1 : Int32))] [(.int x4), (.int r289)]))
        have hd293 : r289 = x4 := ld_0_373_292 p0 p1 p2 p3 n_ x1 x2 x3 x4 r289 hn_ hx1 hx2 hx3 hx4 hc92_33 hc107_80 hc122_198 hr289
        refine gob (fun _ k => XS.icmpNo X289.here hx rfl (hb hby at_373) rfl (teq hd293).2 k) ?_
        show Go _ _ _ _ _ _ _ (T289.setTop (mkF m 376 #[.val (.int p0), .val (.int p1), .val (.int p2), .val (.int p3), .val (.int p4), .val (.int p5), .val (.int n_), .val (.int x1), .val (.int x2), .val (.int x3), .val (.int x4), .val (.int x5), .val (.int x6), .val (.int x7), .val (.int x8), .val (.ref b9), .val (.long x226), .second, .val (.int (1 : Int32))] []))
        refine gob (fun _ k => XS.aload X289.here hx rfl (hb hby at_376) rfl rfl k) ?_
        show Go _ _ _ _ _ _ _ (T289.setTop (mkF m 378 #[.val (.int p0), .val (.int p1), .val (.int p2), .val (.int p3), .val (.int p4), .val (.int p5), .val (.int n_), .val (.int x1), .val (.int x2), .val (.int x3), .val (.int x4), .val (.int x5), .val (.int x6), .val (.int x7), .val (.int x8), .val (.ref b9), .val (.long x226), .second, .val (.int (1 : Int32))] [(.ref b9)]))
        refine gob (fun _ k => XS.iload X289.here hx rfl (hb hby at_378) rfl k) ?_
        show Go _ _ _ _ _ _ _ (T289.setTop (mkF m 380 #[.val (.int p0), .val (.int p1), .val (.int p2), .val (.int p3), .val (.int p4), .val (.int p5), .val (.int n_), .val (.int x1), .val (.int x2), .val (.int x3), .val (.int x4), .val (.int x5), .val (.int x6), .val (.int x7), .val (.int x8), .val (.ref b9), .val (.long x226), .second, .val (.int (1 : Int32))] [(.int n_), (.ref b9)]))
        obtain ⟨cq294, kq294, q294a, q294b, q294c⟩ := isOf hZ e289 c286
        obtain ⟨_, _, ⟨T294, L294, k294, n294⟩, -, X294, ⟨Lc294, hQ294, l294, y294, z294⟩, st294⟩ := X289.virtualBack hx (y := (⟨"com/example/robust_broker/robustbroker/Postings", "frequency", "(I)I"⟩ : MethodName)) (z := (⟨"com/example/robust_broker/robustbroker/Postings", "frequency", "(I)I"⟩ : MethodName)) hown (mvT hZ (hw _ (List.mem_of_getElem? (i := 57) rfl))) (mvT hZ (hw _ (List.mem_of_getElem? (i := 58) rfl))) (notFace_of_selects (args := #[]) (mvT hZ (hw _ (List.mem_of_getElem? (i := 60) rfl)))) (mvT hZ (hw _ (List.mem_of_getElem? (i := 60) rfl))) (mvT hZ (hw _ (List.mem_of_getElem? (i := 59) rfl))) (by decide) (backOf (W := 0) (rmfre_4_3 l Z a0 hw [] b9 n_ b256 k258 x5 x6 x8 T254.heap n0 z284 F263 F269 F268 (la_0_380_295 p0 n_ hn_ hc92_33 hc107_80 hc122_198) (la_0_380_296 p0 n_ hn_ hc92_33 hc107_80 hc122_198)) hZ (hw _ (List.mem_of_getElem? (i := 61) rfl)) (hw _ (List.mem_of_getElem? (i := 4) rfl)) (by decide) (by decide)) q294a q294c (g := (mkF m 380 #[.val (.int p0), .val (.int p1), .val (.int p2), .val (.int p3), .val (.int p4), .val (.int p5), .val (.int n_), .val (.int x1), .val (.int x2), .val (.int x3), .val (.int x4), .val (.int x5), .val (.int x6), .val (.int x7), .val (.int x8), .val (.ref b9), .val (.long x226), .second, .val (.int (1 : Int32))] [(.int n_), (.ref b9)])) rfl (by rw [hml]; rfl) (Steps.refl _) (argsL := [(.int n_)]) (rest := []) (lenOf pd_6 rfl) rfl (by show 2 * 0 + _ ≤ _; exact Nat.le_of_eq rfl) (hb hby at_380) (fun _ _ => ⟨rfl, e289, (by decide : 7 + 0 ≤ _), (by decide : 20 + 0 ≤ _)⟩)
        dsimp only [Pt.U, Pt.locs, Pt.cells, Pt.slots] at X294 l294 y294 z294 st294 hQ294
        subst l294 y294 z294
        obtain ⟨r294, rfl, hr294, Nq294, e294⟩ := hQ294
        have N294 := Fr.app N289 Nq294
        refine gob (fun _ k => st294.trans k) ?_
        show Go _ _ _ _ _ _ _ (T294.setTop (mkF m 383 #[.val (.int p0), .val (.int p1), .val (.int p2), .val (.int p3), .val (.int p4), .val (.int p5), .val (.int n_), .val (.int x1), .val (.int x2), .val (.int x3), .val (.int x4), .val (.int x5), .val (.int x6), .val (.int x7), .val (.int x8), .val (.ref b9), .val (.long x226), .second, .val (.int (1 : Int32))] [(.int r294)]))
        refine gob (fun _ k => XS.iload X294.here hx rfl (hb hby at_383) rfl k) ?_
        show Go _ _ _ _ _ _ _ (T294.setTop (mkF m 385 #[.val (.int p0), .val (.int p1), .val (.int p2), .val (.int p3), .val (.int p4), .val (.int p5), .val (.int n_), .val (.int x1), .val (.int x2), .val (.int x3), .val (.int x4), .val (.int x5), .val (.int x6), .val (.int x7), .val (.int x8), .val (.ref b9), .val (.long x226), .second, .val (.int (1 : Int32))] [(.int x8), (.int r294)]))
        have hd298 : r294 = x8 := ld_0_385_297 p0 p4 p5 n_ x5 x6 x8 r294 hn_ hx5 hx6 hx8 hc92_33 hc107_80 hc122_198 hr294
        refine gob (fun _ k => XS.icmpNo X294.here hx rfl (hb hby at_385) rfl (teq hd298).2 k) ?_
        show Go _ _ _ _ _ _ _ (T294.setTop (mkF m 388 #[.val (.int p0), .val (.int p1), .val (.int p2), .val (.int p3), .val (.int p4), .val (.int p5), .val (.int n_), .val (.int x1), .val (.int x2), .val (.int x3), .val (.int x4), .val (.int x5), .val (.int x6), .val (.int x7), .val (.int x8), .val (.ref b9), .val (.long x226), .second, .val (.int (1 : Int32))] []))
        refine gob (fun _ k => XS.aload X294.here hx rfl (hb hby at_388) rfl rfl k) ?_
        show Go _ _ _ _ _ _ _ (T294.setTop (mkF m 390 #[.val (.int p0), .val (.int p1), .val (.int p2), .val (.int p3), .val (.int p4), .val (.int p5), .val (.int n_), .val (.int x1), .val (.int x2), .val (.int x3), .val (.int x4), .val (.int x5), .val (.int x6), .val (.int x7), .val (.int x8), .val (.ref b9), .val (.long x226), .second, .val (.int (1 : Int32))] [(.ref b9)]))
        obtain ⟨cq299, kq299, q299a, q299b, q299c⟩ := isOf hZ e294 c286
        obtain ⟨_, _, ⟨T299, L299, k299, n299⟩, -, X299, ⟨Lc299, hQ299, l299, y299, z299⟩, st299⟩ := X294.virtualBack hx (y := (⟨"com/example/robust_broker/robustbroker/Postings", "collectionFrequency", "()J"⟩ : MethodName)) (z := (⟨"com/example/robust_broker/robustbroker/Postings", "collectionFrequency", "()J"⟩ : MethodName)) hown (mvT hZ (hw _ (List.mem_of_getElem? (i := 40) rfl))) (mvT hZ (hw _ (List.mem_of_getElem? (i := 41) rfl))) (notFace_of_selects (args := #[]) (mvT hZ (hw _ (List.mem_of_getElem? (i := 43) rfl)))) (mvT hZ (hw _ (List.mem_of_getElem? (i := 43) rfl))) (mvT hZ (hw _ (List.mem_of_getElem? (i := 42) rfl))) (by decide) (backOf (W := 0) (rm7 l Z a0 hw [] b9 ((((0 : Int64) + (x5.toInt64)) + (x6.toInt64)) + (x8.toInt64)) T254.heap n0 z284 F265) hZ (hw _ (List.mem_of_getElem? (i := 44) rfl)) (hw _ (List.mem_of_getElem? (i := 4) rfl)) (by decide) (by decide)) q299a q299c (g := (mkF m 390 #[.val (.int p0), .val (.int p1), .val (.int p2), .val (.int p3), .val (.int p4), .val (.int p5), .val (.int n_), .val (.int x1), .val (.int x2), .val (.int x3), .val (.int x4), .val (.int x5), .val (.int x6), .val (.int x7), .val (.int x8), .val (.ref b9), .val (.long x226), .second, .val (.int (1 : Int32))] [(.ref b9)])) rfl (by rw [hml]; rfl) (Steps.refl _) (argsL := []) (rest := []) (lenOf pd_4 rfl) rfl (by show 2 * 0 + _ ≤ _; exact Nat.le_of_eq rfl) (hb hby at_390) (fun _ _ => ⟨rfl, e294, (by decide : 7 + 0 ≤ _), (by decide : 20 + 0 ≤ _)⟩)
        dsimp only [Pt.U, Pt.locs, Pt.cells, Pt.slots] at X299 l299 y299 z299 st299 hQ299
        subst l299 y299 z299
        obtain ⟨r299, rfl, hr299, Nq299, e299⟩ := hQ299
        have N299 := Fr.app N294 Nq299
        refine gob (fun _ k => st299.trans k) ?_
        show Go _ _ _ _ _ _ _ (T299.setTop (mkF m 393 #[.val (.int p0), .val (.int p1), .val (.int p2), .val (.int p3), .val (.int p4), .val (.int p5), .val (.int n_), .val (.int x1), .val (.int x2), .val (.int x3), .val (.int x4), .val (.int x5), .val (.int x6), .val (.int x7), .val (.int x8), .val (.ref b9), .val (.long x226), .second, .val (.int (1 : Int32))] [(.long r299)]))
        refine gob (fun _ k => XS.lload X299.here hx rfl (hb hby at_393) rfl k) ?_
        show Go _ _ _ _ _ _ _ (T299.setTop (mkF m 395 #[.val (.int p0), .val (.int p1), .val (.int p2), .val (.int p3), .val (.int p4), .val (.int p5), .val (.int n_), .val (.int x1), .val (.int x2), .val (.int x3), .val (.int x4), .val (.int x5), .val (.int x6), .val (.int x7), .val (.int x8), .val (.ref b9), .val (.long x226), .second, .val (.int (1 : Int32))] [(.long x226), (.long r299)]))
        refine gob (fun _ k => XS.iload X299.here hx rfl (hb hby at_395) rfl k) ?_
        show Go _ _ _ _ _ _ _ (T299.setTop (mkF m 397 #[.val (.int p0), .val (.int p1), .val (.int p2), .val (.int p3), .val (.int p4), .val (.int p5), .val (.int n_), .val (.int x1), .val (.int x2), .val (.int x3), .val (.int x4), .val (.int x5), .val (.int x6), .val (.int x7), .val (.int x8), .val (.ref b9), .val (.long x226), .second, .val (.int (1 : Int32))] [(.int x8), (.long x226), (.long r299)]))
        refine gob (fun _ k => XS.i2l X299.here hx rfl (hb hby at_397) rfl k) ?_
        show Go _ _ _ _ _ _ _ (T299.setTop (mkF m 398 #[.val (.int p0), .val (.int p1), .val (.int p2), .val (.int p3), .val (.int p4), .val (.int p5), .val (.int n_), .val (.int x1), .val (.int x2), .val (.int x3), .val (.int x4), .val (.int x5), .val (.int x6), .val (.int x7), .val (.int x8), .val (.ref b9), .val (.long x226), .second, .val (.int (1 : Int32))] [(.long (x8.toInt64)), (.long x226), (.long r299)]))
        refine gob (fun _ k => XS.ladd X299.here hx rfl (hb hby at_398) rfl k) ?_
        show Go _ _ _ _ _ _ _ (T299.setTop (mkF m 399 #[.val (.int p0), .val (.int p1), .val (.int p2), .val (.int p3), .val (.int p4), .val (.int p5), .val (.int n_), .val (.int x1), .val (.int x2), .val (.int x3), .val (.int x4), .val (.int x5), .val (.int x6), .val (.int x7), .val (.int x8), .val (.ref b9), .val (.long x226), .second, .val (.int (1 : Int32))] [(.long (x226 + (x8.toInt64))), (.long r299)]))
        refine gob (fun _ k => XS.lcmp X299.here hx rfl (hb hby at_399) rfl k) ?_
        show Go _ _ _ _ _ _ _ (T299.setTop (mkF m 400 #[.val (.int p0), .val (.int p1), .val (.int p2), .val (.int p3), .val (.int p4), .val (.int p5), .val (.int n_), .val (.int x1), .val (.int x2), .val (.int x3), .val (.int x4), .val (.int x5), .val (.int x6), .val (.int x7), .val (.int x8), .val (.ref b9), .val (.long x226), .second, .val (.int (1 : Int32))] [(.int (lcmpW r299 (x226 + (x8.toInt64))))]))
        have hd301 : r299 = (x226 + (x8.toInt64)) := ld_0_400_300 p0 p4 p5 x5 x6 x8 x225 x226 r299 hx5 hx6 hx8 hx225 hx226 hr299
        refine gob (fun _ k => XS.ifNo X299.here hx rfl (hb hby at_400) rfl ((if0 _ _).trans (teq ((lw_eq _ _).mpr hd301)).2) k) ?_
        show Go _ _ _ _ _ _ _ (T299.setTop (mkF m 403 #[.val (.int p0), .val (.int p1), .val (.int p2), .val (.int p3), .val (.int p4), .val (.int p5), .val (.int n_), .val (.int x1), .val (.int x2), .val (.int x3), .val (.int x4), .val (.int x5), .val (.int x6), .val (.int x7), .val (.int x8), .val (.ref b9), .val (.long x226), .second, .val (.int (1 : Int32))] []))
        refine gob (fun _ k => XS.aload X299.here hx rfl (hb hby at_403) rfl rfl k) ?_
        show Go _ _ _ _ _ _ _ (T299.setTop (mkF m 405 #[.val (.int p0), .val (.int p1), .val (.int p2), .val (.int p3), .val (.int p4), .val (.int p5), .val (.int n_), .val (.int x1), .val (.int x2), .val (.int x3), .val (.int x4), .val (.int x5), .val (.int x6), .val (.int x7), .val (.int x8), .val (.ref b9), .val (.long x226), .second, .val (.int (1 : Int32))] [(.ref b9)]))
        refine gob (fun _ k => XS.iconst X299.here hx rfl (hb hby at_405) k) ?_
        show Go _ _ _ _ _ _ _ (T299.setTop (mkF m 406 #[.val (.int p0), .val (.int p1), .val (.int p2), .val (.int p3), .val (.int p4), .val (.int p5), .val (.int n_), .val (.int x1), .val (.int x2), .val (.int x3), .val (.int x4), .val (.int x5), .val (.int x6), .val (.int x7), .val (.int x8), .val (.ref b9), .val (.long x226), .second, .val (.int (1 : Int32))] [(.int (0 : Int32)), (.ref b9)]))
        obtain ⟨cq302, kq302, q302a, q302b, q302c⟩ := isOf hZ e299 c286
        obtain ⟨_, _, ⟨T302, L302, k302, n302⟩, -, X302, ⟨Lc302, hQ302, l302, y302, z302⟩, st302⟩ := X299.virtualBack hx (y := (⟨"com/example/robust_broker/robustbroker/Postings", "document", "(I)I"⟩ : MethodName)) (z := (⟨"com/example/robust_broker/robustbroker/Postings", "document", "(I)I"⟩ : MethodName)) hown (mvT hZ (hw _ (List.mem_of_getElem? (i := 52) rfl))) (mvT hZ (hw _ (List.mem_of_getElem? (i := 53) rfl))) (notFace_of_selects (args := #[]) (mvT hZ (hw _ (List.mem_of_getElem? (i := 55) rfl)))) (mvT hZ (hw _ (List.mem_of_getElem? (i := 55) rfl))) (mvT hZ (hw _ (List.mem_of_getElem? (i := 54) rfl))) (by decide) (backOf (W := 0) (rmdoc_4_3 l Z a0 hw [] b9 (0 : Int32) b255 k257 x1 x2 x4 T254.heap n0 z284 F262 F267 F266 (la_0_406_303  ) (la_0_406_304  )) hZ (hw _ (List.mem_of_getElem? (i := 56) rfl)) (hw _ (List.mem_of_getElem? (i := 4) rfl)) (by decide) (by decide)) q302a q302c (g := (mkF m 406 #[.val (.int p0), .val (.int p1), .val (.int p2), .val (.int p3), .val (.int p4), .val (.int p5), .val (.int n_), .val (.int x1), .val (.int x2), .val (.int x3), .val (.int x4), .val (.int x5), .val (.int x6), .val (.int x7), .val (.int x8), .val (.ref b9), .val (.long x226), .second, .val (.int (1 : Int32))] [(.int (0 : Int32)), (.ref b9)])) rfl (by rw [hml]; rfl) (Steps.refl _) (argsL := [(.int (0 : Int32))]) (rest := []) (lenOf pd_6 rfl) rfl (by show 2 * 0 + _ ≤ _; exact Nat.le_of_eq rfl) (hb hby at_406) (fun _ _ => ⟨rfl, e299, (by decide : 7 + 0 ≤ _), (by decide : 20 + 0 ≤ _)⟩)
        dsimp only [Pt.U, Pt.locs, Pt.cells, Pt.slots] at X302 l302 y302 z302 st302 hQ302
        subst l302 y302 z302
        obtain ⟨r302, rfl, hr302, Nq302, e302⟩ := hQ302
        have N302 := Fr.app N299 Nq302
        refine gob (fun _ k => st302.trans k) ?_
        show Go _ _ _ _ _ _ _ (T302.setTop (mkF m 409 #[.val (.int p0), .val (.int p1), .val (.int p2), .val (.int p3), .val (.int p4), .val (.int p5), .val (.int n_), .val (.int x1), .val (.int x2), .val (.int x3), .val (.int x4), .val (.int x5), .val (.int x6), .val (.int x7), .val (.int x8), .val (.ref b9), .val (.long x226), .second, .val (.int (1 : Int32))] [(.int r302)]))
        refine gob (fun _ k => XS.iload X302.here hx rfl (hb hby at_409) rfl k) ?_
        show Go _ _ _ _ _ _ _ (T302.setTop (mkF m 411 #[.val (.int p0), .val (.int p1), .val (.int p2), .val (.int p3), .val (.int p4), .val (.int p5), .val (.int n_), .val (.int x1), .val (.int x2), .val (.int x3), .val (.int x4), .val (.int x5), .val (.int x6), .val (.int x7), .val (.int x8), .val (.ref b9), .val (.long x226), .second, .val (.int (1 : Int32))] [(.int x1), (.int r302)]))
        have hd306 : r302 = x1 := ld_0_411_305 p1 p2 x1 x2 x3 x4 r302 hx1 hx2 hx4 hr302
        refine gob (fun _ k => XS.icmpNo X302.here hx rfl (hb hby at_411) rfl (teq hd306).2 k) ?_
        show Go _ _ _ _ _ _ _ (T302.setTop (mkF m 414 #[.val (.int p0), .val (.int p1), .val (.int p2), .val (.int p3), .val (.int p4), .val (.int p5), .val (.int n_), .val (.int x1), .val (.int x2), .val (.int x3), .val (.int x4), .val (.int x5), .val (.int x6), .val (.int x7), .val (.int x8), .val (.ref b9), .val (.long x226), .second, .val (.int (1 : Int32))] []))
        refine gob (fun _ k => XS.aload X302.here hx rfl (hb hby at_414) rfl rfl k) ?_
        show Go _ _ _ _ _ _ _ (T302.setTop (mkF m 416 #[.val (.int p0), .val (.int p1), .val (.int p2), .val (.int p3), .val (.int p4), .val (.int p5), .val (.int n_), .val (.int x1), .val (.int x2), .val (.int x3), .val (.int x4), .val (.int x5), .val (.int x6), .val (.int x7), .val (.int x8), .val (.ref b9), .val (.long x226), .second, .val (.int (1 : Int32))] [(.ref b9)]))
        refine gob (fun _ k => XS.iconst X302.here hx rfl (hb hby at_416) k) ?_
        show Go _ _ _ _ _ _ _ (T302.setTop (mkF m 417 #[.val (.int p0), .val (.int p1), .val (.int p2), .val (.int p3), .val (.int p4), .val (.int p5), .val (.int n_), .val (.int x1), .val (.int x2), .val (.int x3), .val (.int x4), .val (.int x5), .val (.int x6), .val (.int x7), .val (.int x8), .val (.ref b9), .val (.long x226), .second, .val (.int (1 : Int32))] [(.int (0 : Int32)), (.ref b9)]))
        obtain ⟨cq307, kq307, q307a, q307b, q307c⟩ := isOf hZ e302 c286
        obtain ⟨_, _, ⟨T307, L307, k307, n307⟩, -, X307, ⟨Lc307, hQ307, l307, y307, z307⟩, st307⟩ := X302.virtualBack hx (y := (⟨"com/example/robust_broker/robustbroker/Postings", "frequency", "(I)I"⟩ : MethodName)) (z := (⟨"com/example/robust_broker/robustbroker/Postings", "frequency", "(I)I"⟩ : MethodName)) hown (mvT hZ (hw _ (List.mem_of_getElem? (i := 57) rfl))) (mvT hZ (hw _ (List.mem_of_getElem? (i := 58) rfl))) (notFace_of_selects (args := #[]) (mvT hZ (hw _ (List.mem_of_getElem? (i := 60) rfl)))) (mvT hZ (hw _ (List.mem_of_getElem? (i := 60) rfl))) (mvT hZ (hw _ (List.mem_of_getElem? (i := 59) rfl))) (by decide) (backOf (W := 0) (rmfre_4_3 l Z a0 hw [] b9 (0 : Int32) b256 k258 x5 x6 x8 T254.heap n0 z284 F263 F269 F268 (la_0_417_308  ) (la_0_417_309  )) hZ (hw _ (List.mem_of_getElem? (i := 61) rfl)) (hw _ (List.mem_of_getElem? (i := 4) rfl)) (by decide) (by decide)) q307a q307c (g := (mkF m 417 #[.val (.int p0), .val (.int p1), .val (.int p2), .val (.int p3), .val (.int p4), .val (.int p5), .val (.int n_), .val (.int x1), .val (.int x2), .val (.int x3), .val (.int x4), .val (.int x5), .val (.int x6), .val (.int x7), .val (.int x8), .val (.ref b9), .val (.long x226), .second, .val (.int (1 : Int32))] [(.int (0 : Int32)), (.ref b9)])) rfl (by rw [hml]; rfl) (Steps.refl _) (argsL := [(.int (0 : Int32))]) (rest := []) (lenOf pd_6 rfl) rfl (by show 2 * 0 + _ ≤ _; exact Nat.le_of_eq rfl) (hb hby at_417) (fun _ _ => ⟨rfl, e302, (by decide : 7 + 0 ≤ _), (by decide : 20 + 0 ≤ _)⟩)
        dsimp only [Pt.U, Pt.locs, Pt.cells, Pt.slots] at X307 l307 y307 z307 st307 hQ307
        subst l307 y307 z307
        obtain ⟨r307, rfl, hr307, Nq307, e307⟩ := hQ307
        have N307 := Fr.app N302 Nq307
        refine gob (fun _ k => st307.trans k) ?_
        show Go _ _ _ _ _ _ _ (T307.setTop (mkF m 420 #[.val (.int p0), .val (.int p1), .val (.int p2), .val (.int p3), .val (.int p4), .val (.int p5), .val (.int n_), .val (.int x1), .val (.int x2), .val (.int x3), .val (.int x4), .val (.int x5), .val (.int x6), .val (.int x7), .val (.int x8), .val (.ref b9), .val (.long x226), .second, .val (.int (1 : Int32))] [(.int r307)]))
        refine gob (fun _ k => XS.iload X307.here hx rfl (hb hby at_420) rfl k) ?_
        show Go _ _ _ _ _ _ _ (T307.setTop (mkF m 422 #[.val (.int p0), .val (.int p1), .val (.int p2), .val (.int p3), .val (.int p4), .val (.int p5), .val (.int n_), .val (.int x1), .val (.int x2), .val (.int x3), .val (.int x4), .val (.int x5), .val (.int x6), .val (.int x7), .val (.int x8), .val (.ref b9), .val (.long x226), .second, .val (.int (1 : Int32))] [(.int x5), (.int r307)]))
        have hd311 : r307 = x5 := ld_0_422_310 p0 p4 p5 x5 x6 x8 r307 hx5 hx6 hx8 hr307
        refine gob (fun _ k => XS.icmpNo X307.here hx rfl (hb hby at_422) rfl (teq hd311).2 k) ?_
        show Go _ _ _ _ _ _ _ (T307.setTop (mkF m 425 #[.val (.int p0), .val (.int p1), .val (.int p2), .val (.int p3), .val (.int p4), .val (.int p5), .val (.int n_), .val (.int x1), .val (.int x2), .val (.int x3), .val (.int x4), .val (.int x5), .val (.int x6), .val (.int x7), .val (.int x8), .val (.ref b9), .val (.long x226), .second, .val (.int (1 : Int32))] []))
        refine gob (fun _ k => XS.iconst X307.here hx rfl (hb hby at_425) k) ?_
        show Go _ _ _ _ _ _ _ (T307.setTop (mkF m 426 #[.val (.int p0), .val (.int p1), .val (.int p2), .val (.int p3), .val (.int p4), .val (.int p5), .val (.int n_), .val (.int x1), .val (.int x2), .val (.int x3), .val (.int x4), .val (.int x5), .val (.int x6), .val (.int x7), .val (.int x8), .val (.ref b9), .val (.long x226), .second, .val (.int (1 : Int32))] [(.int (1 : Int32))]))
        refine gob (fun _ k => XS.goto X307.here hx rfl (pc0 := 426) (pc' := 430) rfl (hb hby at_426) (by decide) (by decide) k) ?_
        show Go _ _ _ _ _ _ _ (T307.setTop (mkF m 430 #[.val (.int p0), .val (.int p1), .val (.int p2), .val (.int p3), .val (.int p4), .val (.int p5), .val (.int n_), .val (.int x1), .val (.int x2), .val (.int x3), .val (.int x4), .val (.int x5), .val (.int x6), .val (.int x7), .val (.int x8), .val (.ref b9), .val (.long x226), .second, .val (.int (1 : Int32))] [(.int (1 : Int32))]))
        refine gob (fun _ k => XS.istore X307.here hx rfl (hb hby at_430) rfl (l' := #[.val (.int p0), .val (.int p1), .val (.int p2), .val (.int p3), .val (.int p4), .val (.int p5), .val (.int n_), .val (.int x1), .val (.int x2), .val (.int x3), .val (.int x4), .val (.int x5), .val (.int x6), .val (.int x7), .val (.int x8), .val (.ref b9), .val (.long x226), .second, .val (.int (1 : Int32))]) rfl k) ?_
        show Go _ _ _ _ _ _ _ (T307.setTop (mkF m 432 #[.val (.int p0), .val (.int p1), .val (.int p2), .val (.int p3), .val (.int p4), .val (.int p5), .val (.int n_), .val (.int x1), .val (.int x2), .val (.int x3), .val (.int x4), .val (.int x5), .val (.int x6), .val (.int x7), .val (.int x8), .val (.ref b9), .val (.long x226), .second, .val (.int (1 : Int32))] []))
        refine gob (fun _ k => XS.iload X307.here hx rfl (hb hby at_432) rfl k) ?_
        show Go _ _ _ _ _ _ _ (T307.setTop (mkF m 434 #[.val (.int p0), .val (.int p1), .val (.int p2), .val (.int p3), .val (.int p4), .val (.int p5), .val (.int n_), .val (.int x1), .val (.int x2), .val (.int x3), .val (.int x4), .val (.int x5), .val (.int x6), .val (.int x7), .val (.int x8), .val (.ref b9), .val (.long x226), .second, .val (.int (1 : Int32))] [(.int (1 : Int32))]))
        refine goZ X307 hx hlk (t := .boolean) Bd.returns (by simp) (hb hby at_434) (z' := (1 : Int32)) rfl ?_ (by decide) (by decide)
        show Q0 Z p0 p1 p2 p3 p4 p5 h0 n0 (some (.int (1 : Int32))) T307.heap _
        exact ⟨rfl, N307⟩
      · skip
        refine gob (fun _ k => XS.icmpNo X187.here hx rfl (hb hby at_122) rfl (flt hc122_198).1 k) ?_
        show Go _ _ _ _ _ _ _ (T187.setTop (mkF m 125 #[.val (.int p0), .val (.int p1), .val (.int p2), .val (.int p3), .val (.int p4), .val (.int p5), .val (.int n_), .val (.int x1), .val (.int x2), .val (.int x3), .val (.int x4), .val (.int x5), .val (.int x6), .val (.int x7), .val (.int x8), .val (.ref b9), .unset, .unset, .unset] []))
        refine gob (fun _ k => XS.aload X187.here hx rfl (hb hby at_125) rfl rfl k) ?_
        show Go _ _ _ _ _ _ _ (T187.setTop (mkF m 127 #[.val (.int p0), .val (.int p1), .val (.int p2), .val (.int p3), .val (.int p4), .val (.int p5), .val (.int n_), .val (.int x1), .val (.int x2), .val (.int x3), .val (.int x4), .val (.int x5), .val (.int x6), .val (.int x7), .val (.int x8), .val (.ref b9), .unset, .unset, .unset] [(.ref b9)]))
        refine gob (fun _ k => XS.iload X187.here hx rfl (hb hby at_127) rfl k) ?_
        show Go _ _ _ _ _ _ _ (T187.setTop (mkF m 129 #[.val (.int p0), .val (.int p1), .val (.int p2), .val (.int p3), .val (.int p4), .val (.int p5), .val (.int n_), .val (.int x1), .val (.int x2), .val (.int x3), .val (.int x4), .val (.int x5), .val (.int x6), .val (.int x7), .val (.int x8), .val (.ref b9), .unset, .unset, .unset] [(.int x3), (.ref b9)]))
        refine gob (fun _ k => XS.iload X187.here hx rfl (hb hby at_129) rfl k) ?_
        show Go _ _ _ _ _ _ _ (T187.setTop (mkF m 131 #[.val (.int p0), .val (.int p1), .val (.int p2), .val (.int p3), .val (.int p4), .val (.int p5), .val (.int n_), .val (.int x1), .val (.int x2), .val (.int x3), .val (.int x4), .val (.int x5), .val (.int x6), .val (.int x7), .val (.int x8), .val (.ref b9), .unset, .unset, .unset] [(.int x7), (.int x3), (.ref b9)]))
        have c313 := (c188.keep K187)
        have c314 := (c189.keep K187)
        have c315 := (c190.keep K187)
        obtain ⟨cq312, kq312, q312a, q312b, q312c⟩ := isOf hZ (rfl : T187.heap = _) c315
        obtain ⟨_, _, ⟨T312, L312, k312, n312⟩, -, X312, ⟨Lc312, hQ312, l312, y312, z312⟩, st312⟩ := X187.virtualBack hx (y := (⟨"com/example/robust_broker/robustbroker/Postings", "add", "(II)V"⟩ : MethodName)) (z := (⟨"com/example/robust_broker/robustbroker/Postings", "add", "(II)V"⟩ : MethodName)) hown (mvT hZ (hw _ (List.mem_of_getElem? (i := 47) rfl))) (mvT hZ (hw _ (List.mem_of_getElem? (i := 48) rfl))) (notFace_of_selects (args := #[]) (mvT hZ (hw _ (List.mem_of_getElem? (i := 50) rfl)))) (mvT hZ (hw _ (List.mem_of_getElem? (i := 50) rfl))) (mvT hZ (hw _ (List.mem_of_getElem? (i := 49) rfl))) (by decide) (backOf (W := 0) (rmadd_2_2 l Z a0 hw [] b9 x3 x7 b13 k15 x1 x2 b14 k16 x5 x6 (((0 : Int64) + (x5.toInt64)) + (x6.toInt64)) T187.heap n0 z197 F191 F192 c313 F193 F194 c314 F195 F196 n28 n30 hn19 c315 g10) hZ (hw _ (List.mem_of_getElem? (i := 51) rfl)) (hw _ (List.mem_of_getElem? (i := 4) rfl)) (by decide) (by decide)) q312a q312c (g := (mkF m 131 #[.val (.int p0), .val (.int p1), .val (.int p2), .val (.int p3), .val (.int p4), .val (.int p5), .val (.int n_), .val (.int x1), .val (.int x2), .val (.int x3), .val (.int x4), .val (.int x5), .val (.int x6), .val (.int x7), .val (.int x8), .val (.ref b9), .unset, .unset, .unset] [(.int x7), (.int x3), (.ref b9)])) rfl (by rw [hml]; rfl) (Steps.refl _) (argsL := [(.int x3), (.int x7)]) (rest := []) (lenOf pd_5 rfl) rfl (by show 2 * 0 + _ ≤ _; exact Nat.le_of_eq rfl) (hb hby at_131) (fun _ _ => ⟨rfl, (rfl : T187.heap = _), (by decide : 3 + 2 ≤ _), (by decide : 8 + 8 ≤ _)⟩)
        dsimp only [Pt.U, Pt.locs, Pt.cells, Pt.slots] at X312 l312 y312 z312 st312 hQ312
        subst l312 y312 z312
        obtain ⟨b316, b317, k318, k319, rfl, Nq312, K312, hz320, hz321, hn322, F323, F324, F325, F326, F327, F328, F329, F330⟩ := hQ312
        have N312 := Fr.app N187 Nq312
        have n331 : b9 ≠ b316 := Nat.ne_of_lt (Nat.lt_of_lt_of_le c315.lt hz320)
        have n332 : b13 ≠ b316 := Nat.ne_of_lt (Nat.lt_of_lt_of_le c313.lt hz320)
        have n333 : b14 ≠ b316 := Nat.ne_of_lt (Nat.lt_of_lt_of_le c314.lt hz320)
        have g334 : n0 ≤ b316 := Nat.le_trans z197 hz320
        have n335 : b9 ≠ b317 := Nat.ne_of_lt (Nat.lt_of_lt_of_le c315.lt hz321)
        have n336 : b13 ≠ b317 := Nat.ne_of_lt (Nat.lt_of_lt_of_le c313.lt hz321)
        have n337 : b14 ≠ b317 := Nat.ne_of_lt (Nat.lt_of_lt_of_le c314.lt hz321)
        have g338 : n0 ≤ b317 := Nat.le_trans z197 hz321
        have z339 : n0 ≤ T312.heap.size := Nat.le_trans z197 K312.1
        refine gob (fun _ k => st312.trans k) ?_
        show Go _ _ _ _ _ _ _ (T312.setTop (mkF m 134 #[.val (.int p0), .val (.int p1), .val (.int p2), .val (.int p3), .val (.int p4), .val (.int p5), .val (.int n_), .val (.int x1), .val (.int x2), .val (.int x3), .val (.int x4), .val (.int x5), .val (.int x6), .val (.int x7), .val (.int x8), .val (.ref b9), .unset, .unset, .unset] []))
        refine gob (fun _ k => XS.aload X312.here hx rfl (hb hby at_134) rfl rfl k) ?_
        show Go _ _ _ _ _ _ _ (T312.setTop (mkF m 136 #[.val (.int p0), .val (.int p1), .val (.int p2), .val (.int p3), .val (.int p4), .val (.int p5), .val (.int n_), .val (.int x1), .val (.int x2), .val (.int x3), .val (.int x4), .val (.int x5), .val (.int x6), .val (.int x7), .val (.int x8), .val (.ref b9), .unset, .unset, .unset] [(.ref b9)]))
        have c341 := (c315.keep K312)
        obtain ⟨cq340, kq340, q340a, q340b, q340c⟩ := isOf hZ (rfl : T312.heap = _) c341
        obtain ⟨_, _, ⟨T340, L340, k340, n340⟩, -, X340, ⟨Lc340, hQ340, l340, y340, z340⟩, st340⟩ := X312.virtualBack hx (y := (⟨"com/example/robust_broker/robustbroker/Postings", "trim", "()V"⟩ : MethodName)) (z := (⟨"com/example/robust_broker/robustbroker/Postings", "trim", "()V"⟩ : MethodName)) hown (mvT hZ (hw _ (List.mem_of_getElem? (i := 16) rfl))) (mvT hZ (hw _ (List.mem_of_getElem? (i := 17) rfl))) (notFace_of_selects (args := #[]) (mvT hZ (hw _ (List.mem_of_getElem? (i := 19) rfl)))) (mvT hZ (hw _ (List.mem_of_getElem? (i := 19) rfl))) (mvT hZ (hw _ (List.mem_of_getElem? (i := 18) rfl))) (by decide) (backOf (W := 0) (rmtrim_4_3 l Z a0 hw [] b9 b316 k318 x1 x2 x3 b317 k319 x5 x6 x7 ((((0 : Int64) + (x5.toInt64)) + (x6.toInt64)) + (x7.toInt64)) T312.heap n0 z339 F323 F328 F327 F324 F330 F329 F325 F326 n331 n335 hn322 c341 g10) hZ (hw _ (List.mem_of_getElem? (i := 20) rfl)) (hw _ (List.mem_of_getElem? (i := 4) rfl)) (by decide) (by decide)) q340a q340c (g := (mkF m 136 #[.val (.int p0), .val (.int p1), .val (.int p2), .val (.int p3), .val (.int p4), .val (.int p5), .val (.int n_), .val (.int x1), .val (.int x2), .val (.int x3), .val (.int x4), .val (.int x5), .val (.int x6), .val (.int x7), .val (.int x8), .val (.ref b9), .unset, .unset, .unset] [(.ref b9)])) rfl (by rw [hml]; rfl) (Steps.refl _) (argsL := []) (rest := []) (lenOf pd_2 rfl) rfl (by show 2 * 0 + _ ≤ _; exact Nat.le_of_eq rfl) (hb hby at_136) (fun _ _ => ⟨rfl, (rfl : T312.heap = _), (by decide : 5 + 2 ≤ _), (by decide : 16 + 6 ≤ _)⟩)
        dsimp only [Pt.U, Pt.locs, Pt.cells, Pt.slots] at X340 l340 y340 z340 st340 hQ340
        subst l340 y340 z340
        obtain ⟨b342, b343, k344, k345, rfl, Nq340, K340, hz346, hz347, hn348, F349, F350, F351, F352, F353, F354, F355, F356⟩ := hQ340
        have N340 := Fr.app N312 Nq340
        have n357 : b9 ≠ b342 := Nat.ne_of_lt (Nat.lt_of_lt_of_le c341.lt hz346)
        have c359 := (c313.keep K312)
        have n358 : b13 ≠ b342 := Nat.ne_of_lt (Nat.lt_of_lt_of_le c359.lt hz346)
        have c361 := (c314.keep K312)
        have n360 : b14 ≠ b342 := Nat.ne_of_lt (Nat.lt_of_lt_of_le c361.lt hz346)
        have n362 : b316 ≠ b342 := Nat.ne_of_lt (Nat.lt_of_lt_of_le F327.lt hz346)
        have n363 : b317 ≠ b342 := Nat.ne_of_lt (Nat.lt_of_lt_of_le F329.lt hz346)
        have g364 : n0 ≤ b342 := Nat.le_trans z339 hz346
        have n365 : b9 ≠ b343 := Nat.ne_of_lt (Nat.lt_of_lt_of_le c341.lt hz347)
        have n366 : b13 ≠ b343 := Nat.ne_of_lt (Nat.lt_of_lt_of_le c359.lt hz347)
        have n367 : b14 ≠ b343 := Nat.ne_of_lt (Nat.lt_of_lt_of_le c361.lt hz347)
        have n368 : b316 ≠ b343 := Nat.ne_of_lt (Nat.lt_of_lt_of_le F327.lt hz347)
        have n369 : b317 ≠ b343 := Nat.ne_of_lt (Nat.lt_of_lt_of_le F329.lt hz347)
        have g370 : n0 ≤ b343 := Nat.le_trans z339 hz347
        have z371 : n0 ≤ T340.heap.size := Nat.le_trans z339 K340.1
        refine gob (fun _ k => st340.trans k) ?_
        show Go _ _ _ _ _ _ _ (T340.setTop (mkF m 139 #[.val (.int p0), .val (.int p1), .val (.int p2), .val (.int p3), .val (.int p4), .val (.int p5), .val (.int n_), .val (.int x1), .val (.int x2), .val (.int x3), .val (.int x4), .val (.int x5), .val (.int x6), .val (.int x7), .val (.int x8), .val (.ref b9), .unset, .unset, .unset] []))
        refine gob (fun _ k => XS.lconst X340.here hx rfl (hb hby at_139) k) ?_
        show Go _ _ _ _ _ _ _ (T340.setTop (mkF m 140 #[.val (.int p0), .val (.int p1), .val (.int p2), .val (.int p3), .val (.int p4), .val (.int p5), .val (.int n_), .val (.int x1), .val (.int x2), .val (.int x3), .val (.int x4), .val (.int x5), .val (.int x6), .val (.int x7), .val (.int x8), .val (.ref b9), .unset, .unset, .unset] [(.long (0 : Int64))]))
        refine gob (fun _ k => XS.lstore X340.here hx rfl (hb hby at_140) rfl (l' := #[.val (.int p0), .val (.int p1), .val (.int p2), .val (.int p3), .val (.int p4), .val (.int p5), .val (.int n_), .val (.int x1), .val (.int x2), .val (.int x3), .val (.int x4), .val (.int x5), .val (.int x6), .val (.int x7), .val (.int x8), .val (.ref b9), .val (.long (0 : Int64)), .second, .unset]) rfl k) ?_
        show Go _ _ _ _ _ _ _ (T340.setTop (mkF m 142 #[.val (.int p0), .val (.int p1), .val (.int p2), .val (.int p3), .val (.int p4), .val (.int p5), .val (.int n_), .val (.int x1), .val (.int x2), .val (.int x3), .val (.int x4), .val (.int x5), .val (.int x6), .val (.int x7), .val (.int x8), .val (.ref b9), .val (.long (0 : Int64)), .second, .unset] []))
        refine gob (fun _ k => XS.iload X340.here hx rfl (hb hby at_142) rfl k) ?_
        show Go _ _ _ _ _ _ _ (T340.setTop (mkF m 144 #[.val (.int p0), .val (.int p1), .val (.int p2), .val (.int p3), .val (.int p4), .val (.int p5), .val (.int n_), .val (.int x1), .val (.int x2), .val (.int x3), .val (.int x4), .val (.int x5), .val (.int x6), .val (.int x7), .val (.int x8), .val (.ref b9), .val (.long (0 : Int64)), .second, .unset] [(.int n_)]))
        refine gob (fun _ k => XS.iconst X340.here hx rfl (hb hby at_144) k) ?_
        show Go _ _ _ _ _ _ _ (T340.setTop (mkF m 145 #[.val (.int p0), .val (.int p1), .val (.int p2), .val (.int p3), .val (.int p4), .val (.int p5), .val (.int n_), .val (.int x1), .val (.int x2), .val (.int x3), .val (.int x4), .val (.int x5), .val (.int x6), .val (.int x7), .val (.int x8), .val (.ref b9), .val (.long (0 : Int64)), .second, .unset] [(.int (1 : Int32)), (.int n_)]))
        refine gob (fun _ k => XS.icmpNo X340.here hx rfl (hb hby at_145) rfl (flt hc92_33).1 k) ?_
        show Go _ _ _ _ _ _ _ (T340.setTop (mkF m 148 #[.val (.int p0), .val (.int p1), .val (.int p2), .val (.int p3), .val (.int p4), .val (.int p5), .val (.int n_), .val (.int x1), .val (.int x2), .val (.int x3), .val (.int x4), .val (.int x5), .val (.int x6), .val (.int x7), .val (.int x8), .val (.ref b9), .val (.long (0 : Int64)), .second, .unset] []))
        refine gob (fun _ k => XS.lload X340.here hx rfl (hb hby at_148) rfl k) ?_
        show Go _ _ _ _ _ _ _ (T340.setTop (mkF m 150 #[.val (.int p0), .val (.int p1), .val (.int p2), .val (.int p3), .val (.int p4), .val (.int p5), .val (.int n_), .val (.int x1), .val (.int x2), .val (.int x3), .val (.int x4), .val (.int x5), .val (.int x6), .val (.int x7), .val (.int x8), .val (.ref b9), .val (.long (0 : Int64)), .second, .unset] [(.long (0 : Int64))]))
        refine gob (fun _ k => XS.iload X340.here hx rfl (hb hby at_150) rfl k) ?_
        show Go _ _ _ _ _ _ _ (T340.setTop (mkF m 152 #[.val (.int p0), .val (.int p1), .val (.int p2), .val (.int p3), .val (.int p4), .val (.int p5), .val (.int n_), .val (.int x1), .val (.int x2), .val (.int x3), .val (.int x4), .val (.int x5), .val (.int x6), .val (.int x7), .val (.int x8), .val (.ref b9), .val (.long (0 : Int64)), .second, .unset] [(.int x5), (.long (0 : Int64))]))
        refine gob (fun _ k => XS.i2l X340.here hx rfl (hb hby at_152) rfl k) ?_
        show Go _ _ _ _ _ _ _ (T340.setTop (mkF m 153 #[.val (.int p0), .val (.int p1), .val (.int p2), .val (.int p3), .val (.int p4), .val (.int p5), .val (.int n_), .val (.int x1), .val (.int x2), .val (.int x3), .val (.int x4), .val (.int x5), .val (.int x6), .val (.int x7), .val (.int x8), .val (.ref b9), .val (.long (0 : Int64)), .second, .unset] [(.long (x5.toInt64)), (.long (0 : Int64))]))
        refine gob (fun _ k => XS.ladd X340.here hx rfl (hb hby at_153) rfl k) ?_
        show Go _ _ _ _ _ _ _ (T340.setTop (mkF m 154 #[.val (.int p0), .val (.int p1), .val (.int p2), .val (.int p3), .val (.int p4), .val (.int p5), .val (.int n_), .val (.int x1), .val (.int x2), .val (.int x3), .val (.int x4), .val (.int x5), .val (.int x6), .val (.int x7), .val (.int x8), .val (.ref b9), .val (.long (0 : Int64)), .second, .unset] [(.long ((0 : Int64) + (x5.toInt64)))]))
        refine gob (fun _ k => XS.lstore X340.here hx rfl (hb hby at_154) rfl (l' := #[.val (.int p0), .val (.int p1), .val (.int p2), .val (.int p3), .val (.int p4), .val (.int p5), .val (.int n_), .val (.int x1), .val (.int x2), .val (.int x3), .val (.int x4), .val (.int x5), .val (.int x6), .val (.int x7), .val (.int x8), .val (.ref b9), .val (.long ((0 : Int64) + (x5.toInt64))), .second, .unset]) rfl k) ?_
        show Go _ _ _ _ _ _ _ (T340.setTop (mkF m 156 #[.val (.int p0), .val (.int p1), .val (.int p2), .val (.int p3), .val (.int p4), .val (.int p5), .val (.int n_), .val (.int x1), .val (.int x2), .val (.int x3), .val (.int x4), .val (.int x5), .val (.int x6), .val (.int x7), .val (.int x8), .val (.ref b9), .val (.long ((0 : Int64) + (x5.toInt64))), .second, .unset] []))
        generalize hx372 : ((0 : Int64) + (x5.toInt64)) = x372
        show Go _ _ _ _ _ _ _ (T340.setTop (mkF m 156 #[.val (.int p0), .val (.int p1), .val (.int p2), .val (.int p3), .val (.int p4), .val (.int p5), .val (.int n_), .val (.int x1), .val (.int x2), .val (.int x3), .val (.int x4), .val (.int x5), .val (.int x6), .val (.int x7), .val (.int x8), .val (.ref b9), .val (.long x372), .second, .unset] []))
        refine gob (fun _ k => XS.iload X340.here hx rfl (hb hby at_156) rfl k) ?_
        show Go _ _ _ _ _ _ _ (T340.setTop (mkF m 158 #[.val (.int p0), .val (.int p1), .val (.int p2), .val (.int p3), .val (.int p4), .val (.int p5), .val (.int n_), .val (.int x1), .val (.int x2), .val (.int x3), .val (.int x4), .val (.int x5), .val (.int x6), .val (.int x7), .val (.int x8), .val (.ref b9), .val (.long x372), .second, .unset] [(.int n_)]))
        refine gob (fun _ k => XS.iconst X340.here hx rfl (hb hby at_158) k) ?_
        show Go _ _ _ _ _ _ _ (T340.setTop (mkF m 159 #[.val (.int p0), .val (.int p1), .val (.int p2), .val (.int p3), .val (.int p4), .val (.int p5), .val (.int n_), .val (.int x1), .val (.int x2), .val (.int x3), .val (.int x4), .val (.int x5), .val (.int x6), .val (.int x7), .val (.int x8), .val (.ref b9), .val (.long x372), .second, .unset] [(.int (2 : Int32)), (.int n_)]))
        refine gob (fun _ k => XS.icmpNo X340.here hx rfl (hb hby at_159) rfl (flt hc107_80).1 k) ?_
        show Go _ _ _ _ _ _ _ (T340.setTop (mkF m 162 #[.val (.int p0), .val (.int p1), .val (.int p2), .val (.int p3), .val (.int p4), .val (.int p5), .val (.int n_), .val (.int x1), .val (.int x2), .val (.int x3), .val (.int x4), .val (.int x5), .val (.int x6), .val (.int x7), .val (.int x8), .val (.ref b9), .val (.long x372), .second, .unset] []))
        refine gob (fun _ k => XS.lload X340.here hx rfl (hb hby at_162) rfl k) ?_
        show Go _ _ _ _ _ _ _ (T340.setTop (mkF m 164 #[.val (.int p0), .val (.int p1), .val (.int p2), .val (.int p3), .val (.int p4), .val (.int p5), .val (.int n_), .val (.int x1), .val (.int x2), .val (.int x3), .val (.int x4), .val (.int x5), .val (.int x6), .val (.int x7), .val (.int x8), .val (.ref b9), .val (.long x372), .second, .unset] [(.long x372)]))
        refine gob (fun _ k => XS.iload X340.here hx rfl (hb hby at_164) rfl k) ?_
        show Go _ _ _ _ _ _ _ (T340.setTop (mkF m 166 #[.val (.int p0), .val (.int p1), .val (.int p2), .val (.int p3), .val (.int p4), .val (.int p5), .val (.int n_), .val (.int x1), .val (.int x2), .val (.int x3), .val (.int x4), .val (.int x5), .val (.int x6), .val (.int x7), .val (.int x8), .val (.ref b9), .val (.long x372), .second, .unset] [(.int x6), (.long x372)]))
        refine gob (fun _ k => XS.i2l X340.here hx rfl (hb hby at_166) rfl k) ?_
        show Go _ _ _ _ _ _ _ (T340.setTop (mkF m 167 #[.val (.int p0), .val (.int p1), .val (.int p2), .val (.int p3), .val (.int p4), .val (.int p5), .val (.int n_), .val (.int x1), .val (.int x2), .val (.int x3), .val (.int x4), .val (.int x5), .val (.int x6), .val (.int x7), .val (.int x8), .val (.ref b9), .val (.long x372), .second, .unset] [(.long (x6.toInt64)), (.long x372)]))
        refine gob (fun _ k => XS.ladd X340.here hx rfl (hb hby at_167) rfl k) ?_
        show Go _ _ _ _ _ _ _ (T340.setTop (mkF m 168 #[.val (.int p0), .val (.int p1), .val (.int p2), .val (.int p3), .val (.int p4), .val (.int p5), .val (.int n_), .val (.int x1), .val (.int x2), .val (.int x3), .val (.int x4), .val (.int x5), .val (.int x6), .val (.int x7), .val (.int x8), .val (.ref b9), .val (.long x372), .second, .unset] [(.long (x372 + (x6.toInt64)))]))
        refine gob (fun _ k => XS.lstore X340.here hx rfl (hb hby at_168) rfl (l' := #[.val (.int p0), .val (.int p1), .val (.int p2), .val (.int p3), .val (.int p4), .val (.int p5), .val (.int n_), .val (.int x1), .val (.int x2), .val (.int x3), .val (.int x4), .val (.int x5), .val (.int x6), .val (.int x7), .val (.int x8), .val (.ref b9), .val (.long (x372 + (x6.toInt64))), .second, .unset]) rfl k) ?_
        show Go _ _ _ _ _ _ _ (T340.setTop (mkF m 170 #[.val (.int p0), .val (.int p1), .val (.int p2), .val (.int p3), .val (.int p4), .val (.int p5), .val (.int n_), .val (.int x1), .val (.int x2), .val (.int x3), .val (.int x4), .val (.int x5), .val (.int x6), .val (.int x7), .val (.int x8), .val (.ref b9), .val (.long (x372 + (x6.toInt64))), .second, .unset] []))
        generalize hx373 : (x372 + (x6.toInt64)) = x373
        show Go _ _ _ _ _ _ _ (T340.setTop (mkF m 170 #[.val (.int p0), .val (.int p1), .val (.int p2), .val (.int p3), .val (.int p4), .val (.int p5), .val (.int n_), .val (.int x1), .val (.int x2), .val (.int x3), .val (.int x4), .val (.int x5), .val (.int x6), .val (.int x7), .val (.int x8), .val (.ref b9), .val (.long x373), .second, .unset] []))
        refine gob (fun _ k => XS.iload X340.here hx rfl (hb hby at_170) rfl k) ?_
        show Go _ _ _ _ _ _ _ (T340.setTop (mkF m 172 #[.val (.int p0), .val (.int p1), .val (.int p2), .val (.int p3), .val (.int p4), .val (.int p5), .val (.int n_), .val (.int x1), .val (.int x2), .val (.int x3), .val (.int x4), .val (.int x5), .val (.int x6), .val (.int x7), .val (.int x8), .val (.ref b9), .val (.long x373), .second, .unset] [(.int n_)]))
        refine gob (fun _ k => XS.iconst X340.here hx rfl (hb hby at_172) k) ?_
        show Go _ _ _ _ _ _ _ (T340.setTop (mkF m 173 #[.val (.int p0), .val (.int p1), .val (.int p2), .val (.int p3), .val (.int p4), .val (.int p5), .val (.int n_), .val (.int x1), .val (.int x2), .val (.int x3), .val (.int x4), .val (.int x5), .val (.int x6), .val (.int x7), .val (.int x8), .val (.ref b9), .val (.long x373), .second, .unset] [(.int (3 : Int32)), (.int n_)]))
        refine gob (fun _ k => XS.icmpNo X340.here hx rfl (hb hby at_173) rfl (flt hc122_198).1 k) ?_
        show Go _ _ _ _ _ _ _ (T340.setTop (mkF m 176 #[.val (.int p0), .val (.int p1), .val (.int p2), .val (.int p3), .val (.int p4), .val (.int p5), .val (.int n_), .val (.int x1), .val (.int x2), .val (.int x3), .val (.int x4), .val (.int x5), .val (.int x6), .val (.int x7), .val (.int x8), .val (.ref b9), .val (.long x373), .second, .unset] []))
        refine gob (fun _ k => XS.lload X340.here hx rfl (hb hby at_176) rfl k) ?_
        show Go _ _ _ _ _ _ _ (T340.setTop (mkF m 178 #[.val (.int p0), .val (.int p1), .val (.int p2), .val (.int p3), .val (.int p4), .val (.int p5), .val (.int n_), .val (.int x1), .val (.int x2), .val (.int x3), .val (.int x4), .val (.int x5), .val (.int x6), .val (.int x7), .val (.int x8), .val (.ref b9), .val (.long x373), .second, .unset] [(.long x373)]))
        refine gob (fun _ k => XS.iload X340.here hx rfl (hb hby at_178) rfl k) ?_
        show Go _ _ _ _ _ _ _ (T340.setTop (mkF m 180 #[.val (.int p0), .val (.int p1), .val (.int p2), .val (.int p3), .val (.int p4), .val (.int p5), .val (.int n_), .val (.int x1), .val (.int x2), .val (.int x3), .val (.int x4), .val (.int x5), .val (.int x6), .val (.int x7), .val (.int x8), .val (.ref b9), .val (.long x373), .second, .unset] [(.int x7), (.long x373)]))
        refine gob (fun _ k => XS.i2l X340.here hx rfl (hb hby at_180) rfl k) ?_
        show Go _ _ _ _ _ _ _ (T340.setTop (mkF m 181 #[.val (.int p0), .val (.int p1), .val (.int p2), .val (.int p3), .val (.int p4), .val (.int p5), .val (.int n_), .val (.int x1), .val (.int x2), .val (.int x3), .val (.int x4), .val (.int x5), .val (.int x6), .val (.int x7), .val (.int x8), .val (.ref b9), .val (.long x373), .second, .unset] [(.long (x7.toInt64)), (.long x373)]))
        refine gob (fun _ k => XS.ladd X340.here hx rfl (hb hby at_181) rfl k) ?_
        show Go _ _ _ _ _ _ _ (T340.setTop (mkF m 182 #[.val (.int p0), .val (.int p1), .val (.int p2), .val (.int p3), .val (.int p4), .val (.int p5), .val (.int n_), .val (.int x1), .val (.int x2), .val (.int x3), .val (.int x4), .val (.int x5), .val (.int x6), .val (.int x7), .val (.int x8), .val (.ref b9), .val (.long x373), .second, .unset] [(.long (x373 + (x7.toInt64)))]))
        refine gob (fun _ k => XS.lstore X340.here hx rfl (hb hby at_182) rfl (l' := #[.val (.int p0), .val (.int p1), .val (.int p2), .val (.int p3), .val (.int p4), .val (.int p5), .val (.int n_), .val (.int x1), .val (.int x2), .val (.int x3), .val (.int x4), .val (.int x5), .val (.int x6), .val (.int x7), .val (.int x8), .val (.ref b9), .val (.long (x373 + (x7.toInt64))), .second, .unset]) rfl k) ?_
        show Go _ _ _ _ _ _ _ (T340.setTop (mkF m 184 #[.val (.int p0), .val (.int p1), .val (.int p2), .val (.int p3), .val (.int p4), .val (.int p5), .val (.int n_), .val (.int x1), .val (.int x2), .val (.int x3), .val (.int x4), .val (.int x5), .val (.int x6), .val (.int x7), .val (.int x8), .val (.ref b9), .val (.long (x373 + (x7.toInt64))), .second, .unset] []))
        generalize hx374 : (x373 + (x7.toInt64)) = x374
        show Go _ _ _ _ _ _ _ (T340.setTop (mkF m 184 #[.val (.int p0), .val (.int p1), .val (.int p2), .val (.int p3), .val (.int p4), .val (.int p5), .val (.int n_), .val (.int x1), .val (.int x2), .val (.int x3), .val (.int x4), .val (.int x5), .val (.int x6), .val (.int x7), .val (.int x8), .val (.ref b9), .val (.long x374), .second, .unset] []))
        refine gob (fun _ k => XS.aload X340.here hx rfl (hb hby at_184) rfl rfl k) ?_
        show Go _ _ _ _ _ _ _ (T340.setTop (mkF m 186 #[.val (.int p0), .val (.int p1), .val (.int p2), .val (.int p3), .val (.int p4), .val (.int p5), .val (.int n_), .val (.int x1), .val (.int x2), .val (.int x3), .val (.int x4), .val (.int x5), .val (.int x6), .val (.int x7), .val (.int x8), .val (.ref b9), .val (.long x374), .second, .unset] [(.ref b9)]))
        have c376 := (c341.keep K340)
        obtain ⟨cq375, kq375, q375a, q375b, q375c⟩ := isOf hZ (rfl : T340.heap = _) c376
        obtain ⟨_, _, ⟨T375, L375, k375, n375⟩, -, X375, ⟨Lc375, hQ375, l375, y375, z375⟩, st375⟩ := X340.virtualBack hx (y := (⟨"com/example/robust_broker/robustbroker/Postings", "size", "()I"⟩ : MethodName)) (z := (⟨"com/example/robust_broker/robustbroker/Postings", "size", "()I"⟩ : MethodName)) hown (mvT hZ (hw _ (List.mem_of_getElem? (i := 35) rfl))) (mvT hZ (hw _ (List.mem_of_getElem? (i := 36) rfl))) (notFace_of_selects (args := #[]) (mvT hZ (hw _ (List.mem_of_getElem? (i := 38) rfl)))) (mvT hZ (hw _ (List.mem_of_getElem? (i := 38) rfl))) (mvT hZ (hw _ (List.mem_of_getElem? (i := 37) rfl))) (by decide) (backOf (W := 0) (rm6 l Z a0 hw [] b9 (3 : Int32) T340.heap n0 z371 F351) hZ (hw _ (List.mem_of_getElem? (i := 39) rfl)) (hw _ (List.mem_of_getElem? (i := 4) rfl)) (by decide) (by decide)) q375a q375c (g := (mkF m 186 #[.val (.int p0), .val (.int p1), .val (.int p2), .val (.int p3), .val (.int p4), .val (.int p5), .val (.int n_), .val (.int x1), .val (.int x2), .val (.int x3), .val (.int x4), .val (.int x5), .val (.int x6), .val (.int x7), .val (.int x8), .val (.ref b9), .val (.long x374), .second, .unset] [(.ref b9)])) rfl (by rw [hml]; rfl) (Steps.refl _) (argsL := []) (rest := []) (lenOf pd_3 rfl) rfl (by show 2 * 0 + _ ≤ _; exact Nat.le_of_eq rfl) (hb hby at_186) (fun _ _ => ⟨rfl, (rfl : T340.heap = _), (by decide : 7 + 0 ≤ _), (by decide : 22 + 0 ≤ _)⟩)
        dsimp only [Pt.U, Pt.locs, Pt.cells, Pt.slots] at X375 l375 y375 z375 st375 hQ375
        subst l375 y375 z375
        obtain ⟨r375, rfl, hr375, Nq375, e375⟩ := hQ375
        have N375 := Fr.app N340 Nq375
        refine gob (fun _ k => st375.trans k) ?_
        show Go _ _ _ _ _ _ _ (T375.setTop (mkF m 189 #[.val (.int p0), .val (.int p1), .val (.int p2), .val (.int p3), .val (.int p4), .val (.int p5), .val (.int n_), .val (.int x1), .val (.int x2), .val (.int x3), .val (.int x4), .val (.int x5), .val (.int x6), .val (.int x7), .val (.int x8), .val (.ref b9), .val (.long x374), .second, .unset] [(.int r375)]))
        refine gob (fun _ k => XS.iload X375.here hx rfl (hb hby at_189) rfl k) ?_
        show Go _ _ _ _ _ _ _ (T375.setTop (mkF m 191 #[.val (.int p0), .val (.int p1), .val (.int p2), .val (.int p3), .val (.int p4), .val (.int p5), .val (.int n_), .val (.int x1), .val (.int x2), .val (.int x3), .val (.int x4), .val (.int x5), .val (.int x6), .val (.int x7), .val (.int x8), .val (.ref b9), .val (.long x374), .second, .unset] [(.int n_), (.int r375)]))
        have hd378 : r375 = n_ := ld_0_191_377 p0 n_ r375 hn_ hc92_33 hc107_80 hc122_198 hr375
        refine gob (fun _ k => XS.icmpNo X375.here hx rfl (hb hby at_191) rfl (teq hd378).2 k) ?_
        show Go _ _ _ _ _ _ _ (T375.setTop (mkF m 194 #[.val (.int p0), .val (.int p1), .val (.int p2), .val (.int p3), .val (.int p4), .val (.int p5), .val (.int n_), .val (.int x1), .val (.int x2), .val (.int x3), .val (.int x4), .val (.int x5), .val (.int x6), .val (.int x7), .val (.int x8), .val (.ref b9), .val (.long x374), .second, .unset] []))
        refine gob (fun _ k => XS.aload X375.here hx rfl (hb hby at_194) rfl rfl k) ?_
        show Go _ _ _ _ _ _ _ (T375.setTop (mkF m 196 #[.val (.int p0), .val (.int p1), .val (.int p2), .val (.int p3), .val (.int p4), .val (.int p5), .val (.int n_), .val (.int x1), .val (.int x2), .val (.int x3), .val (.int x4), .val (.int x5), .val (.int x6), .val (.int x7), .val (.int x8), .val (.ref b9), .val (.long x374), .second, .unset] [(.ref b9)]))
        obtain ⟨cq379, kq379, q379a, q379b, q379c⟩ := isOf hZ e375 c376
        obtain ⟨_, _, ⟨T379, L379, k379, n379⟩, -, X379, ⟨Lc379, hQ379, l379, y379, z379⟩, st379⟩ := X375.virtualBack hx (y := (⟨"com/example/robust_broker/robustbroker/Postings", "collectionFrequency", "()J"⟩ : MethodName)) (z := (⟨"com/example/robust_broker/robustbroker/Postings", "collectionFrequency", "()J"⟩ : MethodName)) hown (mvT hZ (hw _ (List.mem_of_getElem? (i := 40) rfl))) (mvT hZ (hw _ (List.mem_of_getElem? (i := 41) rfl))) (notFace_of_selects (args := #[]) (mvT hZ (hw _ (List.mem_of_getElem? (i := 43) rfl)))) (mvT hZ (hw _ (List.mem_of_getElem? (i := 43) rfl))) (mvT hZ (hw _ (List.mem_of_getElem? (i := 42) rfl))) (by decide) (backOf (W := 0) (rm7 l Z a0 hw [] b9 ((((0 : Int64) + (x5.toInt64)) + (x6.toInt64)) + (x7.toInt64)) T340.heap n0 z371 F352) hZ (hw _ (List.mem_of_getElem? (i := 44) rfl)) (hw _ (List.mem_of_getElem? (i := 4) rfl)) (by decide) (by decide)) q379a q379c (g := (mkF m 196 #[.val (.int p0), .val (.int p1), .val (.int p2), .val (.int p3), .val (.int p4), .val (.int p5), .val (.int n_), .val (.int x1), .val (.int x2), .val (.int x3), .val (.int x4), .val (.int x5), .val (.int x6), .val (.int x7), .val (.int x8), .val (.ref b9), .val (.long x374), .second, .unset] [(.ref b9)])) rfl (by rw [hml]; rfl) (Steps.refl _) (argsL := []) (rest := []) (lenOf pd_4 rfl) rfl (by show 2 * 0 + _ ≤ _; exact Nat.le_of_eq rfl) (hb hby at_196) (fun _ _ => ⟨rfl, e375, (by decide : 7 + 0 ≤ _), (by decide : 22 + 0 ≤ _)⟩)
        dsimp only [Pt.U, Pt.locs, Pt.cells, Pt.slots] at X379 l379 y379 z379 st379 hQ379
        subst l379 y379 z379
        obtain ⟨r379, rfl, hr379, Nq379, e379⟩ := hQ379
        have N379 := Fr.app N375 Nq379
        refine gob (fun _ k => st379.trans k) ?_
        show Go _ _ _ _ _ _ _ (T379.setTop (mkF m 199 #[.val (.int p0), .val (.int p1), .val (.int p2), .val (.int p3), .val (.int p4), .val (.int p5), .val (.int n_), .val (.int x1), .val (.int x2), .val (.int x3), .val (.int x4), .val (.int x5), .val (.int x6), .val (.int x7), .val (.int x8), .val (.ref b9), .val (.long x374), .second, .unset] [(.long r379)]))
        refine gob (fun _ k => XS.lload X379.here hx rfl (hb hby at_199) rfl k) ?_
        show Go _ _ _ _ _ _ _ (T379.setTop (mkF m 201 #[.val (.int p0), .val (.int p1), .val (.int p2), .val (.int p3), .val (.int p4), .val (.int p5), .val (.int n_), .val (.int x1), .val (.int x2), .val (.int x3), .val (.int x4), .val (.int x5), .val (.int x6), .val (.int x7), .val (.int x8), .val (.ref b9), .val (.long x374), .second, .unset] [(.long x374), (.long r379)]))
        refine gob (fun _ k => XS.lcmp X379.here hx rfl (hb hby at_201) rfl k) ?_
        show Go _ _ _ _ _ _ _ (T379.setTop (mkF m 202 #[.val (.int p0), .val (.int p1), .val (.int p2), .val (.int p3), .val (.int p4), .val (.int p5), .val (.int n_), .val (.int x1), .val (.int x2), .val (.int x3), .val (.int x4), .val (.int x5), .val (.int x6), .val (.int x7), .val (.int x8), .val (.ref b9), .val (.long x374), .second, .unset] [(.int (lcmpW r379 x374))]))
        have hd381 : r379 = x374 := ld_0_202_380 p4 p5 x5 x6 x7 x372 x373 x374 r379 hx5 hx6 hx7 hx372 hx373 hx374 hr379
        refine gob (fun _ k => XS.ifNo X379.here hx rfl (hb hby at_202) rfl ((if0 _ _).trans (teq ((lw_eq _ _).mpr hd381)).2) k) ?_
        show Go _ _ _ _ _ _ _ (T379.setTop (mkF m 205 #[.val (.int p0), .val (.int p1), .val (.int p2), .val (.int p3), .val (.int p4), .val (.int p5), .val (.int n_), .val (.int x1), .val (.int x2), .val (.int x3), .val (.int x4), .val (.int x5), .val (.int x6), .val (.int x7), .val (.int x8), .val (.ref b9), .val (.long x374), .second, .unset] []))
        refine gob (fun _ k => XS.iconst X379.here hx rfl (hb hby at_205) k) ?_
        show Go _ _ _ _ _ _ _ (T379.setTop (mkF m 206 #[.val (.int p0), .val (.int p1), .val (.int p2), .val (.int p3), .val (.int p4), .val (.int p5), .val (.int n_), .val (.int x1), .val (.int x2), .val (.int x3), .val (.int x4), .val (.int x5), .val (.int x6), .val (.int x7), .val (.int x8), .val (.ref b9), .val (.long x374), .second, .unset] [(.int (1 : Int32))]))
        refine gob (fun _ k => XS.goto X379.here hx rfl (pc0 := 206) (pc' := 210) rfl (hb hby at_206) (by decide) (by decide) k) ?_
        show Go _ _ _ _ _ _ _ (T379.setTop (mkF m 210 #[.val (.int p0), .val (.int p1), .val (.int p2), .val (.int p3), .val (.int p4), .val (.int p5), .val (.int n_), .val (.int x1), .val (.int x2), .val (.int x3), .val (.int x4), .val (.int x5), .val (.int x6), .val (.int x7), .val (.int x8), .val (.ref b9), .val (.long x374), .second, .unset] [(.int (1 : Int32))]))
        refine gob (fun _ k => XS.istore X379.here hx rfl (hb hby at_210) rfl (l' := #[.val (.int p0), .val (.int p1), .val (.int p2), .val (.int p3), .val (.int p4), .val (.int p5), .val (.int n_), .val (.int x1), .val (.int x2), .val (.int x3), .val (.int x4), .val (.int x5), .val (.int x6), .val (.int x7), .val (.int x8), .val (.ref b9), .val (.long x374), .second, .val (.int (1 : Int32))]) rfl k) ?_
        show Go _ _ _ _ _ _ _ (T379.setTop (mkF m 212 #[.val (.int p0), .val (.int p1), .val (.int p2), .val (.int p3), .val (.int p4), .val (.int p5), .val (.int n_), .val (.int x1), .val (.int x2), .val (.int x3), .val (.int x4), .val (.int x5), .val (.int x6), .val (.int x7), .val (.int x8), .val (.ref b9), .val (.long x374), .second, .val (.int (1 : Int32))] []))
        refine gob (fun _ k => XS.iload X379.here hx rfl (hb hby at_212) rfl k) ?_
        show Go _ _ _ _ _ _ _ (T379.setTop (mkF m 214 #[.val (.int p0), .val (.int p1), .val (.int p2), .val (.int p3), .val (.int p4), .val (.int p5), .val (.int n_), .val (.int x1), .val (.int x2), .val (.int x3), .val (.int x4), .val (.int x5), .val (.int x6), .val (.int x7), .val (.int x8), .val (.ref b9), .val (.long x374), .second, .val (.int (1 : Int32))] [(.int (1 : Int32))]))
        refine gob (fun _ k => XS.ifNo X379.here hx rfl (hb hby at_214) rfl ((if0 _ _).trans (feq (by decide : ¬ ((1 : Int32) = (0 : Int32)))).1) k) ?_
        show Go _ _ _ _ _ _ _ (T379.setTop (mkF m 217 #[.val (.int p0), .val (.int p1), .val (.int p2), .val (.int p3), .val (.int p4), .val (.int p5), .val (.int n_), .val (.int x1), .val (.int x2), .val (.int x3), .val (.int x4), .val (.int x5), .val (.int x6), .val (.int x7), .val (.int x8), .val (.ref b9), .val (.long x374), .second, .val (.int (1 : Int32))] []))
        refine gob (fun _ k => XS.iload X379.here hx rfl (hb hby at_217) rfl k) ?_
        show Go _ _ _ _ _ _ _ (T379.setTop (mkF m 219 #[.val (.int p0), .val (.int p1), .val (.int p2), .val (.int p3), .val (.int p4), .val (.int p5), .val (.int n_), .val (.int x1), .val (.int x2), .val (.int x3), .val (.int x4), .val (.int x5), .val (.int x6), .val (.int x7), .val (.int x8), .val (.ref b9), .val (.long x374), .second, .val (.int (1 : Int32))] [(.int n_)]))
        refine gob (fun _ k => XS.iconst X379.here hx rfl (hb hby at_219) k) ?_
        show Go _ _ _ _ _ _ _ (T379.setTop (mkF m 220 #[.val (.int p0), .val (.int p1), .val (.int p2), .val (.int p3), .val (.int p4), .val (.int p5), .val (.int n_), .val (.int x1), .val (.int x2), .val (.int x3), .val (.int x4), .val (.int x5), .val (.int x6), .val (.int x7), .val (.int x8), .val (.ref b9), .val (.long x374), .second, .val (.int (1 : Int32))] [(.int (1 : Int32)), (.int n_)]))
        refine gob (fun _ k => XS.icmpNo X379.here hx rfl (hb hby at_220) rfl (flt hc92_33).1 k) ?_
        show Go _ _ _ _ _ _ _ (T379.setTop (mkF m 223 #[.val (.int p0), .val (.int p1), .val (.int p2), .val (.int p3), .val (.int p4), .val (.int p5), .val (.int n_), .val (.int x1), .val (.int x2), .val (.int x3), .val (.int x4), .val (.int x5), .val (.int x6), .val (.int x7), .val (.int x8), .val (.ref b9), .val (.long x374), .second, .val (.int (1 : Int32))] []))
        refine gob (fun _ k => XS.aload X379.here hx rfl (hb hby at_223) rfl rfl k) ?_
        show Go _ _ _ _ _ _ _ (T379.setTop (mkF m 225 #[.val (.int p0), .val (.int p1), .val (.int p2), .val (.int p3), .val (.int p4), .val (.int p5), .val (.int n_), .val (.int x1), .val (.int x2), .val (.int x3), .val (.int x4), .val (.int x5), .val (.int x6), .val (.int x7), .val (.int x8), .val (.ref b9), .val (.long x374), .second, .val (.int (1 : Int32))] [(.ref b9)]))
        refine gob (fun _ k => XS.iconst X379.here hx rfl (hb hby at_225) k) ?_
        show Go _ _ _ _ _ _ _ (T379.setTop (mkF m 226 #[.val (.int p0), .val (.int p1), .val (.int p2), .val (.int p3), .val (.int p4), .val (.int p5), .val (.int n_), .val (.int x1), .val (.int x2), .val (.int x3), .val (.int x4), .val (.int x5), .val (.int x6), .val (.int x7), .val (.int x8), .val (.ref b9), .val (.long x374), .second, .val (.int (1 : Int32))] [(.int (0 : Int32)), (.ref b9)]))
        obtain ⟨cq382, kq382, q382a, q382b, q382c⟩ := isOf hZ e379 c376
        obtain ⟨_, _, ⟨T382, L382, k382, n382⟩, -, X382, ⟨Lc382, hQ382, l382, y382, z382⟩, st382⟩ := X379.virtualBack hx (y := (⟨"com/example/robust_broker/robustbroker/Postings", "document", "(I)I"⟩ : MethodName)) (z := (⟨"com/example/robust_broker/robustbroker/Postings", "document", "(I)I"⟩ : MethodName)) hown (mvT hZ (hw _ (List.mem_of_getElem? (i := 52) rfl))) (mvT hZ (hw _ (List.mem_of_getElem? (i := 53) rfl))) (notFace_of_selects (args := #[]) (mvT hZ (hw _ (List.mem_of_getElem? (i := 55) rfl)))) (mvT hZ (hw _ (List.mem_of_getElem? (i := 55) rfl))) (mvT hZ (hw _ (List.mem_of_getElem? (i := 54) rfl))) (by decide) (backOf (W := 0) (rmdoc_3_3 l Z a0 hw [] b9 (0 : Int32) b342 k344 x1 x2 x3 T340.heap n0 z371 F349 F354 F353 (la_0_226_383  ) (la_0_226_384  )) hZ (hw _ (List.mem_of_getElem? (i := 56) rfl)) (hw _ (List.mem_of_getElem? (i := 4) rfl)) (by decide) (by decide)) q382a q382c (g := (mkF m 226 #[.val (.int p0), .val (.int p1), .val (.int p2), .val (.int p3), .val (.int p4), .val (.int p5), .val (.int n_), .val (.int x1), .val (.int x2), .val (.int x3), .val (.int x4), .val (.int x5), .val (.int x6), .val (.int x7), .val (.int x8), .val (.ref b9), .val (.long x374), .second, .val (.int (1 : Int32))] [(.int (0 : Int32)), (.ref b9)])) rfl (by rw [hml]; rfl) (Steps.refl _) (argsL := [(.int (0 : Int32))]) (rest := []) (lenOf pd_6 rfl) rfl (by show 2 * 0 + _ ≤ _; exact Nat.le_of_eq rfl) (hb hby at_226) (fun _ _ => ⟨rfl, e379, (by decide : 7 + 0 ≤ _), (by decide : 22 + 0 ≤ _)⟩)
        dsimp only [Pt.U, Pt.locs, Pt.cells, Pt.slots] at X382 l382 y382 z382 st382 hQ382
        subst l382 y382 z382
        obtain ⟨r382, rfl, hr382, Nq382, e382⟩ := hQ382
        have N382 := Fr.app N379 Nq382
        refine gob (fun _ k => st382.trans k) ?_
        show Go _ _ _ _ _ _ _ (T382.setTop (mkF m 229 #[.val (.int p0), .val (.int p1), .val (.int p2), .val (.int p3), .val (.int p4), .val (.int p5), .val (.int n_), .val (.int x1), .val (.int x2), .val (.int x3), .val (.int x4), .val (.int x5), .val (.int x6), .val (.int x7), .val (.int x8), .val (.ref b9), .val (.long x374), .second, .val (.int (1 : Int32))] [(.int r382)]))
        refine gob (fun _ k => XS.iload X382.here hx rfl (hb hby at_229) rfl k) ?_
        show Go _ _ _ _ _ _ _ (T382.setTop (mkF m 231 #[.val (.int p0), .val (.int p1), .val (.int p2), .val (.int p3), .val (.int p4), .val (.int p5), .val (.int n_), .val (.int x1), .val (.int x2), .val (.int x3), .val (.int x4), .val (.int x5), .val (.int x6), .val (.int x7), .val (.int x8), .val (.ref b9), .val (.long x374), .second, .val (.int (1 : Int32))] [(.int x1), (.int r382)]))
        have hd386 : r382 = x1 := ld_0_231_385 p1 p2 p3 x1 x2 x3 r382 hx1 hx2 hx3 hr382
        refine gob (fun _ k => XS.icmpNo X382.here hx rfl (hb hby at_231) rfl (teq hd386).2 k) ?_
        show Go _ _ _ _ _ _ _ (T382.setTop (mkF m 234 #[.val (.int p0), .val (.int p1), .val (.int p2), .val (.int p3), .val (.int p4), .val (.int p5), .val (.int n_), .val (.int x1), .val (.int x2), .val (.int x3), .val (.int x4), .val (.int x5), .val (.int x6), .val (.int x7), .val (.int x8), .val (.ref b9), .val (.long x374), .second, .val (.int (1 : Int32))] []))
        refine gob (fun _ k => XS.aload X382.here hx rfl (hb hby at_234) rfl rfl k) ?_
        show Go _ _ _ _ _ _ _ (T382.setTop (mkF m 236 #[.val (.int p0), .val (.int p1), .val (.int p2), .val (.int p3), .val (.int p4), .val (.int p5), .val (.int n_), .val (.int x1), .val (.int x2), .val (.int x3), .val (.int x4), .val (.int x5), .val (.int x6), .val (.int x7), .val (.int x8), .val (.ref b9), .val (.long x374), .second, .val (.int (1 : Int32))] [(.ref b9)]))
        refine gob (fun _ k => XS.iconst X382.here hx rfl (hb hby at_236) k) ?_
        show Go _ _ _ _ _ _ _ (T382.setTop (mkF m 237 #[.val (.int p0), .val (.int p1), .val (.int p2), .val (.int p3), .val (.int p4), .val (.int p5), .val (.int n_), .val (.int x1), .val (.int x2), .val (.int x3), .val (.int x4), .val (.int x5), .val (.int x6), .val (.int x7), .val (.int x8), .val (.ref b9), .val (.long x374), .second, .val (.int (1 : Int32))] [(.int (0 : Int32)), (.ref b9)]))
        obtain ⟨cq387, kq387, q387a, q387b, q387c⟩ := isOf hZ e382 c376
        obtain ⟨_, _, ⟨T387, L387, k387, n387⟩, -, X387, ⟨Lc387, hQ387, l387, y387, z387⟩, st387⟩ := X382.virtualBack hx (y := (⟨"com/example/robust_broker/robustbroker/Postings", "frequency", "(I)I"⟩ : MethodName)) (z := (⟨"com/example/robust_broker/robustbroker/Postings", "frequency", "(I)I"⟩ : MethodName)) hown (mvT hZ (hw _ (List.mem_of_getElem? (i := 57) rfl))) (mvT hZ (hw _ (List.mem_of_getElem? (i := 58) rfl))) (notFace_of_selects (args := #[]) (mvT hZ (hw _ (List.mem_of_getElem? (i := 60) rfl)))) (mvT hZ (hw _ (List.mem_of_getElem? (i := 60) rfl))) (mvT hZ (hw _ (List.mem_of_getElem? (i := 59) rfl))) (by decide) (backOf (W := 0) (rmfre_3_3 l Z a0 hw [] b9 (0 : Int32) b343 k345 x5 x6 x7 T340.heap n0 z371 F350 F356 F355 (la_0_237_388  ) (la_0_237_389  )) hZ (hw _ (List.mem_of_getElem? (i := 61) rfl)) (hw _ (List.mem_of_getElem? (i := 4) rfl)) (by decide) (by decide)) q387a q387c (g := (mkF m 237 #[.val (.int p0), .val (.int p1), .val (.int p2), .val (.int p3), .val (.int p4), .val (.int p5), .val (.int n_), .val (.int x1), .val (.int x2), .val (.int x3), .val (.int x4), .val (.int x5), .val (.int x6), .val (.int x7), .val (.int x8), .val (.ref b9), .val (.long x374), .second, .val (.int (1 : Int32))] [(.int (0 : Int32)), (.ref b9)])) rfl (by rw [hml]; rfl) (Steps.refl _) (argsL := [(.int (0 : Int32))]) (rest := []) (lenOf pd_6 rfl) rfl (by show 2 * 0 + _ ≤ _; exact Nat.le_of_eq rfl) (hb hby at_237) (fun _ _ => ⟨rfl, e382, (by decide : 7 + 0 ≤ _), (by decide : 22 + 0 ≤ _)⟩)
        dsimp only [Pt.U, Pt.locs, Pt.cells, Pt.slots] at X387 l387 y387 z387 st387 hQ387
        subst l387 y387 z387
        obtain ⟨r387, rfl, hr387, Nq387, e387⟩ := hQ387
        have N387 := Fr.app N382 Nq387
        refine gob (fun _ k => st387.trans k) ?_
        show Go _ _ _ _ _ _ _ (T387.setTop (mkF m 240 #[.val (.int p0), .val (.int p1), .val (.int p2), .val (.int p3), .val (.int p4), .val (.int p5), .val (.int n_), .val (.int x1), .val (.int x2), .val (.int x3), .val (.int x4), .val (.int x5), .val (.int x6), .val (.int x7), .val (.int x8), .val (.ref b9), .val (.long x374), .second, .val (.int (1 : Int32))] [(.int r387)]))
        refine gob (fun _ k => XS.iload X387.here hx rfl (hb hby at_240) rfl k) ?_
        show Go _ _ _ _ _ _ _ (T387.setTop (mkF m 242 #[.val (.int p0), .val (.int p1), .val (.int p2), .val (.int p3), .val (.int p4), .val (.int p5), .val (.int n_), .val (.int x1), .val (.int x2), .val (.int x3), .val (.int x4), .val (.int x5), .val (.int x6), .val (.int x7), .val (.int x8), .val (.ref b9), .val (.long x374), .second, .val (.int (1 : Int32))] [(.int x5), (.int r387)]))
        have hd391 : r387 = x5 := ld_0_242_390 p4 p5 x5 x6 x7 r387 hx5 hx6 hx7 hr387
        refine gob (fun _ k => XS.icmpNo X387.here hx rfl (hb hby at_242) rfl (teq hd391).2 k) ?_
        show Go _ _ _ _ _ _ _ (T387.setTop (mkF m 245 #[.val (.int p0), .val (.int p1), .val (.int p2), .val (.int p3), .val (.int p4), .val (.int p5), .val (.int n_), .val (.int x1), .val (.int x2), .val (.int x3), .val (.int x4), .val (.int x5), .val (.int x6), .val (.int x7), .val (.int x8), .val (.ref b9), .val (.long x374), .second, .val (.int (1 : Int32))] []))
        refine gob (fun _ k => XS.iconst X387.here hx rfl (hb hby at_245) k) ?_
        show Go _ _ _ _ _ _ _ (T387.setTop (mkF m 246 #[.val (.int p0), .val (.int p1), .val (.int p2), .val (.int p3), .val (.int p4), .val (.int p5), .val (.int n_), .val (.int x1), .val (.int x2), .val (.int x3), .val (.int x4), .val (.int x5), .val (.int x6), .val (.int x7), .val (.int x8), .val (.ref b9), .val (.long x374), .second, .val (.int (1 : Int32))] [(.int (1 : Int32))]))
        refine gob (fun _ k => XS.goto X387.here hx rfl (pc0 := 246) (pc' := 250) rfl (hb hby at_246) (by decide) (by decide) k) ?_
        show Go _ _ _ _ _ _ _ (T387.setTop (mkF m 250 #[.val (.int p0), .val (.int p1), .val (.int p2), .val (.int p3), .val (.int p4), .val (.int p5), .val (.int n_), .val (.int x1), .val (.int x2), .val (.int x3), .val (.int x4), .val (.int x5), .val (.int x6), .val (.int x7), .val (.int x8), .val (.ref b9), .val (.long x374), .second, .val (.int (1 : Int32))] [(.int (1 : Int32))]))
        refine gob (fun _ k => XS.istore X387.here hx rfl (hb hby at_250) rfl (l' := #[.val (.int p0), .val (.int p1), .val (.int p2), .val (.int p3), .val (.int p4), .val (.int p5), .val (.int n_), .val (.int x1), .val (.int x2), .val (.int x3), .val (.int x4), .val (.int x5), .val (.int x6), .val (.int x7), .val (.int x8), .val (.ref b9), .val (.long x374), .second, .val (.int (1 : Int32))]) rfl k) ?_
        show Go _ _ _ _ _ _ _ (T387.setTop (mkF m 252 #[.val (.int p0), .val (.int p1), .val (.int p2), .val (.int p3), .val (.int p4), .val (.int p5), .val (.int n_), .val (.int x1), .val (.int x2), .val (.int x3), .val (.int x4), .val (.int x5), .val (.int x6), .val (.int x7), .val (.int x8), .val (.ref b9), .val (.long x374), .second, .val (.int (1 : Int32))] []))
        refine gob (fun _ k => XS.iload X387.here hx rfl (hb hby at_252) rfl k) ?_
        show Go _ _ _ _ _ _ _ (T387.setTop (mkF m 254 #[.val (.int p0), .val (.int p1), .val (.int p2), .val (.int p3), .val (.int p4), .val (.int p5), .val (.int n_), .val (.int x1), .val (.int x2), .val (.int x3), .val (.int x4), .val (.int x5), .val (.int x6), .val (.int x7), .val (.int x8), .val (.ref b9), .val (.long x374), .second, .val (.int (1 : Int32))] [(.int (1 : Int32))]))
        refine gob (fun _ k => XS.ifNo X387.here hx rfl (hb hby at_254) rfl ((if0 _ _).trans (feq (by decide : ¬ ((1 : Int32) = (0 : Int32)))).1) k) ?_
        show Go _ _ _ _ _ _ _ (T387.setTop (mkF m 257 #[.val (.int p0), .val (.int p1), .val (.int p2), .val (.int p3), .val (.int p4), .val (.int p5), .val (.int n_), .val (.int x1), .val (.int x2), .val (.int x3), .val (.int x4), .val (.int x5), .val (.int x6), .val (.int x7), .val (.int x8), .val (.ref b9), .val (.long x374), .second, .val (.int (1 : Int32))] []))
        refine gob (fun _ k => XS.iload X387.here hx rfl (hb hby at_257) rfl k) ?_
        show Go _ _ _ _ _ _ _ (T387.setTop (mkF m 259 #[.val (.int p0), .val (.int p1), .val (.int p2), .val (.int p3), .val (.int p4), .val (.int p5), .val (.int n_), .val (.int x1), .val (.int x2), .val (.int x3), .val (.int x4), .val (.int x5), .val (.int x6), .val (.int x7), .val (.int x8), .val (.ref b9), .val (.long x374), .second, .val (.int (1 : Int32))] [(.int n_)]))
        refine gob (fun _ k => XS.iconst X387.here hx rfl (hb hby at_259) k) ?_
        show Go _ _ _ _ _ _ _ (T387.setTop (mkF m 260 #[.val (.int p0), .val (.int p1), .val (.int p2), .val (.int p3), .val (.int p4), .val (.int p5), .val (.int n_), .val (.int x1), .val (.int x2), .val (.int x3), .val (.int x4), .val (.int x5), .val (.int x6), .val (.int x7), .val (.int x8), .val (.ref b9), .val (.long x374), .second, .val (.int (1 : Int32))] [(.int (2 : Int32)), (.int n_)]))
        refine gob (fun _ k => XS.icmpNo X387.here hx rfl (hb hby at_260) rfl (flt hc107_80).1 k) ?_
        show Go _ _ _ _ _ _ _ (T387.setTop (mkF m 263 #[.val (.int p0), .val (.int p1), .val (.int p2), .val (.int p3), .val (.int p4), .val (.int p5), .val (.int n_), .val (.int x1), .val (.int x2), .val (.int x3), .val (.int x4), .val (.int x5), .val (.int x6), .val (.int x7), .val (.int x8), .val (.ref b9), .val (.long x374), .second, .val (.int (1 : Int32))] []))
        refine gob (fun _ k => XS.aload X387.here hx rfl (hb hby at_263) rfl rfl k) ?_
        show Go _ _ _ _ _ _ _ (T387.setTop (mkF m 265 #[.val (.int p0), .val (.int p1), .val (.int p2), .val (.int p3), .val (.int p4), .val (.int p5), .val (.int n_), .val (.int x1), .val (.int x2), .val (.int x3), .val (.int x4), .val (.int x5), .val (.int x6), .val (.int x7), .val (.int x8), .val (.ref b9), .val (.long x374), .second, .val (.int (1 : Int32))] [(.ref b9)]))
        refine gob (fun _ k => XS.iconst X387.here hx rfl (hb hby at_265) k) ?_
        show Go _ _ _ _ _ _ _ (T387.setTop (mkF m 266 #[.val (.int p0), .val (.int p1), .val (.int p2), .val (.int p3), .val (.int p4), .val (.int p5), .val (.int n_), .val (.int x1), .val (.int x2), .val (.int x3), .val (.int x4), .val (.int x5), .val (.int x6), .val (.int x7), .val (.int x8), .val (.ref b9), .val (.long x374), .second, .val (.int (1 : Int32))] [(.int (1 : Int32)), (.ref b9)]))
        obtain ⟨cq392, kq392, q392a, q392b, q392c⟩ := isOf hZ e387 c376
        obtain ⟨_, _, ⟨T392, L392, k392, n392⟩, -, X392, ⟨Lc392, hQ392, l392, y392, z392⟩, st392⟩ := X387.virtualBack hx (y := (⟨"com/example/robust_broker/robustbroker/Postings", "document", "(I)I"⟩ : MethodName)) (z := (⟨"com/example/robust_broker/robustbroker/Postings", "document", "(I)I"⟩ : MethodName)) hown (mvT hZ (hw _ (List.mem_of_getElem? (i := 52) rfl))) (mvT hZ (hw _ (List.mem_of_getElem? (i := 53) rfl))) (notFace_of_selects (args := #[]) (mvT hZ (hw _ (List.mem_of_getElem? (i := 55) rfl)))) (mvT hZ (hw _ (List.mem_of_getElem? (i := 55) rfl))) (mvT hZ (hw _ (List.mem_of_getElem? (i := 54) rfl))) (by decide) (backOf (W := 0) (rmdoc_3_3 l Z a0 hw [] b9 (1 : Int32) b342 k344 x1 x2 x3 T340.heap n0 z371 F349 F354 F353 (la_0_266_393  ) (la_0_266_394  )) hZ (hw _ (List.mem_of_getElem? (i := 56) rfl)) (hw _ (List.mem_of_getElem? (i := 4) rfl)) (by decide) (by decide)) q392a q392c (g := (mkF m 266 #[.val (.int p0), .val (.int p1), .val (.int p2), .val (.int p3), .val (.int p4), .val (.int p5), .val (.int n_), .val (.int x1), .val (.int x2), .val (.int x3), .val (.int x4), .val (.int x5), .val (.int x6), .val (.int x7), .val (.int x8), .val (.ref b9), .val (.long x374), .second, .val (.int (1 : Int32))] [(.int (1 : Int32)), (.ref b9)])) rfl (by rw [hml]; rfl) (Steps.refl _) (argsL := [(.int (1 : Int32))]) (rest := []) (lenOf pd_6 rfl) rfl (by show 2 * 0 + _ ≤ _; exact Nat.le_of_eq rfl) (hb hby at_266) (fun _ _ => ⟨rfl, e387, (by decide : 7 + 0 ≤ _), (by decide : 22 + 0 ≤ _)⟩)
        dsimp only [Pt.U, Pt.locs, Pt.cells, Pt.slots] at X392 l392 y392 z392 st392 hQ392
        subst l392 y392 z392
        obtain ⟨r392, rfl, hr392, Nq392, e392⟩ := hQ392
        have N392 := Fr.app N387 Nq392
        refine gob (fun _ k => st392.trans k) ?_
        show Go _ _ _ _ _ _ _ (T392.setTop (mkF m 269 #[.val (.int p0), .val (.int p1), .val (.int p2), .val (.int p3), .val (.int p4), .val (.int p5), .val (.int n_), .val (.int x1), .val (.int x2), .val (.int x3), .val (.int x4), .val (.int x5), .val (.int x6), .val (.int x7), .val (.int x8), .val (.ref b9), .val (.long x374), .second, .val (.int (1 : Int32))] [(.int r392)]))
        refine gob (fun _ k => XS.iload X392.here hx rfl (hb hby at_269) rfl k) ?_
        show Go _ _ _ _ _ _ _ (T392.setTop (mkF m 271 #[.val (.int p0), .val (.int p1), .val (.int p2), .val (.int p3), .val (.int p4), .val (.int p5), .val (.int n_), .val (.int x1), .val (.int x2), .val (.int x3), .val (.int x4), .val (.int x5), .val (.int x6), .val (.int x7), .val (.int x8), .val (.ref b9), .val (.long x374), .second, .val (.int (1 : Int32))] [(.int x2), (.int r392)]))
        have hd396 : r392 = x2 := ld_0_271_395 p1 p2 p3 x1 x2 x3 r392 hx1 hx2 hx3 hr392
        refine gob (fun _ k => XS.icmpNo X392.here hx rfl (hb hby at_271) rfl (teq hd396).2 k) ?_
        show Go _ _ _ _ _ _ _ (T392.setTop (mkF m 274 #[.val (.int p0), .val (.int p1), .val (.int p2), .val (.int p3), .val (.int p4), .val (.int p5), .val (.int n_), .val (.int x1), .val (.int x2), .val (.int x3), .val (.int x4), .val (.int x5), .val (.int x6), .val (.int x7), .val (.int x8), .val (.ref b9), .val (.long x374), .second, .val (.int (1 : Int32))] []))
        refine gob (fun _ k => XS.aload X392.here hx rfl (hb hby at_274) rfl rfl k) ?_
        show Go _ _ _ _ _ _ _ (T392.setTop (mkF m 276 #[.val (.int p0), .val (.int p1), .val (.int p2), .val (.int p3), .val (.int p4), .val (.int p5), .val (.int n_), .val (.int x1), .val (.int x2), .val (.int x3), .val (.int x4), .val (.int x5), .val (.int x6), .val (.int x7), .val (.int x8), .val (.ref b9), .val (.long x374), .second, .val (.int (1 : Int32))] [(.ref b9)]))
        refine gob (fun _ k => XS.iconst X392.here hx rfl (hb hby at_276) k) ?_
        show Go _ _ _ _ _ _ _ (T392.setTop (mkF m 277 #[.val (.int p0), .val (.int p1), .val (.int p2), .val (.int p3), .val (.int p4), .val (.int p5), .val (.int n_), .val (.int x1), .val (.int x2), .val (.int x3), .val (.int x4), .val (.int x5), .val (.int x6), .val (.int x7), .val (.int x8), .val (.ref b9), .val (.long x374), .second, .val (.int (1 : Int32))] [(.int (1 : Int32)), (.ref b9)]))
        obtain ⟨cq397, kq397, q397a, q397b, q397c⟩ := isOf hZ e392 c376
        obtain ⟨_, _, ⟨T397, L397, k397, n397⟩, -, X397, ⟨Lc397, hQ397, l397, y397, z397⟩, st397⟩ := X392.virtualBack hx (y := (⟨"com/example/robust_broker/robustbroker/Postings", "frequency", "(I)I"⟩ : MethodName)) (z := (⟨"com/example/robust_broker/robustbroker/Postings", "frequency", "(I)I"⟩ : MethodName)) hown (mvT hZ (hw _ (List.mem_of_getElem? (i := 57) rfl))) (mvT hZ (hw _ (List.mem_of_getElem? (i := 58) rfl))) (notFace_of_selects (args := #[]) (mvT hZ (hw _ (List.mem_of_getElem? (i := 60) rfl)))) (mvT hZ (hw _ (List.mem_of_getElem? (i := 60) rfl))) (mvT hZ (hw _ (List.mem_of_getElem? (i := 59) rfl))) (by decide) (backOf (W := 0) (rmfre_3_3 l Z a0 hw [] b9 (1 : Int32) b343 k345 x5 x6 x7 T340.heap n0 z371 F350 F356 F355 (la_0_277_398  ) (la_0_277_399  )) hZ (hw _ (List.mem_of_getElem? (i := 61) rfl)) (hw _ (List.mem_of_getElem? (i := 4) rfl)) (by decide) (by decide)) q397a q397c (g := (mkF m 277 #[.val (.int p0), .val (.int p1), .val (.int p2), .val (.int p3), .val (.int p4), .val (.int p5), .val (.int n_), .val (.int x1), .val (.int x2), .val (.int x3), .val (.int x4), .val (.int x5), .val (.int x6), .val (.int x7), .val (.int x8), .val (.ref b9), .val (.long x374), .second, .val (.int (1 : Int32))] [(.int (1 : Int32)), (.ref b9)])) rfl (by rw [hml]; rfl) (Steps.refl _) (argsL := [(.int (1 : Int32))]) (rest := []) (lenOf pd_6 rfl) rfl (by show 2 * 0 + _ ≤ _; exact Nat.le_of_eq rfl) (hb hby at_277) (fun _ _ => ⟨rfl, e392, (by decide : 7 + 0 ≤ _), (by decide : 22 + 0 ≤ _)⟩)
        dsimp only [Pt.U, Pt.locs, Pt.cells, Pt.slots] at X397 l397 y397 z397 st397 hQ397
        subst l397 y397 z397
        obtain ⟨r397, rfl, hr397, Nq397, e397⟩ := hQ397
        have N397 := Fr.app N392 Nq397
        refine gob (fun _ k => st397.trans k) ?_
        show Go _ _ _ _ _ _ _ (T397.setTop (mkF m 280 #[.val (.int p0), .val (.int p1), .val (.int p2), .val (.int p3), .val (.int p4), .val (.int p5), .val (.int n_), .val (.int x1), .val (.int x2), .val (.int x3), .val (.int x4), .val (.int x5), .val (.int x6), .val (.int x7), .val (.int x8), .val (.ref b9), .val (.long x374), .second, .val (.int (1 : Int32))] [(.int r397)]))
        refine gob (fun _ k => XS.iload X397.here hx rfl (hb hby at_280) rfl k) ?_
        show Go _ _ _ _ _ _ _ (T397.setTop (mkF m 282 #[.val (.int p0), .val (.int p1), .val (.int p2), .val (.int p3), .val (.int p4), .val (.int p5), .val (.int n_), .val (.int x1), .val (.int x2), .val (.int x3), .val (.int x4), .val (.int x5), .val (.int x6), .val (.int x7), .val (.int x8), .val (.ref b9), .val (.long x374), .second, .val (.int (1 : Int32))] [(.int x6), (.int r397)]))
        have hd401 : r397 = x6 := ld_0_282_400 p4 p5 x5 x6 x7 r397 hx5 hx6 hx7 hr397
        refine gob (fun _ k => XS.icmpNo X397.here hx rfl (hb hby at_282) rfl (teq hd401).2 k) ?_
        show Go _ _ _ _ _ _ _ (T397.setTop (mkF m 285 #[.val (.int p0), .val (.int p1), .val (.int p2), .val (.int p3), .val (.int p4), .val (.int p5), .val (.int n_), .val (.int x1), .val (.int x2), .val (.int x3), .val (.int x4), .val (.int x5), .val (.int x6), .val (.int x7), .val (.int x8), .val (.ref b9), .val (.long x374), .second, .val (.int (1 : Int32))] []))
        refine gob (fun _ k => XS.iconst X397.here hx rfl (hb hby at_285) k) ?_
        show Go _ _ _ _ _ _ _ (T397.setTop (mkF m 286 #[.val (.int p0), .val (.int p1), .val (.int p2), .val (.int p3), .val (.int p4), .val (.int p5), .val (.int n_), .val (.int x1), .val (.int x2), .val (.int x3), .val (.int x4), .val (.int x5), .val (.int x6), .val (.int x7), .val (.int x8), .val (.ref b9), .val (.long x374), .second, .val (.int (1 : Int32))] [(.int (1 : Int32))]))
        refine gob (fun _ k => XS.goto X397.here hx rfl (pc0 := 286) (pc' := 290) rfl (hb hby at_286) (by decide) (by decide) k) ?_
        show Go _ _ _ _ _ _ _ (T397.setTop (mkF m 290 #[.val (.int p0), .val (.int p1), .val (.int p2), .val (.int p3), .val (.int p4), .val (.int p5), .val (.int n_), .val (.int x1), .val (.int x2), .val (.int x3), .val (.int x4), .val (.int x5), .val (.int x6), .val (.int x7), .val (.int x8), .val (.ref b9), .val (.long x374), .second, .val (.int (1 : Int32))] [(.int (1 : Int32))]))
        refine gob (fun _ k => XS.istore X397.here hx rfl (hb hby at_290) rfl (l' := #[.val (.int p0), .val (.int p1), .val (.int p2), .val (.int p3), .val (.int p4), .val (.int p5), .val (.int n_), .val (.int x1), .val (.int x2), .val (.int x3), .val (.int x4), .val (.int x5), .val (.int x6), .val (.int x7), .val (.int x8), .val (.ref b9), .val (.long x374), .second, .val (.int (1 : Int32))]) rfl k) ?_
        show Go _ _ _ _ _ _ _ (T397.setTop (mkF m 292 #[.val (.int p0), .val (.int p1), .val (.int p2), .val (.int p3), .val (.int p4), .val (.int p5), .val (.int n_), .val (.int x1), .val (.int x2), .val (.int x3), .val (.int x4), .val (.int x5), .val (.int x6), .val (.int x7), .val (.int x8), .val (.ref b9), .val (.long x374), .second, .val (.int (1 : Int32))] []))
        refine gob (fun _ k => XS.iload X397.here hx rfl (hb hby at_292) rfl k) ?_
        show Go _ _ _ _ _ _ _ (T397.setTop (mkF m 294 #[.val (.int p0), .val (.int p1), .val (.int p2), .val (.int p3), .val (.int p4), .val (.int p5), .val (.int n_), .val (.int x1), .val (.int x2), .val (.int x3), .val (.int x4), .val (.int x5), .val (.int x6), .val (.int x7), .val (.int x8), .val (.ref b9), .val (.long x374), .second, .val (.int (1 : Int32))] [(.int (1 : Int32))]))
        refine gob (fun _ k => XS.ifNo X397.here hx rfl (hb hby at_294) rfl ((if0 _ _).trans (feq (by decide : ¬ ((1 : Int32) = (0 : Int32)))).1) k) ?_
        show Go _ _ _ _ _ _ _ (T397.setTop (mkF m 297 #[.val (.int p0), .val (.int p1), .val (.int p2), .val (.int p3), .val (.int p4), .val (.int p5), .val (.int n_), .val (.int x1), .val (.int x2), .val (.int x3), .val (.int x4), .val (.int x5), .val (.int x6), .val (.int x7), .val (.int x8), .val (.ref b9), .val (.long x374), .second, .val (.int (1 : Int32))] []))
        refine gob (fun _ k => XS.iload X397.here hx rfl (hb hby at_297) rfl k) ?_
        show Go _ _ _ _ _ _ _ (T397.setTop (mkF m 299 #[.val (.int p0), .val (.int p1), .val (.int p2), .val (.int p3), .val (.int p4), .val (.int p5), .val (.int n_), .val (.int x1), .val (.int x2), .val (.int x3), .val (.int x4), .val (.int x5), .val (.int x6), .val (.int x7), .val (.int x8), .val (.ref b9), .val (.long x374), .second, .val (.int (1 : Int32))] [(.int n_)]))
        refine gob (fun _ k => XS.iconst X397.here hx rfl (hb hby at_299) k) ?_
        show Go _ _ _ _ _ _ _ (T397.setTop (mkF m 300 #[.val (.int p0), .val (.int p1), .val (.int p2), .val (.int p3), .val (.int p4), .val (.int p5), .val (.int n_), .val (.int x1), .val (.int x2), .val (.int x3), .val (.int x4), .val (.int x5), .val (.int x6), .val (.int x7), .val (.int x8), .val (.ref b9), .val (.long x374), .second, .val (.int (1 : Int32))] [(.int (3 : Int32)), (.int n_)]))
        refine gob (fun _ k => XS.icmpNo X397.here hx rfl (hb hby at_300) rfl (flt hc122_198).1 k) ?_
        show Go _ _ _ _ _ _ _ (T397.setTop (mkF m 303 #[.val (.int p0), .val (.int p1), .val (.int p2), .val (.int p3), .val (.int p4), .val (.int p5), .val (.int n_), .val (.int x1), .val (.int x2), .val (.int x3), .val (.int x4), .val (.int x5), .val (.int x6), .val (.int x7), .val (.int x8), .val (.ref b9), .val (.long x374), .second, .val (.int (1 : Int32))] []))
        refine gob (fun _ k => XS.aload X397.here hx rfl (hb hby at_303) rfl rfl k) ?_
        show Go _ _ _ _ _ _ _ (T397.setTop (mkF m 305 #[.val (.int p0), .val (.int p1), .val (.int p2), .val (.int p3), .val (.int p4), .val (.int p5), .val (.int n_), .val (.int x1), .val (.int x2), .val (.int x3), .val (.int x4), .val (.int x5), .val (.int x6), .val (.int x7), .val (.int x8), .val (.ref b9), .val (.long x374), .second, .val (.int (1 : Int32))] [(.ref b9)]))
        refine gob (fun _ k => XS.iconst X397.here hx rfl (hb hby at_305) k) ?_
        show Go _ _ _ _ _ _ _ (T397.setTop (mkF m 306 #[.val (.int p0), .val (.int p1), .val (.int p2), .val (.int p3), .val (.int p4), .val (.int p5), .val (.int n_), .val (.int x1), .val (.int x2), .val (.int x3), .val (.int x4), .val (.int x5), .val (.int x6), .val (.int x7), .val (.int x8), .val (.ref b9), .val (.long x374), .second, .val (.int (1 : Int32))] [(.int (2 : Int32)), (.ref b9)]))
        obtain ⟨cq402, kq402, q402a, q402b, q402c⟩ := isOf hZ e397 c376
        obtain ⟨_, _, ⟨T402, L402, k402, n402⟩, -, X402, ⟨Lc402, hQ402, l402, y402, z402⟩, st402⟩ := X397.virtualBack hx (y := (⟨"com/example/robust_broker/robustbroker/Postings", "document", "(I)I"⟩ : MethodName)) (z := (⟨"com/example/robust_broker/robustbroker/Postings", "document", "(I)I"⟩ : MethodName)) hown (mvT hZ (hw _ (List.mem_of_getElem? (i := 52) rfl))) (mvT hZ (hw _ (List.mem_of_getElem? (i := 53) rfl))) (notFace_of_selects (args := #[]) (mvT hZ (hw _ (List.mem_of_getElem? (i := 55) rfl)))) (mvT hZ (hw _ (List.mem_of_getElem? (i := 55) rfl))) (mvT hZ (hw _ (List.mem_of_getElem? (i := 54) rfl))) (by decide) (backOf (W := 0) (rmdoc_3_3 l Z a0 hw [] b9 (2 : Int32) b342 k344 x1 x2 x3 T340.heap n0 z371 F349 F354 F353 (la_0_306_403  ) (la_0_306_404  )) hZ (hw _ (List.mem_of_getElem? (i := 56) rfl)) (hw _ (List.mem_of_getElem? (i := 4) rfl)) (by decide) (by decide)) q402a q402c (g := (mkF m 306 #[.val (.int p0), .val (.int p1), .val (.int p2), .val (.int p3), .val (.int p4), .val (.int p5), .val (.int n_), .val (.int x1), .val (.int x2), .val (.int x3), .val (.int x4), .val (.int x5), .val (.int x6), .val (.int x7), .val (.int x8), .val (.ref b9), .val (.long x374), .second, .val (.int (1 : Int32))] [(.int (2 : Int32)), (.ref b9)])) rfl (by rw [hml]; rfl) (Steps.refl _) (argsL := [(.int (2 : Int32))]) (rest := []) (lenOf pd_6 rfl) rfl (by show 2 * 0 + _ ≤ _; exact Nat.le_of_eq rfl) (hb hby at_306) (fun _ _ => ⟨rfl, e397, (by decide : 7 + 0 ≤ _), (by decide : 22 + 0 ≤ _)⟩)
        dsimp only [Pt.U, Pt.locs, Pt.cells, Pt.slots] at X402 l402 y402 z402 st402 hQ402
        subst l402 y402 z402
        obtain ⟨r402, rfl, hr402, Nq402, e402⟩ := hQ402
        have N402 := Fr.app N397 Nq402
        refine gob (fun _ k => st402.trans k) ?_
        show Go _ _ _ _ _ _ _ (T402.setTop (mkF m 309 #[.val (.int p0), .val (.int p1), .val (.int p2), .val (.int p3), .val (.int p4), .val (.int p5), .val (.int n_), .val (.int x1), .val (.int x2), .val (.int x3), .val (.int x4), .val (.int x5), .val (.int x6), .val (.int x7), .val (.int x8), .val (.ref b9), .val (.long x374), .second, .val (.int (1 : Int32))] [(.int r402)]))
        refine gob (fun _ k => XS.iload X402.here hx rfl (hb hby at_309) rfl k) ?_
        show Go _ _ _ _ _ _ _ (T402.setTop (mkF m 311 #[.val (.int p0), .val (.int p1), .val (.int p2), .val (.int p3), .val (.int p4), .val (.int p5), .val (.int n_), .val (.int x1), .val (.int x2), .val (.int x3), .val (.int x4), .val (.int x5), .val (.int x6), .val (.int x7), .val (.int x8), .val (.ref b9), .val (.long x374), .second, .val (.int (1 : Int32))] [(.int x3), (.int r402)]))
        have hd406 : r402 = x3 := ld_0_311_405 p1 p2 p3 x1 x2 x3 r402 hx1 hx2 hx3 hr402
        refine gob (fun _ k => XS.icmpNo X402.here hx rfl (hb hby at_311) rfl (teq hd406).2 k) ?_
        show Go _ _ _ _ _ _ _ (T402.setTop (mkF m 314 #[.val (.int p0), .val (.int p1), .val (.int p2), .val (.int p3), .val (.int p4), .val (.int p5), .val (.int n_), .val (.int x1), .val (.int x2), .val (.int x3), .val (.int x4), .val (.int x5), .val (.int x6), .val (.int x7), .val (.int x8), .val (.ref b9), .val (.long x374), .second, .val (.int (1 : Int32))] []))
        refine gob (fun _ k => XS.aload X402.here hx rfl (hb hby at_314) rfl rfl k) ?_
        show Go _ _ _ _ _ _ _ (T402.setTop (mkF m 316 #[.val (.int p0), .val (.int p1), .val (.int p2), .val (.int p3), .val (.int p4), .val (.int p5), .val (.int n_), .val (.int x1), .val (.int x2), .val (.int x3), .val (.int x4), .val (.int x5), .val (.int x6), .val (.int x7), .val (.int x8), .val (.ref b9), .val (.long x374), .second, .val (.int (1 : Int32))] [(.ref b9)]))
        refine gob (fun _ k => XS.iconst X402.here hx rfl (hb hby at_316) k) ?_
        show Go _ _ _ _ _ _ _ (T402.setTop (mkF m 317 #[.val (.int p0), .val (.int p1), .val (.int p2), .val (.int p3), .val (.int p4), .val (.int p5), .val (.int n_), .val (.int x1), .val (.int x2), .val (.int x3), .val (.int x4), .val (.int x5), .val (.int x6), .val (.int x7), .val (.int x8), .val (.ref b9), .val (.long x374), .second, .val (.int (1 : Int32))] [(.int (2 : Int32)), (.ref b9)]))
        obtain ⟨cq407, kq407, q407a, q407b, q407c⟩ := isOf hZ e402 c376
        obtain ⟨_, _, ⟨T407, L407, k407, n407⟩, -, X407, ⟨Lc407, hQ407, l407, y407, z407⟩, st407⟩ := X402.virtualBack hx (y := (⟨"com/example/robust_broker/robustbroker/Postings", "frequency", "(I)I"⟩ : MethodName)) (z := (⟨"com/example/robust_broker/robustbroker/Postings", "frequency", "(I)I"⟩ : MethodName)) hown (mvT hZ (hw _ (List.mem_of_getElem? (i := 57) rfl))) (mvT hZ (hw _ (List.mem_of_getElem? (i := 58) rfl))) (notFace_of_selects (args := #[]) (mvT hZ (hw _ (List.mem_of_getElem? (i := 60) rfl)))) (mvT hZ (hw _ (List.mem_of_getElem? (i := 60) rfl))) (mvT hZ (hw _ (List.mem_of_getElem? (i := 59) rfl))) (by decide) (backOf (W := 0) (rmfre_3_3 l Z a0 hw [] b9 (2 : Int32) b343 k345 x5 x6 x7 T340.heap n0 z371 F350 F356 F355 (la_0_317_408  ) (la_0_317_409  )) hZ (hw _ (List.mem_of_getElem? (i := 61) rfl)) (hw _ (List.mem_of_getElem? (i := 4) rfl)) (by decide) (by decide)) q407a q407c (g := (mkF m 317 #[.val (.int p0), .val (.int p1), .val (.int p2), .val (.int p3), .val (.int p4), .val (.int p5), .val (.int n_), .val (.int x1), .val (.int x2), .val (.int x3), .val (.int x4), .val (.int x5), .val (.int x6), .val (.int x7), .val (.int x8), .val (.ref b9), .val (.long x374), .second, .val (.int (1 : Int32))] [(.int (2 : Int32)), (.ref b9)])) rfl (by rw [hml]; rfl) (Steps.refl _) (argsL := [(.int (2 : Int32))]) (rest := []) (lenOf pd_6 rfl) rfl (by show 2 * 0 + _ ≤ _; exact Nat.le_of_eq rfl) (hb hby at_317) (fun _ _ => ⟨rfl, e402, (by decide : 7 + 0 ≤ _), (by decide : 22 + 0 ≤ _)⟩)
        dsimp only [Pt.U, Pt.locs, Pt.cells, Pt.slots] at X407 l407 y407 z407 st407 hQ407
        subst l407 y407 z407
        obtain ⟨r407, rfl, hr407, Nq407, e407⟩ := hQ407
        have N407 := Fr.app N402 Nq407
        refine gob (fun _ k => st407.trans k) ?_
        show Go _ _ _ _ _ _ _ (T407.setTop (mkF m 320 #[.val (.int p0), .val (.int p1), .val (.int p2), .val (.int p3), .val (.int p4), .val (.int p5), .val (.int n_), .val (.int x1), .val (.int x2), .val (.int x3), .val (.int x4), .val (.int x5), .val (.int x6), .val (.int x7), .val (.int x8), .val (.ref b9), .val (.long x374), .second, .val (.int (1 : Int32))] [(.int r407)]))
        refine gob (fun _ k => XS.iload X407.here hx rfl (hb hby at_320) rfl k) ?_
        show Go _ _ _ _ _ _ _ (T407.setTop (mkF m 322 #[.val (.int p0), .val (.int p1), .val (.int p2), .val (.int p3), .val (.int p4), .val (.int p5), .val (.int n_), .val (.int x1), .val (.int x2), .val (.int x3), .val (.int x4), .val (.int x5), .val (.int x6), .val (.int x7), .val (.int x8), .val (.ref b9), .val (.long x374), .second, .val (.int (1 : Int32))] [(.int x7), (.int r407)]))
        have hd411 : r407 = x7 := ld_0_322_410 p4 p5 x5 x6 x7 r407 hx5 hx6 hx7 hr407
        refine gob (fun _ k => XS.icmpNo X407.here hx rfl (hb hby at_322) rfl (teq hd411).2 k) ?_
        show Go _ _ _ _ _ _ _ (T407.setTop (mkF m 325 #[.val (.int p0), .val (.int p1), .val (.int p2), .val (.int p3), .val (.int p4), .val (.int p5), .val (.int n_), .val (.int x1), .val (.int x2), .val (.int x3), .val (.int x4), .val (.int x5), .val (.int x6), .val (.int x7), .val (.int x8), .val (.ref b9), .val (.long x374), .second, .val (.int (1 : Int32))] []))
        refine gob (fun _ k => XS.iconst X407.here hx rfl (hb hby at_325) k) ?_
        show Go _ _ _ _ _ _ _ (T407.setTop (mkF m 326 #[.val (.int p0), .val (.int p1), .val (.int p2), .val (.int p3), .val (.int p4), .val (.int p5), .val (.int n_), .val (.int x1), .val (.int x2), .val (.int x3), .val (.int x4), .val (.int x5), .val (.int x6), .val (.int x7), .val (.int x8), .val (.ref b9), .val (.long x374), .second, .val (.int (1 : Int32))] [(.int (1 : Int32))]))
        refine gob (fun _ k => XS.goto X407.here hx rfl (pc0 := 326) (pc' := 330) rfl (hb hby at_326) (by decide) (by decide) k) ?_
        show Go _ _ _ _ _ _ _ (T407.setTop (mkF m 330 #[.val (.int p0), .val (.int p1), .val (.int p2), .val (.int p3), .val (.int p4), .val (.int p5), .val (.int n_), .val (.int x1), .val (.int x2), .val (.int x3), .val (.int x4), .val (.int x5), .val (.int x6), .val (.int x7), .val (.int x8), .val (.ref b9), .val (.long x374), .second, .val (.int (1 : Int32))] [(.int (1 : Int32))]))
        refine gob (fun _ k => XS.istore X407.here hx rfl (hb hby at_330) rfl (l' := #[.val (.int p0), .val (.int p1), .val (.int p2), .val (.int p3), .val (.int p4), .val (.int p5), .val (.int n_), .val (.int x1), .val (.int x2), .val (.int x3), .val (.int x4), .val (.int x5), .val (.int x6), .val (.int x7), .val (.int x8), .val (.ref b9), .val (.long x374), .second, .val (.int (1 : Int32))]) rfl k) ?_
        show Go _ _ _ _ _ _ _ (T407.setTop (mkF m 332 #[.val (.int p0), .val (.int p1), .val (.int p2), .val (.int p3), .val (.int p4), .val (.int p5), .val (.int n_), .val (.int x1), .val (.int x2), .val (.int x3), .val (.int x4), .val (.int x5), .val (.int x6), .val (.int x7), .val (.int x8), .val (.ref b9), .val (.long x374), .second, .val (.int (1 : Int32))] []))
        refine gob (fun _ k => XS.iload X407.here hx rfl (hb hby at_332) rfl k) ?_
        show Go _ _ _ _ _ _ _ (T407.setTop (mkF m 334 #[.val (.int p0), .val (.int p1), .val (.int p2), .val (.int p3), .val (.int p4), .val (.int p5), .val (.int n_), .val (.int x1), .val (.int x2), .val (.int x3), .val (.int x4), .val (.int x5), .val (.int x6), .val (.int x7), .val (.int x8), .val (.ref b9), .val (.long x374), .second, .val (.int (1 : Int32))] [(.int (1 : Int32))]))
        refine gob (fun _ k => XS.ifNo X407.here hx rfl (hb hby at_334) rfl ((if0 _ _).trans (feq (by decide : ¬ ((1 : Int32) = (0 : Int32)))).1) k) ?_
        show Go _ _ _ _ _ _ _ (T407.setTop (mkF m 337 #[.val (.int p0), .val (.int p1), .val (.int p2), .val (.int p3), .val (.int p4), .val (.int p5), .val (.int n_), .val (.int x1), .val (.int x2), .val (.int x3), .val (.int x4), .val (.int x5), .val (.int x6), .val (.int x7), .val (.int x8), .val (.ref b9), .val (.long x374), .second, .val (.int (1 : Int32))] []))
        refine gob (fun _ k => XS.iload X407.here hx rfl (hb hby at_337) rfl k) ?_
        show Go _ _ _ _ _ _ _ (T407.setTop (mkF m 339 #[.val (.int p0), .val (.int p1), .val (.int p2), .val (.int p3), .val (.int p4), .val (.int p5), .val (.int n_), .val (.int x1), .val (.int x2), .val (.int x3), .val (.int x4), .val (.int x5), .val (.int x6), .val (.int x7), .val (.int x8), .val (.ref b9), .val (.long x374), .second, .val (.int (1 : Int32))] [(.int n_)]))
        refine gob (fun _ k => XS.iconst X407.here hx rfl (hb hby at_339) k) ?_
        show Go _ _ _ _ _ _ _ (T407.setTop (mkF m 340 #[.val (.int p0), .val (.int p1), .val (.int p2), .val (.int p3), .val (.int p4), .val (.int p5), .val (.int n_), .val (.int x1), .val (.int x2), .val (.int x3), .val (.int x4), .val (.int x5), .val (.int x6), .val (.int x7), .val (.int x8), .val (.ref b9), .val (.long x374), .second, .val (.int (1 : Int32))] [(.int (1 : Int32)), (.int n_)]))
        refine gob (fun _ k => XS.icmpNo X407.here hx rfl (hb hby at_340) rfl (flt hc92_33).1 k) ?_
        show Go _ _ _ _ _ _ _ (T407.setTop (mkF m 343 #[.val (.int p0), .val (.int p1), .val (.int p2), .val (.int p3), .val (.int p4), .val (.int p5), .val (.int n_), .val (.int x1), .val (.int x2), .val (.int x3), .val (.int x4), .val (.int x5), .val (.int x6), .val (.int x7), .val (.int x8), .val (.ref b9), .val (.long x374), .second, .val (.int (1 : Int32))] []))
        refine gob (fun _ k => XS.aload X407.here hx rfl (hb hby at_343) rfl rfl k) ?_
        show Go _ _ _ _ _ _ _ (T407.setTop (mkF m 345 #[.val (.int p0), .val (.int p1), .val (.int p2), .val (.int p3), .val (.int p4), .val (.int p5), .val (.int n_), .val (.int x1), .val (.int x2), .val (.int x3), .val (.int x4), .val (.int x5), .val (.int x6), .val (.int x7), .val (.int x8), .val (.ref b9), .val (.long x374), .second, .val (.int (1 : Int32))] [(.ref b9)]))
        refine gob (fun _ k => XS.iload X407.here hx rfl (hb hby at_345) rfl k) ?_
        show Go _ _ _ _ _ _ _ (T407.setTop (mkF m 347 #[.val (.int p0), .val (.int p1), .val (.int p2), .val (.int p3), .val (.int p4), .val (.int p5), .val (.int n_), .val (.int x1), .val (.int x2), .val (.int x3), .val (.int x4), .val (.int x5), .val (.int x6), .val (.int x7), .val (.int x8), .val (.ref b9), .val (.long x374), .second, .val (.int (1 : Int32))] [(.int x4), (.ref b9)]))
        refine gob (fun _ k => XS.iload X407.here hx rfl (hb hby at_347) rfl k) ?_
        show Go _ _ _ _ _ _ _ (T407.setTop (mkF m 349 #[.val (.int p0), .val (.int p1), .val (.int p2), .val (.int p3), .val (.int p4), .val (.int p5), .val (.int n_), .val (.int x1), .val (.int x2), .val (.int x3), .val (.int x4), .val (.int x5), .val (.int x6), .val (.int x7), .val (.int x8), .val (.ref b9), .val (.long x374), .second, .val (.int (1 : Int32))] [(.int x8), (.int x4), (.ref b9)]))
        obtain ⟨cq412, kq412, q412a, q412b, q412c⟩ := isOf hZ e407 c376
        obtain ⟨_, _, ⟨T412, L412, k412, n412⟩, -, X412, ⟨Lc412, hQ412, l412, y412, z412⟩, st412⟩ := X407.virtualBack hx (y := (⟨"com/example/robust_broker/robustbroker/Postings", "add", "(II)V"⟩ : MethodName)) (z := (⟨"com/example/robust_broker/robustbroker/Postings", "add", "(II)V"⟩ : MethodName)) hown (mvT hZ (hw _ (List.mem_of_getElem? (i := 47) rfl))) (mvT hZ (hw _ (List.mem_of_getElem? (i := 48) rfl))) (notFace_of_selects (args := #[]) (mvT hZ (hw _ (List.mem_of_getElem? (i := 50) rfl)))) (mvT hZ (hw _ (List.mem_of_getElem? (i := 50) rfl))) (mvT hZ (hw _ (List.mem_of_getElem? (i := 49) rfl))) (by decide) (backOf (W := 0) (rmadd_3_3 l Z a0 hw [] b9 x4 x8 b342 k344 x1 x2 x3 b343 k345 x5 x6 x7 ((((0 : Int64) + (x5.toInt64)) + (x6.toInt64)) + (x7.toInt64)) T340.heap n0 z371 F349 F354 F353 F350 F356 F355 F351 F352 n357 n365 hn348 c376 g10) hZ (hw _ (List.mem_of_getElem? (i := 51) rfl)) (hw _ (List.mem_of_getElem? (i := 4) rfl)) (by decide) (by decide)) q412a q412c (g := (mkF m 349 #[.val (.int p0), .val (.int p1), .val (.int p2), .val (.int p3), .val (.int p4), .val (.int p5), .val (.int n_), .val (.int x1), .val (.int x2), .val (.int x3), .val (.int x4), .val (.int x5), .val (.int x6), .val (.int x7), .val (.int x8), .val (.ref b9), .val (.long x374), .second, .val (.int (1 : Int32))] [(.int x8), (.int x4), (.ref b9)])) rfl (by rw [hml]; rfl) (Steps.refl _) (argsL := [(.int x4), (.int x8)]) (rest := []) (lenOf pd_5 rfl) rfl (by show 2 * 0 + _ ≤ _; exact Nat.le_of_eq rfl) (hb hby at_349) (fun _ _ => ⟨rfl, e407, (by decide : 7 + 2 ≤ _), (by decide : 22 + 12 ≤ _)⟩)
        dsimp only [Pt.U, Pt.locs, Pt.cells, Pt.slots] at X412 l412 y412 z412 st412 hQ412
        subst l412 y412 z412
        obtain ⟨b413, b414, k415, k416, rfl, Nq412, K412, hz417, hz418, hn419, F420, F421, F422, F423, F424, F425, F426, F427⟩ := hQ412
        have N412 := Fr.app N407 Nq412
        have n428 : b9 ≠ b413 := Nat.ne_of_lt (Nat.lt_of_lt_of_le c376.lt hz417)
        have c430 := (c359.keep K340)
        have n429 : b13 ≠ b413 := Nat.ne_of_lt (Nat.lt_of_lt_of_le c430.lt hz417)
        have c432 := (c361.keep K340)
        have n431 : b14 ≠ b413 := Nat.ne_of_lt (Nat.lt_of_lt_of_le c432.lt hz417)
        have c434 := (F327.keep K340)
        have n433 : b316 ≠ b413 := Nat.ne_of_lt (Nat.lt_of_lt_of_le c434.lt hz417)
        have c436 := (F329.keep K340)
        have n435 : b317 ≠ b413 := Nat.ne_of_lt (Nat.lt_of_lt_of_le c436.lt hz417)
        have n437 : b342 ≠ b413 := Nat.ne_of_lt (Nat.lt_of_lt_of_le F353.lt hz417)
        have n438 : b343 ≠ b413 := Nat.ne_of_lt (Nat.lt_of_lt_of_le F355.lt hz417)
        have g439 : n0 ≤ b413 := Nat.le_trans z371 hz417
        have n440 : b9 ≠ b414 := Nat.ne_of_lt (Nat.lt_of_lt_of_le c376.lt hz418)
        have n441 : b13 ≠ b414 := Nat.ne_of_lt (Nat.lt_of_lt_of_le c430.lt hz418)
        have n442 : b14 ≠ b414 := Nat.ne_of_lt (Nat.lt_of_lt_of_le c432.lt hz418)
        have n443 : b316 ≠ b414 := Nat.ne_of_lt (Nat.lt_of_lt_of_le c434.lt hz418)
        have n444 : b317 ≠ b414 := Nat.ne_of_lt (Nat.lt_of_lt_of_le c436.lt hz418)
        have n445 : b342 ≠ b414 := Nat.ne_of_lt (Nat.lt_of_lt_of_le F353.lt hz418)
        have n446 : b343 ≠ b414 := Nat.ne_of_lt (Nat.lt_of_lt_of_le F355.lt hz418)
        have g447 : n0 ≤ b414 := Nat.le_trans z371 hz418
        have z448 : n0 ≤ T412.heap.size := Nat.le_trans z371 K412.1
        refine gob (fun _ k => st412.trans k) ?_
        show Go _ _ _ _ _ _ _ (T412.setTop (mkF m 352 #[.val (.int p0), .val (.int p1), .val (.int p2), .val (.int p3), .val (.int p4), .val (.int p5), .val (.int n_), .val (.int x1), .val (.int x2), .val (.int x3), .val (.int x4), .val (.int x5), .val (.int x6), .val (.int x7), .val (.int x8), .val (.ref b9), .val (.long x374), .second, .val (.int (1 : Int32))] []))
        refine gob (fun _ k => XS.aload X412.here hx rfl (hb hby at_352) rfl rfl k) ?_
        show Go _ _ _ _ _ _ _ (T412.setTop (mkF m 354 #[.val (.int p0), .val (.int p1), .val (.int p2), .val (.int p3), .val (.int p4), .val (.int p5), .val (.int n_), .val (.int x1), .val (.int x2), .val (.int x3), .val (.int x4), .val (.int x5), .val (.int x6), .val (.int x7), .val (.int x8), .val (.ref b9), .val (.long x374), .second, .val (.int (1 : Int32))] [(.ref b9)]))
        have c450 := (c376.keep K412)
        obtain ⟨cq449, kq449, q449a, q449b, q449c⟩ := isOf hZ (rfl : T412.heap = _) c450
        obtain ⟨_, _, ⟨T449, L449, k449, n449⟩, -, X449, ⟨Lc449, hQ449, l449, y449, z449⟩, st449⟩ := X412.virtualBack hx (y := (⟨"com/example/robust_broker/robustbroker/Postings", "size", "()I"⟩ : MethodName)) (z := (⟨"com/example/robust_broker/robustbroker/Postings", "size", "()I"⟩ : MethodName)) hown (mvT hZ (hw _ (List.mem_of_getElem? (i := 35) rfl))) (mvT hZ (hw _ (List.mem_of_getElem? (i := 36) rfl))) (notFace_of_selects (args := #[]) (mvT hZ (hw _ (List.mem_of_getElem? (i := 38) rfl)))) (mvT hZ (hw _ (List.mem_of_getElem? (i := 38) rfl))) (mvT hZ (hw _ (List.mem_of_getElem? (i := 37) rfl))) (by decide) (backOf (W := 0) (rm6 l Z a0 hw [] b9 (4 : Int32) T412.heap n0 z448 F422) hZ (hw _ (List.mem_of_getElem? (i := 39) rfl)) (hw _ (List.mem_of_getElem? (i := 4) rfl)) (by decide) (by decide)) q449a q449c (g := (mkF m 354 #[.val (.int p0), .val (.int p1), .val (.int p2), .val (.int p3), .val (.int p4), .val (.int p5), .val (.int n_), .val (.int x1), .val (.int x2), .val (.int x3), .val (.int x4), .val (.int x5), .val (.int x6), .val (.int x7), .val (.int x8), .val (.ref b9), .val (.long x374), .second, .val (.int (1 : Int32))] [(.ref b9)])) rfl (by rw [hml]; rfl) (Steps.refl _) (argsL := []) (rest := []) (lenOf pd_3 rfl) rfl (by show 2 * 0 + _ ≤ _; exact Nat.le_of_eq rfl) (hb hby at_354) (fun _ _ => ⟨rfl, (rfl : T412.heap = _), (by decide : 9 + 0 ≤ _), (by decide : 34 + 0 ≤ _)⟩)
        dsimp only [Pt.U, Pt.locs, Pt.cells, Pt.slots] at X449 l449 y449 z449 st449 hQ449
        subst l449 y449 z449
        obtain ⟨r449, rfl, hr449, Nq449, e449⟩ := hQ449
        have N449 := Fr.app N412 Nq449
        refine gob (fun _ k => st449.trans k) ?_
        show Go _ _ _ _ _ _ _ (T449.setTop (mkF m 357 #[.val (.int p0), .val (.int p1), .val (.int p2), .val (.int p3), .val (.int p4), .val (.int p5), .val (.int n_), .val (.int x1), .val (.int x2), .val (.int x3), .val (.int x4), .val (.int x5), .val (.int x6), .val (.int x7), .val (.int x8), .val (.ref b9), .val (.long x374), .second, .val (.int (1 : Int32))] [(.int r449)]))
        refine gob (fun _ k => XS.iload X449.here hx rfl (hb hby at_357) rfl k) ?_
        show Go _ _ _ _ _ _ _ (T449.setTop (mkF m 359 #[.val (.int p0), .val (.int p1), .val (.int p2), .val (.int p3), .val (.int p4), .val (.int p5), .val (.int n_), .val (.int x1), .val (.int x2), .val (.int x3), .val (.int x4), .val (.int x5), .val (.int x6), .val (.int x7), .val (.int x8), .val (.ref b9), .val (.long x374), .second, .val (.int (1 : Int32))] [(.int n_), (.int r449)]))
        refine gob (fun _ k => XS.iconst X449.here hx rfl (hb hby at_359) k) ?_
        show Go _ _ _ _ _ _ _ (T449.setTop (mkF m 360 #[.val (.int p0), .val (.int p1), .val (.int p2), .val (.int p3), .val (.int p4), .val (.int p5), .val (.int n_), .val (.int x1), .val (.int x2), .val (.int x3), .val (.int x4), .val (.int x5), .val (.int x6), .val (.int x7), .val (.int x8), .val (.ref b9), .val (.long x374), .second, .val (.int (1 : Int32))] [(.int (1 : Int32)), (.int n_), (.int r449)]))
        refine gob (fun _ k => XS.iadd X449.here hx rfl (hb hby at_360) rfl k) ?_
        show Go _ _ _ _ _ _ _ (T449.setTop (mkF m 361 #[.val (.int p0), .val (.int p1), .val (.int p2), .val (.int p3), .val (.int p4), .val (.int p5), .val (.int n_), .val (.int x1), .val (.int x2), .val (.int x3), .val (.int x4), .val (.int x5), .val (.int x6), .val (.int x7), .val (.int x8), .val (.ref b9), .val (.long x374), .second, .val (.int (1 : Int32))] [(.int (n_ + (1 : Int32))), (.int r449)]))
        have hd452 : r449 = (n_ + (1 : Int32)) := ld_0_361_451 p0 n_ r449 hn_ hc92_33 hc107_80 hc122_198 hr449
        refine gob (fun _ k => XS.icmpNo X449.here hx rfl (hb hby at_361) rfl (teq hd452).2 k) ?_
        show Go _ _ _ _ _ _ _ (T449.setTop (mkF m 364 #[.val (.int p0), .val (.int p1), .val (.int p2), .val (.int p3), .val (.int p4), .val (.int p5), .val (.int n_), .val (.int x1), .val (.int x2), .val (.int x3), .val (.int x4), .val (.int x5), .val (.int x6), .val (.int x7), .val (.int x8), .val (.ref b9), .val (.long x374), .second, .val (.int (1 : Int32))] []))
        refine gob (fun _ k => XS.aload X449.here hx rfl (hb hby at_364) rfl rfl k) ?_
        show Go _ _ _ _ _ _ _ (T449.setTop (mkF m 366 #[.val (.int p0), .val (.int p1), .val (.int p2), .val (.int p3), .val (.int p4), .val (.int p5), .val (.int n_), .val (.int x1), .val (.int x2), .val (.int x3), .val (.int x4), .val (.int x5), .val (.int x6), .val (.int x7), .val (.int x8), .val (.ref b9), .val (.long x374), .second, .val (.int (1 : Int32))] [(.ref b9)]))
        refine gob (fun _ k => XS.iload X449.here hx rfl (hb hby at_366) rfl k) ?_
        show Go _ _ _ _ _ _ _ (T449.setTop (mkF m 368 #[.val (.int p0), .val (.int p1), .val (.int p2), .val (.int p3), .val (.int p4), .val (.int p5), .val (.int n_), .val (.int x1), .val (.int x2), .val (.int x3), .val (.int x4), .val (.int x5), .val (.int x6), .val (.int x7), .val (.int x8), .val (.ref b9), .val (.long x374), .second, .val (.int (1 : Int32))] [(.int n_), (.ref b9)]))
        obtain ⟨cq453, kq453, q453a, q453b, q453c⟩ := isOf hZ e449 c450
        obtain ⟨_, _, ⟨T453, L453, k453, n453⟩, -, X453, ⟨Lc453, hQ453, l453, y453, z453⟩, st453⟩ := X449.virtualBack hx (y := (⟨"com/example/robust_broker/robustbroker/Postings", "document", "(I)I"⟩ : MethodName)) (z := (⟨"com/example/robust_broker/robustbroker/Postings", "document", "(I)I"⟩ : MethodName)) hown (mvT hZ (hw _ (List.mem_of_getElem? (i := 52) rfl))) (mvT hZ (hw _ (List.mem_of_getElem? (i := 53) rfl))) (notFace_of_selects (args := #[]) (mvT hZ (hw _ (List.mem_of_getElem? (i := 55) rfl)))) (mvT hZ (hw _ (List.mem_of_getElem? (i := 55) rfl))) (mvT hZ (hw _ (List.mem_of_getElem? (i := 54) rfl))) (by decide) (backOf (W := 0) (rmdoc_6_4 l Z a0 hw [] b9 n_ b413 k415 x1 x2 x3 x4 T412.heap n0 z448 F420 F425 F424 (la_0_368_454 p0 n_ hn_ hc92_33 hc107_80 hc122_198) (la_0_368_455 p0 n_ hn_ hc92_33 hc107_80 hc122_198)) hZ (hw _ (List.mem_of_getElem? (i := 56) rfl)) (hw _ (List.mem_of_getElem? (i := 4) rfl)) (by decide) (by decide)) q453a q453c (g := (mkF m 368 #[.val (.int p0), .val (.int p1), .val (.int p2), .val (.int p3), .val (.int p4), .val (.int p5), .val (.int n_), .val (.int x1), .val (.int x2), .val (.int x3), .val (.int x4), .val (.int x5), .val (.int x6), .val (.int x7), .val (.int x8), .val (.ref b9), .val (.long x374), .second, .val (.int (1 : Int32))] [(.int n_), (.ref b9)])) rfl (by rw [hml]; rfl) (Steps.refl _) (argsL := [(.int n_)]) (rest := []) (lenOf pd_6 rfl) rfl (by show 2 * 0 + _ ≤ _; exact Nat.le_of_eq rfl) (hb hby at_368) (fun _ _ => ⟨rfl, e449, (by decide : 9 + 0 ≤ _), (by decide : 34 + 0 ≤ _)⟩)
        dsimp only [Pt.U, Pt.locs, Pt.cells, Pt.slots] at X453 l453 y453 z453 st453 hQ453
        subst l453 y453 z453
        obtain ⟨r453, rfl, hr453, Nq453, e453⟩ := hQ453
        have N453 := Fr.app N449 Nq453
        refine gob (fun _ k => st453.trans k) ?_
        show Go _ _ _ _ _ _ _ (T453.setTop (mkF m 371 #[.val (.int p0), .val (.int p1), .val (.int p2), .val (.int p3), .val (.int p4), .val (.int p5), .val (.int n_), .val (.int x1), .val (.int x2), .val (.int x3), .val (.int x4), .val (.int x5), .val (.int x6), .val (.int x7), .val (.int x8), .val (.ref b9), .val (.long x374), .second, .val (.int (1 : Int32))] [(.int r453)]))
        refine gob (fun _ k => XS.iload X453.here hx rfl (hb hby at_371) rfl k) ?_
        show Go _ _ _ _ _ _ _ (T453.setTop (mkF m 373 #[.val (.int p0), .val (.int p1), .val (.int p2), .val (.int p3), .val (.int p4), .val (.int p5), .val (.int n_), .val (.int x1), .val (.int x2), .val (.int x3), .val (.int x4), .val (.int x5), .val (.int x6), .val (.int x7), .val (.int x8), .val (.ref b9), .val (.long x374), .second, .val (.int (1 : Int32))] [(.int x4), (.int r453)]))
        have hd457 : r453 = x4 := ld_0_373_456 p0 p1 p2 p3 n_ x1 x2 x3 x4 r453 hn_ hx1 hx2 hx3 hx4 hc92_33 hc107_80 hc122_198 hr453
        refine gob (fun _ k => XS.icmpNo X453.here hx rfl (hb hby at_373) rfl (teq hd457).2 k) ?_
        show Go _ _ _ _ _ _ _ (T453.setTop (mkF m 376 #[.val (.int p0), .val (.int p1), .val (.int p2), .val (.int p3), .val (.int p4), .val (.int p5), .val (.int n_), .val (.int x1), .val (.int x2), .val (.int x3), .val (.int x4), .val (.int x5), .val (.int x6), .val (.int x7), .val (.int x8), .val (.ref b9), .val (.long x374), .second, .val (.int (1 : Int32))] []))
        refine gob (fun _ k => XS.aload X453.here hx rfl (hb hby at_376) rfl rfl k) ?_
        show Go _ _ _ _ _ _ _ (T453.setTop (mkF m 378 #[.val (.int p0), .val (.int p1), .val (.int p2), .val (.int p3), .val (.int p4), .val (.int p5), .val (.int n_), .val (.int x1), .val (.int x2), .val (.int x3), .val (.int x4), .val (.int x5), .val (.int x6), .val (.int x7), .val (.int x8), .val (.ref b9), .val (.long x374), .second, .val (.int (1 : Int32))] [(.ref b9)]))
        refine gob (fun _ k => XS.iload X453.here hx rfl (hb hby at_378) rfl k) ?_
        show Go _ _ _ _ _ _ _ (T453.setTop (mkF m 380 #[.val (.int p0), .val (.int p1), .val (.int p2), .val (.int p3), .val (.int p4), .val (.int p5), .val (.int n_), .val (.int x1), .val (.int x2), .val (.int x3), .val (.int x4), .val (.int x5), .val (.int x6), .val (.int x7), .val (.int x8), .val (.ref b9), .val (.long x374), .second, .val (.int (1 : Int32))] [(.int n_), (.ref b9)]))
        obtain ⟨cq458, kq458, q458a, q458b, q458c⟩ := isOf hZ e453 c450
        obtain ⟨_, _, ⟨T458, L458, k458, n458⟩, -, X458, ⟨Lc458, hQ458, l458, y458, z458⟩, st458⟩ := X453.virtualBack hx (y := (⟨"com/example/robust_broker/robustbroker/Postings", "frequency", "(I)I"⟩ : MethodName)) (z := (⟨"com/example/robust_broker/robustbroker/Postings", "frequency", "(I)I"⟩ : MethodName)) hown (mvT hZ (hw _ (List.mem_of_getElem? (i := 57) rfl))) (mvT hZ (hw _ (List.mem_of_getElem? (i := 58) rfl))) (notFace_of_selects (args := #[]) (mvT hZ (hw _ (List.mem_of_getElem? (i := 60) rfl)))) (mvT hZ (hw _ (List.mem_of_getElem? (i := 60) rfl))) (mvT hZ (hw _ (List.mem_of_getElem? (i := 59) rfl))) (by decide) (backOf (W := 0) (rmfre_6_4 l Z a0 hw [] b9 n_ b414 k416 x5 x6 x7 x8 T412.heap n0 z448 F421 F427 F426 (la_0_380_459 p0 n_ hn_ hc92_33 hc107_80 hc122_198) (la_0_380_460 p0 n_ hn_ hc92_33 hc107_80 hc122_198)) hZ (hw _ (List.mem_of_getElem? (i := 61) rfl)) (hw _ (List.mem_of_getElem? (i := 4) rfl)) (by decide) (by decide)) q458a q458c (g := (mkF m 380 #[.val (.int p0), .val (.int p1), .val (.int p2), .val (.int p3), .val (.int p4), .val (.int p5), .val (.int n_), .val (.int x1), .val (.int x2), .val (.int x3), .val (.int x4), .val (.int x5), .val (.int x6), .val (.int x7), .val (.int x8), .val (.ref b9), .val (.long x374), .second, .val (.int (1 : Int32))] [(.int n_), (.ref b9)])) rfl (by rw [hml]; rfl) (Steps.refl _) (argsL := [(.int n_)]) (rest := []) (lenOf pd_6 rfl) rfl (by show 2 * 0 + _ ≤ _; exact Nat.le_of_eq rfl) (hb hby at_380) (fun _ _ => ⟨rfl, e453, (by decide : 9 + 0 ≤ _), (by decide : 34 + 0 ≤ _)⟩)
        dsimp only [Pt.U, Pt.locs, Pt.cells, Pt.slots] at X458 l458 y458 z458 st458 hQ458
        subst l458 y458 z458
        obtain ⟨r458, rfl, hr458, Nq458, e458⟩ := hQ458
        have N458 := Fr.app N453 Nq458
        refine gob (fun _ k => st458.trans k) ?_
        show Go _ _ _ _ _ _ _ (T458.setTop (mkF m 383 #[.val (.int p0), .val (.int p1), .val (.int p2), .val (.int p3), .val (.int p4), .val (.int p5), .val (.int n_), .val (.int x1), .val (.int x2), .val (.int x3), .val (.int x4), .val (.int x5), .val (.int x6), .val (.int x7), .val (.int x8), .val (.ref b9), .val (.long x374), .second, .val (.int (1 : Int32))] [(.int r458)]))
        refine gob (fun _ k => XS.iload X458.here hx rfl (hb hby at_383) rfl k) ?_
        show Go _ _ _ _ _ _ _ (T458.setTop (mkF m 385 #[.val (.int p0), .val (.int p1), .val (.int p2), .val (.int p3), .val (.int p4), .val (.int p5), .val (.int n_), .val (.int x1), .val (.int x2), .val (.int x3), .val (.int x4), .val (.int x5), .val (.int x6), .val (.int x7), .val (.int x8), .val (.ref b9), .val (.long x374), .second, .val (.int (1 : Int32))] [(.int x8), (.int r458)]))
        have hd462 : r458 = x8 := ld_0_385_461 p0 p4 p5 n_ x5 x6 x7 x8 r458 hn_ hx5 hx6 hx7 hx8 hc92_33 hc107_80 hc122_198 hr458
        refine gob (fun _ k => XS.icmpNo X458.here hx rfl (hb hby at_385) rfl (teq hd462).2 k) ?_
        show Go _ _ _ _ _ _ _ (T458.setTop (mkF m 388 #[.val (.int p0), .val (.int p1), .val (.int p2), .val (.int p3), .val (.int p4), .val (.int p5), .val (.int n_), .val (.int x1), .val (.int x2), .val (.int x3), .val (.int x4), .val (.int x5), .val (.int x6), .val (.int x7), .val (.int x8), .val (.ref b9), .val (.long x374), .second, .val (.int (1 : Int32))] []))
        refine gob (fun _ k => XS.aload X458.here hx rfl (hb hby at_388) rfl rfl k) ?_
        show Go _ _ _ _ _ _ _ (T458.setTop (mkF m 390 #[.val (.int p0), .val (.int p1), .val (.int p2), .val (.int p3), .val (.int p4), .val (.int p5), .val (.int n_), .val (.int x1), .val (.int x2), .val (.int x3), .val (.int x4), .val (.int x5), .val (.int x6), .val (.int x7), .val (.int x8), .val (.ref b9), .val (.long x374), .second, .val (.int (1 : Int32))] [(.ref b9)]))
        obtain ⟨cq463, kq463, q463a, q463b, q463c⟩ := isOf hZ e458 c450
        obtain ⟨_, _, ⟨T463, L463, k463, n463⟩, -, X463, ⟨Lc463, hQ463, l463, y463, z463⟩, st463⟩ := X458.virtualBack hx (y := (⟨"com/example/robust_broker/robustbroker/Postings", "collectionFrequency", "()J"⟩ : MethodName)) (z := (⟨"com/example/robust_broker/robustbroker/Postings", "collectionFrequency", "()J"⟩ : MethodName)) hown (mvT hZ (hw _ (List.mem_of_getElem? (i := 40) rfl))) (mvT hZ (hw _ (List.mem_of_getElem? (i := 41) rfl))) (notFace_of_selects (args := #[]) (mvT hZ (hw _ (List.mem_of_getElem? (i := 43) rfl)))) (mvT hZ (hw _ (List.mem_of_getElem? (i := 43) rfl))) (mvT hZ (hw _ (List.mem_of_getElem? (i := 42) rfl))) (by decide) (backOf (W := 0) (rm7 l Z a0 hw [] b9 (((((0 : Int64) + (x5.toInt64)) + (x6.toInt64)) + (x7.toInt64)) + (x8.toInt64)) T412.heap n0 z448 F423) hZ (hw _ (List.mem_of_getElem? (i := 44) rfl)) (hw _ (List.mem_of_getElem? (i := 4) rfl)) (by decide) (by decide)) q463a q463c (g := (mkF m 390 #[.val (.int p0), .val (.int p1), .val (.int p2), .val (.int p3), .val (.int p4), .val (.int p5), .val (.int n_), .val (.int x1), .val (.int x2), .val (.int x3), .val (.int x4), .val (.int x5), .val (.int x6), .val (.int x7), .val (.int x8), .val (.ref b9), .val (.long x374), .second, .val (.int (1 : Int32))] [(.ref b9)])) rfl (by rw [hml]; rfl) (Steps.refl _) (argsL := []) (rest := []) (lenOf pd_4 rfl) rfl (by show 2 * 0 + _ ≤ _; exact Nat.le_of_eq rfl) (hb hby at_390) (fun _ _ => ⟨rfl, e458, (by decide : 9 + 0 ≤ _), (by decide : 34 + 0 ≤ _)⟩)
        dsimp only [Pt.U, Pt.locs, Pt.cells, Pt.slots] at X463 l463 y463 z463 st463 hQ463
        subst l463 y463 z463
        obtain ⟨r463, rfl, hr463, Nq463, e463⟩ := hQ463
        have N463 := Fr.app N458 Nq463
        refine gob (fun _ k => st463.trans k) ?_
        show Go _ _ _ _ _ _ _ (T463.setTop (mkF m 393 #[.val (.int p0), .val (.int p1), .val (.int p2), .val (.int p3), .val (.int p4), .val (.int p5), .val (.int n_), .val (.int x1), .val (.int x2), .val (.int x3), .val (.int x4), .val (.int x5), .val (.int x6), .val (.int x7), .val (.int x8), .val (.ref b9), .val (.long x374), .second, .val (.int (1 : Int32))] [(.long r463)]))
        refine gob (fun _ k => XS.lload X463.here hx rfl (hb hby at_393) rfl k) ?_
        show Go _ _ _ _ _ _ _ (T463.setTop (mkF m 395 #[.val (.int p0), .val (.int p1), .val (.int p2), .val (.int p3), .val (.int p4), .val (.int p5), .val (.int n_), .val (.int x1), .val (.int x2), .val (.int x3), .val (.int x4), .val (.int x5), .val (.int x6), .val (.int x7), .val (.int x8), .val (.ref b9), .val (.long x374), .second, .val (.int (1 : Int32))] [(.long x374), (.long r463)]))
        refine gob (fun _ k => XS.iload X463.here hx rfl (hb hby at_395) rfl k) ?_
        show Go _ _ _ _ _ _ _ (T463.setTop (mkF m 397 #[.val (.int p0), .val (.int p1), .val (.int p2), .val (.int p3), .val (.int p4), .val (.int p5), .val (.int n_), .val (.int x1), .val (.int x2), .val (.int x3), .val (.int x4), .val (.int x5), .val (.int x6), .val (.int x7), .val (.int x8), .val (.ref b9), .val (.long x374), .second, .val (.int (1 : Int32))] [(.int x8), (.long x374), (.long r463)]))
        refine gob (fun _ k => XS.i2l X463.here hx rfl (hb hby at_397) rfl k) ?_
        show Go _ _ _ _ _ _ _ (T463.setTop (mkF m 398 #[.val (.int p0), .val (.int p1), .val (.int p2), .val (.int p3), .val (.int p4), .val (.int p5), .val (.int n_), .val (.int x1), .val (.int x2), .val (.int x3), .val (.int x4), .val (.int x5), .val (.int x6), .val (.int x7), .val (.int x8), .val (.ref b9), .val (.long x374), .second, .val (.int (1 : Int32))] [(.long (x8.toInt64)), (.long x374), (.long r463)]))
        refine gob (fun _ k => XS.ladd X463.here hx rfl (hb hby at_398) rfl k) ?_
        show Go _ _ _ _ _ _ _ (T463.setTop (mkF m 399 #[.val (.int p0), .val (.int p1), .val (.int p2), .val (.int p3), .val (.int p4), .val (.int p5), .val (.int n_), .val (.int x1), .val (.int x2), .val (.int x3), .val (.int x4), .val (.int x5), .val (.int x6), .val (.int x7), .val (.int x8), .val (.ref b9), .val (.long x374), .second, .val (.int (1 : Int32))] [(.long (x374 + (x8.toInt64))), (.long r463)]))
        refine gob (fun _ k => XS.lcmp X463.here hx rfl (hb hby at_399) rfl k) ?_
        show Go _ _ _ _ _ _ _ (T463.setTop (mkF m 400 #[.val (.int p0), .val (.int p1), .val (.int p2), .val (.int p3), .val (.int p4), .val (.int p5), .val (.int n_), .val (.int x1), .val (.int x2), .val (.int x3), .val (.int x4), .val (.int x5), .val (.int x6), .val (.int x7), .val (.int x8), .val (.ref b9), .val (.long x374), .second, .val (.int (1 : Int32))] [(.int (lcmpW r463 (x374 + (x8.toInt64))))]))
        have hd465 : r463 = (x374 + (x8.toInt64)) := ld_0_400_464 p0 p4 p5 x5 x6 x7 x8 x372 x373 x374 r463 hx5 hx6 hx7 hx8 hx372 hx373 hx374 hr463
        refine gob (fun _ k => XS.ifNo X463.here hx rfl (hb hby at_400) rfl ((if0 _ _).trans (teq ((lw_eq _ _).mpr hd465)).2) k) ?_
        show Go _ _ _ _ _ _ _ (T463.setTop (mkF m 403 #[.val (.int p0), .val (.int p1), .val (.int p2), .val (.int p3), .val (.int p4), .val (.int p5), .val (.int n_), .val (.int x1), .val (.int x2), .val (.int x3), .val (.int x4), .val (.int x5), .val (.int x6), .val (.int x7), .val (.int x8), .val (.ref b9), .val (.long x374), .second, .val (.int (1 : Int32))] []))
        refine gob (fun _ k => XS.aload X463.here hx rfl (hb hby at_403) rfl rfl k) ?_
        show Go _ _ _ _ _ _ _ (T463.setTop (mkF m 405 #[.val (.int p0), .val (.int p1), .val (.int p2), .val (.int p3), .val (.int p4), .val (.int p5), .val (.int n_), .val (.int x1), .val (.int x2), .val (.int x3), .val (.int x4), .val (.int x5), .val (.int x6), .val (.int x7), .val (.int x8), .val (.ref b9), .val (.long x374), .second, .val (.int (1 : Int32))] [(.ref b9)]))
        refine gob (fun _ k => XS.iconst X463.here hx rfl (hb hby at_405) k) ?_
        show Go _ _ _ _ _ _ _ (T463.setTop (mkF m 406 #[.val (.int p0), .val (.int p1), .val (.int p2), .val (.int p3), .val (.int p4), .val (.int p5), .val (.int n_), .val (.int x1), .val (.int x2), .val (.int x3), .val (.int x4), .val (.int x5), .val (.int x6), .val (.int x7), .val (.int x8), .val (.ref b9), .val (.long x374), .second, .val (.int (1 : Int32))] [(.int (0 : Int32)), (.ref b9)]))
        obtain ⟨cq466, kq466, q466a, q466b, q466c⟩ := isOf hZ e463 c450
        obtain ⟨_, _, ⟨T466, L466, k466, n466⟩, -, X466, ⟨Lc466, hQ466, l466, y466, z466⟩, st466⟩ := X463.virtualBack hx (y := (⟨"com/example/robust_broker/robustbroker/Postings", "document", "(I)I"⟩ : MethodName)) (z := (⟨"com/example/robust_broker/robustbroker/Postings", "document", "(I)I"⟩ : MethodName)) hown (mvT hZ (hw _ (List.mem_of_getElem? (i := 52) rfl))) (mvT hZ (hw _ (List.mem_of_getElem? (i := 53) rfl))) (notFace_of_selects (args := #[]) (mvT hZ (hw _ (List.mem_of_getElem? (i := 55) rfl)))) (mvT hZ (hw _ (List.mem_of_getElem? (i := 55) rfl))) (mvT hZ (hw _ (List.mem_of_getElem? (i := 54) rfl))) (by decide) (backOf (W := 0) (rmdoc_6_4 l Z a0 hw [] b9 (0 : Int32) b413 k415 x1 x2 x3 x4 T412.heap n0 z448 F420 F425 F424 (la_0_406_467  ) (la_0_406_468  )) hZ (hw _ (List.mem_of_getElem? (i := 56) rfl)) (hw _ (List.mem_of_getElem? (i := 4) rfl)) (by decide) (by decide)) q466a q466c (g := (mkF m 406 #[.val (.int p0), .val (.int p1), .val (.int p2), .val (.int p3), .val (.int p4), .val (.int p5), .val (.int n_), .val (.int x1), .val (.int x2), .val (.int x3), .val (.int x4), .val (.int x5), .val (.int x6), .val (.int x7), .val (.int x8), .val (.ref b9), .val (.long x374), .second, .val (.int (1 : Int32))] [(.int (0 : Int32)), (.ref b9)])) rfl (by rw [hml]; rfl) (Steps.refl _) (argsL := [(.int (0 : Int32))]) (rest := []) (lenOf pd_6 rfl) rfl (by show 2 * 0 + _ ≤ _; exact Nat.le_of_eq rfl) (hb hby at_406) (fun _ _ => ⟨rfl, e463, (by decide : 9 + 0 ≤ _), (by decide : 34 + 0 ≤ _)⟩)
        dsimp only [Pt.U, Pt.locs, Pt.cells, Pt.slots] at X466 l466 y466 z466 st466 hQ466
        subst l466 y466 z466
        obtain ⟨r466, rfl, hr466, Nq466, e466⟩ := hQ466
        have N466 := Fr.app N463 Nq466
        refine gob (fun _ k => st466.trans k) ?_
        show Go _ _ _ _ _ _ _ (T466.setTop (mkF m 409 #[.val (.int p0), .val (.int p1), .val (.int p2), .val (.int p3), .val (.int p4), .val (.int p5), .val (.int n_), .val (.int x1), .val (.int x2), .val (.int x3), .val (.int x4), .val (.int x5), .val (.int x6), .val (.int x7), .val (.int x8), .val (.ref b9), .val (.long x374), .second, .val (.int (1 : Int32))] [(.int r466)]))
        refine gob (fun _ k => XS.iload X466.here hx rfl (hb hby at_409) rfl k) ?_
        show Go _ _ _ _ _ _ _ (T466.setTop (mkF m 411 #[.val (.int p0), .val (.int p1), .val (.int p2), .val (.int p3), .val (.int p4), .val (.int p5), .val (.int n_), .val (.int x1), .val (.int x2), .val (.int x3), .val (.int x4), .val (.int x5), .val (.int x6), .val (.int x7), .val (.int x8), .val (.ref b9), .val (.long x374), .second, .val (.int (1 : Int32))] [(.int x1), (.int r466)]))
        have hd470 : r466 = x1 := ld_0_411_469 p1 p2 p3 x1 x2 x3 x4 r466 hx1 hx2 hx3 hx4 hr466
        refine gob (fun _ k => XS.icmpNo X466.here hx rfl (hb hby at_411) rfl (teq hd470).2 k) ?_
        show Go _ _ _ _ _ _ _ (T466.setTop (mkF m 414 #[.val (.int p0), .val (.int p1), .val (.int p2), .val (.int p3), .val (.int p4), .val (.int p5), .val (.int n_), .val (.int x1), .val (.int x2), .val (.int x3), .val (.int x4), .val (.int x5), .val (.int x6), .val (.int x7), .val (.int x8), .val (.ref b9), .val (.long x374), .second, .val (.int (1 : Int32))] []))
        refine gob (fun _ k => XS.aload X466.here hx rfl (hb hby at_414) rfl rfl k) ?_
        show Go _ _ _ _ _ _ _ (T466.setTop (mkF m 416 #[.val (.int p0), .val (.int p1), .val (.int p2), .val (.int p3), .val (.int p4), .val (.int p5), .val (.int n_), .val (.int x1), .val (.int x2), .val (.int x3), .val (.int x4), .val (.int x5), .val (.int x6), .val (.int x7), .val (.int x8), .val (.ref b9), .val (.long x374), .second, .val (.int (1 : Int32))] [(.ref b9)]))
        refine gob (fun _ k => XS.iconst X466.here hx rfl (hb hby at_416) k) ?_
        show Go _ _ _ _ _ _ _ (T466.setTop (mkF m 417 #[.val (.int p0), .val (.int p1), .val (.int p2), .val (.int p3), .val (.int p4), .val (.int p5), .val (.int n_), .val (.int x1), .val (.int x2), .val (.int x3), .val (.int x4), .val (.int x5), .val (.int x6), .val (.int x7), .val (.int x8), .val (.ref b9), .val (.long x374), .second, .val (.int (1 : Int32))] [(.int (0 : Int32)), (.ref b9)]))
        obtain ⟨cq471, kq471, q471a, q471b, q471c⟩ := isOf hZ e466 c450
        obtain ⟨_, _, ⟨T471, L471, k471, n471⟩, -, X471, ⟨Lc471, hQ471, l471, y471, z471⟩, st471⟩ := X466.virtualBack hx (y := (⟨"com/example/robust_broker/robustbroker/Postings", "frequency", "(I)I"⟩ : MethodName)) (z := (⟨"com/example/robust_broker/robustbroker/Postings", "frequency", "(I)I"⟩ : MethodName)) hown (mvT hZ (hw _ (List.mem_of_getElem? (i := 57) rfl))) (mvT hZ (hw _ (List.mem_of_getElem? (i := 58) rfl))) (notFace_of_selects (args := #[]) (mvT hZ (hw _ (List.mem_of_getElem? (i := 60) rfl)))) (mvT hZ (hw _ (List.mem_of_getElem? (i := 60) rfl))) (mvT hZ (hw _ (List.mem_of_getElem? (i := 59) rfl))) (by decide) (backOf (W := 0) (rmfre_6_4 l Z a0 hw [] b9 (0 : Int32) b414 k416 x5 x6 x7 x8 T412.heap n0 z448 F421 F427 F426 (la_0_417_472  ) (la_0_417_473  )) hZ (hw _ (List.mem_of_getElem? (i := 61) rfl)) (hw _ (List.mem_of_getElem? (i := 4) rfl)) (by decide) (by decide)) q471a q471c (g := (mkF m 417 #[.val (.int p0), .val (.int p1), .val (.int p2), .val (.int p3), .val (.int p4), .val (.int p5), .val (.int n_), .val (.int x1), .val (.int x2), .val (.int x3), .val (.int x4), .val (.int x5), .val (.int x6), .val (.int x7), .val (.int x8), .val (.ref b9), .val (.long x374), .second, .val (.int (1 : Int32))] [(.int (0 : Int32)), (.ref b9)])) rfl (by rw [hml]; rfl) (Steps.refl _) (argsL := [(.int (0 : Int32))]) (rest := []) (lenOf pd_6 rfl) rfl (by show 2 * 0 + _ ≤ _; exact Nat.le_of_eq rfl) (hb hby at_417) (fun _ _ => ⟨rfl, e466, (by decide : 9 + 0 ≤ _), (by decide : 34 + 0 ≤ _)⟩)
        dsimp only [Pt.U, Pt.locs, Pt.cells, Pt.slots] at X471 l471 y471 z471 st471 hQ471
        subst l471 y471 z471
        obtain ⟨r471, rfl, hr471, Nq471, e471⟩ := hQ471
        have N471 := Fr.app N466 Nq471
        refine gob (fun _ k => st471.trans k) ?_
        show Go _ _ _ _ _ _ _ (T471.setTop (mkF m 420 #[.val (.int p0), .val (.int p1), .val (.int p2), .val (.int p3), .val (.int p4), .val (.int p5), .val (.int n_), .val (.int x1), .val (.int x2), .val (.int x3), .val (.int x4), .val (.int x5), .val (.int x6), .val (.int x7), .val (.int x8), .val (.ref b9), .val (.long x374), .second, .val (.int (1 : Int32))] [(.int r471)]))
        refine gob (fun _ k => XS.iload X471.here hx rfl (hb hby at_420) rfl k) ?_
        show Go _ _ _ _ _ _ _ (T471.setTop (mkF m 422 #[.val (.int p0), .val (.int p1), .val (.int p2), .val (.int p3), .val (.int p4), .val (.int p5), .val (.int n_), .val (.int x1), .val (.int x2), .val (.int x3), .val (.int x4), .val (.int x5), .val (.int x6), .val (.int x7), .val (.int x8), .val (.ref b9), .val (.long x374), .second, .val (.int (1 : Int32))] [(.int x5), (.int r471)]))
        have hd475 : r471 = x5 := ld_0_422_474 p0 p4 p5 x5 x6 x7 x8 r471 hx5 hx6 hx7 hx8 hr471
        refine gob (fun _ k => XS.icmpNo X471.here hx rfl (hb hby at_422) rfl (teq hd475).2 k) ?_
        show Go _ _ _ _ _ _ _ (T471.setTop (mkF m 425 #[.val (.int p0), .val (.int p1), .val (.int p2), .val (.int p3), .val (.int p4), .val (.int p5), .val (.int n_), .val (.int x1), .val (.int x2), .val (.int x3), .val (.int x4), .val (.int x5), .val (.int x6), .val (.int x7), .val (.int x8), .val (.ref b9), .val (.long x374), .second, .val (.int (1 : Int32))] []))
        refine gob (fun _ k => XS.iconst X471.here hx rfl (hb hby at_425) k) ?_
        show Go _ _ _ _ _ _ _ (T471.setTop (mkF m 426 #[.val (.int p0), .val (.int p1), .val (.int p2), .val (.int p3), .val (.int p4), .val (.int p5), .val (.int n_), .val (.int x1), .val (.int x2), .val (.int x3), .val (.int x4), .val (.int x5), .val (.int x6), .val (.int x7), .val (.int x8), .val (.ref b9), .val (.long x374), .second, .val (.int (1 : Int32))] [(.int (1 : Int32))]))
        refine gob (fun _ k => XS.goto X471.here hx rfl (pc0 := 426) (pc' := 430) rfl (hb hby at_426) (by decide) (by decide) k) ?_
        show Go _ _ _ _ _ _ _ (T471.setTop (mkF m 430 #[.val (.int p0), .val (.int p1), .val (.int p2), .val (.int p3), .val (.int p4), .val (.int p5), .val (.int n_), .val (.int x1), .val (.int x2), .val (.int x3), .val (.int x4), .val (.int x5), .val (.int x6), .val (.int x7), .val (.int x8), .val (.ref b9), .val (.long x374), .second, .val (.int (1 : Int32))] [(.int (1 : Int32))]))
        refine gob (fun _ k => XS.istore X471.here hx rfl (hb hby at_430) rfl (l' := #[.val (.int p0), .val (.int p1), .val (.int p2), .val (.int p3), .val (.int p4), .val (.int p5), .val (.int n_), .val (.int x1), .val (.int x2), .val (.int x3), .val (.int x4), .val (.int x5), .val (.int x6), .val (.int x7), .val (.int x8), .val (.ref b9), .val (.long x374), .second, .val (.int (1 : Int32))]) rfl k) ?_
        show Go _ _ _ _ _ _ _ (T471.setTop (mkF m 432 #[.val (.int p0), .val (.int p1), .val (.int p2), .val (.int p3), .val (.int p4), .val (.int p5), .val (.int n_), .val (.int x1), .val (.int x2), .val (.int x3), .val (.int x4), .val (.int x5), .val (.int x6), .val (.int x7), .val (.int x8), .val (.ref b9), .val (.long x374), .second, .val (.int (1 : Int32))] []))
        refine gob (fun _ k => XS.iload X471.here hx rfl (hb hby at_432) rfl k) ?_
        show Go _ _ _ _ _ _ _ (T471.setTop (mkF m 434 #[.val (.int p0), .val (.int p1), .val (.int p2), .val (.int p3), .val (.int p4), .val (.int p5), .val (.int n_), .val (.int x1), .val (.int x2), .val (.int x3), .val (.int x4), .val (.int x5), .val (.int x6), .val (.int x7), .val (.int x8), .val (.ref b9), .val (.long x374), .second, .val (.int (1 : Int32))] [(.int (1 : Int32))]))
        refine goZ X471 hx hlk (t := .boolean) Bd.returns (by simp) (hb hby at_434) (z' := (1 : Int32)) rfl ?_ (by decide) (by decide)
        show Q0 Z p0 p1 p2 p3 p4 p5 h0 n0 (some (.int (1 : Int32))) T471.heap _
        exact ⟨rfl, N471⟩
set_option maxRecDepth 65536 in
set_option maxHeartbeats 40000000 in
theorem comes_1 {Post : Tables → Env → Array Value → State → Outcome → State → Prop} (hpost : ∀ tb e args s v u, (limb_1_1.after args s (.returned v) u = true ∧ limb_1_2.after args s (.returned v) u = true ∧ True) → FrameEnd s (.returned v) u (Jvm.fieldLocs frame_1_writes args s ++ Jvm.arrayLocs frame_1_arrays args s ++ Jvm.staticLocs frame_1_statics s) 32 192 → Post tb e args s (.returned v) u) :
    ArmFor flags0 classFile x code maxLocals ret World_1 tables_1 room_1 Calls_1 rest_1 Pre_1 Post := by
  intro l hfl _ _ p e ha hc hk s m args below hf hA hF happ hP
  obtain ⟨hcalls, hrest, hpre⟩ := hP
  obtain ⟨-, -, -, hnamed, -, -, -, hat⟩ := (Spec.applies_iff hf).mp happ
  obtain ⟨hg, hn⟩ := and_e (Cond.before_iff.mp (show (Jvm.Cond.and given_1 narrow_1).before args s = true from hpre))
  obtain ⟨g1, g2⟩ := and_e hg
  obtain ⟨g3, g4⟩ := and_e g2
  obtain ⟨g5, g6⟩ := and_e g4
  obtain ⟨g7, g8⟩ := and_e g6
  obtain ⟨g9, g10⟩ := and_e g8
  obtain ⟨g11, g12⟩ := and_e g10
  obtain ⟨w0, w1, w2, w3, w4, w5, rfl⟩ : ∃ w0 w1 w2 w3 w4 w5 : Value, args = #[w0, w1, w2, w3, w4, w5] := by
    have hs : args.size = 6 := by simpa [Cond.value, given_1] using g1
    obtain ⟨L⟩ := args
    match L, hs with
    | [w0, w1, w2, w3, w4, w5], _ => exact ⟨w0, w1, w2, w3, w4, w5, rfl⟩
  have hw := fun d (hd : d ∈ tables_1) => atoms_spec (ws := Jvm.Cond.code x code maxLocals ret :: tables_1) hat d (List.mem_cons_of_mem _ hd)
  have hfit : Fit s := fun {y c} hc i hi => by
    obtain ⟨ha, rfl⟩ := Array.getElem?_eq_some_iff.mp hc
    have q := List.all_eq_true.mp ((Array.all_eq_true_iff_forall_mem.mp hF) _ (Array.getElem_mem ha)) i (List.mem_range.mpr hi)
    simpa [Array.getElem?_eq_getElem hi] using q
  obtain ⟨i0, ei0⟩ := is_v g3
  obtain rfl : w0 = (.int i0) := Option.some.inj ei0
  obtain ⟨i1, ei1⟩ := is_v g5
  obtain rfl : w1 = (.int i1) := Option.some.inj ei1
  obtain ⟨i2, ei2⟩ := is_v g7
  obtain rfl : w2 = (.int i2) := Option.some.inj ei2
  obtain ⟨i3, ei3⟩ := is_v g9
  obtain rfl : w3 = (.int i3) := Option.some.inj ei3
  obtain ⟨i4, ei4⟩ := is_v g11
  obtain rfl : w4 = (.int i4) := Option.some.inj ei4
  obtain ⟨i5, ei5⟩ := is_v g12
  obtain rfl : w5 = (.int i5) := Option.some.inj ei5
  obtain ⟨n, o, h1, h2, h3, _, L, rfl, ⟨rfl, N⟩, hq⟩ := rm0 l s _ hw tables_1 i0 i1 i2 i3 i4 i5 s.heap s.heap.size (Nat.le_refl _)  p e ha hc hk s m _ below hf ((Spec.applies_iff_loose hf).mp happ).1 ⟨rfl, State.Warmed39.refl s, rfl⟩ trivial
  exact ⟨n, _, h1, h2, h3, hpost _ _ _ _ _ _ ⟨Cond.after_iff.mpr rfl, Cond.after_iff.mpr (eq_i res_at (Term.int_eval (1)) rfl), trivial⟩ ⟨hq.1, hq.2.1, (hq.2.2.sift fun y hy => Or.inr (N y hy)).mono (by decide) (by decide)⟩⟩
theorem main_1_1 : Claimed_1_1 := comes_1 fun _ _ _ _ _ _ h hF => ⟨h.1, hF⟩
theorem main_1_2 : Claimed_1_2 := comes_1 fun _ _ _ _ _ _ h hF => ⟨h.2.1, hF⟩
end Jvm.Pilot.@@N@@
namespace Jvm.Pilot.@@N@@
open Jvm Jvm.ClassFile Sem Op Lib Jvm.Free Jvm.Stand Jvm.Pilot.@@N@@.Jvm.D
/-! MADE BY PROGRAM (witnessworld.py) out of the Statement's table words and the real class files: 12 classes; the members and pool entries that the words name. The judged class is class 1, her method 1. -/
namespace start1
open Jvm.ClassFile
def u (s : String) : CpInfo := .utf8 (stringToUtf16 s)
/-- a pool by its gaps: so many unusable entries, then the entry; so many at the end -/
def gap : Nat → List CpInfo → List CpInfo
  | 0, r => r
  | n + 1, r => .unusable :: gap n r
def poolList (es : List (Nat × CpInfo)) (last : Nat) : List CpInfo := es.foldr (fun e r => gap e.1 (e.2 :: r)) (gap last [])
def pool (es : List (Nat × CpInfo)) (last : Nat) : Array CpInfo := ⟨poolList es last⟩
def fileOf (pool : Array CpInfo) (this : Nat) (attrs : Array Attribute := #[]) (ms : Array MethodInfo := #[]) (fl : Nat := 33) (sup : Nat := 0) (ifs : Array Nat := #[]) (fds : Array FieldInfo := #[]) : ClassFile where
  minorVersion := 0
  majorVersion := 65
  constantPool := pool
  accessFlags := fl
  thisClass := this
  superClass := sup
  interfaces := ifs
  fields := fds
  methods := ms
  attributes := attrs
def plain (name : String) (sup : Option ClassId) : Class where
  name := name
  kind := .ordinary
  loader := none
  accessFlags := 33
  super := sup
  interfaces := #[]
  cf := none
  fields := #[]
  methods := #[]
  instanceTypes := #[]
  staticTypes := #[]
  resolved := #[]
  callSites := []
  init := .initialized
  statics := none
  mirror := none

def pool0 : Array CpInfo := pool [(5, u "<init>"), (0, u "()V"), (1, .class_ 10), (1, u "java/lang/Object"), (85, u "clone"), (0, u "()Ljava/lang/Object;")] 26

def k0c0 : Code := { maxStack := 0, maxLocals := 1, code := object_method_1_code, exceptionTable := #[], attributes := #[] }
def k0m0 : Method := { name := "<init>", desc := "()V", sig := { parameters := [], returnType := none }, accessFlags := 1, code := some k0c0 }
def k0m1 : Method := { name := "clone", desc := "()Ljava/lang/Object;", sig := { parameters := [], returnType := some (.object "java/lang/Object") }, accessFlags := 260, code := none }
/-- java/lang/Object -/
def k0 : Class := { plain "java/lang/Object" none with
  accessFlags := 33
  interfaces := #[]
  cf := some (fileOf pool0 8 #[] #[{ accessFlags := 1, nameIndex := 5, descriptorIndex := 6, attributes := #[] }, { accessFlags := 260, nameIndex := 96, descriptorIndex := 97, attributes := #[] }] 33 0 #[] #[])
  fields := #[]
  methods := #[k0m0, k0m1]
  instanceTypes := #[]
  staticTypes := #[]
  resolved := Array.replicate 124 none
  statics := none }

def pool1 : Array CpInfo := pool [(2, .class_ 4), (0, .nameAndType 5 6), (0, u "java/lang/Object"), (0, u "<init>"), (0, u "()V"), (0, .integer 1048575), (0, .integer 1073741823), (0, .class_ 10), (0, u "com/example/robust_broker/robustbroker/Postings"), (0, .methodref 9 3), (0, .methodref 9 13), (0, .nameAndType 14 15), (0, u "add"), (0, u "(II)V"), (0, .methodref 9 17), (0, .nameAndType 18 6), (0, u "trim"), (0, .methodref 9 20), (0, .nameAndType 21 22), (0, u "size"), (0, u "()I"), (0, .methodref 9 24), (0, .nameAndType 25 26), (0, u "collectionFrequency"), (0, u "()J"), (0, .methodref 9 28), (0, .nameAndType 29 30), (0, u "document"), (0, u "(I)I"), (0, .methodref 9 32), (0, .nameAndType 33 30), (0, u "frequency"), (0, .class_ 35), (0, u "com/example/robust_broker/robustbroker/PostingsTrimPinLaw"), (2, u "law"), (0, u "(IIIIII)Z")] 3

def k1m0 : Method := { name := "<init>", desc := "()V", sig := { parameters := [], returnType := none }, accessFlags := 1, code := none }
def k1c1 : Code := { maxStack := 6, maxLocals := 19, code := code, exceptionTable := #[], attributes := #[] }
def k1m1 : Method := { name := "law", desc := "(IIIIII)Z", sig := { parameters := [.int, .int, .int, .int, .int, .int], returnType := some .boolean }, accessFlags := 9, code := some k1c1 }
/-- com/example/robust_broker/robustbroker/PostingsTrimPinLaw -/
def k1 : Class := { plain "com/example/robust_broker/robustbroker/PostingsTrimPinLaw" (some 0) with
  accessFlags := 49
  interfaces := #[]
  cf := some (fileOf pool1 34 #[] #[{ accessFlags := 1, nameIndex := 5, descriptorIndex := 6, attributes := #[] }, { accessFlags := 9, nameIndex := 38, descriptorIndex := 39, attributes := #[] }] 49 2 #[] #[])
  fields := #[]
  methods := #[k1m0, k1m1]
  instanceTypes := #[]
  staticTypes := #[]
  resolved := Array.replicate 43 none
  statics := none }

def pool2 : Array CpInfo := pool [(1, .methodref 2 3), (0, .class_ 4), (0, .nameAndType 5 6), (0, u "java/lang/Object"), (0, u "<init>"), (0, u "()V"), (0, .fieldref 8 9), (0, .class_ 10), (0, .nameAndType 11 12), (0, u "com/example/robust_broker/robustbroker/Postings"), (0, u "documents"), (0, u "[I"), (0, .fieldref 8 14), (0, .nameAndType 15 12), (0, u "frequencies"), (0, .fieldref 8 17), (0, .nameAndType 18 19), (0, u "size"), (0, u "I"), (0, .methodref 21 22), (0, .class_ 23), (0, .nameAndType 24 25), (0, u "java/util/Arrays"), (0, u "copyOf"), (0, u "([II)[I"), (0, .fieldref 8 27), (0, .nameAndType 28 29), (0, u "collectionFrequency"), (0, u "J"), (2, u "add"), (0, u "(II)V"), (1, u "trim"), (0, u "()I"), (0, u "document"), (0, u "(I)I"), (0, u "frequency"), (0, u "()J")] 2

def k2c0 : Code := { maxStack := 2, maxLocals := 1, code := prog_26_method_1_code, exceptionTable := #[], attributes := #[] }
def k2m0 : Method := { name := "<init>", desc := "()V", sig := { parameters := [], returnType := none }, accessFlags := 0, code := some k2c0 }
def k2c1 : Code := { maxStack := 5, maxLocals := 3, code := prog_26_method_2_code, exceptionTable := #[], attributes := #[] }
def k2m1 : Method := { name := "add", desc := "(II)V", sig := { parameters := [.int, .int], returnType := none }, accessFlags := 0, code := some k2c1 }
def k2c2 : Code := { maxStack := 3, maxLocals := 1, code := prog_26_method_3_code, exceptionTable := #[], attributes := #[] }
def k2m2 : Method := { name := "trim", desc := "()V", sig := { parameters := [], returnType := none }, accessFlags := 0, code := some k2c2 }
def k2c3 : Code := { maxStack := 1, maxLocals := 1, code := prog_26_method_4_code, exceptionTable := #[], attributes := #[] }
def k2m3 : Method := { name := "size", desc := "()I", sig := { parameters := [], returnType := some .int }, accessFlags := 1, code := some k2c3 }
def k2c4 : Code := { maxStack := 2, maxLocals := 2, code := prog_26_method_5_code, exceptionTable := #[], attributes := #[] }
def k2m4 : Method := { name := "document", desc := "(I)I", sig := { parameters := [.int], returnType := some .int }, accessFlags := 1, code := some k2c4 }
def k2c5 : Code := { maxStack := 2, maxLocals := 2, code := prog_26_method_6_code, exceptionTable := #[], attributes := #[] }
def k2m5 : Method := { name := "frequency", desc := "(I)I", sig := { parameters := [.int], returnType := some .int }, accessFlags := 1, code := some k2c5 }
def k2c6 : Code := { maxStack := 2, maxLocals := 1, code := prog_26_method_7_code, exceptionTable := #[], attributes := #[] }
def k2m6 : Method := { name := "collectionFrequency", desc := "()J", sig := { parameters := [], returnType := some .long }, accessFlags := 1, code := some k2c6 }
/-- com/example/robust_broker/robustbroker/Postings -/
def k2 : Class := { plain "com/example/robust_broker/robustbroker/Postings" (some 0) with
  accessFlags := 33
  interfaces := #[]
  cf := some (fileOf pool2 8 #[] #[{ accessFlags := 0, nameIndex := 5, descriptorIndex := 6, attributes := #[] }, { accessFlags := 0, nameIndex := 32, descriptorIndex := 33, attributes := #[] }, { accessFlags := 0, nameIndex := 35, descriptorIndex := 6, attributes := #[] }, { accessFlags := 1, nameIndex := 18, descriptorIndex := 36, attributes := #[] }, { accessFlags := 1, nameIndex := 37, descriptorIndex := 38, attributes := #[] }, { accessFlags := 1, nameIndex := 39, descriptorIndex := 38, attributes := #[] }, { accessFlags := 1, nameIndex := 28, descriptorIndex := 40, attributes := #[] }] 33 2 #[] #[{ accessFlags := 2, nameIndex := 11, descriptorIndex := 12, attributes := #[] }, { accessFlags := 2, nameIndex := 15, descriptorIndex := 12, attributes := #[] }, { accessFlags := 2, nameIndex := 18, descriptorIndex := 19, attributes := #[] }, { accessFlags := 2, nameIndex := 28, descriptorIndex := 29, attributes := #[] }])
  fields := #[{ name := "documents", type := (.array .int), accessFlags := 2, slot := 0, constantValue := 0 }, { name := "frequencies", type := (.array .int), accessFlags := 2, slot := 1, constantValue := 0 }, { name := "size", type := .int, accessFlags := 2, slot := 2, constantValue := 0 }, { name := "collectionFrequency", type := .long, accessFlags := 2, slot := 3, constantValue := 0 }]
  methods := #[k2m0, k2m1, k2m2, k2m3, k2m4, k2m5, k2m6]
  instanceTypes := #[(.array .int), (.array .int), .int, .long]
  staticTypes := #[]
  resolved := Array.replicate 43 none
  statics := none }

def pool3 : Array CpInfo := pool [(2, .class_ 4), (1, u "java/lang/Object"), (0, u "<init>"), (0, u "()V"), (7, .class_ 16), (1, u "java/util/Arrays"), (57, .class_ 76), (1, u "java/util/Arrays$NaturalOrder"), (32, u "()Ljava/lang/Object;"), (3, .class_ 115), (1, u "java/util/Arrays$LegacyMergeSort"), (1, u "Z"), (10, .nameAndType 129 109), (0, u "clone"), (20, .methodref 151 152), (0, .class_ 153), (0, .nameAndType 154 155), (0, u "java/lang/System"), (0, u "arraycopy"), (0, u "(Ljava/lang/Object;ILjava/lang/Object;II)V"), (146, u "copyOf"), (1, .methodref 305 306), (0, .class_ 307), (0, .nameAndType 308 309), (0, u "java/lang/Math"), (0, u "min"), (0, u "(II)I"), (6, .methodref 317 128), (0, .class_ 318), (0, u "[I"), (56, .class_ 376), (0, u "java/util/Arrays$ArrayList"), (68, u "$assertionsDisabled"), (269, u "MIN_ARRAY_SORT_GRAN"), (0, u "I"), (2, u "INSERTIONSORT_THRESHOLD"), (151, u "([II)[I"), (103, .class_ 976), (0, u "java/util/Arrays$ArrayItr")] 52

def k3m0 : Method := { name := "<init>", desc := "()V", sig := { parameters := [], returnType := none }, accessFlags := 2, code := none }
def k3c1 : Code := { maxStack := 6, maxLocals := 3, code := jdk_65_method_123_code, exceptionTable := #[], attributes := #[] }
def k3m1 : Method := { name := "copyOf", desc := "([II)[I", sig := { parameters := [(.array .int), .int], returnType := some (.array .int) }, accessFlags := 9, code := some k3c1 }
/-- java/util/Arrays -/
def k3 : Class := { plain "java/util/Arrays" (some 0) with
  accessFlags := 49
  interfaces := #[]
  cf := some (fileOf pool3 14 #[.nestMembers #[975, 375, 113, 74]] #[{ accessFlags := 2, nameIndex := 5, descriptorIndex := 6, attributes := #[] }, { accessFlags := 9, nameIndex := 302, descriptorIndex := 871, attributes := #[] }] 49 2 #[] #[{ accessFlags := 26, nameIndex := 715, descriptorIndex := 716, attributes := #[] }, { accessFlags := 26, nameIndex := 719, descriptorIndex := 716, attributes := #[] }, { accessFlags := 4120, nameIndex := 445, descriptorIndex := 117, attributes := #[] }])
  fields := #[{ name := "MIN_ARRAY_SORT_GRAN", type := .int, accessFlags := 26, slot := 0, constantValue := 0 }, { name := "INSERTIONSORT_THRESHOLD", type := .int, accessFlags := 26, slot := 1, constantValue := 0 }, { name := "$assertionsDisabled", type := .boolean, accessFlags := 4120, slot := 2, constantValue := 0 }]
  methods := #[k3m0, k3m1]
  instanceTypes := #[]
  staticTypes := #[.int, .int, .boolean]
  resolved := Array.replicate 1029 none
  statics := none }

def pool4 : Array CpInfo := pool [(1, .class_ 2), (0, u "java/lang/Math"), (1, .class_ 6), (1, u "java/lang/Object"), (0, u "<init>"), (0, u "()V"), (89, .class_ 100), (1, u "java/lang/Math$RandomNumberGeneratorHolder"), (71, u "negativeZeroFloatBits"), (0, u "J"), (2, u "negativeZeroDoubleBits"), (24, u "min"), (43, u "$assertionsDisabled"), (0, u "Z"), (88, u "(II)I"), (2, u "twoToTheDoubleScaleDown"), (0, u "D"), (4, u "twoToTheDoubleScaleUp"), (9, u "E"), (3, u "PI"), (2, u "TAU"), (2, u "DEGREES_TO_RADIANS"), (0, u "RADIANS_TO_DEGREES")] 94

def k4m0 : Method := { name := "<init>", desc := "()V", sig := { parameters := [], returnType := none }, accessFlags := 2, code := none }
def k4c1 : Code := { maxStack := 2, maxLocals := 2, code := jdk_29_method_69_code, exceptionTable := #[], attributes := #[] }
def k4m1 : Method := { name := "min", desc := "(II)I", sig := { parameters := [.int, .int], returnType := some .int }, accessFlags := 9, code := some k4c1 }
/-- java/lang/Math -/
def k4 : Class := { plain "java/lang/Math" (some 0) with
  accessFlags := 49
  interfaces := #[]
  cf := some (fileOf pool4 1 #[.nestMembers #[98]] #[{ accessFlags := 2, nameIndex := 7, descriptorIndex := 8, attributes := #[] }, { accessFlags := 9, nameIndex := 201, descriptorIndex := 335, attributes := #[] }] 49 4 #[] #[{ accessFlags := 25, nameIndex := 354, descriptorIndex := 339, attributes := #[] }, { accessFlags := 25, nameIndex := 358, descriptorIndex := 339, attributes := #[] }, { accessFlags := 25, nameIndex := 361, descriptorIndex := 339, attributes := #[] }, { accessFlags := 26, nameIndex := 364, descriptorIndex := 339, attributes := #[] }, { accessFlags := 26, nameIndex := 365, descriptorIndex := 339, attributes := #[] }, { accessFlags := 26, nameIndex := 172, descriptorIndex := 173, attributes := #[] }, { accessFlags := 26, nameIndex := 176, descriptorIndex := 173, attributes := #[] }, { accessFlags := 8, nameIndex := 344, descriptorIndex := 339, attributes := #[] }, { accessFlags := 8, nameIndex := 338, descriptorIndex := 339, attributes := #[] }, { accessFlags := 4120, nameIndex := 245, descriptorIndex := 246, attributes := #[] }])
  fields := #[{ name := "E", type := .double, accessFlags := 25, slot := 0, constantValue := 0 }, { name := "PI", type := .double, accessFlags := 25, slot := 1, constantValue := 0 }, { name := "TAU", type := .double, accessFlags := 25, slot := 2, constantValue := 0 }, { name := "DEGREES_TO_RADIANS", type := .double, accessFlags := 26, slot := 3, constantValue := 0 }, { name := "RADIANS_TO_DEGREES", type := .double, accessFlags := 26, slot := 4, constantValue := 0 }, { name := "negativeZeroFloatBits", type := .long, accessFlags := 26, slot := 5, constantValue := 0 }, { name := "negativeZeroDoubleBits", type := .long, accessFlags := 26, slot := 6, constantValue := 0 }, { name := "twoToTheDoubleScaleUp", type := .double, accessFlags := 8, slot := 7, constantValue := 0 }, { name := "twoToTheDoubleScaleDown", type := .double, accessFlags := 8, slot := 8, constantValue := 0 }, { name := "$assertionsDisabled", type := .boolean, accessFlags := 4120, slot := 9, constantValue := 0 }]
  methods := #[k4m0, k4m1]
  instanceTypes := #[]
  staticTypes := #[.double, .double, .double, .double, .double, .long, .long, .double, .double, .boolean]
  resolved := Array.replicate 460 none
  statics := none }

def pool5 : Array CpInfo := pool [(2, .class_ 4), (1, u "java/lang/Object"), (0, u "<init>"), (0, u "()V"), (1, .class_ 10), (1, u "java/lang/System"), (0, u "allowSecurityManager"), (0, u "I"), (16, u "cons"), (0, u "Ljava/io/Console;"), (77, .class_ 110), (1, u "java/lang/System$CallersHolder"), (43, u "initialErrStream"), (0, u "Ljava/io/PrintStream;"), (19, u "security"), (0, u "Ljava/lang/SecurityManager;"), (31, .class_ 209), (0, u "java/lang/System$1"), (7, u "props"), (0, u "Ljava/util/Properties;"), (2, u "lineSeparator"), (0, u "Ljava/lang/String;"), (96, .class_ 321), (1, u "java/lang/System$LoggerFinder"), (5, .class_ 328), (0, u "java/lang/System$Logger"), (67, u "err"), (2, u "out"), (91, u "notSupportedJnuEncoding"), (15, u "in"), (17, u "initialIn"), (0, u "Ljava/io/InputStream;"), (35, u "bootLayer"), (0, u "Ljava/lang/ModuleLayer;"), (99, .class_ 664), (0, u "java/lang/System$2"), (9, u "NEVER"), (2, u "MAYBE"), (49, u "arraycopy"), (0, u "(Ljava/lang/Object;ILjava/lang/Object;II)V"), (72, .class_ 802), (0, u "java/lang/System$Logger$Level")] 31

def k5m0 : Method := { name := "<init>", desc := "()V", sig := { parameters := [], returnType := none }, accessFlags := 2, code := none }
def k5m1 : Method := { name := "arraycopy", desc := "(Ljava/lang/Object;ILjava/lang/Object;II)V", sig := { parameters := [(.object "java/lang/Object"), .int, (.object "java/lang/Object"), .int, .int], returnType := none }, accessFlags := 265, code := none }
/-- java/lang/System -/
def k5 : Class := { plain "java/lang/System" (some 0) with
  accessFlags := 49
  interfaces := #[]
  cf := some (fileOf pool5 8 #[.nestMembers #[319, 327, 801, 108, 663, 208]] #[{ accessFlags := 2, nameIndex := 5, descriptorIndex := 6, attributes := #[] }, { accessFlags := 265, nameIndex := 727, descriptorIndex := 728, attributes := #[] }] 49 2 #[] #[{ accessFlags := 25, nameIndex := 507, descriptorIndex := 526, attributes := #[] }, { accessFlags := 25, nameIndex := 399, descriptorIndex := 155, attributes := #[] }, { accessFlags := 25, nameIndex := 396, descriptorIndex := 155, attributes := #[] }, { accessFlags := 10, nameIndex := 525, descriptorIndex := 526, attributes := #[] }, { accessFlags := 26, nameIndex := 674, descriptorIndex := 12, attributes := #[] }, { accessFlags := 26, nameIndex := 677, descriptorIndex := 12, attributes := #[] }, { accessFlags := 10, nameIndex := 11, descriptorIndex := 12, attributes := #[] }, { accessFlags := 74, nameIndex := 175, descriptorIndex := 176, attributes := #[] }, { accessFlags := 10, nameIndex := 491, descriptorIndex := 222, attributes := #[] }, { accessFlags := 74, nameIndex := 29, descriptorIndex := 30, attributes := #[] }, { accessFlags := 74, nameIndex := 154, descriptorIndex := 155, attributes := #[] }, { accessFlags := 10, nameIndex := 217, descriptorIndex := 218, attributes := #[] }, { accessFlags := 10, nameIndex := 221, descriptorIndex := 222, attributes := #[] }, { accessFlags := 8, nameIndex := 562, descriptorIndex := 563, attributes := #[] }])
  fields := #[{ name := "in", type := (.object "java/io/InputStream"), accessFlags := 25, slot := 0, constantValue := 0 }, { name := "out", type := (.object "java/io/PrintStream"), accessFlags := 25, slot := 1, constantValue := 0 }, { name := "err", type := (.object "java/io/PrintStream"), accessFlags := 25, slot := 2, constantValue := 0 }, { name := "initialIn", type := (.object "java/io/InputStream"), accessFlags := 10, slot := 3, constantValue := 0 }, { name := "NEVER", type := .int, accessFlags := 26, slot := 4, constantValue := 0 }, { name := "MAYBE", type := .int, accessFlags := 26, slot := 5, constantValue := 0 }, { name := "allowSecurityManager", type := .int, accessFlags := 10, slot := 6, constantValue := 0 }, { name := "security", type := (.object "java/lang/SecurityManager"), accessFlags := 74, slot := 7, constantValue := 0 }, { name := "notSupportedJnuEncoding", type := (.object "java/lang/String"), accessFlags := 10, slot := 8, constantValue := 0 }, { name := "cons", type := (.object "java/io/Console"), accessFlags := 74, slot := 9, constantValue := 0 }, { name := "initialErrStream", type := (.object "java/io/PrintStream"), accessFlags := 74, slot := 10, constantValue := 0 }, { name := "props", type := (.object "java/util/Properties"), accessFlags := 10, slot := 11, constantValue := 0 }, { name := "lineSeparator", type := (.object "java/lang/String"), accessFlags := 10, slot := 12, constantValue := 0 }, { name := "bootLayer", type := (.object "java/lang/ModuleLayer"), accessFlags := 8, slot := 13, constantValue := 0 }]
  methods := #[k5m0, k5m1]
  instanceTypes := #[]
  staticTypes := #[(.object "java/io/InputStream"), (.object "java/io/PrintStream"), (.object "java/io/PrintStream"), (.object "java/io/InputStream"), .int, .int, .int, (.object "java/lang/SecurityManager"), (.object "java/lang/String"), (.object "java/io/Console"), (.object "java/io/PrintStream"), (.object "java/util/Properties"), (.object "java/lang/String"), (.object "java/lang/ModuleLayer")]
  resolved := Array.replicate 834 none
  statics := none }

def pool6 : Array CpInfo := pool [(1, .class_ 2), (0, u "java/lang/Cloneable"), (0, .class_ 4), (0, u "java/lang/Object")] 2

/-- java/lang/Cloneable -/
def k6 : Class := { plain "java/lang/Cloneable" (some 0) with
  accessFlags := 1537
  interfaces := #[]
  cf := some (fileOf pool6 1 #[] #[] 1537 3 #[] #[])
  fields := #[]
  methods := #[]
  instanceTypes := #[]
  staticTypes := #[]
  resolved := Array.replicate 7 none
  statics := none }

def pool7 : Array CpInfo := pool [(1, u "java/io/Serializable"), (0, .class_ 1), (0, u "java/lang/Object"), (0, .class_ 3)] 3

/-- java/io/Serializable -/
def k7 : Class := { plain "java/io/Serializable" (some 0) with
  accessFlags := 1537
  interfaces := #[]
  cf := some (fileOf pool7 2 #[] #[] 1537 4 #[] #[])
  fields := #[]
  methods := #[]
  instanceTypes := #[]
  staticTypes := #[]
  resolved := Array.replicate 8 none
  statics := none }

/-- the primitive byte -/
def k8 : Class := { plain "byte" none with kind := .primitive 'B', accessFlags := 0x411 }
/-- [B -/
def k9 : Class := { plain "[B" (some 0) with kind := .array 8 .byte, interfaces := #[6, 7], accessFlags := 1041 }

/-- the primitive int -/
def k10 : Class := { plain "int" none with kind := .primitive 'I', accessFlags := 0x411 }
/-- [I -/
def k11 : Class := { plain "[I" (some 0) with kind := .array 10 .int, interfaces := #[6, 7], accessFlags := 1041 }

def heap : Heap := #[]
def classes : Array Class := #[k0, k1, k2, k3, k4, k5, k6, k7, k8, k9, k10, k11]
def interned : List (Array UInt16 × Addr) := []
def slotsUsed : Nat := 0
def theMethod : MethodId := ⟨1, 1⟩
def args0 : Array Value := #[.int 3, .int 9, .int 3, .int 3, .int 3, .int 7]
def aboutOver (below : List Frame) : State where
  vm := { classes := classes, interned := interned.toArray }
  heap := heap
  slotsUsed := slotsUsed
  threads := #[{ frames := .invoking theMethod args0 :: below }]
def below0 : List Frame := [.native { method := ⟨0, 0⟩, args := #[] }]
def about1 : State := aboutOver below0
def p0 : Program := .bare "" "" ""
def e0 : Env := launch0.env 0 0 0
theorem w_frames : about1.frames = Frame.invoking theMethod args0 :: below0 := rfl
set_option maxRecDepth 65536 in
theorem w_args : argsFit about1.vm theMethod args0 = true := by decide +kernel
set_option maxRecDepth 65536 in
theorem w_heap : heapFits about1 = true := by decide +kernel
set_option maxRecDepth 65536 in
theorem w_runnable : about1.curStatus? = some .runnable := by decide +kernel
set_option maxRecDepth 65536 in
theorem w_alone : about1.alone = true := by decide +kernel
set_option maxRecDepth 65536 in
theorem w_named : about1.methodNamed? x = some theMethod := by decide +kernel
set_option maxRecDepth 65536 in
theorem w_hears : about1.hears theMethod below0 = true := by decide +kernel
set_option maxRecDepth 65536 in
theorem w_ripe : about1.ripe theMethod args0 below0 = true := by decide +kernel
theorem w_running : about1.status = .running := rfl
set_option maxRecDepth 65536 in
theorem w_room : about1.hasRoom e0.platform room_1 = true :=
  launch0.hasRoom_least _ room_1 (by decide +kernel) (by decide +kernel) (by decide +kernel) (by decide +kernel) (by decide +kernel) (by decide +kernel)
theorem allAtoms_all (ts : List Jvm.Cond) (a : Array Jvm.Value) (st : Jvm.State) : (allAtoms ts).before a st = ts.all (fun c => c.before a st) := by
  induction ts with
  | nil => rfl
  | cons c t ih =>
    show (Jvm.Cond.and c (allAtoms t)).before a st = _
    rw [Jvm.Cond.before_and, ih, List.all_cons]
def words1 : List Jvm.Cond := Jvm.Cond.code x code maxLocals ret :: tables_1
/-- a 'code' word, met by the world's own term for the bytes: nothing is compared byte by byte -/
theorem code_word {y : MethodName} {bytes : ByteArray} {mx : Nat} {rt : Option FieldType} {a : Array Value} {s : State} {m : MethodId} {meth : Method} {c : Code} (h1 : s.methodNamed? y = some m) (h2 : s.vm.method? m = some meth) (h3 : meth.code = some c) (h4 : c.code = bytes)
    (h5 : (c.maxLocals == mx && c.exceptionTable.isEmpty && decide (c.maxStack ≤ mostOperands) && decide (meth.sig.returnType = rt) && !meth.locks && decide (parseMethodDescriptor y.desc = some meth.sig)) = true) : (Jvm.Cond.code y bytes mx rt).before a s = true := by
  simp only [Bool.and_eq_true, beq_iff_eq, Bool.not_eq_true', decide_eq_true_eq] at h5
  obtain ⟨⟨⟨⟨⟨g1, g2⟩, g3⟩, g4⟩, g5⟩, g6⟩ := h5
  simp [Cond.before, Cond.holds, Cond.value, h1, h2, h3, h4, g1, g2, g3, g4, g5, g6]
def isCode : Jvm.Cond → Bool
  | .code _ _ _ _ => true
  | _ => false
theorem all_split {L : List Jvm.Cond} {P : Jvm.Cond → Bool} (h1 : L.all (fun c => isCode c || P c) = true) (h2 : ∀ c ∈ L.filter isCode, P c = true) : L.all P = true := by
  refine List.all_eq_true.mpr fun c hc => ?_
  have h := List.all_eq_true.mp h1 c hc
  rcases Bool.eq_false_or_eq_true (isCode c) with hi | hi
  · exact h2 c (List.mem_filter.mpr ⟨hc, hi⟩)
  · simpa [hi] using h
set_option maxRecDepth 65536 in
theorem w_c0 : (Jvm.Cond.code x code maxLocals ret).before args0 about1 = true := code_word (m := ⟨1, 1⟩) (meth := k1m1) (c := k1c1) (by decide +kernel) rfl rfl rfl (by decide +kernel)
set_option maxRecDepth 65536 in
theorem w_c1 : (Jvm.Cond.code ({ cls := "com/example/robust_broker/robustbroker/Postings", name := "<init>", desc := "()V" } : Jvm.MethodName) prog_26_method_1_code (1 : Nat) (Option.none : Option Jvm.ClassFile.FieldType)).before args0 about1 = true := code_word (m := ⟨2, 0⟩) (meth := k2m0) (c := k2c0) (by decide +kernel) rfl rfl rfl (by decide +kernel)
set_option maxRecDepth 65536 in
theorem w_c2 : (Jvm.Cond.code ({ cls := "java/lang/Object", name := "<init>", desc := "()V" } : Jvm.MethodName) object_method_1_code (1 : Nat) (Option.none : Option Jvm.ClassFile.FieldType)).before args0 about1 = true := code_word (m := ⟨0, 0⟩) (meth := k0m0) (c := k0c0) (by decide +kernel) rfl rfl rfl (by decide +kernel)
set_option maxRecDepth 65536 in
theorem w_c3 : (Jvm.Cond.code ({ cls := "com/example/robust_broker/robustbroker/Postings", name := "trim", desc := "()V" } : Jvm.MethodName) prog_26_method_3_code (1 : Nat) (Option.none : Option Jvm.ClassFile.FieldType)).before args0 about1 = true := code_word (m := ⟨2, 2⟩) (meth := k2m2) (c := k2c2) (by decide +kernel) rfl rfl rfl (by decide +kernel)
set_option maxRecDepth 65536 in
theorem w_c4 : (Jvm.Cond.code ({ cls := "java/util/Arrays", name := "copyOf", desc := "([II)[I" } : Jvm.MethodName) jdk_65_method_123_code (3 : Nat) (Option.some (Jvm.ClassFile.FieldType.array Jvm.ClassFile.FieldType.int))).before args0 about1 = true := code_word (m := ⟨3, 1⟩) (meth := k3m1) (c := k3c1) (by decide +kernel) rfl rfl rfl (by decide +kernel)
set_option maxRecDepth 65536 in
theorem w_c5 : (Jvm.Cond.code ({ cls := "java/lang/Math", name := "min", desc := "(II)I" } : Jvm.MethodName) jdk_29_method_69_code (2 : Nat) (Option.some Jvm.ClassFile.FieldType.int)).before args0 about1 = true := code_word (m := ⟨4, 1⟩) (meth := k4m1) (c := k4c1) (by decide +kernel) rfl rfl rfl (by decide +kernel)
set_option maxRecDepth 65536 in
theorem w_c6 : (Jvm.Cond.code ({ cls := "com/example/robust_broker/robustbroker/Postings", name := "size", desc := "()I" } : Jvm.MethodName) prog_26_method_4_code (1 : Nat) (Option.some Jvm.ClassFile.FieldType.int)).before args0 about1 = true := code_word (m := ⟨2, 3⟩) (meth := k2m3) (c := k2c3) (by decide +kernel) rfl rfl rfl (by decide +kernel)
set_option maxRecDepth 65536 in
theorem w_c7 : (Jvm.Cond.code ({ cls := "com/example/robust_broker/robustbroker/Postings", name := "collectionFrequency", desc := "()J" } : Jvm.MethodName) prog_26_method_7_code (1 : Nat) (Option.some Jvm.ClassFile.FieldType.long)).before args0 about1 = true := code_word (m := ⟨2, 6⟩) (meth := k2m6) (c := k2c6) (by decide +kernel) rfl rfl rfl (by decide +kernel)
set_option maxRecDepth 65536 in
theorem w_c8 : (Jvm.Cond.code ({ cls := "com/example/robust_broker/robustbroker/Postings", name := "add", desc := "(II)V" } : Jvm.MethodName) prog_26_method_2_code (3 : Nat) (Option.none : Option Jvm.ClassFile.FieldType)).before args0 about1 = true := code_word (m := ⟨2, 1⟩) (meth := k2m1) (c := k2c1) (by decide +kernel) rfl rfl rfl (by decide +kernel)
set_option maxRecDepth 65536 in
theorem w_c9 : (Jvm.Cond.code ({ cls := "com/example/robust_broker/robustbroker/Postings", name := "document", desc := "(I)I" } : Jvm.MethodName) prog_26_method_5_code (2 : Nat) (Option.some Jvm.ClassFile.FieldType.int)).before args0 about1 = true := code_word (m := ⟨2, 4⟩) (meth := k2m4) (c := k2c4) (by decide +kernel) rfl rfl rfl (by decide +kernel)
set_option maxRecDepth 65536 in
theorem w_c10 : (Jvm.Cond.code ({ cls := "com/example/robust_broker/robustbroker/Postings", name := "frequency", desc := "(I)I" } : Jvm.MethodName) prog_26_method_6_code (2 : Nat) (Option.some Jvm.ClassFile.FieldType.int)).before args0 about1 = true := code_word (m := ⟨2, 5⟩) (meth := k2m5) (c := k2c5) (by decide +kernel) rfl rfl rfl (by decide +kernel)
def codes1 : List Jvm.Cond := [Jvm.Cond.code x code maxLocals ret, Jvm.Cond.code ({ cls := "com/example/robust_broker/robustbroker/Postings", name := "<init>", desc := "()V" } : Jvm.MethodName) prog_26_method_1_code (1 : Nat) (Option.none : Option Jvm.ClassFile.FieldType), Jvm.Cond.code ({ cls := "java/lang/Object", name := "<init>", desc := "()V" } : Jvm.MethodName) object_method_1_code (1 : Nat) (Option.none : Option Jvm.ClassFile.FieldType), Jvm.Cond.code ({ cls := "com/example/robust_broker/robustbroker/Postings", name := "trim", desc := "()V" } : Jvm.MethodName) prog_26_method_3_code (1 : Nat) (Option.none : Option Jvm.ClassFile.FieldType), Jvm.Cond.code ({ cls := "java/util/Arrays", name := "copyOf", desc := "([II)[I" } : Jvm.MethodName) jdk_65_method_123_code (3 : Nat) (Option.some (Jvm.ClassFile.FieldType.array Jvm.ClassFile.FieldType.int)), Jvm.Cond.code ({ cls := "java/lang/Math", name := "min", desc := "(II)I" } : Jvm.MethodName) jdk_29_method_69_code (2 : Nat) (Option.some Jvm.ClassFile.FieldType.int), Jvm.Cond.code ({ cls := "com/example/robust_broker/robustbroker/Postings", name := "size", desc := "()I" } : Jvm.MethodName) prog_26_method_4_code (1 : Nat) (Option.some Jvm.ClassFile.FieldType.int), Jvm.Cond.code ({ cls := "com/example/robust_broker/robustbroker/Postings", name := "collectionFrequency", desc := "()J" } : Jvm.MethodName) prog_26_method_7_code (1 : Nat) (Option.some Jvm.ClassFile.FieldType.long), Jvm.Cond.code ({ cls := "com/example/robust_broker/robustbroker/Postings", name := "add", desc := "(II)V" } : Jvm.MethodName) prog_26_method_2_code (3 : Nat) (Option.none : Option Jvm.ClassFile.FieldType), Jvm.Cond.code ({ cls := "com/example/robust_broker/robustbroker/Postings", name := "document", desc := "(I)I" } : Jvm.MethodName) prog_26_method_5_code (2 : Nat) (Option.some Jvm.ClassFile.FieldType.int), Jvm.Cond.code ({ cls := "com/example/robust_broker/robustbroker/Postings", name := "frequency", desc := "(I)I" } : Jvm.MethodName) prog_26_method_6_code (2 : Nat) (Option.some Jvm.ClassFile.FieldType.int)]
set_option maxRecDepth 65536 in
theorem codes_eq : words1.filter isCode = codes1 := rfl
theorem w_codes : ∀ c ∈ words1.filter isCode, c.before args0 about1 = true := by
  rw [codes_eq]
  intro c hc
  simp only [codes1, List.mem_cons, List.not_mem_nil, or_false] at hc
  rcases hc with rfl | rfl | rfl | rfl | rfl | rfl | rfl | rfl | rfl | rfl | rfl
  · exact w_c0
  · exact w_c1
  · exact w_c2
  · exact w_c3
  · exact w_c4
  · exact w_c5
  · exact w_c6
  · exact w_c7
  · exact w_c8
  · exact w_c9
  · exact w_c10
set_option maxRecDepth 65536 in
theorem w_t1 : (words1.take 24).all (fun c => isCode c || c.before args0 about1) = true := by decide +kernel
set_option maxRecDepth 65536 in
theorem w_t2 : ((words1.drop 24).take 24).all (fun c => isCode c || c.before args0 about1) = true := by decide +kernel
set_option maxRecDepth 65536 in
theorem w_t3 : ((words1.drop 24).drop 24).all (fun c => isCode c || c.before args0 about1) = true := by decide +kernel
theorem w_tables : (allAtoms (Jvm.Cond.code x code maxLocals ret :: tables_1)).before args0 about1 = true := by
  rw [allAtoms_all]
  show words1.all (fun c => c.before args0 about1) = true
  refine all_split ?_ w_codes
  rw [← List.take_append_drop 24 words1, List.all_append, w_t1, ← List.take_append_drop 24 (words1.drop 24), List.all_append, w_t2, w_t3]
  rfl
set_option maxRecDepth 65536 in
theorem w_case : (Jvm.Cond.and given_1 narrow_1).before args0 about1 = true := by decide +kernel
theorem w_applies : (headSpec (Jvm.Cond.code x code maxLocals ret :: tables_1) room_1).applies x e0.platform about1 = true :=
  (Spec.applies_iff w_frames).mpr ⟨w_running, w_runnable, w_alone, w_named, w_hears, w_ripe, w_room, w_tables⟩
theorem atStart : AtStart classFile x code maxLocals ret World_1 tables_1 room_1 Calls_1 rest_1 Pre_1 launch0 p0 e0 about1 theMethod args0 below0 :=
  ⟨lists_1, trivial, launch0.admits_env _ _ _, launch0.least_env, fairChoices_fair.cas, fairChoices_fair.clock, w_frames, w_args, w_heap, w_applies, trivial, trivial, w_case⟩
end start1
theorem witness_1 : WitnessClaimed_1 := ⟨start1.p0, start1.e0, start1.about1, start1.theMethod, start1.args0, start1.below0, start1.atStart⟩
end Jvm.Pilot.@@N@@
