import JvmDerived
import JvmDerived.Pilot.@@N@@Statement
import JvmDerived.Pilot.@@N@@Code
set_option linter.unusedVariables false
set_option linter.unusedSimpArgs false
namespace Jvm.Pilot.@@N@@
open Jvm Jvm.ClassFile Sem Op Lib Jvm.Free Jvm.Stand Jvm.LawKit Jvm.RoadKit Bundle Jvm.Pilot.@@N@@.Jvm.D
/-! A walk as one goal: from the state U the run comes to an end that answers Q. -/
section Kit
def Go (p : Program) (e : Env) (below : List Frame) (s : State) (Q : Option Value → Heap → List Loc → Prop) (C N : Nat) (U : State) : Prop :=
  ∃ s₂ o, Steps p.tables e below U s₂ ∧ s₂.status = .running ∧ Ended s₂ below o ∧ ∃ v L, o = .returned v ∧ Q v s₂.heap L ∧ FrameEnd s o s₂ L C N
variable {p : Program} {l : Launch} {e : Env} {R : Room} {s : State} {m : MethodId} {args : Array Value} {below : List Frame} {meth : Method} {c : Code} {T : State} {locs : List Loc} {cells slots : Nat} {Q : Option Value → Heap → List Loc → Prop} {C N : Nat}
abbrev gO {p : Program} {e : Env} {below : List Frame} {s : State} {Q : Option Value → Heap → List Loc → Prop} {C N : Nat} (U : State) : Prop := Go p e below s Q C N U
abbrev tF (T : State) (m : MethodId) (pc : Nat) (ls : Array Slot) (st : List Value) : State := T.setTop (mkF m pc ls st)
theorem gob {U U' : State} (h : ∀ t, Steps p.tables e below U' t → Steps p.tables e below U t) (k : Go p e below s Q C N U') : Go p e below s Q C N U := by
  obtain ⟨s₂, o, h1, r⟩ := k
  exact ⟨s₂, o, h _ h1, r⟩
theorem goZ (X : Stand p l e R s m args below meth c T locs cells slots) (hx : p.tables.exec = Jvm.exec) (hlk : meth.locks = false) {t : FieldType} {pc : Nat} {Ls : Array Slot} {z z' : Int32} {rest : List Value} (hret : meth.sig.returnType = some t) (ht : t = .boolean ∨ t = .byte ∨ t = .char ∨ t = .short) (hd : decode c.code pc = .ok (.ireturn, 1)) (hz : nar t z = z') (hq : Q (some (.int z')) T.heap locs) (hc : cells ≤ C) (hn : slots ≤ N) :
    Go p e below s Q C N (T.setTop (mkF m pc Ls (.int z :: rest))) := by
  subst hz
  obtain ⟨fs, hr, hrun, hended, hW, hsame⟩ := X.leave (v := some (.int (nar t z))) (fun h => by rw [hret] at h; cases h) hlk
  exact ⟨_, _, retN X hx hret ht hd hr, hrun, hended, _, _, rfl, hq, ⟨_, rfl⟩, hW, hsame.mono hc hn⟩
theorem goI (X : Stand p l e R s m args below meth c T locs cells slots) (hx : p.tables.exec = Jvm.exec) (hlk : meth.locks = false) {pc : Nat} {Ls : Array Slot} {z : Int32} {rest : List Value} (hret : meth.sig.returnType = some .int) (hd : decode c.code pc = .ok (.ireturn, 1)) (hq : Q (some (.int z)) T.heap locs) (hc : cells ≤ C) (hn : slots ≤ N) :
    Go p e below s Q C N (T.setTop (mkF m pc Ls (.int z :: rest))) := by
  obtain ⟨fs, hr, hrun, hended, hW, hsame⟩ := X.leave (v := some (.int z)) (fun h => by rw [hret] at h; cases h) hlk
  exact ⟨_, _, retOut X hx hret rfl (Or.inl ⟨rfl, Or.inl rfl, z, rfl⟩) hd hr, hrun, hended, _, _, rfl, hq, ⟨_, rfl⟩, hW, hsame.mono hc hn⟩
theorem goJ (X : Stand p l e R s m args below meth c T locs cells slots) (hx : p.tables.exec = Jvm.exec) (hlk : meth.locks = false) {pc : Nat} {Ls : Array Slot} {z : Int64} {rest : List Value} (hret : meth.sig.returnType = some .long) (hd : decode c.code pc = .ok (.lreturn, 1)) (hq : Q (some (.long z)) T.heap locs) (hc : cells ≤ C) (hn : slots ≤ N) :
    Go p e below s Q C N (T.setTop (mkF m pc Ls (.long z :: rest))) := by
  obtain ⟨fs, hr, hrun, hended, hW, hsame⟩ := X.leave (v := some (.long z)) (fun h => by rw [hret] at h; cases h) hlk
  exact ⟨_, _, retOut X hx hret rfl (Or.inr (Or.inl ⟨rfl, rfl, z, rfl⟩)) hd hr, hrun, hended, _, _, rfl, hq, ⟨_, rfl⟩, hW, hsame.mono hc hn⟩
theorem goD (X : Stand p l e R s m args below meth c T locs cells slots) (hx : p.tables.exec = Jvm.exec) (hlk : meth.locks = false) {pc : Nat} {Ls : Array Slot} {z : UInt64} {rest : List Value} (hret : meth.sig.returnType = some .double) (hd : decode c.code pc = .ok (.dreturn, 1)) (hq : Q (some (.double z)) T.heap locs) (hc : cells ≤ C) (hn : slots ≤ N) :
    Go p e below s Q C N (T.setTop (mkF m pc Ls (.double z :: rest))) := by
  obtain ⟨fs, hr, hrun, hended, hW, hsame⟩ := X.leave (v := some (.double z)) (fun h => by rw [hret] at h; cases h) hlk
  exact ⟨_, _, retOut X hx hret rfl (Or.inr (Or.inr (Or.inl ⟨rfl, rfl, z, rfl⟩))) hd hr, hrun, hended, _, _, rfl, hq, ⟨_, rfl⟩, hW, hsame.mono hc hn⟩
theorem goA (X : Stand p l e R s m args below meth c T locs cells slots) (hx : p.tables.exec = Jvm.exec) (hlk : meth.locks = false) {t : FieldType} {pc : Nat} {Ls : Array Slot} {z : Value} {rest : List Value} (hret : meth.sig.returnType = some t) (ht : t.isReference = true) (hv : z.isRef = true) (hd : decode c.code pc = .ok (.areturn, 1)) (hq : Q (some z) T.heap locs) (hc : cells ≤ C) (hn : slots ≤ N) :
    Go p e below s Q C N (T.setTop (mkF m pc Ls (z :: rest))) := by
  obtain ⟨fs, hr, hrun, hended, hW, hsame⟩ := X.leave (v := some z) (fun h => by rw [hret] at h; cases h) hlk
  have hnw : narrow t z = z := by cases z <;> cases t <;> first | rfl | (simp [Value.isRef] at hv) | (simp [FieldType.isReference] at ht)
  exact ⟨_, _, retOut X hx hret hnw (Or.inr (Or.inr (Or.inr (Or.inr ⟨rfl, ht, hv⟩)))) hd hr, hrun, hended, _, _, rfl, hq, ⟨_, rfl⟩, hW, hsame.mono hc hn⟩
theorem goV (X : Stand p l e R s m args below meth c T locs cells slots) (hx : p.tables.exec = Jvm.exec) (hlk : meth.locks = false) {pc : Nat} {Ls : Array Slot} (hret : meth.sig.returnType = none) (hd : decode c.code pc = .ok (.return_, 1)) (hq : Q none T.heap locs) (hc : cells ≤ C) (hn : slots ≤ N) :
    Go p e below s Q C N (T.setTop (mkF m pc Ls [])) := by
  obtain ⟨fs, hr, hrun, hended, hW, hsame⟩ := X.leave (v := none) (fun _ => rfl) hlk
  exact ⟨_, _, X.returnOut hx hret hd hr, hrun, hended, _, _, rfl, hq, ⟨_, rfl⟩, hW, hsame.mono hc hn⟩
theorem lremM {g : JFrame} {target : State} (X : Stand p l e R s m args below meth c T locs cells slots) (hx : p.tables.exec = Jvm.exec) (hg : g.method = m) {x y : Int64} {rest : List Value} (hd : decode c.code g.pc = .ok (.lrem, 1)) (hs : g.stack = .long y :: .long x :: rest) (hy : y ≠ 0)
    (hr : Steps p.tables e below (T.setTop { g with pc := g.pc + 1, stack := .long (x % y) :: rest }) target) : Steps p.tables e below (T.setTop g) target :=
  XS.lrem X.here hx hg hd hs hy (by rw [lrem_mod x y]; exact hr)
theorem own_lrem (x y : Int64) (d : Int) (hy : y.toInt = d) : (0 ≤ x.toInt → (x % y).toInt = x.toInt % d) ∧ (x.toInt < 0 → (x % y).toInt = -((-x.toInt) % d)) := by rw [Int64.toInt_mod, hy]; exact tr _ _
theorem own_lxor (x y : Int64) (hy : 0 ≤ y.toInt) : ((x ^^^ y).toInt < 0 ↔ x.toInt < 0) := by
  have h1 : (x ^^^ y).toBitVec.msb = (x.toBitVec.msb ^^ y.toBitVec.msb) := by rw [Int64.toBitVec_xor, BitVec.msb_xor]
  have h2 := BitVec.msb_eq_toInt (x := (x ^^^ y).toBitVec)
  have h3 := BitVec.msb_eq_toInt (x := x.toBitVec)
  have h4 := BitVec.msb_eq_toInt (x := y.toBitVec)
  have e1 : (x ^^^ y).toBitVec.toInt = (x ^^^ y).toInt := rfl
  have e2 : x.toBitVec.toInt = x.toInt := rfl
  have e3 : y.toBitVec.toInt = y.toInt := rfl
  rw [e1] at h2
  rw [e2] at h3
  rw [e3] at h4
  have h5 : ¬ y.toInt < 0 := by omega
  rw [h2, h3, h4, decide_eq_false h5, Bool.xor_false] at h1
  simpa using h1
theorem pop2L {g : JFrame} {target : State} (X : Stand p l e R s m args below meth c T locs cells slots) (hx : p.tables.exec = Jvm.exec) (hg : g.method = m) {x : Int64} {rest : List Value} (hd : decode c.code g.pc = .ok (.pop2, 1)) (hs : g.stack = .long x :: rest)
    (hr : Steps p.tables e below (T.setTop { g with pc := g.pc + 1, stack := rest }) target) : Steps p.tables e below (T.setTop g) target := by
  subst hg
  jvm_step X.here [X.here.top, hx, hd, hs, Value.category]
  exact hr
theorem own_staKeep {Z : State} {h h' : Heap} {C n d : String} {v : Value} {ws : List Addr} (F : Sta Z h C n d v) (K : Keep h h' ws) (hn : ∀ x ∈ ws, ∀ cell : Cell, h[x]? = some cell → cell.vm.isStatics = false) : Sta Z h' C n d v := by
  obtain ⟨cf, i, k, f, st, cell, h1, h2, h3, h4, h5, h6, h7⟩ := F
  exact ⟨cf, i, k, f, st, cell, h1, h2, h3, h4, K.2.1 _ _ h5 (fun q => by have q2 := hn _ q _ h5; rw [h6] at q2; cases q2), h6, h7⟩
theorem own_lmulR (x y : Int64) (d : Int) (hy : y.toInt = d) : ((x * y).toInt - x.toInt * d) % 18446744073709551616 = 0 := by rw [← hy]; exact c_lmul x y
theorem own_lmulL (x y : Int64) (d : Int) (hx : x.toInt = d) : ((x * y).toInt - d * y.toInt) % 18446744073709551616 = 0 := by rw [← hx]; exact c_lmul x y
theorem own_imulR (x y : Int32) (d : Int) (hy : y.toInt = d) : ((x * y).toInt - x.toInt * d) % 4294967296 = 0 := by rw [← hy]; exact c_imul x y
theorem own_imulL (x y : Int32) (d : Int) (hx : x.toInt = d) : ((x * y).toInt - d * y.toInt) % 4294967296 = 0 := by rw [← hx]; exact c_imul x y
theorem castX {k' n' : Nat} (X : Stand p l e R s m args below meth c T locs cells slots) (h1 : cells = k') (h2 : slots = n') : Stand p l e R s m args below meth c T locs k' n' := by
  subst h1
  subst h2
  exact X
theorem hW {Z : State} {a0 : Array Value} (hw : ∀ d ∈ tables_1, d.before a0 Z = true) (i : Nat) {d : Jvm.Cond} (h : tables_1[i]? = some d) : d.before a0 Z = true := hw _ (List.mem_of_getElem? h)
end Kit

open Jvm.Free.Fl (Mag64 i2d_mag)
theorem own_dmul {Ka Kb K : Nat} {a b : UInt64} (ha : Mag64 Ka a) (hb : Mag64 Kb b) (h1 : Ka ≤ 2047) (h2 : Kb ≤ 2047) (hK : Ka + Kb - 1025 + 3 = K) : Mag64 K (FP.dmul a b) := by
  subst hK
  exact Jvm.Free.Fl.dmul_mag ha hb h1 h2
theorem own_dadd {K K' : Nat} {a b : UInt64} (ha : Mag64 K a) (hb : Mag64 K b) (h1 : K ≤ 2047) (hK : K + 2 = K') : Mag64 K' (FP.dadd a b) := by
  subst hK
  exact Jvm.Free.Fl.dadd_mag ha hb h1
theorem own_m0 : Mag64 1 (0 : UInt64) := by
  unfold Mag64
  decide
theorem own_nn0 : Jvm.Free.Fl.NoNaN64 (0 : UInt64) := by
  unfold Jvm.Free.Fl.NoNaN64
  decide

abbrev la0 (a0 : Addr) (a1 : Addr) : Array Slot := #[.val (.ref a0), .val (.ref a1), .unset, .unset, .unset]
abbrev la1 (a0 : Addr) (a1 : Addr) (a2 : UInt64) : Array Slot := #[.val (.ref a0), .val (.ref a1), .val (.double a2), .second, .unset]
abbrev la2 (a0 : Addr) (a1 : Addr) (a2 : UInt64) (a4 : Int32) : Array Slot := #[.val (.ref a0), .val (.ref a1), .val (.double a2), .second, .val (.int a4)]
abbrev la3 (a0 : Int32) (a1 : Int64) (a3 : Int64) (a5 : Int64) (a7 : Int64) : Array Slot := #[.val (.int a0), .val (.long a1), .second, .val (.long a3), .second, .val (.long a5), .second, .val (.long a7), .second, .unset, .unset, .unset, .unset, .unset, .unset, .unset, .unset, .unset, .unset, .unset, .unset]
abbrev la4 (a0 : Int32) (a1 : Int64) (a3 : Int64) (a5 : Int64) (a7 : Int64) (a9 : Int32) : Array Slot := #[.val (.int a0), .val (.long a1), .second, .val (.long a3), .second, .val (.long a5), .second, .val (.long a7), .second, .val (.int a9), .unset, .unset, .unset, .unset, .unset, .unset, .unset, .unset, .unset, .unset, .unset]
abbrev la5 (a0 : Int32) (a1 : Int64) (a3 : Int64) (a5 : Int64) (a7 : Int64) (a9 : Int32) (a10 : Addr) : Array Slot := #[.val (.int a0), .val (.long a1), .second, .val (.long a3), .second, .val (.long a5), .second, .val (.long a7), .second, .val (.int a9), .val (.ref a10), .unset, .unset, .unset, .unset, .unset, .unset, .unset, .unset, .unset, .unset]
abbrev la6 (a0 : Int32) (a1 : Int64) (a3 : Int64) (a5 : Int64) (a7 : Int64) (a9 : Int32) (a10 : Addr) (a11 : Addr) : Array Slot := #[.val (.int a0), .val (.long a1), .second, .val (.long a3), .second, .val (.long a5), .second, .val (.long a7), .second, .val (.int a9), .val (.ref a10), .val (.ref a11), .unset, .unset, .unset, .unset, .unset, .unset, .unset, .unset, .unset]
abbrev la7 (a0 : Int32) (a1 : Int64) (a3 : Int64) (a5 : Int64) (a7 : Int64) (a9 : Int32) (a10 : Addr) (a11 : Addr) (a12 : Addr) : Array Slot := #[.val (.int a0), .val (.long a1), .second, .val (.long a3), .second, .val (.long a5), .second, .val (.long a7), .second, .val (.int a9), .val (.ref a10), .val (.ref a11), .val (.ref a12), .unset, .unset, .unset, .unset, .unset, .unset, .unset, .unset]
abbrev la8 (a0 : Int32) (a1 : Int64) (a3 : Int64) (a5 : Int64) (a7 : Int64) (a9 : Int32) (a10 : Addr) (a11 : Addr) (a12 : Addr) (a13 : Int32) : Array Slot := #[.val (.int a0), .val (.long a1), .second, .val (.long a3), .second, .val (.long a5), .second, .val (.long a7), .second, .val (.int a9), .val (.ref a10), .val (.ref a11), .val (.ref a12), .val (.int a13), .unset, .unset, .unset, .unset, .unset, .unset, .unset]
abbrev la9 (a0 : Int32) (a1 : Int64) (a3 : Int64) (a5 : Int64) (a7 : Int64) (a9 : Int32) (a10 : Addr) (a11 : Addr) (a12 : Addr) (a13 : Int32) (a14 : Addr) : Array Slot := #[.val (.int a0), .val (.long a1), .second, .val (.long a3), .second, .val (.long a5), .second, .val (.long a7), .second, .val (.int a9), .val (.ref a10), .val (.ref a11), .val (.ref a12), .val (.int a13), .val (.ref a14), .unset, .unset, .unset, .unset, .unset, .unset]
abbrev la10 (a0 : Int32) (a1 : Int64) (a3 : Int64) (a5 : Int64) (a7 : Int64) (a9 : Int32) (a10 : Addr) (a11 : Addr) (a12 : Addr) (a13 : Int32) (a14 : Addr) (a15 : Addr) : Array Slot := #[.val (.int a0), .val (.long a1), .second, .val (.long a3), .second, .val (.long a5), .second, .val (.long a7), .second, .val (.int a9), .val (.ref a10), .val (.ref a11), .val (.ref a12), .val (.int a13), .val (.ref a14), .val (.ref a15), .unset, .unset, .unset, .unset, .unset]
abbrev la11 (a0 : Int32) (a1 : Int64) (a3 : Int64) (a5 : Int64) (a7 : Int64) (a9 : Int32) (a10 : Addr) (a11 : Addr) (a12 : Addr) (a13 : Int32) (a14 : Addr) (a15 : Addr) (a16 : UInt64) : Array Slot := #[.val (.int a0), .val (.long a1), .second, .val (.long a3), .second, .val (.long a5), .second, .val (.long a7), .second, .val (.int a9), .val (.ref a10), .val (.ref a11), .val (.ref a12), .val (.int a13), .val (.ref a14), .val (.ref a15), .val (.double a16), .second, .unset, .unset, .unset]
abbrev la12 (a0 : Int32) (a1 : Int64) (a3 : Int64) (a5 : Int64) (a7 : Int64) (a9 : Int32) (a10 : Addr) (a11 : Addr) (a12 : Addr) (a13 : Int32) (a14 : Addr) (a15 : Addr) (a16 : UInt64) (a18 : Addr) : Array Slot := #[.val (.int a0), .val (.long a1), .second, .val (.long a3), .second, .val (.long a5), .second, .val (.long a7), .second, .val (.int a9), .val (.ref a10), .val (.ref a11), .val (.ref a12), .val (.int a13), .val (.ref a14), .val (.ref a15), .val (.double a16), .second, .val (.ref a18), .unset, .unset]
abbrev la13 (a0 : Int32) (a1 : Int64) (a3 : Int64) (a5 : Int64) (a7 : Int64) (a9 : Int32) (a10 : Addr) (a11 : Addr) (a12 : Addr) (a13 : Int32) (a14 : Addr) (a15 : Addr) (a16 : UInt64) (a18 : Addr) (a19 : UInt64) : Array Slot := #[.val (.int a0), .val (.long a1), .second, .val (.long a3), .second, .val (.long a5), .second, .val (.long a7), .second, .val (.int a9), .val (.ref a10), .val (.ref a11), .val (.ref a12), .val (.int a13), .val (.ref a14), .val (.ref a15), .val (.double a16), .second, .val (.ref a18), .val (.double a19), .second]
theorem d1_0 : decode method_2_code 0 = .ok (.iload_n 1, 1) := by decide +kernel
theorem d1_1 : decode method_2_code 1 = .ok (.ifCond .ne 7, 3) := by decide +kernel
theorem d1_4 : decode method_2_code 4 = .ok (.iconst 0, 1) := by decide +kernel
theorem d1_5 : decode method_2_code 5 = .ok (.newarray .int, 2) := by decide +kernel
theorem d1_7 : decode method_2_code 7 = .ok (.areturn, 1) := by decide +kernel
theorem d1_8 : decode method_2_code 8 = .ok (.iload_n 1, 1) := by decide +kernel
theorem d1_9 : decode method_2_code 9 = .ok (.iconst 1, 1) := by decide +kernel
theorem d1_10 : decode method_2_code 10 = .ok (.if_icmp .ne 13, 3) := by decide +kernel
theorem d1_13 : decode method_2_code 13 = .ok (.iconst 1, 1) := by decide +kernel
theorem d1_14 : decode method_2_code 14 = .ok (.newarray .int, 2) := by decide +kernel
theorem d1_16 : decode method_2_code 16 = .ok (.dup, 1) := by decide +kernel
theorem d1_17 : decode method_2_code 17 = .ok (.iconst 0, 1) := by decide +kernel
theorem d1_18 : decode method_2_code 18 = .ok (.aload_n 0, 1) := by decide +kernel
theorem d1_19 : decode method_2_code 19 = .ok (.iconst 0, 1) := by decide +kernel
theorem d1_20 : decode method_2_code 20 = .ok (.iaload, 1) := by decide +kernel
theorem d1_21 : decode method_2_code 21 = .ok (.iastore, 1) := by decide +kernel
theorem d1_22 : decode method_2_code 22 = .ok (.areturn, 1) := by decide +kernel
theorem d1_23 : decode method_2_code 23 = .ok (.iload_n 1, 1) := by decide +kernel
theorem d1_24 : decode method_2_code 24 = .ok (.iconst 2, 1) := by decide +kernel
theorem d1_25 : decode method_2_code 25 = .ok (.if_icmp .ne 19, 3) := by decide +kernel
theorem d1_28 : decode method_2_code 28 = .ok (.iconst 2, 1) := by decide +kernel
theorem d1_29 : decode method_2_code 29 = .ok (.newarray .int, 2) := by decide +kernel
theorem d1_31 : decode method_2_code 31 = .ok (.dup, 1) := by decide +kernel
theorem d1_32 : decode method_2_code 32 = .ok (.iconst 0, 1) := by decide +kernel
theorem d1_33 : decode method_2_code 33 = .ok (.aload_n 0, 1) := by decide +kernel
theorem d1_34 : decode method_2_code 34 = .ok (.iconst 0, 1) := by decide +kernel
theorem d1_35 : decode method_2_code 35 = .ok (.iaload, 1) := by decide +kernel
theorem d1_36 : decode method_2_code 36 = .ok (.iastore, 1) := by decide +kernel
theorem d1_37 : decode method_2_code 37 = .ok (.dup, 1) := by decide +kernel
theorem d1_38 : decode method_2_code 38 = .ok (.iconst 1, 1) := by decide +kernel
theorem d1_39 : decode method_2_code 39 = .ok (.aload_n 0, 1) := by decide +kernel
theorem d1_40 : decode method_2_code 40 = .ok (.iconst 1, 1) := by decide +kernel
theorem d1_41 : decode method_2_code 41 = .ok (.iaload, 1) := by decide +kernel
theorem d1_42 : decode method_2_code 42 = .ok (.iastore, 1) := by decide +kernel
theorem d1_43 : decode method_2_code 43 = .ok (.areturn, 1) := by decide +kernel
theorem d1_44 : decode method_2_code 44 = .ok (.iload_n 1, 1) := by decide +kernel
theorem d1_45 : decode method_2_code 45 = .ok (.iconst 3, 1) := by decide +kernel
theorem d1_46 : decode method_2_code 46 = .ok (.if_icmp .ne 25, 3) := by decide +kernel
theorem d1_49 : decode method_2_code 49 = .ok (.iconst 3, 1) := by decide +kernel
theorem d1_50 : decode method_2_code 50 = .ok (.newarray .int, 2) := by decide +kernel
theorem d1_52 : decode method_2_code 52 = .ok (.dup, 1) := by decide +kernel
theorem d1_53 : decode method_2_code 53 = .ok (.iconst 0, 1) := by decide +kernel
theorem d1_54 : decode method_2_code 54 = .ok (.aload_n 0, 1) := by decide +kernel
theorem d1_55 : decode method_2_code 55 = .ok (.iconst 0, 1) := by decide +kernel
theorem d1_56 : decode method_2_code 56 = .ok (.iaload, 1) := by decide +kernel
theorem d1_57 : decode method_2_code 57 = .ok (.iastore, 1) := by decide +kernel
theorem d1_58 : decode method_2_code 58 = .ok (.dup, 1) := by decide +kernel
theorem d1_59 : decode method_2_code 59 = .ok (.iconst 1, 1) := by decide +kernel
theorem d1_60 : decode method_2_code 60 = .ok (.aload_n 0, 1) := by decide +kernel
theorem d1_61 : decode method_2_code 61 = .ok (.iconst 1, 1) := by decide +kernel
theorem d1_62 : decode method_2_code 62 = .ok (.iaload, 1) := by decide +kernel
theorem d1_63 : decode method_2_code 63 = .ok (.iastore, 1) := by decide +kernel
theorem d1_64 : decode method_2_code 64 = .ok (.dup, 1) := by decide +kernel
theorem d1_65 : decode method_2_code 65 = .ok (.iconst 2, 1) := by decide +kernel
theorem d1_66 : decode method_2_code 66 = .ok (.aload_n 0, 1) := by decide +kernel
theorem d1_67 : decode method_2_code 67 = .ok (.iconst 2, 1) := by decide +kernel
theorem d1_68 : decode method_2_code 68 = .ok (.iaload, 1) := by decide +kernel
theorem d1_69 : decode method_2_code 69 = .ok (.iastore, 1) := by decide +kernel
theorem d1_70 : decode method_2_code 70 = .ok (.areturn, 1) := by decide +kernel
theorem d1_71 : decode method_2_code 71 = .ok (.iconst 4, 1) := by decide +kernel
theorem d1_72 : decode method_2_code 72 = .ok (.newarray .int, 2) := by decide +kernel
theorem d1_74 : decode method_2_code 74 = .ok (.dup, 1) := by decide +kernel
theorem d1_75 : decode method_2_code 75 = .ok (.iconst 0, 1) := by decide +kernel
theorem d1_76 : decode method_2_code 76 = .ok (.aload_n 0, 1) := by decide +kernel
theorem d1_77 : decode method_2_code 77 = .ok (.iconst 0, 1) := by decide +kernel
theorem d1_78 : decode method_2_code 78 = .ok (.iaload, 1) := by decide +kernel
theorem d1_79 : decode method_2_code 79 = .ok (.iastore, 1) := by decide +kernel
theorem d1_80 : decode method_2_code 80 = .ok (.dup, 1) := by decide +kernel
theorem d1_81 : decode method_2_code 81 = .ok (.iconst 1, 1) := by decide +kernel
theorem d1_82 : decode method_2_code 82 = .ok (.aload_n 0, 1) := by decide +kernel
theorem d1_83 : decode method_2_code 83 = .ok (.iconst 1, 1) := by decide +kernel
theorem d1_84 : decode method_2_code 84 = .ok (.iaload, 1) := by decide +kernel
theorem d1_85 : decode method_2_code 85 = .ok (.iastore, 1) := by decide +kernel
theorem d1_86 : decode method_2_code 86 = .ok (.dup, 1) := by decide +kernel
theorem d1_87 : decode method_2_code 87 = .ok (.iconst 2, 1) := by decide +kernel
theorem d1_88 : decode method_2_code 88 = .ok (.aload_n 0, 1) := by decide +kernel
theorem d1_89 : decode method_2_code 89 = .ok (.iconst 2, 1) := by decide +kernel
theorem d1_90 : decode method_2_code 90 = .ok (.iaload, 1) := by decide +kernel
theorem d1_91 : decode method_2_code 91 = .ok (.iastore, 1) := by decide +kernel
theorem d1_92 : decode method_2_code 92 = .ok (.dup, 1) := by decide +kernel
theorem d1_93 : decode method_2_code 93 = .ok (.iconst 3, 1) := by decide +kernel
theorem d1_94 : decode method_2_code 94 = .ok (.aload_n 0, 1) := by decide +kernel
theorem d1_95 : decode method_2_code 95 = .ok (.iconst 3, 1) := by decide +kernel
theorem d1_96 : decode method_2_code 96 = .ok (.iaload, 1) := by decide +kernel
theorem d1_97 : decode method_2_code 97 = .ok (.iastore, 1) := by decide +kernel
theorem d1_98 : decode method_2_code 98 = .ok (.areturn, 1) := by decide +kernel
theorem ef_pi0 (m : MethodId) (x0 : Addr) : entryFrame m #[(.ref x0), (.int 0)] 2 = mkF m 0 #[.val (.ref x0), .val (.int 0)] [] := by first | (simp [entryFrame, mkF, argsToLocals, Value.category]; done) | rfl
def Qpi0 (Z : State) (o0 : Addr) (k_e : ClassId) (e_0 : Int32) (e_1 : Int32) (e_2 : Int32) (e_3 : Int32) (h0 : Heap) (n0 : Nat) (v : Option Value) (h : Heap) (L : List Loc) : Prop := ∃ b1 : Addr, ∃ k1 : ClassId, v = some (.ref b1) ∧ Fr n0 L ∧ Keep h0 h ([] : List Addr) ∧ h0.size ≤ b1 ∧ Arv Z h b1 k1 .int (0 : Int32) [] (.int 0)
set_option maxRecDepth 65536 in
set_option maxHeartbeats 40000000 in
theorem rmpi0 (l : Launch) (Z : State) (a0 : Array Value) (hw : ∀ d ∈ tables_1, d.before a0 Z = true) (ws : List Jvm.Cond) (o0 : Addr) (k_e : ClassId) (e_0 : Int32) (e_1 : Int32) (e_2 : Int32) (e_3 : Int32) (h0 : Heap) (n0 : Nat) (Z0 : n0 ≤ h0.size) (V_e : Arv Z h0 o0 k_e .int (4 : Int32) [(.int e_0), (.int e_1), (.int e_2), (.int e_3)] (.int 0)) :
    MetFree l (⟨"com/example/fenda/fenda/analysis/CombinationOfPinLaw", "prefixInt", "([II)[I"⟩ : MethodName) (head1 (Jvm.Cond.code (⟨"com/example/fenda/fenda/analysis/CombinationOfPinLaw", "prefixInt", "([II)[I"⟩ : MethodName) method_2_code 2 (some (.array .int)) :: ws) ({ frames := 0, cells := 1, slots := 0, locals := 0 } : Room)) (fun a U => a = #[(.ref o0), (.int 0)] ∧ Z.Warmed39 U.vm ∧ U.heap = h0) (fun _ _ _ _ _ => True) (fun _ U o U' => ∃ v L, o = .returned v ∧ Qpi0 Z o0 k_e e_0 e_1 e_2 e_3 h0 n0 v U'.heap L ∧ FrameEnd U o U' L ({ frames := 0, cells := 1, slots := 0, locals := 0 } : Room).cells ({ frames := 0, cells := 1, slots := 0, locals := 0 } : Room).slots) := by
  refine MetFree.of_bodySF (plainFor_of_name (by first | (simp [plainName, overriddenIn]; done) | decide +kernel)) hisR ?_
  intro p e s m args below meth c s₁ Bd hml0 hP hK
  obtain ⟨rfl, hZ, hh⟩ := hP
  have hx := Bd.exec
  have hby := Bd.bytes
  have hml : c.maxLocals = 2 := hml0
  have hown : s.vm.findClass "com/example/fenda/fenda/analysis/CombinationOfPinLaw" = some m.cls := findClass_of_methodNamed Bd.named
  have hnm := (name_of_methodNamed Bd.named Bd.method).1
  have hlk := BodyLoose.notSynchronized Bd
  have X0 : Stand p l e ({ frames := 0, cells := 1, slots := 0, locals := 0 } : Room) s m #[(.ref o0), (.int 0)] below meth c s₁ [] 0 0 := Stand.of_body Bd
  have e0 : s₁.heap = h0 := by rw [← hh, Bd.state]; rfl
  have N0 := Fr.nil n0
  show Go p e below s (Qpi0 Z o0 k_e e_0 e_1 e_2 e_3 h0 n0) 1 0 (s₁.setTop (entryFrame m #[(.ref o0), (.int 0)] 2))
  rw [ef_pi0]
  show gO (tF s₁ m 0 #[.val (.ref o0), .val (.int 0)] [])
  refine gob (fun _ k => XS.iloadN X0.here hx rfl (hb hby d1_0) rfl k) ?_
  show gO (tF s₁ m 1 #[.val (.ref o0), .val (.int 0)] [(.int 0)])
  refine gob (fun _ k => XS.ifNo X0.here hx rfl (hb hby d1_1) rfl ((if0 _ _).trans (teq (by decide : (0 : Int32) = (0 : Int32))).2) k) ?_
  show gO (tF s₁ m 4 #[.val (.ref o0), .val (.int 0)] [])
  refine gob (fun _ k => XS.iconst X0.here hx rfl (hb hby d1_4) k) ?_
  show gO (tF s₁ m 5 #[.val (.ref o0), .val (.int 0)] [(.int 0)])
  obtain ⟨T1, h1, k1, X1, e1, E1, A1, st1⟩ := newP X0 hx hZ (hW hw 1 rfl) e0 (g := (mkF m 5 #[.val (.ref o0), .val (.int 0)] [(.int 0)])) rfl (hb hby d1_5) rfl (by decide) (cap := 0) (by decide) (by decide) (by decide) (by decide)
  obtain ⟨b1, g1⟩ : ∃ z, z = h0.size := ⟨_, rfl⟩
  rw [← g1] at A1 st1
  have n2 : o0 ≠ b1 := Nat.ne_of_lt (Nat.lt_of_lt_of_le V_e.lt (Nat.le_of_eq g1.symm))
  have g3 : n0 ≤ b1 := Nat.le_trans Z0 (Nat.le_of_eq g1.symm)
  have sz_b1 : h0.size ≤ b1 := Nat.le_trans (Keep.refl h0 []).1 (Nat.le_of_eq g1.symm)
  have z4 : n0 ≤ h1.size := Nat.le_trans Z0 E1.1
  have K5 : Keep h0 h1 ([] : List Addr) := (Keep.refl h0 ([] : List Addr)).ext E1
  have V1 : Arv Z h1 b1 k1 .int (0 : Int32) [] (.int 0) := Arv.new A1 (by decide)
  refine gob st1 ?_
  replace X1 := castX X1 (rfl : _ = 1) (rfl : _ = 0)
  show gO (tF T1 m 7 #[.val (.ref o0), .val (.int 0)] [(.ref b1)])
  refine goA X1 hx hlk Bd.returns rfl rfl (hb hby d1_7) ?_ (by decide) (by decide)
  show Qpi0 Z o0 k_e e_0 e_1 e_2 e_3 h0 n0 (some (.ref b1)) T1.heap _
  rw [e1]
  exact ⟨b1, k1, rfl, N0, K5, sz_b1, V1⟩
theorem d2_0 : decode method_3_code 0 = .ok (.iload_n 1, 1) := by decide +kernel
theorem d2_1 : decode method_3_code 1 = .ok (.ifCond .ne 7, 3) := by decide +kernel
theorem d2_4 : decode method_3_code 4 = .ok (.iconst 0, 1) := by decide +kernel
theorem d2_5 : decode method_3_code 5 = .ok (.newarray .double, 2) := by decide +kernel
theorem d2_7 : decode method_3_code 7 = .ok (.areturn, 1) := by decide +kernel
theorem d2_8 : decode method_3_code 8 = .ok (.iload_n 1, 1) := by decide +kernel
theorem d2_9 : decode method_3_code 9 = .ok (.iconst 1, 1) := by decide +kernel
theorem d2_10 : decode method_3_code 10 = .ok (.if_icmp .ne 13, 3) := by decide +kernel
theorem d2_13 : decode method_3_code 13 = .ok (.iconst 1, 1) := by decide +kernel
theorem d2_14 : decode method_3_code 14 = .ok (.newarray .double, 2) := by decide +kernel
theorem d2_16 : decode method_3_code 16 = .ok (.dup, 1) := by decide +kernel
theorem d2_17 : decode method_3_code 17 = .ok (.iconst 0, 1) := by decide +kernel
theorem d2_18 : decode method_3_code 18 = .ok (.aload_n 0, 1) := by decide +kernel
theorem d2_19 : decode method_3_code 19 = .ok (.iconst 0, 1) := by decide +kernel
theorem d2_20 : decode method_3_code 20 = .ok (.daload, 1) := by decide +kernel
theorem d2_21 : decode method_3_code 21 = .ok (.dastore, 1) := by decide +kernel
theorem d2_22 : decode method_3_code 22 = .ok (.areturn, 1) := by decide +kernel
theorem d2_23 : decode method_3_code 23 = .ok (.iload_n 1, 1) := by decide +kernel
theorem d2_24 : decode method_3_code 24 = .ok (.iconst 2, 1) := by decide +kernel
theorem d2_25 : decode method_3_code 25 = .ok (.if_icmp .ne 19, 3) := by decide +kernel
theorem d2_28 : decode method_3_code 28 = .ok (.iconst 2, 1) := by decide +kernel
theorem d2_29 : decode method_3_code 29 = .ok (.newarray .double, 2) := by decide +kernel
theorem d2_31 : decode method_3_code 31 = .ok (.dup, 1) := by decide +kernel
theorem d2_32 : decode method_3_code 32 = .ok (.iconst 0, 1) := by decide +kernel
theorem d2_33 : decode method_3_code 33 = .ok (.aload_n 0, 1) := by decide +kernel
theorem d2_34 : decode method_3_code 34 = .ok (.iconst 0, 1) := by decide +kernel
theorem d2_35 : decode method_3_code 35 = .ok (.daload, 1) := by decide +kernel
theorem d2_36 : decode method_3_code 36 = .ok (.dastore, 1) := by decide +kernel
theorem d2_37 : decode method_3_code 37 = .ok (.dup, 1) := by decide +kernel
theorem d2_38 : decode method_3_code 38 = .ok (.iconst 1, 1) := by decide +kernel
theorem d2_39 : decode method_3_code 39 = .ok (.aload_n 0, 1) := by decide +kernel
theorem d2_40 : decode method_3_code 40 = .ok (.iconst 1, 1) := by decide +kernel
theorem d2_41 : decode method_3_code 41 = .ok (.daload, 1) := by decide +kernel
theorem d2_42 : decode method_3_code 42 = .ok (.dastore, 1) := by decide +kernel
theorem d2_43 : decode method_3_code 43 = .ok (.areturn, 1) := by decide +kernel
theorem d2_44 : decode method_3_code 44 = .ok (.iload_n 1, 1) := by decide +kernel
theorem d2_45 : decode method_3_code 45 = .ok (.iconst 3, 1) := by decide +kernel
theorem d2_46 : decode method_3_code 46 = .ok (.if_icmp .ne 25, 3) := by decide +kernel
theorem d2_49 : decode method_3_code 49 = .ok (.iconst 3, 1) := by decide +kernel
theorem d2_50 : decode method_3_code 50 = .ok (.newarray .double, 2) := by decide +kernel
theorem d2_52 : decode method_3_code 52 = .ok (.dup, 1) := by decide +kernel
theorem d2_53 : decode method_3_code 53 = .ok (.iconst 0, 1) := by decide +kernel
theorem d2_54 : decode method_3_code 54 = .ok (.aload_n 0, 1) := by decide +kernel
theorem d2_55 : decode method_3_code 55 = .ok (.iconst 0, 1) := by decide +kernel
theorem d2_56 : decode method_3_code 56 = .ok (.daload, 1) := by decide +kernel
theorem d2_57 : decode method_3_code 57 = .ok (.dastore, 1) := by decide +kernel
theorem d2_58 : decode method_3_code 58 = .ok (.dup, 1) := by decide +kernel
theorem d2_59 : decode method_3_code 59 = .ok (.iconst 1, 1) := by decide +kernel
theorem d2_60 : decode method_3_code 60 = .ok (.aload_n 0, 1) := by decide +kernel
theorem d2_61 : decode method_3_code 61 = .ok (.iconst 1, 1) := by decide +kernel
theorem d2_62 : decode method_3_code 62 = .ok (.daload, 1) := by decide +kernel
theorem d2_63 : decode method_3_code 63 = .ok (.dastore, 1) := by decide +kernel
theorem d2_64 : decode method_3_code 64 = .ok (.dup, 1) := by decide +kernel
theorem d2_65 : decode method_3_code 65 = .ok (.iconst 2, 1) := by decide +kernel
theorem d2_66 : decode method_3_code 66 = .ok (.aload_n 0, 1) := by decide +kernel
theorem d2_67 : decode method_3_code 67 = .ok (.iconst 2, 1) := by decide +kernel
theorem d2_68 : decode method_3_code 68 = .ok (.daload, 1) := by decide +kernel
theorem d2_69 : decode method_3_code 69 = .ok (.dastore, 1) := by decide +kernel
theorem d2_70 : decode method_3_code 70 = .ok (.areturn, 1) := by decide +kernel
theorem d2_71 : decode method_3_code 71 = .ok (.iconst 4, 1) := by decide +kernel
theorem d2_72 : decode method_3_code 72 = .ok (.newarray .double, 2) := by decide +kernel
theorem d2_74 : decode method_3_code 74 = .ok (.dup, 1) := by decide +kernel
theorem d2_75 : decode method_3_code 75 = .ok (.iconst 0, 1) := by decide +kernel
theorem d2_76 : decode method_3_code 76 = .ok (.aload_n 0, 1) := by decide +kernel
theorem d2_77 : decode method_3_code 77 = .ok (.iconst 0, 1) := by decide +kernel
theorem d2_78 : decode method_3_code 78 = .ok (.daload, 1) := by decide +kernel
theorem d2_79 : decode method_3_code 79 = .ok (.dastore, 1) := by decide +kernel
theorem d2_80 : decode method_3_code 80 = .ok (.dup, 1) := by decide +kernel
theorem d2_81 : decode method_3_code 81 = .ok (.iconst 1, 1) := by decide +kernel
theorem d2_82 : decode method_3_code 82 = .ok (.aload_n 0, 1) := by decide +kernel
theorem d2_83 : decode method_3_code 83 = .ok (.iconst 1, 1) := by decide +kernel
theorem d2_84 : decode method_3_code 84 = .ok (.daload, 1) := by decide +kernel
theorem d2_85 : decode method_3_code 85 = .ok (.dastore, 1) := by decide +kernel
theorem d2_86 : decode method_3_code 86 = .ok (.dup, 1) := by decide +kernel
theorem d2_87 : decode method_3_code 87 = .ok (.iconst 2, 1) := by decide +kernel
theorem d2_88 : decode method_3_code 88 = .ok (.aload_n 0, 1) := by decide +kernel
theorem d2_89 : decode method_3_code 89 = .ok (.iconst 2, 1) := by decide +kernel
theorem d2_90 : decode method_3_code 90 = .ok (.daload, 1) := by decide +kernel
theorem d2_91 : decode method_3_code 91 = .ok (.dastore, 1) := by decide +kernel
theorem d2_92 : decode method_3_code 92 = .ok (.dup, 1) := by decide +kernel
theorem d2_93 : decode method_3_code 93 = .ok (.iconst 3, 1) := by decide +kernel
theorem d2_94 : decode method_3_code 94 = .ok (.aload_n 0, 1) := by decide +kernel
theorem d2_95 : decode method_3_code 95 = .ok (.iconst 3, 1) := by decide +kernel
theorem d2_96 : decode method_3_code 96 = .ok (.daload, 1) := by decide +kernel
theorem d2_97 : decode method_3_code 97 = .ok (.dastore, 1) := by decide +kernel
theorem d2_98 : decode method_3_code 98 = .ok (.areturn, 1) := by decide +kernel
theorem ef_pd0 (m : MethodId) (x0 : Addr) : entryFrame m #[(.ref x0), (.int 0)] 2 = mkF m 0 #[.val (.ref x0), .val (.int 0)] [] := by first | (simp [entryFrame, mkF, argsToLocals, Value.category]; done) | rfl
def Qpd0 (Z : State) (o0 : Addr) (k_e : ClassId) (e_0 : UInt64) (e_1 : UInt64) (e_2 : UInt64) (e_3 : UInt64) (h0 : Heap) (n0 : Nat) (v : Option Value) (h : Heap) (L : List Loc) : Prop := ∃ b1 : Addr, ∃ k1 : ClassId, v = some (.ref b1) ∧ Fr n0 L ∧ Keep h0 h ([] : List Addr) ∧ h0.size ≤ b1 ∧ Arv Z h b1 k1 .double (0 : Int32) [] (.double 0)
set_option maxRecDepth 65536 in
set_option maxHeartbeats 40000000 in
theorem rmpd0 (l : Launch) (Z : State) (a0 : Array Value) (hw : ∀ d ∈ tables_1, d.before a0 Z = true) (ws : List Jvm.Cond) (o0 : Addr) (k_e : ClassId) (e_0 : UInt64) (e_1 : UInt64) (e_2 : UInt64) (e_3 : UInt64) (h0 : Heap) (n0 : Nat) (Z0 : n0 ≤ h0.size) (V_e : Arv Z h0 o0 k_e .double (4 : Int32) [(.double e_0), (.double e_1), (.double e_2), (.double e_3)] (.double 0)) :
    MetFree l (⟨"com/example/fenda/fenda/analysis/CombinationOfPinLaw", "prefixDouble", "([DI)[D"⟩ : MethodName) (head1 (Jvm.Cond.code (⟨"com/example/fenda/fenda/analysis/CombinationOfPinLaw", "prefixDouble", "([DI)[D"⟩ : MethodName) method_3_code 2 (some (.array .double)) :: ws) ({ frames := 0, cells := 1, slots := 0, locals := 0 } : Room)) (fun a U => a = #[(.ref o0), (.int 0)] ∧ Z.Warmed39 U.vm ∧ U.heap = h0) (fun _ _ _ _ _ => True) (fun _ U o U' => ∃ v L, o = .returned v ∧ Qpd0 Z o0 k_e e_0 e_1 e_2 e_3 h0 n0 v U'.heap L ∧ FrameEnd U o U' L ({ frames := 0, cells := 1, slots := 0, locals := 0 } : Room).cells ({ frames := 0, cells := 1, slots := 0, locals := 0 } : Room).slots) := by
  refine MetFree.of_bodySF (plainFor_of_name (by first | (simp [plainName, overriddenIn]; done) | decide +kernel)) hisR ?_
  intro p e s m args below meth c s₁ Bd hml0 hP hK
  obtain ⟨rfl, hZ, hh⟩ := hP
  have hx := Bd.exec
  have hby := Bd.bytes
  have hml : c.maxLocals = 2 := hml0
  have hown : s.vm.findClass "com/example/fenda/fenda/analysis/CombinationOfPinLaw" = some m.cls := findClass_of_methodNamed Bd.named
  have hnm := (name_of_methodNamed Bd.named Bd.method).1
  have hlk := BodyLoose.notSynchronized Bd
  have X0 : Stand p l e ({ frames := 0, cells := 1, slots := 0, locals := 0 } : Room) s m #[(.ref o0), (.int 0)] below meth c s₁ [] 0 0 := Stand.of_body Bd
  have e0 : s₁.heap = h0 := by rw [← hh, Bd.state]; rfl
  have N0 := Fr.nil n0
  show Go p e below s (Qpd0 Z o0 k_e e_0 e_1 e_2 e_3 h0 n0) 1 0 (s₁.setTop (entryFrame m #[(.ref o0), (.int 0)] 2))
  rw [ef_pd0]
  show gO (tF s₁ m 0 #[.val (.ref o0), .val (.int 0)] [])
  refine gob (fun _ k => XS.iloadN X0.here hx rfl (hb hby d2_0) rfl k) ?_
  show gO (tF s₁ m 1 #[.val (.ref o0), .val (.int 0)] [(.int 0)])
  refine gob (fun _ k => XS.ifNo X0.here hx rfl (hb hby d2_1) rfl ((if0 _ _).trans (teq (by decide : (0 : Int32) = (0 : Int32))).2) k) ?_
  show gO (tF s₁ m 4 #[.val (.ref o0), .val (.int 0)] [])
  refine gob (fun _ k => XS.iconst X0.here hx rfl (hb hby d2_4) k) ?_
  show gO (tF s₁ m 5 #[.val (.ref o0), .val (.int 0)] [(.int 0)])
  obtain ⟨T1, h1, k1, X1, e1, E1, A1, st1⟩ := newP X0 hx hZ (hW hw 0 rfl) e0 (g := (mkF m 5 #[.val (.ref o0), .val (.int 0)] [(.int 0)])) rfl (hb hby d2_5) rfl (by decide) (cap := 0) (by decide) (by decide) (by decide) (by decide)
  obtain ⟨b1, g1⟩ : ∃ z, z = h0.size := ⟨_, rfl⟩
  rw [← g1] at A1 st1
  have n2 : o0 ≠ b1 := Nat.ne_of_lt (Nat.lt_of_lt_of_le V_e.lt (Nat.le_of_eq g1.symm))
  have g3 : n0 ≤ b1 := Nat.le_trans Z0 (Nat.le_of_eq g1.symm)
  have sz_b1 : h0.size ≤ b1 := Nat.le_trans (Keep.refl h0 []).1 (Nat.le_of_eq g1.symm)
  have z4 : n0 ≤ h1.size := Nat.le_trans Z0 E1.1
  have K5 : Keep h0 h1 ([] : List Addr) := (Keep.refl h0 ([] : List Addr)).ext E1
  have V1 : Arv Z h1 b1 k1 .double (0 : Int32) [] (.double 0) := Arv.new A1 (by decide)
  refine gob st1 ?_
  replace X1 := castX X1 (rfl : _ = 1) (rfl : _ = 0)
  show gO (tF T1 m 7 #[.val (.ref o0), .val (.int 0)] [(.ref b1)])
  refine goA X1 hx hlk Bd.returns rfl rfl (hb hby d2_7) ?_ (by decide) (by decide)
  show Qpd0 Z o0 k_e e_0 e_1 e_2 e_3 h0 n0 (some (.ref b1)) T1.heap _
  rw [e1]
  exact ⟨b1, k1, rfl, N0, K5, sz_b1, V1⟩
theorem ef_pi1 (m : MethodId) (x0 : Addr) : entryFrame m #[(.ref x0), (.int 1)] 2 = mkF m 0 #[.val (.ref x0), .val (.int 1)] [] := by first | (simp [entryFrame, mkF, argsToLocals, Value.category]; done) | rfl
def Qpi1 (Z : State) (o0 : Addr) (k_e : ClassId) (e_0 : Int32) (e_1 : Int32) (e_2 : Int32) (e_3 : Int32) (h0 : Heap) (n0 : Nat) (v : Option Value) (h : Heap) (L : List Loc) : Prop := ∃ b1 : Addr, ∃ k1 : ClassId, v = some (.ref b1) ∧ Fr n0 L ∧ Keep h0 h ([] : List Addr) ∧ h0.size ≤ b1 ∧ Arv Z h b1 k1 .int (1 : Int32) [(.int e_0)] (.int 0)
set_option maxRecDepth 65536 in
set_option maxHeartbeats 40000000 in
theorem rmpi1 (l : Launch) (Z : State) (a0 : Array Value) (hw : ∀ d ∈ tables_1, d.before a0 Z = true) (ws : List Jvm.Cond) (o0 : Addr) (k_e : ClassId) (e_0 : Int32) (e_1 : Int32) (e_2 : Int32) (e_3 : Int32) (h0 : Heap) (n0 : Nat) (Z0 : n0 ≤ h0.size) (V_e : Arv Z h0 o0 k_e .int (4 : Int32) [(.int e_0), (.int e_1), (.int e_2), (.int e_3)] (.int 0)) :
    MetFree l (⟨"com/example/fenda/fenda/analysis/CombinationOfPinLaw", "prefixInt", "([II)[I"⟩ : MethodName) (head1 (Jvm.Cond.code (⟨"com/example/fenda/fenda/analysis/CombinationOfPinLaw", "prefixInt", "([II)[I"⟩ : MethodName) method_2_code 2 (some (.array .int)) :: ws) ({ frames := 0, cells := 1, slots := 1, locals := 0 } : Room)) (fun a U => a = #[(.ref o0), (.int 1)] ∧ Z.Warmed39 U.vm ∧ U.heap = h0) (fun _ _ _ _ _ => True) (fun _ U o U' => ∃ v L, o = .returned v ∧ Qpi1 Z o0 k_e e_0 e_1 e_2 e_3 h0 n0 v U'.heap L ∧ FrameEnd U o U' L ({ frames := 0, cells := 1, slots := 1, locals := 0 } : Room).cells ({ frames := 0, cells := 1, slots := 1, locals := 0 } : Room).slots) := by
  refine MetFree.of_bodySF (plainFor_of_name (by first | (simp [plainName, overriddenIn]; done) | decide +kernel)) hisR ?_
  intro p e s m args below meth c s₁ Bd hml0 hP hK
  obtain ⟨rfl, hZ, hh⟩ := hP
  have hx := Bd.exec
  have hby := Bd.bytes
  have hml : c.maxLocals = 2 := hml0
  have hown : s.vm.findClass "com/example/fenda/fenda/analysis/CombinationOfPinLaw" = some m.cls := findClass_of_methodNamed Bd.named
  have hnm := (name_of_methodNamed Bd.named Bd.method).1
  have hlk := BodyLoose.notSynchronized Bd
  have X0 : Stand p l e ({ frames := 0, cells := 1, slots := 1, locals := 0 } : Room) s m #[(.ref o0), (.int 1)] below meth c s₁ [] 0 0 := Stand.of_body Bd
  have e0 : s₁.heap = h0 := by rw [← hh, Bd.state]; rfl
  have N0 := Fr.nil n0
  show Go p e below s (Qpi1 Z o0 k_e e_0 e_1 e_2 e_3 h0 n0) 1 1 (s₁.setTop (entryFrame m #[(.ref o0), (.int 1)] 2))
  rw [ef_pi1]
  show gO (tF s₁ m 0 #[.val (.ref o0), .val (.int 1)] [])
  refine gob (fun _ k => XS.iloadN X0.here hx rfl (hb hby d1_0) rfl k) ?_
  show gO (tF s₁ m 1 #[.val (.ref o0), .val (.int 1)] [(.int 1)])
  refine gob (fun _ k => XS.ifYes X0.here hx rfl (pc0 := 1) (pc' := 8) rfl (hb hby d1_1) rfl ((if0 _ _).trans (feq (by decide : ¬ ((1 : Int32) = (0 : Int32)))).2) (by decide) (by decide) k) ?_
  show gO (tF s₁ m 8 #[.val (.ref o0), .val (.int 1)] [])
  refine gob (fun _ k => XS.iloadN X0.here hx rfl (hb hby d1_8) rfl k) ?_
  show gO (tF s₁ m 9 #[.val (.ref o0), .val (.int 1)] [(.int 1)])
  refine gob (fun _ k => XS.iconst X0.here hx rfl (hb hby d1_9) k) ?_
  show gO (tF s₁ m 10 #[.val (.ref o0), .val (.int 1)] [(.int 1), (.int 1)])
  refine gob (fun _ k => XS.icmpNo X0.here hx rfl (hb hby d1_10) rfl (teq (by decide : (1 : Int32) = (1 : Int32))).2 k) ?_
  show gO (tF s₁ m 13 #[.val (.ref o0), .val (.int 1)] [])
  refine gob (fun _ k => XS.iconst X0.here hx rfl (hb hby d1_13) k) ?_
  show gO (tF s₁ m 14 #[.val (.ref o0), .val (.int 1)] [(.int 1)])
  obtain ⟨T1, h1, k1, X1, e1, E1, A1, st1⟩ := newP X0 hx hZ (hW hw 1 rfl) e0 (g := (mkF m 14 #[.val (.ref o0), .val (.int 1)] [(.int 1)])) rfl (hb hby d1_14) rfl (by decide) (cap := 1) (by decide) (by decide) (by decide) (by decide)
  obtain ⟨b1, g1⟩ : ∃ z, z = h0.size := ⟨_, rfl⟩
  rw [← g1] at A1 st1
  have n2 : o0 ≠ b1 := Nat.ne_of_lt (Nat.lt_of_lt_of_le V_e.lt (Nat.le_of_eq g1.symm))
  have g3 : n0 ≤ b1 := Nat.le_trans Z0 (Nat.le_of_eq g1.symm)
  have sz_b1 : h0.size ≤ b1 := Nat.le_trans (Keep.refl h0 []).1 (Nat.le_of_eq g1.symm)
  have z4 : n0 ≤ h1.size := Nat.le_trans Z0 E1.1
  have K5 : Keep h0 h1 ([] : List Addr) := (Keep.refl h0 ([] : List Addr)).ext E1
  have V1 : Arv Z h1 b1 k1 .int (1 : Int32) [(.int 0)] (.int 0) := (Arv.new A1 (by decide)).pad (pad_rep [] (.int 0) 1)
  refine gob st1 ?_
  replace X1 := castX X1 (rfl : _ = 1) (rfl : _ = 1)
  show gO (tF T1 m 16 #[.val (.ref o0), .val (.int 1)] [(.ref b1)])
  refine gob (fun _ k => XS.dup X1.here hx rfl (hb hby d1_16) rfl rfl k) ?_
  show gO (tF T1 m 17 #[.val (.ref o0), .val (.int 1)] [(.ref b1), (.ref b1)])
  refine gob (fun _ k => XS.iconst X1.here hx rfl (hb hby d1_17) k) ?_
  show gO (tF T1 m 18 #[.val (.ref o0), .val (.int 1)] [(.int 0), (.ref b1), (.ref b1)])
  refine gob (fun _ k => XS.aloadN X1.here hx rfl (hb hby d1_18) rfl rfl k) ?_
  show gO (tF T1 m 19 #[.val (.ref o0), .val (.int 1)] [(.ref o0), (.int 0), (.ref b1), (.ref b1)])
  refine gob (fun _ k => XS.iconst X1.here hx rfl (hb hby d1_19) k) ?_
  show gO (tF T1 m 20 #[.val (.ref o0), .val (.int 1)] [(.int 0), (.ref o0), (.int 0), (.ref b1), (.ref b1)])
  have c7 := (V_e.ext E1)
  obtain ⟨cl6, Ar6, aq6, S6, N6, H6, G6⟩ := id c7
  have hin6 : ¬ ((0 : Int32) < 0 ∨ cl6.slots.size ≤ ((0 : Int32)).toNatClampNeg) := inb_of S6 ⟨by decide, by decide⟩
  refine gob (X1.iaload hx (j := (0 : Int32)) (v := (.int e_0)) (by rw [e1]; exact Ar6.1) (State.isArrayOf_alike hZ.alike Ar6.2.1) Ar6.2.2 hin6 (Has.at H6 hin6 rfl) (g := (mkF m 20 #[.val (.ref o0), .val (.int 1)] [(.int 0), (.ref o0), (.int 0), (.ref b1), (.ref b1)])) rfl rfl (hb hby d1_20)) ?_
  show gO (tF T1 m 21 #[.val (.ref o0), .val (.int 1)] [(.int e_0), (.int 0), (.ref b1), (.ref b1)])
  obtain ⟨cl8, Ar8, aq8, S8, N8, H8, G8⟩ := id V1
  have hin8 : ¬ ((0 : Int32) < 0 ∨ cl8.slots.size ≤ ((0 : Int32)).toNatClampNeg) := inb_of S8 ⟨by decide, by decide⟩
  obtain ⟨T9, h9, X9, e9, W9, st9⟩ := stI X1 hx hZ e1 Ar8 (j := (0 : Int32)) hin8 (g := (mkF m 21 #[.val (.ref o0), .val (.int 1)] [(.int e_0), (.int 0), (.ref b1), (.ref b1)])) rfl rfl (hb hby d1_21)
  refine gob st9 ?_
  have z10 : n0 ≤ h9.size := Nat.le_trans z4 (Keep.of_wr W9).1
  have N9 := Fr.snoc X9 N0 g3
  have K11 : Keep h0 h9 ([] : List Addr) := K5.wr W9 (Or.inr sz_b1)
  have V9 : Arv Z h9 b1 k1 .int (1 : Int32) [(.int e_0)] (.int 0) := Arv.set Ar8 aq8 S8 N8 H8 G8 rfl W9 0 rfl (Nat.le_of_ble_eq_true rfl)
  show gO (tF T9 m 22 #[.val (.ref o0), .val (.int 1)] [(.ref b1)])
  refine goA X9 hx hlk Bd.returns rfl rfl (hb hby d1_22) ?_ (by decide) (by decide)
  show Qpi1 Z o0 k_e e_0 e_1 e_2 e_3 h0 n0 (some (.ref b1)) T9.heap _
  rw [e9]
  exact ⟨b1, k1, rfl, N9, K11, sz_b1, V9⟩
theorem ef_pd1 (m : MethodId) (x0 : Addr) : entryFrame m #[(.ref x0), (.int 1)] 2 = mkF m 0 #[.val (.ref x0), .val (.int 1)] [] := by first | (simp [entryFrame, mkF, argsToLocals, Value.category]; done) | rfl
def Qpd1 (Z : State) (o0 : Addr) (k_e : ClassId) (e_0 : UInt64) (e_1 : UInt64) (e_2 : UInt64) (e_3 : UInt64) (h0 : Heap) (n0 : Nat) (v : Option Value) (h : Heap) (L : List Loc) : Prop := ∃ b1 : Addr, ∃ k1 : ClassId, v = some (.ref b1) ∧ Fr n0 L ∧ Keep h0 h ([] : List Addr) ∧ h0.size ≤ b1 ∧ Arv Z h b1 k1 .double (1 : Int32) [(.double e_0)] (.double 0)
set_option maxRecDepth 65536 in
set_option maxHeartbeats 40000000 in
theorem rmpd1 (l : Launch) (Z : State) (a0 : Array Value) (hw : ∀ d ∈ tables_1, d.before a0 Z = true) (ws : List Jvm.Cond) (o0 : Addr) (k_e : ClassId) (e_0 : UInt64) (e_1 : UInt64) (e_2 : UInt64) (e_3 : UInt64) (h0 : Heap) (n0 : Nat) (Z0 : n0 ≤ h0.size) (V_e : Arv Z h0 o0 k_e .double (4 : Int32) [(.double e_0), (.double e_1), (.double e_2), (.double e_3)] (.double 0)) :
    MetFree l (⟨"com/example/fenda/fenda/analysis/CombinationOfPinLaw", "prefixDouble", "([DI)[D"⟩ : MethodName) (head1 (Jvm.Cond.code (⟨"com/example/fenda/fenda/analysis/CombinationOfPinLaw", "prefixDouble", "([DI)[D"⟩ : MethodName) method_3_code 2 (some (.array .double)) :: ws) ({ frames := 0, cells := 1, slots := 1, locals := 0 } : Room)) (fun a U => a = #[(.ref o0), (.int 1)] ∧ Z.Warmed39 U.vm ∧ U.heap = h0) (fun _ _ _ _ _ => True) (fun _ U o U' => ∃ v L, o = .returned v ∧ Qpd1 Z o0 k_e e_0 e_1 e_2 e_3 h0 n0 v U'.heap L ∧ FrameEnd U o U' L ({ frames := 0, cells := 1, slots := 1, locals := 0 } : Room).cells ({ frames := 0, cells := 1, slots := 1, locals := 0 } : Room).slots) := by
  refine MetFree.of_bodySF (plainFor_of_name (by first | (simp [plainName, overriddenIn]; done) | decide +kernel)) hisR ?_
  intro p e s m args below meth c s₁ Bd hml0 hP hK
  obtain ⟨rfl, hZ, hh⟩ := hP
  have hx := Bd.exec
  have hby := Bd.bytes
  have hml : c.maxLocals = 2 := hml0
  have hown : s.vm.findClass "com/example/fenda/fenda/analysis/CombinationOfPinLaw" = some m.cls := findClass_of_methodNamed Bd.named
  have hnm := (name_of_methodNamed Bd.named Bd.method).1
  have hlk := BodyLoose.notSynchronized Bd
  have X0 : Stand p l e ({ frames := 0, cells := 1, slots := 1, locals := 0 } : Room) s m #[(.ref o0), (.int 1)] below meth c s₁ [] 0 0 := Stand.of_body Bd
  have e0 : s₁.heap = h0 := by rw [← hh, Bd.state]; rfl
  have N0 := Fr.nil n0
  show Go p e below s (Qpd1 Z o0 k_e e_0 e_1 e_2 e_3 h0 n0) 1 1 (s₁.setTop (entryFrame m #[(.ref o0), (.int 1)] 2))
  rw [ef_pd1]
  show gO (tF s₁ m 0 #[.val (.ref o0), .val (.int 1)] [])
  refine gob (fun _ k => XS.iloadN X0.here hx rfl (hb hby d2_0) rfl k) ?_
  show gO (tF s₁ m 1 #[.val (.ref o0), .val (.int 1)] [(.int 1)])
  refine gob (fun _ k => XS.ifYes X0.here hx rfl (pc0 := 1) (pc' := 8) rfl (hb hby d2_1) rfl ((if0 _ _).trans (feq (by decide : ¬ ((1 : Int32) = (0 : Int32)))).2) (by decide) (by decide) k) ?_
  show gO (tF s₁ m 8 #[.val (.ref o0), .val (.int 1)] [])
  refine gob (fun _ k => XS.iloadN X0.here hx rfl (hb hby d2_8) rfl k) ?_
  show gO (tF s₁ m 9 #[.val (.ref o0), .val (.int 1)] [(.int 1)])
  refine gob (fun _ k => XS.iconst X0.here hx rfl (hb hby d2_9) k) ?_
  show gO (tF s₁ m 10 #[.val (.ref o0), .val (.int 1)] [(.int 1), (.int 1)])
  refine gob (fun _ k => XS.icmpNo X0.here hx rfl (hb hby d2_10) rfl (teq (by decide : (1 : Int32) = (1 : Int32))).2 k) ?_
  show gO (tF s₁ m 13 #[.val (.ref o0), .val (.int 1)] [])
  refine gob (fun _ k => XS.iconst X0.here hx rfl (hb hby d2_13) k) ?_
  show gO (tF s₁ m 14 #[.val (.ref o0), .val (.int 1)] [(.int 1)])
  obtain ⟨T1, h1, k1, X1, e1, E1, A1, st1⟩ := newP X0 hx hZ (hW hw 0 rfl) e0 (g := (mkF m 14 #[.val (.ref o0), .val (.int 1)] [(.int 1)])) rfl (hb hby d2_14) rfl (by decide) (cap := 1) (by decide) (by decide) (by decide) (by decide)
  obtain ⟨b1, g1⟩ : ∃ z, z = h0.size := ⟨_, rfl⟩
  rw [← g1] at A1 st1
  have n2 : o0 ≠ b1 := Nat.ne_of_lt (Nat.lt_of_lt_of_le V_e.lt (Nat.le_of_eq g1.symm))
  have g3 : n0 ≤ b1 := Nat.le_trans Z0 (Nat.le_of_eq g1.symm)
  have sz_b1 : h0.size ≤ b1 := Nat.le_trans (Keep.refl h0 []).1 (Nat.le_of_eq g1.symm)
  have z4 : n0 ≤ h1.size := Nat.le_trans Z0 E1.1
  have K5 : Keep h0 h1 ([] : List Addr) := (Keep.refl h0 ([] : List Addr)).ext E1
  have V1 : Arv Z h1 b1 k1 .double (1 : Int32) [(.double 0)] (.double 0) := (Arv.new A1 (by decide)).pad (pad_rep [] (.double 0) 1)
  refine gob st1 ?_
  replace X1 := castX X1 (rfl : _ = 1) (rfl : _ = 1)
  show gO (tF T1 m 16 #[.val (.ref o0), .val (.int 1)] [(.ref b1)])
  refine gob (fun _ k => XS.dup X1.here hx rfl (hb hby d2_16) rfl rfl k) ?_
  show gO (tF T1 m 17 #[.val (.ref o0), .val (.int 1)] [(.ref b1), (.ref b1)])
  refine gob (fun _ k => XS.iconst X1.here hx rfl (hb hby d2_17) k) ?_
  show gO (tF T1 m 18 #[.val (.ref o0), .val (.int 1)] [(.int 0), (.ref b1), (.ref b1)])
  refine gob (fun _ k => XS.aloadN X1.here hx rfl (hb hby d2_18) rfl rfl k) ?_
  show gO (tF T1 m 19 #[.val (.ref o0), .val (.int 1)] [(.ref o0), (.int 0), (.ref b1), (.ref b1)])
  refine gob (fun _ k => XS.iconst X1.here hx rfl (hb hby d2_19) k) ?_
  show gO (tF T1 m 20 #[.val (.ref o0), .val (.int 1)] [(.int 0), (.ref o0), (.int 0), (.ref b1), (.ref b1)])
  have c7 := (V_e.ext E1)
  obtain ⟨cl6, Ar6, aq6, S6, N6, H6, G6⟩ := id c7
  have hin6 : ¬ ((0 : Int32) < 0 ∨ cl6.slots.size ≤ ((0 : Int32)).toNatClampNeg) := inb_of S6 ⟨by decide, by decide⟩
  refine gob (X1.daload hx (j := (0 : Int32)) (v := (.double e_0)) (by rw [e1]; exact Ar6.1) (State.isArrayOf_alike hZ.alike Ar6.2.1) Ar6.2.2 hin6 (Has.at H6 hin6 rfl) (g := (mkF m 20 #[.val (.ref o0), .val (.int 1)] [(.int 0), (.ref o0), (.int 0), (.ref b1), (.ref b1)])) rfl rfl (hb hby d2_20)) ?_
  show gO (tF T1 m 21 #[.val (.ref o0), .val (.int 1)] [(.double e_0), (.int 0), (.ref b1), (.ref b1)])
  obtain ⟨cl8, Ar8, aq8, S8, N8, H8, G8⟩ := id V1
  have hin8 : ¬ ((0 : Int32) < 0 ∨ cl8.slots.size ≤ ((0 : Int32)).toNatClampNeg) := inb_of S8 ⟨by decide, by decide⟩
  obtain ⟨T9, h9, X9, e9, W9, st9⟩ := stD X1 hx hZ e1 Ar8 (j := (0 : Int32)) hin8 (g := (mkF m 21 #[.val (.ref o0), .val (.int 1)] [(.double e_0), (.int 0), (.ref b1), (.ref b1)])) rfl rfl (hb hby d2_21)
  refine gob st9 ?_
  have z10 : n0 ≤ h9.size := Nat.le_trans z4 (Keep.of_wr W9).1
  have N9 := Fr.snoc X9 N0 g3
  have K11 : Keep h0 h9 ([] : List Addr) := K5.wr W9 (Or.inr sz_b1)
  have V9 : Arv Z h9 b1 k1 .double (1 : Int32) [(.double e_0)] (.double 0) := Arv.set Ar8 aq8 S8 N8 H8 G8 rfl W9 0 rfl (Nat.le_of_ble_eq_true rfl)
  show gO (tF T9 m 22 #[.val (.ref o0), .val (.int 1)] [(.ref b1)])
  refine goA X9 hx hlk Bd.returns rfl rfl (hb hby d2_22) ?_ (by decide) (by decide)
  show Qpd1 Z o0 k_e e_0 e_1 e_2 e_3 h0 n0 (some (.ref b1)) T9.heap _
  rw [e9]
  exact ⟨b1, k1, rfl, N9, K11, sz_b1, V9⟩
theorem ef_pi2 (m : MethodId) (x0 : Addr) : entryFrame m #[(.ref x0), (.int 2)] 2 = mkF m 0 #[.val (.ref x0), .val (.int 2)] [] := by first | (simp [entryFrame, mkF, argsToLocals, Value.category]; done) | rfl
def Qpi2 (Z : State) (o0 : Addr) (k_e : ClassId) (e_0 : Int32) (e_1 : Int32) (e_2 : Int32) (e_3 : Int32) (h0 : Heap) (n0 : Nat) (v : Option Value) (h : Heap) (L : List Loc) : Prop := ∃ b1 : Addr, ∃ k1 : ClassId, v = some (.ref b1) ∧ Fr n0 L ∧ Keep h0 h ([] : List Addr) ∧ h0.size ≤ b1 ∧ Arv Z h b1 k1 .int (2 : Int32) [(.int e_0), (.int e_1)] (.int 0)
set_option maxRecDepth 65536 in
set_option maxHeartbeats 40000000 in
theorem rmpi2 (l : Launch) (Z : State) (a0 : Array Value) (hw : ∀ d ∈ tables_1, d.before a0 Z = true) (ws : List Jvm.Cond) (o0 : Addr) (k_e : ClassId) (e_0 : Int32) (e_1 : Int32) (e_2 : Int32) (e_3 : Int32) (h0 : Heap) (n0 : Nat) (Z0 : n0 ≤ h0.size) (V_e : Arv Z h0 o0 k_e .int (4 : Int32) [(.int e_0), (.int e_1), (.int e_2), (.int e_3)] (.int 0)) :
    MetFree l (⟨"com/example/fenda/fenda/analysis/CombinationOfPinLaw", "prefixInt", "([II)[I"⟩ : MethodName) (head1 (Jvm.Cond.code (⟨"com/example/fenda/fenda/analysis/CombinationOfPinLaw", "prefixInt", "([II)[I"⟩ : MethodName) method_2_code 2 (some (.array .int)) :: ws) ({ frames := 0, cells := 1, slots := 2, locals := 0 } : Room)) (fun a U => a = #[(.ref o0), (.int 2)] ∧ Z.Warmed39 U.vm ∧ U.heap = h0) (fun _ _ _ _ _ => True) (fun _ U o U' => ∃ v L, o = .returned v ∧ Qpi2 Z o0 k_e e_0 e_1 e_2 e_3 h0 n0 v U'.heap L ∧ FrameEnd U o U' L ({ frames := 0, cells := 1, slots := 2, locals := 0 } : Room).cells ({ frames := 0, cells := 1, slots := 2, locals := 0 } : Room).slots) := by
  refine MetFree.of_bodySF (plainFor_of_name (by first | (simp [plainName, overriddenIn]; done) | decide +kernel)) hisR ?_
  intro p e s m args below meth c s₁ Bd hml0 hP hK
  obtain ⟨rfl, hZ, hh⟩ := hP
  have hx := Bd.exec
  have hby := Bd.bytes
  have hml : c.maxLocals = 2 := hml0
  have hown : s.vm.findClass "com/example/fenda/fenda/analysis/CombinationOfPinLaw" = some m.cls := findClass_of_methodNamed Bd.named
  have hnm := (name_of_methodNamed Bd.named Bd.method).1
  have hlk := BodyLoose.notSynchronized Bd
  have X0 : Stand p l e ({ frames := 0, cells := 1, slots := 2, locals := 0 } : Room) s m #[(.ref o0), (.int 2)] below meth c s₁ [] 0 0 := Stand.of_body Bd
  have e0 : s₁.heap = h0 := by rw [← hh, Bd.state]; rfl
  have N0 := Fr.nil n0
  show Go p e below s (Qpi2 Z o0 k_e e_0 e_1 e_2 e_3 h0 n0) 1 2 (s₁.setTop (entryFrame m #[(.ref o0), (.int 2)] 2))
  rw [ef_pi2]
  show gO (tF s₁ m 0 #[.val (.ref o0), .val (.int 2)] [])
  refine gob (fun _ k => XS.iloadN X0.here hx rfl (hb hby d1_0) rfl k) ?_
  show gO (tF s₁ m 1 #[.val (.ref o0), .val (.int 2)] [(.int 2)])
  refine gob (fun _ k => XS.ifYes X0.here hx rfl (pc0 := 1) (pc' := 8) rfl (hb hby d1_1) rfl ((if0 _ _).trans (feq (by decide : ¬ ((2 : Int32) = (0 : Int32)))).2) (by decide) (by decide) k) ?_
  show gO (tF s₁ m 8 #[.val (.ref o0), .val (.int 2)] [])
  refine gob (fun _ k => XS.iloadN X0.here hx rfl (hb hby d1_8) rfl k) ?_
  show gO (tF s₁ m 9 #[.val (.ref o0), .val (.int 2)] [(.int 2)])
  refine gob (fun _ k => XS.iconst X0.here hx rfl (hb hby d1_9) k) ?_
  show gO (tF s₁ m 10 #[.val (.ref o0), .val (.int 2)] [(.int 1), (.int 2)])
  refine gob (fun _ k => XS.icmpYes X0.here hx rfl (pc0 := 10) (pc' := 23) rfl (hb hby d1_10) rfl (feq (by decide : ¬ ((2 : Int32) = (1 : Int32)))).2 (by decide) (by decide) k) ?_
  show gO (tF s₁ m 23 #[.val (.ref o0), .val (.int 2)] [])
  refine gob (fun _ k => XS.iloadN X0.here hx rfl (hb hby d1_23) rfl k) ?_
  show gO (tF s₁ m 24 #[.val (.ref o0), .val (.int 2)] [(.int 2)])
  refine gob (fun _ k => XS.iconst X0.here hx rfl (hb hby d1_24) k) ?_
  show gO (tF s₁ m 25 #[.val (.ref o0), .val (.int 2)] [(.int 2), (.int 2)])
  refine gob (fun _ k => XS.icmpNo X0.here hx rfl (hb hby d1_25) rfl (teq (by decide : (2 : Int32) = (2 : Int32))).2 k) ?_
  show gO (tF s₁ m 28 #[.val (.ref o0), .val (.int 2)] [])
  refine gob (fun _ k => XS.iconst X0.here hx rfl (hb hby d1_28) k) ?_
  show gO (tF s₁ m 29 #[.val (.ref o0), .val (.int 2)] [(.int 2)])
  obtain ⟨T1, h1, k1, X1, e1, E1, A1, st1⟩ := newP X0 hx hZ (hW hw 1 rfl) e0 (g := (mkF m 29 #[.val (.ref o0), .val (.int 2)] [(.int 2)])) rfl (hb hby d1_29) rfl (by decide) (cap := 2) (by decide) (by decide) (by decide) (by decide)
  obtain ⟨b1, g1⟩ : ∃ z, z = h0.size := ⟨_, rfl⟩
  rw [← g1] at A1 st1
  have n2 : o0 ≠ b1 := Nat.ne_of_lt (Nat.lt_of_lt_of_le V_e.lt (Nat.le_of_eq g1.symm))
  have g3 : n0 ≤ b1 := Nat.le_trans Z0 (Nat.le_of_eq g1.symm)
  have sz_b1 : h0.size ≤ b1 := Nat.le_trans (Keep.refl h0 []).1 (Nat.le_of_eq g1.symm)
  have z4 : n0 ≤ h1.size := Nat.le_trans Z0 E1.1
  have K5 : Keep h0 h1 ([] : List Addr) := (Keep.refl h0 ([] : List Addr)).ext E1
  have V1 : Arv Z h1 b1 k1 .int (2 : Int32) [(.int 0), (.int 0)] (.int 0) := (Arv.new A1 (by decide)).pad (pad_rep [] (.int 0) 2)
  refine gob st1 ?_
  replace X1 := castX X1 (rfl : _ = 1) (rfl : _ = 2)
  show gO (tF T1 m 31 #[.val (.ref o0), .val (.int 2)] [(.ref b1)])
  refine gob (fun _ k => XS.dup X1.here hx rfl (hb hby d1_31) rfl rfl k) ?_
  show gO (tF T1 m 32 #[.val (.ref o0), .val (.int 2)] [(.ref b1), (.ref b1)])
  refine gob (fun _ k => XS.iconst X1.here hx rfl (hb hby d1_32) k) ?_
  show gO (tF T1 m 33 #[.val (.ref o0), .val (.int 2)] [(.int 0), (.ref b1), (.ref b1)])
  refine gob (fun _ k => XS.aloadN X1.here hx rfl (hb hby d1_33) rfl rfl k) ?_
  show gO (tF T1 m 34 #[.val (.ref o0), .val (.int 2)] [(.ref o0), (.int 0), (.ref b1), (.ref b1)])
  refine gob (fun _ k => XS.iconst X1.here hx rfl (hb hby d1_34) k) ?_
  show gO (tF T1 m 35 #[.val (.ref o0), .val (.int 2)] [(.int 0), (.ref o0), (.int 0), (.ref b1), (.ref b1)])
  have c7 := (V_e.ext E1)
  obtain ⟨cl6, Ar6, aq6, S6, N6, H6, G6⟩ := id c7
  have hin6 : ¬ ((0 : Int32) < 0 ∨ cl6.slots.size ≤ ((0 : Int32)).toNatClampNeg) := inb_of S6 ⟨by decide, by decide⟩
  refine gob (X1.iaload hx (j := (0 : Int32)) (v := (.int e_0)) (by rw [e1]; exact Ar6.1) (State.isArrayOf_alike hZ.alike Ar6.2.1) Ar6.2.2 hin6 (Has.at H6 hin6 rfl) (g := (mkF m 35 #[.val (.ref o0), .val (.int 2)] [(.int 0), (.ref o0), (.int 0), (.ref b1), (.ref b1)])) rfl rfl (hb hby d1_35)) ?_
  show gO (tF T1 m 36 #[.val (.ref o0), .val (.int 2)] [(.int e_0), (.int 0), (.ref b1), (.ref b1)])
  obtain ⟨cl8, Ar8, aq8, S8, N8, H8, G8⟩ := id V1
  have hin8 : ¬ ((0 : Int32) < 0 ∨ cl8.slots.size ≤ ((0 : Int32)).toNatClampNeg) := inb_of S8 ⟨by decide, by decide⟩
  obtain ⟨T9, h9, X9, e9, W9, st9⟩ := stI X1 hx hZ e1 Ar8 (j := (0 : Int32)) hin8 (g := (mkF m 36 #[.val (.ref o0), .val (.int 2)] [(.int e_0), (.int 0), (.ref b1), (.ref b1)])) rfl rfl (hb hby d1_36)
  refine gob st9 ?_
  have z10 : n0 ≤ h9.size := Nat.le_trans z4 (Keep.of_wr W9).1
  have N9 := Fr.snoc X9 N0 g3
  have K11 : Keep h0 h9 ([] : List Addr) := K5.wr W9 (Or.inr sz_b1)
  have V9 : Arv Z h9 b1 k1 .int (2 : Int32) [(.int e_0), (.int 0)] (.int 0) := Arv.set Ar8 aq8 S8 N8 H8 G8 rfl W9 0 rfl (Nat.le_of_ble_eq_true rfl)
  show gO (tF T9 m 37 #[.val (.ref o0), .val (.int 2)] [(.ref b1)])
  refine gob (fun _ k => XS.dup X9.here hx rfl (hb hby d1_37) rfl rfl k) ?_
  show gO (tF T9 m 38 #[.val (.ref o0), .val (.int 2)] [(.ref b1), (.ref b1)])
  refine gob (fun _ k => XS.iconst X9.here hx rfl (hb hby d1_38) k) ?_
  show gO (tF T9 m 39 #[.val (.ref o0), .val (.int 2)] [(.int 1), (.ref b1), (.ref b1)])
  refine gob (fun _ k => XS.aloadN X9.here hx rfl (hb hby d1_39) rfl rfl k) ?_
  show gO (tF T9 m 40 #[.val (.ref o0), .val (.int 2)] [(.ref o0), (.int 1), (.ref b1), (.ref b1)])
  refine gob (fun _ k => XS.iconst X9.here hx rfl (hb hby d1_40) k) ?_
  show gO (tF T9 m 41 #[.val (.ref o0), .val (.int 2)] [(.int 1), (.ref o0), (.int 1), (.ref b1), (.ref b1)])
  have c13 := (c7.other W9 n2)
  obtain ⟨cl12, Ar12, aq12, S12, N12, H12, G12⟩ := id c13
  have hin12 : ¬ ((1 : Int32) < 0 ∨ cl12.slots.size ≤ ((1 : Int32)).toNatClampNeg) := inb_of S12 ⟨by decide, by decide⟩
  refine gob (X9.iaload hx (j := (1 : Int32)) (v := (.int e_1)) (by rw [e9]; exact Ar12.1) (State.isArrayOf_alike hZ.alike Ar12.2.1) Ar12.2.2 hin12 (Has.at H12 hin12 rfl) (g := (mkF m 41 #[.val (.ref o0), .val (.int 2)] [(.int 1), (.ref o0), (.int 1), (.ref b1), (.ref b1)])) rfl rfl (hb hby d1_41)) ?_
  show gO (tF T9 m 42 #[.val (.ref o0), .val (.int 2)] [(.int e_1), (.int 1), (.ref b1), (.ref b1)])
  obtain ⟨cl14, Ar14, aq14, S14, N14, H14, G14⟩ := id V9
  have hin14 : ¬ ((1 : Int32) < 0 ∨ cl14.slots.size ≤ ((1 : Int32)).toNatClampNeg) := inb_of S14 ⟨by decide, by decide⟩
  obtain ⟨T15, h15, X15, e15, W15, st15⟩ := stI X9 hx hZ e9 Ar14 (j := (1 : Int32)) hin14 (g := (mkF m 42 #[.val (.ref o0), .val (.int 2)] [(.int e_1), (.int 1), (.ref b1), (.ref b1)])) rfl rfl (hb hby d1_42)
  refine gob st15 ?_
  have z16 : n0 ≤ h15.size := Nat.le_trans z10 (Keep.of_wr W15).1
  have N15 := Fr.snoc X15 N9 g3
  have K17 : Keep h0 h15 ([] : List Addr) := K11.wr W15 (Or.inr sz_b1)
  have V15 : Arv Z h15 b1 k1 .int (2 : Int32) [(.int e_0), (.int e_1)] (.int 0) := Arv.set Ar14 aq14 S14 N14 H14 G14 rfl W15 1 rfl (Nat.le_of_ble_eq_true rfl)
  show gO (tF T15 m 43 #[.val (.ref o0), .val (.int 2)] [(.ref b1)])
  refine goA X15 hx hlk Bd.returns rfl rfl (hb hby d1_43) ?_ (by decide) (by decide)
  show Qpi2 Z o0 k_e e_0 e_1 e_2 e_3 h0 n0 (some (.ref b1)) T15.heap _
  rw [e15]
  exact ⟨b1, k1, rfl, N15, K17, sz_b1, V15⟩
theorem ef_pd2 (m : MethodId) (x0 : Addr) : entryFrame m #[(.ref x0), (.int 2)] 2 = mkF m 0 #[.val (.ref x0), .val (.int 2)] [] := by first | (simp [entryFrame, mkF, argsToLocals, Value.category]; done) | rfl
def Qpd2 (Z : State) (o0 : Addr) (k_e : ClassId) (e_0 : UInt64) (e_1 : UInt64) (e_2 : UInt64) (e_3 : UInt64) (h0 : Heap) (n0 : Nat) (v : Option Value) (h : Heap) (L : List Loc) : Prop := ∃ b1 : Addr, ∃ k1 : ClassId, v = some (.ref b1) ∧ Fr n0 L ∧ Keep h0 h ([] : List Addr) ∧ h0.size ≤ b1 ∧ Arv Z h b1 k1 .double (2 : Int32) [(.double e_0), (.double e_1)] (.double 0)
set_option maxRecDepth 65536 in
set_option maxHeartbeats 40000000 in
theorem rmpd2 (l : Launch) (Z : State) (a0 : Array Value) (hw : ∀ d ∈ tables_1, d.before a0 Z = true) (ws : List Jvm.Cond) (o0 : Addr) (k_e : ClassId) (e_0 : UInt64) (e_1 : UInt64) (e_2 : UInt64) (e_3 : UInt64) (h0 : Heap) (n0 : Nat) (Z0 : n0 ≤ h0.size) (V_e : Arv Z h0 o0 k_e .double (4 : Int32) [(.double e_0), (.double e_1), (.double e_2), (.double e_3)] (.double 0)) :
    MetFree l (⟨"com/example/fenda/fenda/analysis/CombinationOfPinLaw", "prefixDouble", "([DI)[D"⟩ : MethodName) (head1 (Jvm.Cond.code (⟨"com/example/fenda/fenda/analysis/CombinationOfPinLaw", "prefixDouble", "([DI)[D"⟩ : MethodName) method_3_code 2 (some (.array .double)) :: ws) ({ frames := 0, cells := 1, slots := 2, locals := 0 } : Room)) (fun a U => a = #[(.ref o0), (.int 2)] ∧ Z.Warmed39 U.vm ∧ U.heap = h0) (fun _ _ _ _ _ => True) (fun _ U o U' => ∃ v L, o = .returned v ∧ Qpd2 Z o0 k_e e_0 e_1 e_2 e_3 h0 n0 v U'.heap L ∧ FrameEnd U o U' L ({ frames := 0, cells := 1, slots := 2, locals := 0 } : Room).cells ({ frames := 0, cells := 1, slots := 2, locals := 0 } : Room).slots) := by
  refine MetFree.of_bodySF (plainFor_of_name (by first | (simp [plainName, overriddenIn]; done) | decide +kernel)) hisR ?_
  intro p e s m args below meth c s₁ Bd hml0 hP hK
  obtain ⟨rfl, hZ, hh⟩ := hP
  have hx := Bd.exec
  have hby := Bd.bytes
  have hml : c.maxLocals = 2 := hml0
  have hown : s.vm.findClass "com/example/fenda/fenda/analysis/CombinationOfPinLaw" = some m.cls := findClass_of_methodNamed Bd.named
  have hnm := (name_of_methodNamed Bd.named Bd.method).1
  have hlk := BodyLoose.notSynchronized Bd
  have X0 : Stand p l e ({ frames := 0, cells := 1, slots := 2, locals := 0 } : Room) s m #[(.ref o0), (.int 2)] below meth c s₁ [] 0 0 := Stand.of_body Bd
  have e0 : s₁.heap = h0 := by rw [← hh, Bd.state]; rfl
  have N0 := Fr.nil n0
  show Go p e below s (Qpd2 Z o0 k_e e_0 e_1 e_2 e_3 h0 n0) 1 2 (s₁.setTop (entryFrame m #[(.ref o0), (.int 2)] 2))
  rw [ef_pd2]
  show gO (tF s₁ m 0 #[.val (.ref o0), .val (.int 2)] [])
  refine gob (fun _ k => XS.iloadN X0.here hx rfl (hb hby d2_0) rfl k) ?_
  show gO (tF s₁ m 1 #[.val (.ref o0), .val (.int 2)] [(.int 2)])
  refine gob (fun _ k => XS.ifYes X0.here hx rfl (pc0 := 1) (pc' := 8) rfl (hb hby d2_1) rfl ((if0 _ _).trans (feq (by decide : ¬ ((2 : Int32) = (0 : Int32)))).2) (by decide) (by decide) k) ?_
  show gO (tF s₁ m 8 #[.val (.ref o0), .val (.int 2)] [])
  refine gob (fun _ k => XS.iloadN X0.here hx rfl (hb hby d2_8) rfl k) ?_
  show gO (tF s₁ m 9 #[.val (.ref o0), .val (.int 2)] [(.int 2)])
  refine gob (fun _ k => XS.iconst X0.here hx rfl (hb hby d2_9) k) ?_
  show gO (tF s₁ m 10 #[.val (.ref o0), .val (.int 2)] [(.int 1), (.int 2)])
  refine gob (fun _ k => XS.icmpYes X0.here hx rfl (pc0 := 10) (pc' := 23) rfl (hb hby d2_10) rfl (feq (by decide : ¬ ((2 : Int32) = (1 : Int32)))).2 (by decide) (by decide) k) ?_
  show gO (tF s₁ m 23 #[.val (.ref o0), .val (.int 2)] [])
  refine gob (fun _ k => XS.iloadN X0.here hx rfl (hb hby d2_23) rfl k) ?_
  show gO (tF s₁ m 24 #[.val (.ref o0), .val (.int 2)] [(.int 2)])
  refine gob (fun _ k => XS.iconst X0.here hx rfl (hb hby d2_24) k) ?_
  show gO (tF s₁ m 25 #[.val (.ref o0), .val (.int 2)] [(.int 2), (.int 2)])
  refine gob (fun _ k => XS.icmpNo X0.here hx rfl (hb hby d2_25) rfl (teq (by decide : (2 : Int32) = (2 : Int32))).2 k) ?_
  show gO (tF s₁ m 28 #[.val (.ref o0), .val (.int 2)] [])
  refine gob (fun _ k => XS.iconst X0.here hx rfl (hb hby d2_28) k) ?_
  show gO (tF s₁ m 29 #[.val (.ref o0), .val (.int 2)] [(.int 2)])
  obtain ⟨T1, h1, k1, X1, e1, E1, A1, st1⟩ := newP X0 hx hZ (hW hw 0 rfl) e0 (g := (mkF m 29 #[.val (.ref o0), .val (.int 2)] [(.int 2)])) rfl (hb hby d2_29) rfl (by decide) (cap := 2) (by decide) (by decide) (by decide) (by decide)
  obtain ⟨b1, g1⟩ : ∃ z, z = h0.size := ⟨_, rfl⟩
  rw [← g1] at A1 st1
  have n2 : o0 ≠ b1 := Nat.ne_of_lt (Nat.lt_of_lt_of_le V_e.lt (Nat.le_of_eq g1.symm))
  have g3 : n0 ≤ b1 := Nat.le_trans Z0 (Nat.le_of_eq g1.symm)
  have sz_b1 : h0.size ≤ b1 := Nat.le_trans (Keep.refl h0 []).1 (Nat.le_of_eq g1.symm)
  have z4 : n0 ≤ h1.size := Nat.le_trans Z0 E1.1
  have K5 : Keep h0 h1 ([] : List Addr) := (Keep.refl h0 ([] : List Addr)).ext E1
  have V1 : Arv Z h1 b1 k1 .double (2 : Int32) [(.double 0), (.double 0)] (.double 0) := (Arv.new A1 (by decide)).pad (pad_rep [] (.double 0) 2)
  refine gob st1 ?_
  replace X1 := castX X1 (rfl : _ = 1) (rfl : _ = 2)
  show gO (tF T1 m 31 #[.val (.ref o0), .val (.int 2)] [(.ref b1)])
  refine gob (fun _ k => XS.dup X1.here hx rfl (hb hby d2_31) rfl rfl k) ?_
  show gO (tF T1 m 32 #[.val (.ref o0), .val (.int 2)] [(.ref b1), (.ref b1)])
  refine gob (fun _ k => XS.iconst X1.here hx rfl (hb hby d2_32) k) ?_
  show gO (tF T1 m 33 #[.val (.ref o0), .val (.int 2)] [(.int 0), (.ref b1), (.ref b1)])
  refine gob (fun _ k => XS.aloadN X1.here hx rfl (hb hby d2_33) rfl rfl k) ?_
  show gO (tF T1 m 34 #[.val (.ref o0), .val (.int 2)] [(.ref o0), (.int 0), (.ref b1), (.ref b1)])
  refine gob (fun _ k => XS.iconst X1.here hx rfl (hb hby d2_34) k) ?_
  show gO (tF T1 m 35 #[.val (.ref o0), .val (.int 2)] [(.int 0), (.ref o0), (.int 0), (.ref b1), (.ref b1)])
  have c7 := (V_e.ext E1)
  obtain ⟨cl6, Ar6, aq6, S6, N6, H6, G6⟩ := id c7
  have hin6 : ¬ ((0 : Int32) < 0 ∨ cl6.slots.size ≤ ((0 : Int32)).toNatClampNeg) := inb_of S6 ⟨by decide, by decide⟩
  refine gob (X1.daload hx (j := (0 : Int32)) (v := (.double e_0)) (by rw [e1]; exact Ar6.1) (State.isArrayOf_alike hZ.alike Ar6.2.1) Ar6.2.2 hin6 (Has.at H6 hin6 rfl) (g := (mkF m 35 #[.val (.ref o0), .val (.int 2)] [(.int 0), (.ref o0), (.int 0), (.ref b1), (.ref b1)])) rfl rfl (hb hby d2_35)) ?_
  show gO (tF T1 m 36 #[.val (.ref o0), .val (.int 2)] [(.double e_0), (.int 0), (.ref b1), (.ref b1)])
  obtain ⟨cl8, Ar8, aq8, S8, N8, H8, G8⟩ := id V1
  have hin8 : ¬ ((0 : Int32) < 0 ∨ cl8.slots.size ≤ ((0 : Int32)).toNatClampNeg) := inb_of S8 ⟨by decide, by decide⟩
  obtain ⟨T9, h9, X9, e9, W9, st9⟩ := stD X1 hx hZ e1 Ar8 (j := (0 : Int32)) hin8 (g := (mkF m 36 #[.val (.ref o0), .val (.int 2)] [(.double e_0), (.int 0), (.ref b1), (.ref b1)])) rfl rfl (hb hby d2_36)
  refine gob st9 ?_
  have z10 : n0 ≤ h9.size := Nat.le_trans z4 (Keep.of_wr W9).1
  have N9 := Fr.snoc X9 N0 g3
  have K11 : Keep h0 h9 ([] : List Addr) := K5.wr W9 (Or.inr sz_b1)
  have V9 : Arv Z h9 b1 k1 .double (2 : Int32) [(.double e_0), (.double 0)] (.double 0) := Arv.set Ar8 aq8 S8 N8 H8 G8 rfl W9 0 rfl (Nat.le_of_ble_eq_true rfl)
  show gO (tF T9 m 37 #[.val (.ref o0), .val (.int 2)] [(.ref b1)])
  refine gob (fun _ k => XS.dup X9.here hx rfl (hb hby d2_37) rfl rfl k) ?_
  show gO (tF T9 m 38 #[.val (.ref o0), .val (.int 2)] [(.ref b1), (.ref b1)])
  refine gob (fun _ k => XS.iconst X9.here hx rfl (hb hby d2_38) k) ?_
  show gO (tF T9 m 39 #[.val (.ref o0), .val (.int 2)] [(.int 1), (.ref b1), (.ref b1)])
  refine gob (fun _ k => XS.aloadN X9.here hx rfl (hb hby d2_39) rfl rfl k) ?_
  show gO (tF T9 m 40 #[.val (.ref o0), .val (.int 2)] [(.ref o0), (.int 1), (.ref b1), (.ref b1)])
  refine gob (fun _ k => XS.iconst X9.here hx rfl (hb hby d2_40) k) ?_
  show gO (tF T9 m 41 #[.val (.ref o0), .val (.int 2)] [(.int 1), (.ref o0), (.int 1), (.ref b1), (.ref b1)])
  have c13 := (c7.other W9 n2)
  obtain ⟨cl12, Ar12, aq12, S12, N12, H12, G12⟩ := id c13
  have hin12 : ¬ ((1 : Int32) < 0 ∨ cl12.slots.size ≤ ((1 : Int32)).toNatClampNeg) := inb_of S12 ⟨by decide, by decide⟩
  refine gob (X9.daload hx (j := (1 : Int32)) (v := (.double e_1)) (by rw [e9]; exact Ar12.1) (State.isArrayOf_alike hZ.alike Ar12.2.1) Ar12.2.2 hin12 (Has.at H12 hin12 rfl) (g := (mkF m 41 #[.val (.ref o0), .val (.int 2)] [(.int 1), (.ref o0), (.int 1), (.ref b1), (.ref b1)])) rfl rfl (hb hby d2_41)) ?_
  show gO (tF T9 m 42 #[.val (.ref o0), .val (.int 2)] [(.double e_1), (.int 1), (.ref b1), (.ref b1)])
  obtain ⟨cl14, Ar14, aq14, S14, N14, H14, G14⟩ := id V9
  have hin14 : ¬ ((1 : Int32) < 0 ∨ cl14.slots.size ≤ ((1 : Int32)).toNatClampNeg) := inb_of S14 ⟨by decide, by decide⟩
  obtain ⟨T15, h15, X15, e15, W15, st15⟩ := stD X9 hx hZ e9 Ar14 (j := (1 : Int32)) hin14 (g := (mkF m 42 #[.val (.ref o0), .val (.int 2)] [(.double e_1), (.int 1), (.ref b1), (.ref b1)])) rfl rfl (hb hby d2_42)
  refine gob st15 ?_
  have z16 : n0 ≤ h15.size := Nat.le_trans z10 (Keep.of_wr W15).1
  have N15 := Fr.snoc X15 N9 g3
  have K17 : Keep h0 h15 ([] : List Addr) := K11.wr W15 (Or.inr sz_b1)
  have V15 : Arv Z h15 b1 k1 .double (2 : Int32) [(.double e_0), (.double e_1)] (.double 0) := Arv.set Ar14 aq14 S14 N14 H14 G14 rfl W15 1 rfl (Nat.le_of_ble_eq_true rfl)
  show gO (tF T15 m 43 #[.val (.ref o0), .val (.int 2)] [(.ref b1)])
  refine goA X15 hx hlk Bd.returns rfl rfl (hb hby d2_43) ?_ (by decide) (by decide)
  show Qpd2 Z o0 k_e e_0 e_1 e_2 e_3 h0 n0 (some (.ref b1)) T15.heap _
  rw [e15]
  exact ⟨b1, k1, rfl, N15, K17, sz_b1, V15⟩
theorem ef_pi3 (m : MethodId) (x0 : Addr) : entryFrame m #[(.ref x0), (.int 3)] 2 = mkF m 0 #[.val (.ref x0), .val (.int 3)] [] := by first | (simp [entryFrame, mkF, argsToLocals, Value.category]; done) | rfl
def Qpi3 (Z : State) (o0 : Addr) (k_e : ClassId) (e_0 : Int32) (e_1 : Int32) (e_2 : Int32) (e_3 : Int32) (h0 : Heap) (n0 : Nat) (v : Option Value) (h : Heap) (L : List Loc) : Prop := ∃ b1 : Addr, ∃ k1 : ClassId, v = some (.ref b1) ∧ Fr n0 L ∧ Keep h0 h ([] : List Addr) ∧ h0.size ≤ b1 ∧ Arv Z h b1 k1 .int (3 : Int32) [(.int e_0), (.int e_1), (.int e_2)] (.int 0)
set_option maxRecDepth 65536 in
set_option maxHeartbeats 40000000 in
theorem rmpi3 (l : Launch) (Z : State) (a0 : Array Value) (hw : ∀ d ∈ tables_1, d.before a0 Z = true) (ws : List Jvm.Cond) (o0 : Addr) (k_e : ClassId) (e_0 : Int32) (e_1 : Int32) (e_2 : Int32) (e_3 : Int32) (h0 : Heap) (n0 : Nat) (Z0 : n0 ≤ h0.size) (V_e : Arv Z h0 o0 k_e .int (4 : Int32) [(.int e_0), (.int e_1), (.int e_2), (.int e_3)] (.int 0)) :
    MetFree l (⟨"com/example/fenda/fenda/analysis/CombinationOfPinLaw", "prefixInt", "([II)[I"⟩ : MethodName) (head1 (Jvm.Cond.code (⟨"com/example/fenda/fenda/analysis/CombinationOfPinLaw", "prefixInt", "([II)[I"⟩ : MethodName) method_2_code 2 (some (.array .int)) :: ws) ({ frames := 0, cells := 1, slots := 3, locals := 0 } : Room)) (fun a U => a = #[(.ref o0), (.int 3)] ∧ Z.Warmed39 U.vm ∧ U.heap = h0) (fun _ _ _ _ _ => True) (fun _ U o U' => ∃ v L, o = .returned v ∧ Qpi3 Z o0 k_e e_0 e_1 e_2 e_3 h0 n0 v U'.heap L ∧ FrameEnd U o U' L ({ frames := 0, cells := 1, slots := 3, locals := 0 } : Room).cells ({ frames := 0, cells := 1, slots := 3, locals := 0 } : Room).slots) := by
  refine MetFree.of_bodySF (plainFor_of_name (by first | (simp [plainName, overriddenIn]; done) | decide +kernel)) hisR ?_
  intro p e s m args below meth c s₁ Bd hml0 hP hK
  obtain ⟨rfl, hZ, hh⟩ := hP
  have hx := Bd.exec
  have hby := Bd.bytes
  have hml : c.maxLocals = 2 := hml0
  have hown : s.vm.findClass "com/example/fenda/fenda/analysis/CombinationOfPinLaw" = some m.cls := findClass_of_methodNamed Bd.named
  have hnm := (name_of_methodNamed Bd.named Bd.method).1
  have hlk := BodyLoose.notSynchronized Bd
  have X0 : Stand p l e ({ frames := 0, cells := 1, slots := 3, locals := 0 } : Room) s m #[(.ref o0), (.int 3)] below meth c s₁ [] 0 0 := Stand.of_body Bd
  have e0 : s₁.heap = h0 := by rw [← hh, Bd.state]; rfl
  have N0 := Fr.nil n0
  show Go p e below s (Qpi3 Z o0 k_e e_0 e_1 e_2 e_3 h0 n0) 1 3 (s₁.setTop (entryFrame m #[(.ref o0), (.int 3)] 2))
  rw [ef_pi3]
  show gO (tF s₁ m 0 #[.val (.ref o0), .val (.int 3)] [])
  refine gob (fun _ k => XS.iloadN X0.here hx rfl (hb hby d1_0) rfl k) ?_
  show gO (tF s₁ m 1 #[.val (.ref o0), .val (.int 3)] [(.int 3)])
  refine gob (fun _ k => XS.ifYes X0.here hx rfl (pc0 := 1) (pc' := 8) rfl (hb hby d1_1) rfl ((if0 _ _).trans (feq (by decide : ¬ ((3 : Int32) = (0 : Int32)))).2) (by decide) (by decide) k) ?_
  show gO (tF s₁ m 8 #[.val (.ref o0), .val (.int 3)] [])
  refine gob (fun _ k => XS.iloadN X0.here hx rfl (hb hby d1_8) rfl k) ?_
  show gO (tF s₁ m 9 #[.val (.ref o0), .val (.int 3)] [(.int 3)])
  refine gob (fun _ k => XS.iconst X0.here hx rfl (hb hby d1_9) k) ?_
  show gO (tF s₁ m 10 #[.val (.ref o0), .val (.int 3)] [(.int 1), (.int 3)])
  refine gob (fun _ k => XS.icmpYes X0.here hx rfl (pc0 := 10) (pc' := 23) rfl (hb hby d1_10) rfl (feq (by decide : ¬ ((3 : Int32) = (1 : Int32)))).2 (by decide) (by decide) k) ?_
  show gO (tF s₁ m 23 #[.val (.ref o0), .val (.int 3)] [])
  refine gob (fun _ k => XS.iloadN X0.here hx rfl (hb hby d1_23) rfl k) ?_
  show gO (tF s₁ m 24 #[.val (.ref o0), .val (.int 3)] [(.int 3)])
  refine gob (fun _ k => XS.iconst X0.here hx rfl (hb hby d1_24) k) ?_
  show gO (tF s₁ m 25 #[.val (.ref o0), .val (.int 3)] [(.int 2), (.int 3)])
  refine gob (fun _ k => XS.icmpYes X0.here hx rfl (pc0 := 25) (pc' := 44) rfl (hb hby d1_25) rfl (feq (by decide : ¬ ((3 : Int32) = (2 : Int32)))).2 (by decide) (by decide) k) ?_
  show gO (tF s₁ m 44 #[.val (.ref o0), .val (.int 3)] [])
  refine gob (fun _ k => XS.iloadN X0.here hx rfl (hb hby d1_44) rfl k) ?_
  show gO (tF s₁ m 45 #[.val (.ref o0), .val (.int 3)] [(.int 3)])
  refine gob (fun _ k => XS.iconst X0.here hx rfl (hb hby d1_45) k) ?_
  show gO (tF s₁ m 46 #[.val (.ref o0), .val (.int 3)] [(.int 3), (.int 3)])
  refine gob (fun _ k => XS.icmpNo X0.here hx rfl (hb hby d1_46) rfl (teq (by decide : (3 : Int32) = (3 : Int32))).2 k) ?_
  show gO (tF s₁ m 49 #[.val (.ref o0), .val (.int 3)] [])
  refine gob (fun _ k => XS.iconst X0.here hx rfl (hb hby d1_49) k) ?_
  show gO (tF s₁ m 50 #[.val (.ref o0), .val (.int 3)] [(.int 3)])
  obtain ⟨T1, h1, k1, X1, e1, E1, A1, st1⟩ := newP X0 hx hZ (hW hw 1 rfl) e0 (g := (mkF m 50 #[.val (.ref o0), .val (.int 3)] [(.int 3)])) rfl (hb hby d1_50) rfl (by decide) (cap := 3) (by decide) (by decide) (by decide) (by decide)
  obtain ⟨b1, g1⟩ : ∃ z, z = h0.size := ⟨_, rfl⟩
  rw [← g1] at A1 st1
  have n2 : o0 ≠ b1 := Nat.ne_of_lt (Nat.lt_of_lt_of_le V_e.lt (Nat.le_of_eq g1.symm))
  have g3 : n0 ≤ b1 := Nat.le_trans Z0 (Nat.le_of_eq g1.symm)
  have sz_b1 : h0.size ≤ b1 := Nat.le_trans (Keep.refl h0 []).1 (Nat.le_of_eq g1.symm)
  have z4 : n0 ≤ h1.size := Nat.le_trans Z0 E1.1
  have K5 : Keep h0 h1 ([] : List Addr) := (Keep.refl h0 ([] : List Addr)).ext E1
  have V1 : Arv Z h1 b1 k1 .int (3 : Int32) [(.int 0), (.int 0), (.int 0)] (.int 0) := (Arv.new A1 (by decide)).pad (pad_rep [] (.int 0) 3)
  refine gob st1 ?_
  replace X1 := castX X1 (rfl : _ = 1) (rfl : _ = 3)
  show gO (tF T1 m 52 #[.val (.ref o0), .val (.int 3)] [(.ref b1)])
  refine gob (fun _ k => XS.dup X1.here hx rfl (hb hby d1_52) rfl rfl k) ?_
  show gO (tF T1 m 53 #[.val (.ref o0), .val (.int 3)] [(.ref b1), (.ref b1)])
  refine gob (fun _ k => XS.iconst X1.here hx rfl (hb hby d1_53) k) ?_
  show gO (tF T1 m 54 #[.val (.ref o0), .val (.int 3)] [(.int 0), (.ref b1), (.ref b1)])
  refine gob (fun _ k => XS.aloadN X1.here hx rfl (hb hby d1_54) rfl rfl k) ?_
  show gO (tF T1 m 55 #[.val (.ref o0), .val (.int 3)] [(.ref o0), (.int 0), (.ref b1), (.ref b1)])
  refine gob (fun _ k => XS.iconst X1.here hx rfl (hb hby d1_55) k) ?_
  show gO (tF T1 m 56 #[.val (.ref o0), .val (.int 3)] [(.int 0), (.ref o0), (.int 0), (.ref b1), (.ref b1)])
  have c7 := (V_e.ext E1)
  obtain ⟨cl6, Ar6, aq6, S6, N6, H6, G6⟩ := id c7
  have hin6 : ¬ ((0 : Int32) < 0 ∨ cl6.slots.size ≤ ((0 : Int32)).toNatClampNeg) := inb_of S6 ⟨by decide, by decide⟩
  refine gob (X1.iaload hx (j := (0 : Int32)) (v := (.int e_0)) (by rw [e1]; exact Ar6.1) (State.isArrayOf_alike hZ.alike Ar6.2.1) Ar6.2.2 hin6 (Has.at H6 hin6 rfl) (g := (mkF m 56 #[.val (.ref o0), .val (.int 3)] [(.int 0), (.ref o0), (.int 0), (.ref b1), (.ref b1)])) rfl rfl (hb hby d1_56)) ?_
  show gO (tF T1 m 57 #[.val (.ref o0), .val (.int 3)] [(.int e_0), (.int 0), (.ref b1), (.ref b1)])
  obtain ⟨cl8, Ar8, aq8, S8, N8, H8, G8⟩ := id V1
  have hin8 : ¬ ((0 : Int32) < 0 ∨ cl8.slots.size ≤ ((0 : Int32)).toNatClampNeg) := inb_of S8 ⟨by decide, by decide⟩
  obtain ⟨T9, h9, X9, e9, W9, st9⟩ := stI X1 hx hZ e1 Ar8 (j := (0 : Int32)) hin8 (g := (mkF m 57 #[.val (.ref o0), .val (.int 3)] [(.int e_0), (.int 0), (.ref b1), (.ref b1)])) rfl rfl (hb hby d1_57)
  refine gob st9 ?_
  have z10 : n0 ≤ h9.size := Nat.le_trans z4 (Keep.of_wr W9).1
  have N9 := Fr.snoc X9 N0 g3
  have K11 : Keep h0 h9 ([] : List Addr) := K5.wr W9 (Or.inr sz_b1)
  have V9 : Arv Z h9 b1 k1 .int (3 : Int32) [(.int e_0), (.int 0), (.int 0)] (.int 0) := Arv.set Ar8 aq8 S8 N8 H8 G8 rfl W9 0 rfl (Nat.le_of_ble_eq_true rfl)
  show gO (tF T9 m 58 #[.val (.ref o0), .val (.int 3)] [(.ref b1)])
  refine gob (fun _ k => XS.dup X9.here hx rfl (hb hby d1_58) rfl rfl k) ?_
  show gO (tF T9 m 59 #[.val (.ref o0), .val (.int 3)] [(.ref b1), (.ref b1)])
  refine gob (fun _ k => XS.iconst X9.here hx rfl (hb hby d1_59) k) ?_
  show gO (tF T9 m 60 #[.val (.ref o0), .val (.int 3)] [(.int 1), (.ref b1), (.ref b1)])
  refine gob (fun _ k => XS.aloadN X9.here hx rfl (hb hby d1_60) rfl rfl k) ?_
  show gO (tF T9 m 61 #[.val (.ref o0), .val (.int 3)] [(.ref o0), (.int 1), (.ref b1), (.ref b1)])
  refine gob (fun _ k => XS.iconst X9.here hx rfl (hb hby d1_61) k) ?_
  show gO (tF T9 m 62 #[.val (.ref o0), .val (.int 3)] [(.int 1), (.ref o0), (.int 1), (.ref b1), (.ref b1)])
  have c13 := (c7.other W9 n2)
  obtain ⟨cl12, Ar12, aq12, S12, N12, H12, G12⟩ := id c13
  have hin12 : ¬ ((1 : Int32) < 0 ∨ cl12.slots.size ≤ ((1 : Int32)).toNatClampNeg) := inb_of S12 ⟨by decide, by decide⟩
  refine gob (X9.iaload hx (j := (1 : Int32)) (v := (.int e_1)) (by rw [e9]; exact Ar12.1) (State.isArrayOf_alike hZ.alike Ar12.2.1) Ar12.2.2 hin12 (Has.at H12 hin12 rfl) (g := (mkF m 62 #[.val (.ref o0), .val (.int 3)] [(.int 1), (.ref o0), (.int 1), (.ref b1), (.ref b1)])) rfl rfl (hb hby d1_62)) ?_
  show gO (tF T9 m 63 #[.val (.ref o0), .val (.int 3)] [(.int e_1), (.int 1), (.ref b1), (.ref b1)])
  obtain ⟨cl14, Ar14, aq14, S14, N14, H14, G14⟩ := id V9
  have hin14 : ¬ ((1 : Int32) < 0 ∨ cl14.slots.size ≤ ((1 : Int32)).toNatClampNeg) := inb_of S14 ⟨by decide, by decide⟩
  obtain ⟨T15, h15, X15, e15, W15, st15⟩ := stI X9 hx hZ e9 Ar14 (j := (1 : Int32)) hin14 (g := (mkF m 63 #[.val (.ref o0), .val (.int 3)] [(.int e_1), (.int 1), (.ref b1), (.ref b1)])) rfl rfl (hb hby d1_63)
  refine gob st15 ?_
  have z16 : n0 ≤ h15.size := Nat.le_trans z10 (Keep.of_wr W15).1
  have N15 := Fr.snoc X15 N9 g3
  have K17 : Keep h0 h15 ([] : List Addr) := K11.wr W15 (Or.inr sz_b1)
  have V15 : Arv Z h15 b1 k1 .int (3 : Int32) [(.int e_0), (.int e_1), (.int 0)] (.int 0) := Arv.set Ar14 aq14 S14 N14 H14 G14 rfl W15 1 rfl (Nat.le_of_ble_eq_true rfl)
  show gO (tF T15 m 64 #[.val (.ref o0), .val (.int 3)] [(.ref b1)])
  refine gob (fun _ k => XS.dup X15.here hx rfl (hb hby d1_64) rfl rfl k) ?_
  show gO (tF T15 m 65 #[.val (.ref o0), .val (.int 3)] [(.ref b1), (.ref b1)])
  refine gob (fun _ k => XS.iconst X15.here hx rfl (hb hby d1_65) k) ?_
  show gO (tF T15 m 66 #[.val (.ref o0), .val (.int 3)] [(.int 2), (.ref b1), (.ref b1)])
  refine gob (fun _ k => XS.aloadN X15.here hx rfl (hb hby d1_66) rfl rfl k) ?_
  show gO (tF T15 m 67 #[.val (.ref o0), .val (.int 3)] [(.ref o0), (.int 2), (.ref b1), (.ref b1)])
  refine gob (fun _ k => XS.iconst X15.here hx rfl (hb hby d1_67) k) ?_
  show gO (tF T15 m 68 #[.val (.ref o0), .val (.int 3)] [(.int 2), (.ref o0), (.int 2), (.ref b1), (.ref b1)])
  have c19 := (c13.other W15 n2)
  obtain ⟨cl18, Ar18, aq18, S18, N18, H18, G18⟩ := id c19
  have hin18 : ¬ ((2 : Int32) < 0 ∨ cl18.slots.size ≤ ((2 : Int32)).toNatClampNeg) := inb_of S18 ⟨by decide, by decide⟩
  refine gob (X15.iaload hx (j := (2 : Int32)) (v := (.int e_2)) (by rw [e15]; exact Ar18.1) (State.isArrayOf_alike hZ.alike Ar18.2.1) Ar18.2.2 hin18 (Has.at H18 hin18 rfl) (g := (mkF m 68 #[.val (.ref o0), .val (.int 3)] [(.int 2), (.ref o0), (.int 2), (.ref b1), (.ref b1)])) rfl rfl (hb hby d1_68)) ?_
  show gO (tF T15 m 69 #[.val (.ref o0), .val (.int 3)] [(.int e_2), (.int 2), (.ref b1), (.ref b1)])
  obtain ⟨cl20, Ar20, aq20, S20, N20, H20, G20⟩ := id V15
  have hin20 : ¬ ((2 : Int32) < 0 ∨ cl20.slots.size ≤ ((2 : Int32)).toNatClampNeg) := inb_of S20 ⟨by decide, by decide⟩
  obtain ⟨T21, h21, X21, e21, W21, st21⟩ := stI X15 hx hZ e15 Ar20 (j := (2 : Int32)) hin20 (g := (mkF m 69 #[.val (.ref o0), .val (.int 3)] [(.int e_2), (.int 2), (.ref b1), (.ref b1)])) rfl rfl (hb hby d1_69)
  refine gob st21 ?_
  have z22 : n0 ≤ h21.size := Nat.le_trans z16 (Keep.of_wr W21).1
  have N21 := Fr.snoc X21 N15 g3
  have K23 : Keep h0 h21 ([] : List Addr) := K17.wr W21 (Or.inr sz_b1)
  have V21 : Arv Z h21 b1 k1 .int (3 : Int32) [(.int e_0), (.int e_1), (.int e_2)] (.int 0) := Arv.set Ar20 aq20 S20 N20 H20 G20 rfl W21 2 rfl (Nat.le_of_ble_eq_true rfl)
  show gO (tF T21 m 70 #[.val (.ref o0), .val (.int 3)] [(.ref b1)])
  refine goA X21 hx hlk Bd.returns rfl rfl (hb hby d1_70) ?_ (by decide) (by decide)
  show Qpi3 Z o0 k_e e_0 e_1 e_2 e_3 h0 n0 (some (.ref b1)) T21.heap _
  rw [e21]
  exact ⟨b1, k1, rfl, N21, K23, sz_b1, V21⟩
theorem ef_pd3 (m : MethodId) (x0 : Addr) : entryFrame m #[(.ref x0), (.int 3)] 2 = mkF m 0 #[.val (.ref x0), .val (.int 3)] [] := by first | (simp [entryFrame, mkF, argsToLocals, Value.category]; done) | rfl
def Qpd3 (Z : State) (o0 : Addr) (k_e : ClassId) (e_0 : UInt64) (e_1 : UInt64) (e_2 : UInt64) (e_3 : UInt64) (h0 : Heap) (n0 : Nat) (v : Option Value) (h : Heap) (L : List Loc) : Prop := ∃ b1 : Addr, ∃ k1 : ClassId, v = some (.ref b1) ∧ Fr n0 L ∧ Keep h0 h ([] : List Addr) ∧ h0.size ≤ b1 ∧ Arv Z h b1 k1 .double (3 : Int32) [(.double e_0), (.double e_1), (.double e_2)] (.double 0)
set_option maxRecDepth 65536 in
set_option maxHeartbeats 40000000 in
theorem rmpd3 (l : Launch) (Z : State) (a0 : Array Value) (hw : ∀ d ∈ tables_1, d.before a0 Z = true) (ws : List Jvm.Cond) (o0 : Addr) (k_e : ClassId) (e_0 : UInt64) (e_1 : UInt64) (e_2 : UInt64) (e_3 : UInt64) (h0 : Heap) (n0 : Nat) (Z0 : n0 ≤ h0.size) (V_e : Arv Z h0 o0 k_e .double (4 : Int32) [(.double e_0), (.double e_1), (.double e_2), (.double e_3)] (.double 0)) :
    MetFree l (⟨"com/example/fenda/fenda/analysis/CombinationOfPinLaw", "prefixDouble", "([DI)[D"⟩ : MethodName) (head1 (Jvm.Cond.code (⟨"com/example/fenda/fenda/analysis/CombinationOfPinLaw", "prefixDouble", "([DI)[D"⟩ : MethodName) method_3_code 2 (some (.array .double)) :: ws) ({ frames := 0, cells := 1, slots := 3, locals := 0 } : Room)) (fun a U => a = #[(.ref o0), (.int 3)] ∧ Z.Warmed39 U.vm ∧ U.heap = h0) (fun _ _ _ _ _ => True) (fun _ U o U' => ∃ v L, o = .returned v ∧ Qpd3 Z o0 k_e e_0 e_1 e_2 e_3 h0 n0 v U'.heap L ∧ FrameEnd U o U' L ({ frames := 0, cells := 1, slots := 3, locals := 0 } : Room).cells ({ frames := 0, cells := 1, slots := 3, locals := 0 } : Room).slots) := by
  refine MetFree.of_bodySF (plainFor_of_name (by first | (simp [plainName, overriddenIn]; done) | decide +kernel)) hisR ?_
  intro p e s m args below meth c s₁ Bd hml0 hP hK
  obtain ⟨rfl, hZ, hh⟩ := hP
  have hx := Bd.exec
  have hby := Bd.bytes
  have hml : c.maxLocals = 2 := hml0
  have hown : s.vm.findClass "com/example/fenda/fenda/analysis/CombinationOfPinLaw" = some m.cls := findClass_of_methodNamed Bd.named
  have hnm := (name_of_methodNamed Bd.named Bd.method).1
  have hlk := BodyLoose.notSynchronized Bd
  have X0 : Stand p l e ({ frames := 0, cells := 1, slots := 3, locals := 0 } : Room) s m #[(.ref o0), (.int 3)] below meth c s₁ [] 0 0 := Stand.of_body Bd
  have e0 : s₁.heap = h0 := by rw [← hh, Bd.state]; rfl
  have N0 := Fr.nil n0
  show Go p e below s (Qpd3 Z o0 k_e e_0 e_1 e_2 e_3 h0 n0) 1 3 (s₁.setTop (entryFrame m #[(.ref o0), (.int 3)] 2))
  rw [ef_pd3]
  show gO (tF s₁ m 0 #[.val (.ref o0), .val (.int 3)] [])
  refine gob (fun _ k => XS.iloadN X0.here hx rfl (hb hby d2_0) rfl k) ?_
  show gO (tF s₁ m 1 #[.val (.ref o0), .val (.int 3)] [(.int 3)])
  refine gob (fun _ k => XS.ifYes X0.here hx rfl (pc0 := 1) (pc' := 8) rfl (hb hby d2_1) rfl ((if0 _ _).trans (feq (by decide : ¬ ((3 : Int32) = (0 : Int32)))).2) (by decide) (by decide) k) ?_
  show gO (tF s₁ m 8 #[.val (.ref o0), .val (.int 3)] [])
  refine gob (fun _ k => XS.iloadN X0.here hx rfl (hb hby d2_8) rfl k) ?_
  show gO (tF s₁ m 9 #[.val (.ref o0), .val (.int 3)] [(.int 3)])
  refine gob (fun _ k => XS.iconst X0.here hx rfl (hb hby d2_9) k) ?_
  show gO (tF s₁ m 10 #[.val (.ref o0), .val (.int 3)] [(.int 1), (.int 3)])
  refine gob (fun _ k => XS.icmpYes X0.here hx rfl (pc0 := 10) (pc' := 23) rfl (hb hby d2_10) rfl (feq (by decide : ¬ ((3 : Int32) = (1 : Int32)))).2 (by decide) (by decide) k) ?_
  show gO (tF s₁ m 23 #[.val (.ref o0), .val (.int 3)] [])
  refine gob (fun _ k => XS.iloadN X0.here hx rfl (hb hby d2_23) rfl k) ?_
  show gO (tF s₁ m 24 #[.val (.ref o0), .val (.int 3)] [(.int 3)])
  refine gob (fun _ k => XS.iconst X0.here hx rfl (hb hby d2_24) k) ?_
  show gO (tF s₁ m 25 #[.val (.ref o0), .val (.int 3)] [(.int 2), (.int 3)])
  refine gob (fun _ k => XS.icmpYes X0.here hx rfl (pc0 := 25) (pc' := 44) rfl (hb hby d2_25) rfl (feq (by decide : ¬ ((3 : Int32) = (2 : Int32)))).2 (by decide) (by decide) k) ?_
  show gO (tF s₁ m 44 #[.val (.ref o0), .val (.int 3)] [])
  refine gob (fun _ k => XS.iloadN X0.here hx rfl (hb hby d2_44) rfl k) ?_
  show gO (tF s₁ m 45 #[.val (.ref o0), .val (.int 3)] [(.int 3)])
  refine gob (fun _ k => XS.iconst X0.here hx rfl (hb hby d2_45) k) ?_
  show gO (tF s₁ m 46 #[.val (.ref o0), .val (.int 3)] [(.int 3), (.int 3)])
  refine gob (fun _ k => XS.icmpNo X0.here hx rfl (hb hby d2_46) rfl (teq (by decide : (3 : Int32) = (3 : Int32))).2 k) ?_
  show gO (tF s₁ m 49 #[.val (.ref o0), .val (.int 3)] [])
  refine gob (fun _ k => XS.iconst X0.here hx rfl (hb hby d2_49) k) ?_
  show gO (tF s₁ m 50 #[.val (.ref o0), .val (.int 3)] [(.int 3)])
  obtain ⟨T1, h1, k1, X1, e1, E1, A1, st1⟩ := newP X0 hx hZ (hW hw 0 rfl) e0 (g := (mkF m 50 #[.val (.ref o0), .val (.int 3)] [(.int 3)])) rfl (hb hby d2_50) rfl (by decide) (cap := 3) (by decide) (by decide) (by decide) (by decide)
  obtain ⟨b1, g1⟩ : ∃ z, z = h0.size := ⟨_, rfl⟩
  rw [← g1] at A1 st1
  have n2 : o0 ≠ b1 := Nat.ne_of_lt (Nat.lt_of_lt_of_le V_e.lt (Nat.le_of_eq g1.symm))
  have g3 : n0 ≤ b1 := Nat.le_trans Z0 (Nat.le_of_eq g1.symm)
  have sz_b1 : h0.size ≤ b1 := Nat.le_trans (Keep.refl h0 []).1 (Nat.le_of_eq g1.symm)
  have z4 : n0 ≤ h1.size := Nat.le_trans Z0 E1.1
  have K5 : Keep h0 h1 ([] : List Addr) := (Keep.refl h0 ([] : List Addr)).ext E1
  have V1 : Arv Z h1 b1 k1 .double (3 : Int32) [(.double 0), (.double 0), (.double 0)] (.double 0) := (Arv.new A1 (by decide)).pad (pad_rep [] (.double 0) 3)
  refine gob st1 ?_
  replace X1 := castX X1 (rfl : _ = 1) (rfl : _ = 3)
  show gO (tF T1 m 52 #[.val (.ref o0), .val (.int 3)] [(.ref b1)])
  refine gob (fun _ k => XS.dup X1.here hx rfl (hb hby d2_52) rfl rfl k) ?_
  show gO (tF T1 m 53 #[.val (.ref o0), .val (.int 3)] [(.ref b1), (.ref b1)])
  refine gob (fun _ k => XS.iconst X1.here hx rfl (hb hby d2_53) k) ?_
  show gO (tF T1 m 54 #[.val (.ref o0), .val (.int 3)] [(.int 0), (.ref b1), (.ref b1)])
  refine gob (fun _ k => XS.aloadN X1.here hx rfl (hb hby d2_54) rfl rfl k) ?_
  show gO (tF T1 m 55 #[.val (.ref o0), .val (.int 3)] [(.ref o0), (.int 0), (.ref b1), (.ref b1)])
  refine gob (fun _ k => XS.iconst X1.here hx rfl (hb hby d2_55) k) ?_
  show gO (tF T1 m 56 #[.val (.ref o0), .val (.int 3)] [(.int 0), (.ref o0), (.int 0), (.ref b1), (.ref b1)])
  have c7 := (V_e.ext E1)
  obtain ⟨cl6, Ar6, aq6, S6, N6, H6, G6⟩ := id c7
  have hin6 : ¬ ((0 : Int32) < 0 ∨ cl6.slots.size ≤ ((0 : Int32)).toNatClampNeg) := inb_of S6 ⟨by decide, by decide⟩
  refine gob (X1.daload hx (j := (0 : Int32)) (v := (.double e_0)) (by rw [e1]; exact Ar6.1) (State.isArrayOf_alike hZ.alike Ar6.2.1) Ar6.2.2 hin6 (Has.at H6 hin6 rfl) (g := (mkF m 56 #[.val (.ref o0), .val (.int 3)] [(.int 0), (.ref o0), (.int 0), (.ref b1), (.ref b1)])) rfl rfl (hb hby d2_56)) ?_
  show gO (tF T1 m 57 #[.val (.ref o0), .val (.int 3)] [(.double e_0), (.int 0), (.ref b1), (.ref b1)])
  obtain ⟨cl8, Ar8, aq8, S8, N8, H8, G8⟩ := id V1
  have hin8 : ¬ ((0 : Int32) < 0 ∨ cl8.slots.size ≤ ((0 : Int32)).toNatClampNeg) := inb_of S8 ⟨by decide, by decide⟩
  obtain ⟨T9, h9, X9, e9, W9, st9⟩ := stD X1 hx hZ e1 Ar8 (j := (0 : Int32)) hin8 (g := (mkF m 57 #[.val (.ref o0), .val (.int 3)] [(.double e_0), (.int 0), (.ref b1), (.ref b1)])) rfl rfl (hb hby d2_57)
  refine gob st9 ?_
  have z10 : n0 ≤ h9.size := Nat.le_trans z4 (Keep.of_wr W9).1
  have N9 := Fr.snoc X9 N0 g3
  have K11 : Keep h0 h9 ([] : List Addr) := K5.wr W9 (Or.inr sz_b1)
  have V9 : Arv Z h9 b1 k1 .double (3 : Int32) [(.double e_0), (.double 0), (.double 0)] (.double 0) := Arv.set Ar8 aq8 S8 N8 H8 G8 rfl W9 0 rfl (Nat.le_of_ble_eq_true rfl)
  show gO (tF T9 m 58 #[.val (.ref o0), .val (.int 3)] [(.ref b1)])
  refine gob (fun _ k => XS.dup X9.here hx rfl (hb hby d2_58) rfl rfl k) ?_
  show gO (tF T9 m 59 #[.val (.ref o0), .val (.int 3)] [(.ref b1), (.ref b1)])
  refine gob (fun _ k => XS.iconst X9.here hx rfl (hb hby d2_59) k) ?_
  show gO (tF T9 m 60 #[.val (.ref o0), .val (.int 3)] [(.int 1), (.ref b1), (.ref b1)])
  refine gob (fun _ k => XS.aloadN X9.here hx rfl (hb hby d2_60) rfl rfl k) ?_
  show gO (tF T9 m 61 #[.val (.ref o0), .val (.int 3)] [(.ref o0), (.int 1), (.ref b1), (.ref b1)])
  refine gob (fun _ k => XS.iconst X9.here hx rfl (hb hby d2_61) k) ?_
  show gO (tF T9 m 62 #[.val (.ref o0), .val (.int 3)] [(.int 1), (.ref o0), (.int 1), (.ref b1), (.ref b1)])
  have c13 := (c7.other W9 n2)
  obtain ⟨cl12, Ar12, aq12, S12, N12, H12, G12⟩ := id c13
  have hin12 : ¬ ((1 : Int32) < 0 ∨ cl12.slots.size ≤ ((1 : Int32)).toNatClampNeg) := inb_of S12 ⟨by decide, by decide⟩
  refine gob (X9.daload hx (j := (1 : Int32)) (v := (.double e_1)) (by rw [e9]; exact Ar12.1) (State.isArrayOf_alike hZ.alike Ar12.2.1) Ar12.2.2 hin12 (Has.at H12 hin12 rfl) (g := (mkF m 62 #[.val (.ref o0), .val (.int 3)] [(.int 1), (.ref o0), (.int 1), (.ref b1), (.ref b1)])) rfl rfl (hb hby d2_62)) ?_
  show gO (tF T9 m 63 #[.val (.ref o0), .val (.int 3)] [(.double e_1), (.int 1), (.ref b1), (.ref b1)])
  obtain ⟨cl14, Ar14, aq14, S14, N14, H14, G14⟩ := id V9
  have hin14 : ¬ ((1 : Int32) < 0 ∨ cl14.slots.size ≤ ((1 : Int32)).toNatClampNeg) := inb_of S14 ⟨by decide, by decide⟩
  obtain ⟨T15, h15, X15, e15, W15, st15⟩ := stD X9 hx hZ e9 Ar14 (j := (1 : Int32)) hin14 (g := (mkF m 63 #[.val (.ref o0), .val (.int 3)] [(.double e_1), (.int 1), (.ref b1), (.ref b1)])) rfl rfl (hb hby d2_63)
  refine gob st15 ?_
  have z16 : n0 ≤ h15.size := Nat.le_trans z10 (Keep.of_wr W15).1
  have N15 := Fr.snoc X15 N9 g3
  have K17 : Keep h0 h15 ([] : List Addr) := K11.wr W15 (Or.inr sz_b1)
  have V15 : Arv Z h15 b1 k1 .double (3 : Int32) [(.double e_0), (.double e_1), (.double 0)] (.double 0) := Arv.set Ar14 aq14 S14 N14 H14 G14 rfl W15 1 rfl (Nat.le_of_ble_eq_true rfl)
  show gO (tF T15 m 64 #[.val (.ref o0), .val (.int 3)] [(.ref b1)])
  refine gob (fun _ k => XS.dup X15.here hx rfl (hb hby d2_64) rfl rfl k) ?_
  show gO (tF T15 m 65 #[.val (.ref o0), .val (.int 3)] [(.ref b1), (.ref b1)])
  refine gob (fun _ k => XS.iconst X15.here hx rfl (hb hby d2_65) k) ?_
  show gO (tF T15 m 66 #[.val (.ref o0), .val (.int 3)] [(.int 2), (.ref b1), (.ref b1)])
  refine gob (fun _ k => XS.aloadN X15.here hx rfl (hb hby d2_66) rfl rfl k) ?_
  show gO (tF T15 m 67 #[.val (.ref o0), .val (.int 3)] [(.ref o0), (.int 2), (.ref b1), (.ref b1)])
  refine gob (fun _ k => XS.iconst X15.here hx rfl (hb hby d2_67) k) ?_
  show gO (tF T15 m 68 #[.val (.ref o0), .val (.int 3)] [(.int 2), (.ref o0), (.int 2), (.ref b1), (.ref b1)])
  have c19 := (c13.other W15 n2)
  obtain ⟨cl18, Ar18, aq18, S18, N18, H18, G18⟩ := id c19
  have hin18 : ¬ ((2 : Int32) < 0 ∨ cl18.slots.size ≤ ((2 : Int32)).toNatClampNeg) := inb_of S18 ⟨by decide, by decide⟩
  refine gob (X15.daload hx (j := (2 : Int32)) (v := (.double e_2)) (by rw [e15]; exact Ar18.1) (State.isArrayOf_alike hZ.alike Ar18.2.1) Ar18.2.2 hin18 (Has.at H18 hin18 rfl) (g := (mkF m 68 #[.val (.ref o0), .val (.int 3)] [(.int 2), (.ref o0), (.int 2), (.ref b1), (.ref b1)])) rfl rfl (hb hby d2_68)) ?_
  show gO (tF T15 m 69 #[.val (.ref o0), .val (.int 3)] [(.double e_2), (.int 2), (.ref b1), (.ref b1)])
  obtain ⟨cl20, Ar20, aq20, S20, N20, H20, G20⟩ := id V15
  have hin20 : ¬ ((2 : Int32) < 0 ∨ cl20.slots.size ≤ ((2 : Int32)).toNatClampNeg) := inb_of S20 ⟨by decide, by decide⟩
  obtain ⟨T21, h21, X21, e21, W21, st21⟩ := stD X15 hx hZ e15 Ar20 (j := (2 : Int32)) hin20 (g := (mkF m 69 #[.val (.ref o0), .val (.int 3)] [(.double e_2), (.int 2), (.ref b1), (.ref b1)])) rfl rfl (hb hby d2_69)
  refine gob st21 ?_
  have z22 : n0 ≤ h21.size := Nat.le_trans z16 (Keep.of_wr W21).1
  have N21 := Fr.snoc X21 N15 g3
  have K23 : Keep h0 h21 ([] : List Addr) := K17.wr W21 (Or.inr sz_b1)
  have V21 : Arv Z h21 b1 k1 .double (3 : Int32) [(.double e_0), (.double e_1), (.double e_2)] (.double 0) := Arv.set Ar20 aq20 S20 N20 H20 G20 rfl W21 2 rfl (Nat.le_of_ble_eq_true rfl)
  show gO (tF T21 m 70 #[.val (.ref o0), .val (.int 3)] [(.ref b1)])
  refine goA X21 hx hlk Bd.returns rfl rfl (hb hby d2_70) ?_ (by decide) (by decide)
  show Qpd3 Z o0 k_e e_0 e_1 e_2 e_3 h0 n0 (some (.ref b1)) T21.heap _
  rw [e21]
  exact ⟨b1, k1, rfl, N21, K23, sz_b1, V21⟩
theorem ef_pi4 (m : MethodId) (x0 : Addr) : entryFrame m #[(.ref x0), (.int 4)] 2 = mkF m 0 #[.val (.ref x0), .val (.int 4)] [] := by first | (simp [entryFrame, mkF, argsToLocals, Value.category]; done) | rfl
def Qpi4 (Z : State) (o0 : Addr) (k_e : ClassId) (e_0 : Int32) (e_1 : Int32) (e_2 : Int32) (e_3 : Int32) (h0 : Heap) (n0 : Nat) (v : Option Value) (h : Heap) (L : List Loc) : Prop := ∃ b1 : Addr, ∃ k1 : ClassId, v = some (.ref b1) ∧ Fr n0 L ∧ Keep h0 h ([] : List Addr) ∧ h0.size ≤ b1 ∧ Arv Z h b1 k1 .int (4 : Int32) [(.int e_0), (.int e_1), (.int e_2), (.int e_3)] (.int 0)
set_option maxRecDepth 65536 in
set_option maxHeartbeats 40000000 in
theorem rmpi4 (l : Launch) (Z : State) (a0 : Array Value) (hw : ∀ d ∈ tables_1, d.before a0 Z = true) (ws : List Jvm.Cond) (o0 : Addr) (k_e : ClassId) (e_0 : Int32) (e_1 : Int32) (e_2 : Int32) (e_3 : Int32) (h0 : Heap) (n0 : Nat) (Z0 : n0 ≤ h0.size) (V_e : Arv Z h0 o0 k_e .int (4 : Int32) [(.int e_0), (.int e_1), (.int e_2), (.int e_3)] (.int 0)) :
    MetFree l (⟨"com/example/fenda/fenda/analysis/CombinationOfPinLaw", "prefixInt", "([II)[I"⟩ : MethodName) (head1 (Jvm.Cond.code (⟨"com/example/fenda/fenda/analysis/CombinationOfPinLaw", "prefixInt", "([II)[I"⟩ : MethodName) method_2_code 2 (some (.array .int)) :: ws) ({ frames := 0, cells := 1, slots := 4, locals := 0 } : Room)) (fun a U => a = #[(.ref o0), (.int 4)] ∧ Z.Warmed39 U.vm ∧ U.heap = h0) (fun _ _ _ _ _ => True) (fun _ U o U' => ∃ v L, o = .returned v ∧ Qpi4 Z o0 k_e e_0 e_1 e_2 e_3 h0 n0 v U'.heap L ∧ FrameEnd U o U' L ({ frames := 0, cells := 1, slots := 4, locals := 0 } : Room).cells ({ frames := 0, cells := 1, slots := 4, locals := 0 } : Room).slots) := by
  refine MetFree.of_bodySF (plainFor_of_name (by first | (simp [plainName, overriddenIn]; done) | decide +kernel)) hisR ?_
  intro p e s m args below meth c s₁ Bd hml0 hP hK
  obtain ⟨rfl, hZ, hh⟩ := hP
  have hx := Bd.exec
  have hby := Bd.bytes
  have hml : c.maxLocals = 2 := hml0
  have hown : s.vm.findClass "com/example/fenda/fenda/analysis/CombinationOfPinLaw" = some m.cls := findClass_of_methodNamed Bd.named
  have hnm := (name_of_methodNamed Bd.named Bd.method).1
  have hlk := BodyLoose.notSynchronized Bd
  have X0 : Stand p l e ({ frames := 0, cells := 1, slots := 4, locals := 0 } : Room) s m #[(.ref o0), (.int 4)] below meth c s₁ [] 0 0 := Stand.of_body Bd
  have e0 : s₁.heap = h0 := by rw [← hh, Bd.state]; rfl
  have N0 := Fr.nil n0
  show Go p e below s (Qpi4 Z o0 k_e e_0 e_1 e_2 e_3 h0 n0) 1 4 (s₁.setTop (entryFrame m #[(.ref o0), (.int 4)] 2))
  rw [ef_pi4]
  show gO (tF s₁ m 0 #[.val (.ref o0), .val (.int 4)] [])
  refine gob (fun _ k => XS.iloadN X0.here hx rfl (hb hby d1_0) rfl k) ?_
  show gO (tF s₁ m 1 #[.val (.ref o0), .val (.int 4)] [(.int 4)])
  refine gob (fun _ k => XS.ifYes X0.here hx rfl (pc0 := 1) (pc' := 8) rfl (hb hby d1_1) rfl ((if0 _ _).trans (feq (by decide : ¬ ((4 : Int32) = (0 : Int32)))).2) (by decide) (by decide) k) ?_
  show gO (tF s₁ m 8 #[.val (.ref o0), .val (.int 4)] [])
  refine gob (fun _ k => XS.iloadN X0.here hx rfl (hb hby d1_8) rfl k) ?_
  show gO (tF s₁ m 9 #[.val (.ref o0), .val (.int 4)] [(.int 4)])
  refine gob (fun _ k => XS.iconst X0.here hx rfl (hb hby d1_9) k) ?_
  show gO (tF s₁ m 10 #[.val (.ref o0), .val (.int 4)] [(.int 1), (.int 4)])
  refine gob (fun _ k => XS.icmpYes X0.here hx rfl (pc0 := 10) (pc' := 23) rfl (hb hby d1_10) rfl (feq (by decide : ¬ ((4 : Int32) = (1 : Int32)))).2 (by decide) (by decide) k) ?_
  show gO (tF s₁ m 23 #[.val (.ref o0), .val (.int 4)] [])
  refine gob (fun _ k => XS.iloadN X0.here hx rfl (hb hby d1_23) rfl k) ?_
  show gO (tF s₁ m 24 #[.val (.ref o0), .val (.int 4)] [(.int 4)])
  refine gob (fun _ k => XS.iconst X0.here hx rfl (hb hby d1_24) k) ?_
  show gO (tF s₁ m 25 #[.val (.ref o0), .val (.int 4)] [(.int 2), (.int 4)])
  refine gob (fun _ k => XS.icmpYes X0.here hx rfl (pc0 := 25) (pc' := 44) rfl (hb hby d1_25) rfl (feq (by decide : ¬ ((4 : Int32) = (2 : Int32)))).2 (by decide) (by decide) k) ?_
  show gO (tF s₁ m 44 #[.val (.ref o0), .val (.int 4)] [])
  refine gob (fun _ k => XS.iloadN X0.here hx rfl (hb hby d1_44) rfl k) ?_
  show gO (tF s₁ m 45 #[.val (.ref o0), .val (.int 4)] [(.int 4)])
  refine gob (fun _ k => XS.iconst X0.here hx rfl (hb hby d1_45) k) ?_
  show gO (tF s₁ m 46 #[.val (.ref o0), .val (.int 4)] [(.int 3), (.int 4)])
  refine gob (fun _ k => XS.icmpYes X0.here hx rfl (pc0 := 46) (pc' := 71) rfl (hb hby d1_46) rfl (feq (by decide : ¬ ((4 : Int32) = (3 : Int32)))).2 (by decide) (by decide) k) ?_
  show gO (tF s₁ m 71 #[.val (.ref o0), .val (.int 4)] [])
  refine gob (fun _ k => XS.iconst X0.here hx rfl (hb hby d1_71) k) ?_
  show gO (tF s₁ m 72 #[.val (.ref o0), .val (.int 4)] [(.int 4)])
  obtain ⟨T1, h1, k1, X1, e1, E1, A1, st1⟩ := newP X0 hx hZ (hW hw 1 rfl) e0 (g := (mkF m 72 #[.val (.ref o0), .val (.int 4)] [(.int 4)])) rfl (hb hby d1_72) rfl (by decide) (cap := 4) (by decide) (by decide) (by decide) (by decide)
  obtain ⟨b1, g1⟩ : ∃ z, z = h0.size := ⟨_, rfl⟩
  rw [← g1] at A1 st1
  have n2 : o0 ≠ b1 := Nat.ne_of_lt (Nat.lt_of_lt_of_le V_e.lt (Nat.le_of_eq g1.symm))
  have g3 : n0 ≤ b1 := Nat.le_trans Z0 (Nat.le_of_eq g1.symm)
  have sz_b1 : h0.size ≤ b1 := Nat.le_trans (Keep.refl h0 []).1 (Nat.le_of_eq g1.symm)
  have z4 : n0 ≤ h1.size := Nat.le_trans Z0 E1.1
  have K5 : Keep h0 h1 ([] : List Addr) := (Keep.refl h0 ([] : List Addr)).ext E1
  have V1 : Arv Z h1 b1 k1 .int (4 : Int32) [(.int 0), (.int 0), (.int 0), (.int 0)] (.int 0) := (Arv.new A1 (by decide)).pad (pad_rep [] (.int 0) 4)
  refine gob st1 ?_
  replace X1 := castX X1 (rfl : _ = 1) (rfl : _ = 4)
  show gO (tF T1 m 74 #[.val (.ref o0), .val (.int 4)] [(.ref b1)])
  refine gob (fun _ k => XS.dup X1.here hx rfl (hb hby d1_74) rfl rfl k) ?_
  show gO (tF T1 m 75 #[.val (.ref o0), .val (.int 4)] [(.ref b1), (.ref b1)])
  refine gob (fun _ k => XS.iconst X1.here hx rfl (hb hby d1_75) k) ?_
  show gO (tF T1 m 76 #[.val (.ref o0), .val (.int 4)] [(.int 0), (.ref b1), (.ref b1)])
  refine gob (fun _ k => XS.aloadN X1.here hx rfl (hb hby d1_76) rfl rfl k) ?_
  show gO (tF T1 m 77 #[.val (.ref o0), .val (.int 4)] [(.ref o0), (.int 0), (.ref b1), (.ref b1)])
  refine gob (fun _ k => XS.iconst X1.here hx rfl (hb hby d1_77) k) ?_
  show gO (tF T1 m 78 #[.val (.ref o0), .val (.int 4)] [(.int 0), (.ref o0), (.int 0), (.ref b1), (.ref b1)])
  have c7 := (V_e.ext E1)
  obtain ⟨cl6, Ar6, aq6, S6, N6, H6, G6⟩ := id c7
  have hin6 : ¬ ((0 : Int32) < 0 ∨ cl6.slots.size ≤ ((0 : Int32)).toNatClampNeg) := inb_of S6 ⟨by decide, by decide⟩
  refine gob (X1.iaload hx (j := (0 : Int32)) (v := (.int e_0)) (by rw [e1]; exact Ar6.1) (State.isArrayOf_alike hZ.alike Ar6.2.1) Ar6.2.2 hin6 (Has.at H6 hin6 rfl) (g := (mkF m 78 #[.val (.ref o0), .val (.int 4)] [(.int 0), (.ref o0), (.int 0), (.ref b1), (.ref b1)])) rfl rfl (hb hby d1_78)) ?_
  show gO (tF T1 m 79 #[.val (.ref o0), .val (.int 4)] [(.int e_0), (.int 0), (.ref b1), (.ref b1)])
  obtain ⟨cl8, Ar8, aq8, S8, N8, H8, G8⟩ := id V1
  have hin8 : ¬ ((0 : Int32) < 0 ∨ cl8.slots.size ≤ ((0 : Int32)).toNatClampNeg) := inb_of S8 ⟨by decide, by decide⟩
  obtain ⟨T9, h9, X9, e9, W9, st9⟩ := stI X1 hx hZ e1 Ar8 (j := (0 : Int32)) hin8 (g := (mkF m 79 #[.val (.ref o0), .val (.int 4)] [(.int e_0), (.int 0), (.ref b1), (.ref b1)])) rfl rfl (hb hby d1_79)
  refine gob st9 ?_
  have z10 : n0 ≤ h9.size := Nat.le_trans z4 (Keep.of_wr W9).1
  have N9 := Fr.snoc X9 N0 g3
  have K11 : Keep h0 h9 ([] : List Addr) := K5.wr W9 (Or.inr sz_b1)
  have V9 : Arv Z h9 b1 k1 .int (4 : Int32) [(.int e_0), (.int 0), (.int 0), (.int 0)] (.int 0) := Arv.set Ar8 aq8 S8 N8 H8 G8 rfl W9 0 rfl (Nat.le_of_ble_eq_true rfl)
  show gO (tF T9 m 80 #[.val (.ref o0), .val (.int 4)] [(.ref b1)])
  refine gob (fun _ k => XS.dup X9.here hx rfl (hb hby d1_80) rfl rfl k) ?_
  show gO (tF T9 m 81 #[.val (.ref o0), .val (.int 4)] [(.ref b1), (.ref b1)])
  refine gob (fun _ k => XS.iconst X9.here hx rfl (hb hby d1_81) k) ?_
  show gO (tF T9 m 82 #[.val (.ref o0), .val (.int 4)] [(.int 1), (.ref b1), (.ref b1)])
  refine gob (fun _ k => XS.aloadN X9.here hx rfl (hb hby d1_82) rfl rfl k) ?_
  show gO (tF T9 m 83 #[.val (.ref o0), .val (.int 4)] [(.ref o0), (.int 1), (.ref b1), (.ref b1)])
  refine gob (fun _ k => XS.iconst X9.here hx rfl (hb hby d1_83) k) ?_
  show gO (tF T9 m 84 #[.val (.ref o0), .val (.int 4)] [(.int 1), (.ref o0), (.int 1), (.ref b1), (.ref b1)])
  have c13 := (c7.other W9 n2)
  obtain ⟨cl12, Ar12, aq12, S12, N12, H12, G12⟩ := id c13
  have hin12 : ¬ ((1 : Int32) < 0 ∨ cl12.slots.size ≤ ((1 : Int32)).toNatClampNeg) := inb_of S12 ⟨by decide, by decide⟩
  refine gob (X9.iaload hx (j := (1 : Int32)) (v := (.int e_1)) (by rw [e9]; exact Ar12.1) (State.isArrayOf_alike hZ.alike Ar12.2.1) Ar12.2.2 hin12 (Has.at H12 hin12 rfl) (g := (mkF m 84 #[.val (.ref o0), .val (.int 4)] [(.int 1), (.ref o0), (.int 1), (.ref b1), (.ref b1)])) rfl rfl (hb hby d1_84)) ?_
  show gO (tF T9 m 85 #[.val (.ref o0), .val (.int 4)] [(.int e_1), (.int 1), (.ref b1), (.ref b1)])
  obtain ⟨cl14, Ar14, aq14, S14, N14, H14, G14⟩ := id V9
  have hin14 : ¬ ((1 : Int32) < 0 ∨ cl14.slots.size ≤ ((1 : Int32)).toNatClampNeg) := inb_of S14 ⟨by decide, by decide⟩
  obtain ⟨T15, h15, X15, e15, W15, st15⟩ := stI X9 hx hZ e9 Ar14 (j := (1 : Int32)) hin14 (g := (mkF m 85 #[.val (.ref o0), .val (.int 4)] [(.int e_1), (.int 1), (.ref b1), (.ref b1)])) rfl rfl (hb hby d1_85)
  refine gob st15 ?_
  have z16 : n0 ≤ h15.size := Nat.le_trans z10 (Keep.of_wr W15).1
  have N15 := Fr.snoc X15 N9 g3
  have K17 : Keep h0 h15 ([] : List Addr) := K11.wr W15 (Or.inr sz_b1)
  have V15 : Arv Z h15 b1 k1 .int (4 : Int32) [(.int e_0), (.int e_1), (.int 0), (.int 0)] (.int 0) := Arv.set Ar14 aq14 S14 N14 H14 G14 rfl W15 1 rfl (Nat.le_of_ble_eq_true rfl)
  show gO (tF T15 m 86 #[.val (.ref o0), .val (.int 4)] [(.ref b1)])
  refine gob (fun _ k => XS.dup X15.here hx rfl (hb hby d1_86) rfl rfl k) ?_
  show gO (tF T15 m 87 #[.val (.ref o0), .val (.int 4)] [(.ref b1), (.ref b1)])
  refine gob (fun _ k => XS.iconst X15.here hx rfl (hb hby d1_87) k) ?_
  show gO (tF T15 m 88 #[.val (.ref o0), .val (.int 4)] [(.int 2), (.ref b1), (.ref b1)])
  refine gob (fun _ k => XS.aloadN X15.here hx rfl (hb hby d1_88) rfl rfl k) ?_
  show gO (tF T15 m 89 #[.val (.ref o0), .val (.int 4)] [(.ref o0), (.int 2), (.ref b1), (.ref b1)])
  refine gob (fun _ k => XS.iconst X15.here hx rfl (hb hby d1_89) k) ?_
  show gO (tF T15 m 90 #[.val (.ref o0), .val (.int 4)] [(.int 2), (.ref o0), (.int 2), (.ref b1), (.ref b1)])
  have c19 := (c13.other W15 n2)
  obtain ⟨cl18, Ar18, aq18, S18, N18, H18, G18⟩ := id c19
  have hin18 : ¬ ((2 : Int32) < 0 ∨ cl18.slots.size ≤ ((2 : Int32)).toNatClampNeg) := inb_of S18 ⟨by decide, by decide⟩
  refine gob (X15.iaload hx (j := (2 : Int32)) (v := (.int e_2)) (by rw [e15]; exact Ar18.1) (State.isArrayOf_alike hZ.alike Ar18.2.1) Ar18.2.2 hin18 (Has.at H18 hin18 rfl) (g := (mkF m 90 #[.val (.ref o0), .val (.int 4)] [(.int 2), (.ref o0), (.int 2), (.ref b1), (.ref b1)])) rfl rfl (hb hby d1_90)) ?_
  show gO (tF T15 m 91 #[.val (.ref o0), .val (.int 4)] [(.int e_2), (.int 2), (.ref b1), (.ref b1)])
  obtain ⟨cl20, Ar20, aq20, S20, N20, H20, G20⟩ := id V15
  have hin20 : ¬ ((2 : Int32) < 0 ∨ cl20.slots.size ≤ ((2 : Int32)).toNatClampNeg) := inb_of S20 ⟨by decide, by decide⟩
  obtain ⟨T21, h21, X21, e21, W21, st21⟩ := stI X15 hx hZ e15 Ar20 (j := (2 : Int32)) hin20 (g := (mkF m 91 #[.val (.ref o0), .val (.int 4)] [(.int e_2), (.int 2), (.ref b1), (.ref b1)])) rfl rfl (hb hby d1_91)
  refine gob st21 ?_
  have z22 : n0 ≤ h21.size := Nat.le_trans z16 (Keep.of_wr W21).1
  have N21 := Fr.snoc X21 N15 g3
  have K23 : Keep h0 h21 ([] : List Addr) := K17.wr W21 (Or.inr sz_b1)
  have V21 : Arv Z h21 b1 k1 .int (4 : Int32) [(.int e_0), (.int e_1), (.int e_2), (.int 0)] (.int 0) := Arv.set Ar20 aq20 S20 N20 H20 G20 rfl W21 2 rfl (Nat.le_of_ble_eq_true rfl)
  show gO (tF T21 m 92 #[.val (.ref o0), .val (.int 4)] [(.ref b1)])
  refine gob (fun _ k => XS.dup X21.here hx rfl (hb hby d1_92) rfl rfl k) ?_
  show gO (tF T21 m 93 #[.val (.ref o0), .val (.int 4)] [(.ref b1), (.ref b1)])
  refine gob (fun _ k => XS.iconst X21.here hx rfl (hb hby d1_93) k) ?_
  show gO (tF T21 m 94 #[.val (.ref o0), .val (.int 4)] [(.int 3), (.ref b1), (.ref b1)])
  refine gob (fun _ k => XS.aloadN X21.here hx rfl (hb hby d1_94) rfl rfl k) ?_
  show gO (tF T21 m 95 #[.val (.ref o0), .val (.int 4)] [(.ref o0), (.int 3), (.ref b1), (.ref b1)])
  refine gob (fun _ k => XS.iconst X21.here hx rfl (hb hby d1_95) k) ?_
  show gO (tF T21 m 96 #[.val (.ref o0), .val (.int 4)] [(.int 3), (.ref o0), (.int 3), (.ref b1), (.ref b1)])
  have c25 := (c19.other W21 n2)
  obtain ⟨cl24, Ar24, aq24, S24, N24, H24, G24⟩ := id c25
  have hin24 : ¬ ((3 : Int32) < 0 ∨ cl24.slots.size ≤ ((3 : Int32)).toNatClampNeg) := inb_of S24 ⟨by decide, by decide⟩
  refine gob (X21.iaload hx (j := (3 : Int32)) (v := (.int e_3)) (by rw [e21]; exact Ar24.1) (State.isArrayOf_alike hZ.alike Ar24.2.1) Ar24.2.2 hin24 (Has.at H24 hin24 rfl) (g := (mkF m 96 #[.val (.ref o0), .val (.int 4)] [(.int 3), (.ref o0), (.int 3), (.ref b1), (.ref b1)])) rfl rfl (hb hby d1_96)) ?_
  show gO (tF T21 m 97 #[.val (.ref o0), .val (.int 4)] [(.int e_3), (.int 3), (.ref b1), (.ref b1)])
  obtain ⟨cl26, Ar26, aq26, S26, N26, H26, G26⟩ := id V21
  have hin26 : ¬ ((3 : Int32) < 0 ∨ cl26.slots.size ≤ ((3 : Int32)).toNatClampNeg) := inb_of S26 ⟨by decide, by decide⟩
  obtain ⟨T27, h27, X27, e27, W27, st27⟩ := stI X21 hx hZ e21 Ar26 (j := (3 : Int32)) hin26 (g := (mkF m 97 #[.val (.ref o0), .val (.int 4)] [(.int e_3), (.int 3), (.ref b1), (.ref b1)])) rfl rfl (hb hby d1_97)
  refine gob st27 ?_
  have z28 : n0 ≤ h27.size := Nat.le_trans z22 (Keep.of_wr W27).1
  have N27 := Fr.snoc X27 N21 g3
  have K29 : Keep h0 h27 ([] : List Addr) := K23.wr W27 (Or.inr sz_b1)
  have V27 : Arv Z h27 b1 k1 .int (4 : Int32) [(.int e_0), (.int e_1), (.int e_2), (.int e_3)] (.int 0) := Arv.set Ar26 aq26 S26 N26 H26 G26 rfl W27 3 rfl (Nat.le_of_ble_eq_true rfl)
  show gO (tF T27 m 98 #[.val (.ref o0), .val (.int 4)] [(.ref b1)])
  refine goA X27 hx hlk Bd.returns rfl rfl (hb hby d1_98) ?_ (by decide) (by decide)
  show Qpi4 Z o0 k_e e_0 e_1 e_2 e_3 h0 n0 (some (.ref b1)) T27.heap _
  rw [e27]
  exact ⟨b1, k1, rfl, N27, K29, sz_b1, V27⟩
theorem ef_pd4 (m : MethodId) (x0 : Addr) : entryFrame m #[(.ref x0), (.int 4)] 2 = mkF m 0 #[.val (.ref x0), .val (.int 4)] [] := by first | (simp [entryFrame, mkF, argsToLocals, Value.category]; done) | rfl
def Qpd4 (Z : State) (o0 : Addr) (k_e : ClassId) (e_0 : UInt64) (e_1 : UInt64) (e_2 : UInt64) (e_3 : UInt64) (h0 : Heap) (n0 : Nat) (v : Option Value) (h : Heap) (L : List Loc) : Prop := ∃ b1 : Addr, ∃ k1 : ClassId, v = some (.ref b1) ∧ Fr n0 L ∧ Keep h0 h ([] : List Addr) ∧ h0.size ≤ b1 ∧ Arv Z h b1 k1 .double (4 : Int32) [(.double e_0), (.double e_1), (.double e_2), (.double e_3)] (.double 0)
set_option maxRecDepth 65536 in
set_option maxHeartbeats 40000000 in
theorem rmpd4 (l : Launch) (Z : State) (a0 : Array Value) (hw : ∀ d ∈ tables_1, d.before a0 Z = true) (ws : List Jvm.Cond) (o0 : Addr) (k_e : ClassId) (e_0 : UInt64) (e_1 : UInt64) (e_2 : UInt64) (e_3 : UInt64) (h0 : Heap) (n0 : Nat) (Z0 : n0 ≤ h0.size) (V_e : Arv Z h0 o0 k_e .double (4 : Int32) [(.double e_0), (.double e_1), (.double e_2), (.double e_3)] (.double 0)) :
    MetFree l (⟨"com/example/fenda/fenda/analysis/CombinationOfPinLaw", "prefixDouble", "([DI)[D"⟩ : MethodName) (head1 (Jvm.Cond.code (⟨"com/example/fenda/fenda/analysis/CombinationOfPinLaw", "prefixDouble", "([DI)[D"⟩ : MethodName) method_3_code 2 (some (.array .double)) :: ws) ({ frames := 0, cells := 1, slots := 4, locals := 0 } : Room)) (fun a U => a = #[(.ref o0), (.int 4)] ∧ Z.Warmed39 U.vm ∧ U.heap = h0) (fun _ _ _ _ _ => True) (fun _ U o U' => ∃ v L, o = .returned v ∧ Qpd4 Z o0 k_e e_0 e_1 e_2 e_3 h0 n0 v U'.heap L ∧ FrameEnd U o U' L ({ frames := 0, cells := 1, slots := 4, locals := 0 } : Room).cells ({ frames := 0, cells := 1, slots := 4, locals := 0 } : Room).slots) := by
  refine MetFree.of_bodySF (plainFor_of_name (by first | (simp [plainName, overriddenIn]; done) | decide +kernel)) hisR ?_
  intro p e s m args below meth c s₁ Bd hml0 hP hK
  obtain ⟨rfl, hZ, hh⟩ := hP
  have hx := Bd.exec
  have hby := Bd.bytes
  have hml : c.maxLocals = 2 := hml0
  have hown : s.vm.findClass "com/example/fenda/fenda/analysis/CombinationOfPinLaw" = some m.cls := findClass_of_methodNamed Bd.named
  have hnm := (name_of_methodNamed Bd.named Bd.method).1
  have hlk := BodyLoose.notSynchronized Bd
  have X0 : Stand p l e ({ frames := 0, cells := 1, slots := 4, locals := 0 } : Room) s m #[(.ref o0), (.int 4)] below meth c s₁ [] 0 0 := Stand.of_body Bd
  have e0 : s₁.heap = h0 := by rw [← hh, Bd.state]; rfl
  have N0 := Fr.nil n0
  show Go p e below s (Qpd4 Z o0 k_e e_0 e_1 e_2 e_3 h0 n0) 1 4 (s₁.setTop (entryFrame m #[(.ref o0), (.int 4)] 2))
  rw [ef_pd4]
  show gO (tF s₁ m 0 #[.val (.ref o0), .val (.int 4)] [])
  refine gob (fun _ k => XS.iloadN X0.here hx rfl (hb hby d2_0) rfl k) ?_
  show gO (tF s₁ m 1 #[.val (.ref o0), .val (.int 4)] [(.int 4)])
  refine gob (fun _ k => XS.ifYes X0.here hx rfl (pc0 := 1) (pc' := 8) rfl (hb hby d2_1) rfl ((if0 _ _).trans (feq (by decide : ¬ ((4 : Int32) = (0 : Int32)))).2) (by decide) (by decide) k) ?_
  show gO (tF s₁ m 8 #[.val (.ref o0), .val (.int 4)] [])
  refine gob (fun _ k => XS.iloadN X0.here hx rfl (hb hby d2_8) rfl k) ?_
  show gO (tF s₁ m 9 #[.val (.ref o0), .val (.int 4)] [(.int 4)])
  refine gob (fun _ k => XS.iconst X0.here hx rfl (hb hby d2_9) k) ?_
  show gO (tF s₁ m 10 #[.val (.ref o0), .val (.int 4)] [(.int 1), (.int 4)])
  refine gob (fun _ k => XS.icmpYes X0.here hx rfl (pc0 := 10) (pc' := 23) rfl (hb hby d2_10) rfl (feq (by decide : ¬ ((4 : Int32) = (1 : Int32)))).2 (by decide) (by decide) k) ?_
  show gO (tF s₁ m 23 #[.val (.ref o0), .val (.int 4)] [])
  refine gob (fun _ k => XS.iloadN X0.here hx rfl (hb hby d2_23) rfl k) ?_
  show gO (tF s₁ m 24 #[.val (.ref o0), .val (.int 4)] [(.int 4)])
  refine gob (fun _ k => XS.iconst X0.here hx rfl (hb hby d2_24) k) ?_
  show gO (tF s₁ m 25 #[.val (.ref o0), .val (.int 4)] [(.int 2), (.int 4)])
  refine gob (fun _ k => XS.icmpYes X0.here hx rfl (pc0 := 25) (pc' := 44) rfl (hb hby d2_25) rfl (feq (by decide : ¬ ((4 : Int32) = (2 : Int32)))).2 (by decide) (by decide) k) ?_
  show gO (tF s₁ m 44 #[.val (.ref o0), .val (.int 4)] [])
  refine gob (fun _ k => XS.iloadN X0.here hx rfl (hb hby d2_44) rfl k) ?_
  show gO (tF s₁ m 45 #[.val (.ref o0), .val (.int 4)] [(.int 4)])
  refine gob (fun _ k => XS.iconst X0.here hx rfl (hb hby d2_45) k) ?_
  show gO (tF s₁ m 46 #[.val (.ref o0), .val (.int 4)] [(.int 3), (.int 4)])
  refine gob (fun _ k => XS.icmpYes X0.here hx rfl (pc0 := 46) (pc' := 71) rfl (hb hby d2_46) rfl (feq (by decide : ¬ ((4 : Int32) = (3 : Int32)))).2 (by decide) (by decide) k) ?_
  show gO (tF s₁ m 71 #[.val (.ref o0), .val (.int 4)] [])
  refine gob (fun _ k => XS.iconst X0.here hx rfl (hb hby d2_71) k) ?_
  show gO (tF s₁ m 72 #[.val (.ref o0), .val (.int 4)] [(.int 4)])
  obtain ⟨T1, h1, k1, X1, e1, E1, A1, st1⟩ := newP X0 hx hZ (hW hw 0 rfl) e0 (g := (mkF m 72 #[.val (.ref o0), .val (.int 4)] [(.int 4)])) rfl (hb hby d2_72) rfl (by decide) (cap := 4) (by decide) (by decide) (by decide) (by decide)
  obtain ⟨b1, g1⟩ : ∃ z, z = h0.size := ⟨_, rfl⟩
  rw [← g1] at A1 st1
  have n2 : o0 ≠ b1 := Nat.ne_of_lt (Nat.lt_of_lt_of_le V_e.lt (Nat.le_of_eq g1.symm))
  have g3 : n0 ≤ b1 := Nat.le_trans Z0 (Nat.le_of_eq g1.symm)
  have sz_b1 : h0.size ≤ b1 := Nat.le_trans (Keep.refl h0 []).1 (Nat.le_of_eq g1.symm)
  have z4 : n0 ≤ h1.size := Nat.le_trans Z0 E1.1
  have K5 : Keep h0 h1 ([] : List Addr) := (Keep.refl h0 ([] : List Addr)).ext E1
  have V1 : Arv Z h1 b1 k1 .double (4 : Int32) [(.double 0), (.double 0), (.double 0), (.double 0)] (.double 0) := (Arv.new A1 (by decide)).pad (pad_rep [] (.double 0) 4)
  refine gob st1 ?_
  replace X1 := castX X1 (rfl : _ = 1) (rfl : _ = 4)
  show gO (tF T1 m 74 #[.val (.ref o0), .val (.int 4)] [(.ref b1)])
  refine gob (fun _ k => XS.dup X1.here hx rfl (hb hby d2_74) rfl rfl k) ?_
  show gO (tF T1 m 75 #[.val (.ref o0), .val (.int 4)] [(.ref b1), (.ref b1)])
  refine gob (fun _ k => XS.iconst X1.here hx rfl (hb hby d2_75) k) ?_
  show gO (tF T1 m 76 #[.val (.ref o0), .val (.int 4)] [(.int 0), (.ref b1), (.ref b1)])
  refine gob (fun _ k => XS.aloadN X1.here hx rfl (hb hby d2_76) rfl rfl k) ?_
  show gO (tF T1 m 77 #[.val (.ref o0), .val (.int 4)] [(.ref o0), (.int 0), (.ref b1), (.ref b1)])
  refine gob (fun _ k => XS.iconst X1.here hx rfl (hb hby d2_77) k) ?_
  show gO (tF T1 m 78 #[.val (.ref o0), .val (.int 4)] [(.int 0), (.ref o0), (.int 0), (.ref b1), (.ref b1)])
  have c7 := (V_e.ext E1)
  obtain ⟨cl6, Ar6, aq6, S6, N6, H6, G6⟩ := id c7
  have hin6 : ¬ ((0 : Int32) < 0 ∨ cl6.slots.size ≤ ((0 : Int32)).toNatClampNeg) := inb_of S6 ⟨by decide, by decide⟩
  refine gob (X1.daload hx (j := (0 : Int32)) (v := (.double e_0)) (by rw [e1]; exact Ar6.1) (State.isArrayOf_alike hZ.alike Ar6.2.1) Ar6.2.2 hin6 (Has.at H6 hin6 rfl) (g := (mkF m 78 #[.val (.ref o0), .val (.int 4)] [(.int 0), (.ref o0), (.int 0), (.ref b1), (.ref b1)])) rfl rfl (hb hby d2_78)) ?_
  show gO (tF T1 m 79 #[.val (.ref o0), .val (.int 4)] [(.double e_0), (.int 0), (.ref b1), (.ref b1)])
  obtain ⟨cl8, Ar8, aq8, S8, N8, H8, G8⟩ := id V1
  have hin8 : ¬ ((0 : Int32) < 0 ∨ cl8.slots.size ≤ ((0 : Int32)).toNatClampNeg) := inb_of S8 ⟨by decide, by decide⟩
  obtain ⟨T9, h9, X9, e9, W9, st9⟩ := stD X1 hx hZ e1 Ar8 (j := (0 : Int32)) hin8 (g := (mkF m 79 #[.val (.ref o0), .val (.int 4)] [(.double e_0), (.int 0), (.ref b1), (.ref b1)])) rfl rfl (hb hby d2_79)
  refine gob st9 ?_
  have z10 : n0 ≤ h9.size := Nat.le_trans z4 (Keep.of_wr W9).1
  have N9 := Fr.snoc X9 N0 g3
  have K11 : Keep h0 h9 ([] : List Addr) := K5.wr W9 (Or.inr sz_b1)
  have V9 : Arv Z h9 b1 k1 .double (4 : Int32) [(.double e_0), (.double 0), (.double 0), (.double 0)] (.double 0) := Arv.set Ar8 aq8 S8 N8 H8 G8 rfl W9 0 rfl (Nat.le_of_ble_eq_true rfl)
  show gO (tF T9 m 80 #[.val (.ref o0), .val (.int 4)] [(.ref b1)])
  refine gob (fun _ k => XS.dup X9.here hx rfl (hb hby d2_80) rfl rfl k) ?_
  show gO (tF T9 m 81 #[.val (.ref o0), .val (.int 4)] [(.ref b1), (.ref b1)])
  refine gob (fun _ k => XS.iconst X9.here hx rfl (hb hby d2_81) k) ?_
  show gO (tF T9 m 82 #[.val (.ref o0), .val (.int 4)] [(.int 1), (.ref b1), (.ref b1)])
  refine gob (fun _ k => XS.aloadN X9.here hx rfl (hb hby d2_82) rfl rfl k) ?_
  show gO (tF T9 m 83 #[.val (.ref o0), .val (.int 4)] [(.ref o0), (.int 1), (.ref b1), (.ref b1)])
  refine gob (fun _ k => XS.iconst X9.here hx rfl (hb hby d2_83) k) ?_
  show gO (tF T9 m 84 #[.val (.ref o0), .val (.int 4)] [(.int 1), (.ref o0), (.int 1), (.ref b1), (.ref b1)])
  have c13 := (c7.other W9 n2)
  obtain ⟨cl12, Ar12, aq12, S12, N12, H12, G12⟩ := id c13
  have hin12 : ¬ ((1 : Int32) < 0 ∨ cl12.slots.size ≤ ((1 : Int32)).toNatClampNeg) := inb_of S12 ⟨by decide, by decide⟩
  refine gob (X9.daload hx (j := (1 : Int32)) (v := (.double e_1)) (by rw [e9]; exact Ar12.1) (State.isArrayOf_alike hZ.alike Ar12.2.1) Ar12.2.2 hin12 (Has.at H12 hin12 rfl) (g := (mkF m 84 #[.val (.ref o0), .val (.int 4)] [(.int 1), (.ref o0), (.int 1), (.ref b1), (.ref b1)])) rfl rfl (hb hby d2_84)) ?_
  show gO (tF T9 m 85 #[.val (.ref o0), .val (.int 4)] [(.double e_1), (.int 1), (.ref b1), (.ref b1)])
  obtain ⟨cl14, Ar14, aq14, S14, N14, H14, G14⟩ := id V9
  have hin14 : ¬ ((1 : Int32) < 0 ∨ cl14.slots.size ≤ ((1 : Int32)).toNatClampNeg) := inb_of S14 ⟨by decide, by decide⟩
  obtain ⟨T15, h15, X15, e15, W15, st15⟩ := stD X9 hx hZ e9 Ar14 (j := (1 : Int32)) hin14 (g := (mkF m 85 #[.val (.ref o0), .val (.int 4)] [(.double e_1), (.int 1), (.ref b1), (.ref b1)])) rfl rfl (hb hby d2_85)
  refine gob st15 ?_
  have z16 : n0 ≤ h15.size := Nat.le_trans z10 (Keep.of_wr W15).1
  have N15 := Fr.snoc X15 N9 g3
  have K17 : Keep h0 h15 ([] : List Addr) := K11.wr W15 (Or.inr sz_b1)
  have V15 : Arv Z h15 b1 k1 .double (4 : Int32) [(.double e_0), (.double e_1), (.double 0), (.double 0)] (.double 0) := Arv.set Ar14 aq14 S14 N14 H14 G14 rfl W15 1 rfl (Nat.le_of_ble_eq_true rfl)
  show gO (tF T15 m 86 #[.val (.ref o0), .val (.int 4)] [(.ref b1)])
  refine gob (fun _ k => XS.dup X15.here hx rfl (hb hby d2_86) rfl rfl k) ?_
  show gO (tF T15 m 87 #[.val (.ref o0), .val (.int 4)] [(.ref b1), (.ref b1)])
  refine gob (fun _ k => XS.iconst X15.here hx rfl (hb hby d2_87) k) ?_
  show gO (tF T15 m 88 #[.val (.ref o0), .val (.int 4)] [(.int 2), (.ref b1), (.ref b1)])
  refine gob (fun _ k => XS.aloadN X15.here hx rfl (hb hby d2_88) rfl rfl k) ?_
  show gO (tF T15 m 89 #[.val (.ref o0), .val (.int 4)] [(.ref o0), (.int 2), (.ref b1), (.ref b1)])
  refine gob (fun _ k => XS.iconst X15.here hx rfl (hb hby d2_89) k) ?_
  show gO (tF T15 m 90 #[.val (.ref o0), .val (.int 4)] [(.int 2), (.ref o0), (.int 2), (.ref b1), (.ref b1)])
  have c19 := (c13.other W15 n2)
  obtain ⟨cl18, Ar18, aq18, S18, N18, H18, G18⟩ := id c19
  have hin18 : ¬ ((2 : Int32) < 0 ∨ cl18.slots.size ≤ ((2 : Int32)).toNatClampNeg) := inb_of S18 ⟨by decide, by decide⟩
  refine gob (X15.daload hx (j := (2 : Int32)) (v := (.double e_2)) (by rw [e15]; exact Ar18.1) (State.isArrayOf_alike hZ.alike Ar18.2.1) Ar18.2.2 hin18 (Has.at H18 hin18 rfl) (g := (mkF m 90 #[.val (.ref o0), .val (.int 4)] [(.int 2), (.ref o0), (.int 2), (.ref b1), (.ref b1)])) rfl rfl (hb hby d2_90)) ?_
  show gO (tF T15 m 91 #[.val (.ref o0), .val (.int 4)] [(.double e_2), (.int 2), (.ref b1), (.ref b1)])
  obtain ⟨cl20, Ar20, aq20, S20, N20, H20, G20⟩ := id V15
  have hin20 : ¬ ((2 : Int32) < 0 ∨ cl20.slots.size ≤ ((2 : Int32)).toNatClampNeg) := inb_of S20 ⟨by decide, by decide⟩
  obtain ⟨T21, h21, X21, e21, W21, st21⟩ := stD X15 hx hZ e15 Ar20 (j := (2 : Int32)) hin20 (g := (mkF m 91 #[.val (.ref o0), .val (.int 4)] [(.double e_2), (.int 2), (.ref b1), (.ref b1)])) rfl rfl (hb hby d2_91)
  refine gob st21 ?_
  have z22 : n0 ≤ h21.size := Nat.le_trans z16 (Keep.of_wr W21).1
  have N21 := Fr.snoc X21 N15 g3
  have K23 : Keep h0 h21 ([] : List Addr) := K17.wr W21 (Or.inr sz_b1)
  have V21 : Arv Z h21 b1 k1 .double (4 : Int32) [(.double e_0), (.double e_1), (.double e_2), (.double 0)] (.double 0) := Arv.set Ar20 aq20 S20 N20 H20 G20 rfl W21 2 rfl (Nat.le_of_ble_eq_true rfl)
  show gO (tF T21 m 92 #[.val (.ref o0), .val (.int 4)] [(.ref b1)])
  refine gob (fun _ k => XS.dup X21.here hx rfl (hb hby d2_92) rfl rfl k) ?_
  show gO (tF T21 m 93 #[.val (.ref o0), .val (.int 4)] [(.ref b1), (.ref b1)])
  refine gob (fun _ k => XS.iconst X21.here hx rfl (hb hby d2_93) k) ?_
  show gO (tF T21 m 94 #[.val (.ref o0), .val (.int 4)] [(.int 3), (.ref b1), (.ref b1)])
  refine gob (fun _ k => XS.aloadN X21.here hx rfl (hb hby d2_94) rfl rfl k) ?_
  show gO (tF T21 m 95 #[.val (.ref o0), .val (.int 4)] [(.ref o0), (.int 3), (.ref b1), (.ref b1)])
  refine gob (fun _ k => XS.iconst X21.here hx rfl (hb hby d2_95) k) ?_
  show gO (tF T21 m 96 #[.val (.ref o0), .val (.int 4)] [(.int 3), (.ref o0), (.int 3), (.ref b1), (.ref b1)])
  have c25 := (c19.other W21 n2)
  obtain ⟨cl24, Ar24, aq24, S24, N24, H24, G24⟩ := id c25
  have hin24 : ¬ ((3 : Int32) < 0 ∨ cl24.slots.size ≤ ((3 : Int32)).toNatClampNeg) := inb_of S24 ⟨by decide, by decide⟩
  refine gob (X21.daload hx (j := (3 : Int32)) (v := (.double e_3)) (by rw [e21]; exact Ar24.1) (State.isArrayOf_alike hZ.alike Ar24.2.1) Ar24.2.2 hin24 (Has.at H24 hin24 rfl) (g := (mkF m 96 #[.val (.ref o0), .val (.int 4)] [(.int 3), (.ref o0), (.int 3), (.ref b1), (.ref b1)])) rfl rfl (hb hby d2_96)) ?_
  show gO (tF T21 m 97 #[.val (.ref o0), .val (.int 4)] [(.double e_3), (.int 3), (.ref b1), (.ref b1)])
  obtain ⟨cl26, Ar26, aq26, S26, N26, H26, G26⟩ := id V21
  have hin26 : ¬ ((3 : Int32) < 0 ∨ cl26.slots.size ≤ ((3 : Int32)).toNatClampNeg) := inb_of S26 ⟨by decide, by decide⟩
  obtain ⟨T27, h27, X27, e27, W27, st27⟩ := stD X21 hx hZ e21 Ar26 (j := (3 : Int32)) hin26 (g := (mkF m 97 #[.val (.ref o0), .val (.int 4)] [(.double e_3), (.int 3), (.ref b1), (.ref b1)])) rfl rfl (hb hby d2_97)
  refine gob st27 ?_
  have z28 : n0 ≤ h27.size := Nat.le_trans z22 (Keep.of_wr W27).1
  have N27 := Fr.snoc X27 N21 g3
  have K29 : Keep h0 h27 ([] : List Addr) := K23.wr W27 (Or.inr sz_b1)
  have V27 : Arv Z h27 b1 k1 .double (4 : Int32) [(.double e_0), (.double e_1), (.double e_2), (.double e_3)] (.double 0) := Arv.set Ar26 aq26 S26 N26 H26 G26 rfl W27 3 rfl (Nat.le_of_ble_eq_true rfl)
  show gO (tF T27 m 98 #[.val (.ref o0), .val (.int 4)] [(.ref b1)])
  refine goA X27 hx hlk Bd.returns rfl rfl (hb hby d2_98) ?_ (by decide) (by decide)
  show Qpd4 Z o0 k_e e_0 e_1 e_2 e_3 h0 n0 (some (.ref b1)) T27.heap _
  rw [e27]
  exact ⟨b1, k1, rfl, N27, K29, sz_b1, V27⟩
theorem d4_0 : decode jdk_30_method_1_code 0 = .ok (.aload_n 0, 1) := by decide +kernel
theorem d4_1 : decode jdk_30_method_1_code 1 = .ok (.invokespecial 1, 3) := by decide +kernel
theorem d4_4 : decode jdk_30_method_1_code 4 = .ok (.return_, 1) := by decide +kernel
theorem ef_4 (m : MethodId) (x0 : Addr) : entryFrame m #[(.ref x0)] 1 = mkF m 0 #[.val (.ref x0)] [] := by first | (simp [entryFrame, mkF, argsToLocals, Value.category]; done) | rfl
def Q4 (Z : State) (o0 : Addr) (h0 : Heap) (n0 : Nat) (v : Option Value) (h : Heap) (L : List Loc) : Prop := v = none ∧ Fr n0 L ∧ h = h0
set_option maxRecDepth 65536 in
set_option maxHeartbeats 40000000 in
theorem rm4 (l : Launch) (Z : State) (a0 : Array Value) (hw : ∀ d ∈ tables_1, d.before a0 Z = true) (ws : List Jvm.Cond) (o0 : Addr) (h0 : Heap) (n0 : Nat) (Z0 : n0 ≤ h0.size) :
    MetFree l (⟨"java/lang/Record", "<init>", "()V"⟩ : MethodName) (head1 (Jvm.Cond.code (⟨"java/lang/Record", "<init>", "()V"⟩ : MethodName) jdk_30_method_1_code 1 none :: ws) ({ frames := 1, cells := 0, slots := 0, locals := 12 } : Room)) (fun a U => a = #[(.ref o0)] ∧ Z.Warmed39 U.vm ∧ U.heap = h0) (fun _ _ _ _ _ => True) (fun _ U o U' => ∃ v L, o = .returned v ∧ Q4 Z o0 h0 n0 v U'.heap L ∧ FrameEnd U o U' L ({ frames := 1, cells := 0, slots := 0, locals := 12 } : Room).cells ({ frames := 1, cells := 0, slots := 0, locals := 12 } : Room).slots) := by
  refine MetFree.of_bodySF (plainFor_of_name (by first | (simp [plainName, overriddenIn]; done) | decide +kernel)) hisR ?_
  intro p e s m args below meth c s₁ Bd hml0 hP hK
  obtain ⟨rfl, hZ, hh⟩ := hP
  have hx := Bd.exec
  have hby := Bd.bytes
  have hml : c.maxLocals = 1 := hml0
  have hown : s.vm.findClass "java/lang/Record" = some m.cls := findClass_of_methodNamed Bd.named
  have hnm := (name_of_methodNamed Bd.named Bd.method).1
  have hlk := BodyLoose.notSynchronized Bd
  have X0 : Stand p l e ({ frames := 1, cells := 0, slots := 0, locals := 12 } : Room) s m #[(.ref o0)] below meth c s₁ [] 0 0 := Stand.of_body Bd
  have e0 : s₁.heap = h0 := by rw [← hh, Bd.state]; rfl
  have N0 := Fr.nil n0
  show Go p e below s (Q4 Z o0 h0 n0) 0 0 (s₁.setTop (entryFrame m #[(.ref o0)] 1))
  rw [ef_4]
  show gO (tF s₁ m 0 #[.val (.ref o0)] [])
  refine gob (fun _ k => XS.aloadN X0.here hx rfl (hb hby d4_0) rfl rfl k) ?_
  show gO (tF s₁ m 1 #[.val (.ref o0)] [(.ref o0)])
  obtain ⟨T1, X1, e1, st1⟩ := initO X0 hx hZ hown (hW hw 20 rfl) (hW hw 21 rfl) (hW hw 22 rfl) e0 (g := (mkF m 1 #[.val (.ref o0)] [(.ref o0)])) rfl (by rw [hml]; rfl) rfl (hb hby d4_1) (by decide) (W := 0) (by show 2 * 0 + _ ≤ _; exact Nat.le_of_eq rfl) (by decide)
  refine gob st1 ?_
  show gO (tF T1 m 4 #[.val (.ref o0)] [])
  refine goV X1 hx hlk Bd.returns (hb hby d4_4) ?_ (by decide) (by decide)
  show Q4 Z o0 h0 n0 (none) T1.heap _
  exact ⟨rfl, N0, e1⟩
theorem d3_0 : decode prog_3_method_1_code 0 = .ok (.aload_n 0, 1) := by decide +kernel
theorem d3_1 : decode prog_3_method_1_code 1 = .ok (.invokespecial 1, 3) := by decide +kernel
theorem d3_4 : decode prog_3_method_1_code 4 = .ok (.aload_n 0, 1) := by decide +kernel
theorem d3_5 : decode prog_3_method_1_code 5 = .ok (.aload_n 1, 1) := by decide +kernel
theorem d3_6 : decode prog_3_method_1_code 6 = .ok (.putfield 7, 3) := by decide +kernel
theorem d3_9 : decode prog_3_method_1_code 9 = .ok (.aload_n 0, 1) := by decide +kernel
theorem d3_10 : decode prog_3_method_1_code 10 = .ok (.aload_n 2, 1) := by decide +kernel
theorem d3_11 : decode prog_3_method_1_code 11 = .ok (.putfield 13, 3) := by decide +kernel
theorem d3_14 : decode prog_3_method_1_code 14 = .ok (.return_, 1) := by decide +kernel
theorem pd_0 : parseMethodDescriptor "()V" = some ⟨[], none⟩ := by decide +kernel
theorem ef_3 (m : MethodId) (x0 : Addr) (x1 : Addr) (x2 : Addr) : entryFrame m #[(.ref x0), (.ref x1), (.ref x2)] 3 = mkF m 0 #[.val (.ref x0), .val (.ref x1), .val (.ref x2)] [] := by first | (simp [entryFrame, mkF, argsToLocals, Value.category]; done) | rfl
def Q3 (Z : State) (o0 : Addr) (o1 : Addr) (o2 : Addr) (h0 : Heap) (n0 : Nat) (v : Option Value) (h : Heap) (L : List Loc) : Prop := v = none ∧ Fr n0 L ∧ Keep h0 h ([o0] : List Addr) ∧ Fld Z h o0 "com/example/fenda/fenda/analysis/Combination" "dofs" "[I" (.ref o1) ∧ Fld Z h o0 "com/example/fenda/fenda/analysis/Combination" "weights" "[D" (.ref o2)
set_option maxRecDepth 65536 in
set_option maxHeartbeats 40000000 in
theorem rm3 (l : Launch) (Z : State) (a0 : Array Value) (hw : ∀ d ∈ tables_1, d.before a0 Z = true) (ws : List Jvm.Cond) (o0 : Addr) (o1 : Addr) (o2 : Addr) (h0 : Heap) (n0 : Nat) (Z0 : n0 ≤ h0.size) (E_o0 : Exa Z h0 o0 "com/example/fenda/fenda/analysis/Combination") (F_dofs_o0 : Fld Z h0 o0 "com/example/fenda/fenda/analysis/Combination" "dofs" "[I" .null) (g_o0 : n0 ≤ o0) (F_weights_o0 : Fld Z h0 o0 "com/example/fenda/fenda/analysis/Combination" "weights" "[D" .null) :
    MetFree l (⟨"com/example/fenda/fenda/analysis/Combination", "<init>", "([I[D)V"⟩ : MethodName) (head1 (Jvm.Cond.code (⟨"com/example/fenda/fenda/analysis/Combination", "<init>", "([I[D)V"⟩ : MethodName) prog_3_method_1_code 3 none :: ws) ({ frames := 2, cells := 0, slots := 0, locals := 24 } : Room)) (fun a U => a = #[(.ref o0), (.ref o1), (.ref o2)] ∧ Z.Warmed39 U.vm ∧ U.heap = h0) (fun _ _ _ _ _ => True) (fun _ U o U' => ∃ v L, o = .returned v ∧ Q3 Z o0 o1 o2 h0 n0 v U'.heap L ∧ FrameEnd U o U' L ({ frames := 2, cells := 0, slots := 0, locals := 24 } : Room).cells ({ frames := 2, cells := 0, slots := 0, locals := 24 } : Room).slots) := by
  refine MetFree.of_bodySF (plainFor_of_name (by first | (simp [plainName, overriddenIn]; done) | decide +kernel)) hisR ?_
  intro p e s m args below meth c s₁ Bd hml0 hP hK
  obtain ⟨rfl, hZ, hh⟩ := hP
  have hx := Bd.exec
  have hby := Bd.bytes
  have hml : c.maxLocals = 3 := hml0
  have hown : s.vm.findClass "com/example/fenda/fenda/analysis/Combination" = some m.cls := findClass_of_methodNamed Bd.named
  have hnm := (name_of_methodNamed Bd.named Bd.method).1
  have hlk := BodyLoose.notSynchronized Bd
  have X0 : Stand p l e ({ frames := 2, cells := 0, slots := 0, locals := 24 } : Room) s m #[(.ref o0), (.ref o1), (.ref o2)] below meth c s₁ [] 0 0 := Stand.of_body Bd
  have e0 : s₁.heap = h0 := by rw [← hh, Bd.state]; rfl
  have N0 := Fr.nil n0
  show Go p e below s (Q3 Z o0 o1 o2 h0 n0) 0 0 (s₁.setTop (entryFrame m #[(.ref o0), (.ref o1), (.ref o2)] 3))
  rw [ef_3]
  show gO (tF s₁ m 0 #[.val (.ref o0), .val (.ref o1), .val (.ref o2)] [])
  refine gob (fun _ k => XS.aloadN X0.here hx rfl (hb hby d3_0) rfl rfl k) ?_
  show gO (tF s₁ m 1 #[.val (.ref o0), .val (.ref o1), .val (.ref o2)] [(.ref o0)])
  obtain ⟨_, _, ⟨T1, L1, k1, n1⟩, -, X1, ⟨Lc1, hQ1, l1, y1, z1⟩, st1⟩ := X0.specialBack hx (y := (⟨"java/lang/Record", "<init>", "()V"⟩ : MethodName)) rfl hown (mvT hZ (hW hw 15 rfl)) (mvT hZ (hW hw 16 rfl)) (mvT hZ (hW hw 19 rfl)) (by decide) (backOf (W := 0) (rm4 l Z a0 hw [] o0 h0 n0 Z0 ) hZ (hW hw 19 rfl) (hW hw 18 rfl) (by decide) (by decide)) (g := (mkF m 1 #[.val (.ref o0), .val (.ref o1), .val (.ref o2)] [(.ref o0)])) rfl (by rw [hml]; rfl) (Steps.refl _) (a := o0) (argsL := []) (rest := []) (lenOf pd_0 rfl) rfl (by show 2 * 0 + _ ≤ _; exact Nat.le_of_eq rfl) (hb hby d3_1) (fun _ _ => ⟨rfl, e0, (by decide : 0 + 0 ≤ _), (by decide : 0 + 0 ≤ _)⟩)
  dsimp only [Pt.U, Pt.locs, Pt.cells, Pt.slots] at X1 l1 y1 z1 st1 hQ1
  replace X1 := castX X1 (y1.trans (rfl : _ = 0)) (z1.trans (rfl : _ = 0))
  obtain ⟨rfl, Nq1, e1⟩ := hQ1
  have N1 : Fr n0 L1 := l1 ▸ Fr.app N0 Nq1
  refine gob (fun _ k => st1.trans k) ?_
  show gO (tF T1 m 4 #[.val (.ref o0), .val (.ref o1), .val (.ref o2)] [])
  refine gob (fun _ k => XS.aloadN X1.here hx rfl (hb hby d3_4) rfl rfl k) ?_
  show gO (tF T1 m 5 #[.val (.ref o0), .val (.ref o1), .val (.ref o2)] [(.ref o0)])
  refine gob (fun _ k => XS.aloadN X1.here hx rfl (hb hby d3_5) rfl rfl k) ?_
  show gO (tF T1 m 6 #[.val (.ref o0), .val (.ref o1), .val (.ref o2)] [(.ref o1), (.ref o0)])
  obtain ⟨T2, h2, X2, e2, W2, st2⟩ := putF X1 hx hZ hown (host := "") (Or.inl (hW hw 23 rfl)) Via.refl e1 F_dofs_o0 E_o0 (Or.inr ⟨(hW hw 24 rfl), rfl, hnm⟩) (hW hw 10 rfl) (ty := (.array .int)) (by decide) rfl rfl (g := (mkF m 6 #[.val (.ref o0), .val (.ref o1), .val (.ref o2)] [(.ref o1), (.ref o0)])) rfl rfl (hb hby d3_6)
  refine gob st2 ?_
  have z3 : n0 ≤ h2.size := Nat.le_trans Z0 (Keep.of_wr W2).1
  have N2 := Fr.snoc X2 N1 g_o0
  have K4 : Keep h0 h2 ([o0] : List Addr) := (Keep.refl h0 ([o0] : List Addr)).wr W2 (Or.inl (List.mem_of_getElem? (i := 0) rfl))
  have Fw2 := F_dofs_o0.same W2
  show gO (tF T2 m 9 #[.val (.ref o0), .val (.ref o1), .val (.ref o2)] [])
  refine gob (fun _ k => XS.aloadN X2.here hx rfl (hb hby d3_9) rfl rfl k) ?_
  show gO (tF T2 m 10 #[.val (.ref o0), .val (.ref o1), .val (.ref o2)] [(.ref o0)])
  refine gob (fun _ k => XS.aloadN X2.here hx rfl (hb hby d3_10) rfl rfl k) ?_
  show gO (tF T2 m 11 #[.val (.ref o0), .val (.ref o1), .val (.ref o2)] [(.ref o2), (.ref o0)])
  have c5 := (F_weights_o0.other W2 (Or.inr (slot_ne (Or.inr (hW hw 26 rfl)) (Or.inr (hW hw 24 rfl)) (by decide) (t := (.array .double)) (t' := (.array .int)) (by decide) (by decide))))
  have c6 := (E_o0.wr W2)
  obtain ⟨T7, h7, X7, e7, W7, st7⟩ := putF X2 hx hZ hown (host := "") (Or.inl (hW hw 25 rfl)) Via.refl e2 c5 c6 (Or.inr ⟨(hW hw 26 rfl), rfl, hnm⟩) (hW hw 10 rfl) (ty := (.array .double)) (by decide) rfl rfl (g := (mkF m 11 #[.val (.ref o0), .val (.ref o1), .val (.ref o2)] [(.ref o2), (.ref o0)])) rfl rfl (hb hby d3_11)
  refine gob st7 ?_
  have z8 : n0 ≤ h7.size := Nat.le_trans z3 (Keep.of_wr W7).1
  have N7 := Fr.snoc X7 N2 g_o0
  have K9 : Keep h0 h7 ([o0] : List Addr) := K4.wr W7 (Or.inl (List.mem_of_getElem? (i := 0) rfl))
  have Fw7 := c5.same W7
  show gO (tF T7 m 14 #[.val (.ref o0), .val (.ref o1), .val (.ref o2)] [])
  refine goV X7 hx hlk Bd.returns (hb hby d3_14) ?_ (by decide) (by decide)
  show Q3 Z o0 o1 o2 h0 n0 (none) T7.heap _
  have c10 := (Fw2.other W7 (Or.inr (slot_ne (Or.inr (hW hw 24 rfl)) (Or.inr (hW hw 26 rfl)) (by decide) (t := (.array .int)) (t' := (.array .double)) (by decide) (by decide))))
  rw [e7]
  exact ⟨rfl, N7, K9, c10, Fw7⟩
theorem d6_0 : decode prog_3_method_2_code 0 = .ok (.dconst 0, 1) := by decide +kernel
theorem d6_1 : decode prog_3_method_2_code 1 = .ok (.dstore_n 2, 1) := by decide +kernel
theorem d6_2 : decode prog_3_method_2_code 2 = .ok (.iconst 0, 1) := by decide +kernel
theorem d6_3 : decode prog_3_method_2_code 3 = .ok (.istore 4, 2) := by decide +kernel
theorem d6_5 : decode prog_3_method_2_code 5 = .ok (.iload 4, 2) := by decide +kernel
theorem d6_7 : decode prog_3_method_2_code 7 = .ok (.aload_n 0, 1) := by decide +kernel
theorem d6_8 : decode prog_3_method_2_code 8 = .ok (.getfield 7, 3) := by decide +kernel
theorem d6_11 : decode prog_3_method_2_code 11 = .ok (.arraylength, 1) := by decide +kernel
theorem d6_12 : decode prog_3_method_2_code 12 = .ok (.if_icmp .ge 29, 3) := by decide +kernel
theorem d6_15 : decode prog_3_method_2_code 15 = .ok (.dload_n 2, 1) := by decide +kernel
theorem d6_16 : decode prog_3_method_2_code 16 = .ok (.aload_n 0, 1) := by decide +kernel
theorem d6_17 : decode prog_3_method_2_code 17 = .ok (.getfield 13, 3) := by decide +kernel
theorem d6_20 : decode prog_3_method_2_code 20 = .ok (.iload 4, 2) := by decide +kernel
theorem d6_22 : decode prog_3_method_2_code 22 = .ok (.daload, 1) := by decide +kernel
theorem d6_23 : decode prog_3_method_2_code 23 = .ok (.aload_n 1, 1) := by decide +kernel
theorem d6_24 : decode prog_3_method_2_code 24 = .ok (.aload_n 0, 1) := by decide +kernel
theorem d6_25 : decode prog_3_method_2_code 25 = .ok (.getfield 7, 3) := by decide +kernel
theorem d6_28 : decode prog_3_method_2_code 28 = .ok (.iload 4, 2) := by decide +kernel
theorem d6_30 : decode prog_3_method_2_code 30 = .ok (.iaload, 1) := by decide +kernel
theorem d6_31 : decode prog_3_method_2_code 31 = .ok (.daload, 1) := by decide +kernel
theorem d6_32 : decode prog_3_method_2_code 32 = .ok (.dmul, 1) := by decide +kernel
theorem d6_33 : decode prog_3_method_2_code 33 = .ok (.dadd, 1) := by decide +kernel
theorem d6_34 : decode prog_3_method_2_code 34 = .ok (.dstore_n 2, 1) := by decide +kernel
theorem d6_35 : decode prog_3_method_2_code 35 = .ok (.iinc 4 1, 3) := by decide +kernel
theorem d6_38 : decode prog_3_method_2_code 38 = .ok (.goto (-33), 3) := by decide +kernel
theorem d6_41 : decode prog_3_method_2_code 41 = .ok (.dload_n 2, 1) := by decide +kernel
theorem d6_42 : decode prog_3_method_2_code 42 = .ok (.dreturn, 1) := by decide +kernel
theorem ef_of_ (m : MethodId) (x0 : Addr) (x1 : Addr) : entryFrame m #[(.ref x0), (.ref x1)] 5 = mkF m 0 #[.val (.ref x0), .val (.ref x1), .unset, .unset, .unset] [] := by first | (simp [entryFrame, mkF, argsToLocals, Value.category]; done) | rfl
def Qof_ (Z : State) (o0 : Addr) (o1 : Addr) (w_d : Addr) (w_w : Addr) (k_d : ClassId) (k_y : ClassId) (k_z : ClassId) (z_0 : UInt64) (z_1 : UInt64) (z_2 : UInt64) (z_3 : UInt64) (h0 : Heap) (n0 : Nat) (v : Option Value) (h : Heap) (L : List Loc) : Prop := ∃ r : UInt64, v = some (.double r) ∧ ((r = (0 : UInt64))) ∧ Fr n0 L ∧ h = h0
set_option maxRecDepth 65536 in
set_option maxHeartbeats 40000000 in
theorem rmof_ (l : Launch) (Z : State) (a0 : Array Value) (hw : ∀ d ∈ tables_1, d.before a0 Z = true) (ws : List Jvm.Cond) (o0 : Addr) (o1 : Addr) (w_d : Addr) (w_w : Addr) (k_d : ClassId) (k_y : ClassId) (k_z : ClassId) (z_0 : UInt64) (z_1 : UInt64) (z_2 : UInt64) (z_3 : UInt64) (h0 : Heap) (n0 : Nat) (Z0 : n0 ≤ h0.size) (F_dofs : Fld Z h0 o0 "com/example/fenda/fenda/analysis/Combination" "dofs" "[I" (.ref w_d)) (F_weights : Fld Z h0 o0 "com/example/fenda/fenda/analysis/Combination" "weights" "[D" (.ref w_w)) (V_d : Arv Z h0 w_d k_d .int (0 : Int32) [] (.int 0)) (V_y : Arv Z h0 w_w k_y .double (0 : Int32) [] (.double 0)) (m_z_0 : Mag64 1056 z_0) (m_z_1 : Mag64 1056 z_1) (m_z_2 : Mag64 1056 z_2) (m_z_3 : Mag64 1056 z_3) (V_z : Arv Z h0 o1 k_z .double (4 : Int32) [(.double z_0), (.double z_1), (.double z_2), (.double z_3)] (.double 0)) :
    MetFree l (⟨"com/example/fenda/fenda/analysis/Combination", "of", "([D)D"⟩ : MethodName) (head1 (Jvm.Cond.code (⟨"com/example/fenda/fenda/analysis/Combination", "of", "([D)D"⟩ : MethodName) prog_3_method_2_code 5 (some .double) :: ws) ({ frames := 0, cells := 0, slots := 0, locals := 0 } : Room)) (fun a U => a = #[(.ref o0), (.ref o1)] ∧ Z.Warmed39 U.vm ∧ U.heap = h0) (fun _ _ _ _ _ => True) (fun _ U o U' => ∃ v L, o = .returned v ∧ Qof_ Z o0 o1 w_d w_w k_d k_y k_z z_0 z_1 z_2 z_3 h0 n0 v U'.heap L ∧ FrameEnd U o U' L ({ frames := 0, cells := 0, slots := 0, locals := 0 } : Room).cells ({ frames := 0, cells := 0, slots := 0, locals := 0 } : Room).slots) := by
  refine MetFree.of_bodySF (plainFor_of_name (by first | (simp [plainName, overriddenIn]; done) | decide +kernel)) hisR ?_
  intro p e s m args below meth c s₁ Bd hml0 hP hK
  obtain ⟨rfl, hZ, hh⟩ := hP
  have hx := Bd.exec
  have hby := Bd.bytes
  have hml : c.maxLocals = 5 := hml0
  have hown : s.vm.findClass "com/example/fenda/fenda/analysis/Combination" = some m.cls := findClass_of_methodNamed Bd.named
  have hnm := (name_of_methodNamed Bd.named Bd.method).1
  have hlk := BodyLoose.notSynchronized Bd
  have X0 : Stand p l e ({ frames := 0, cells := 0, slots := 0, locals := 0 } : Room) s m #[(.ref o0), (.ref o1)] below meth c s₁ [] 0 0 := Stand.of_body Bd
  have e0 : s₁.heap = h0 := by rw [← hh, Bd.state]; rfl
  have N0 := Fr.nil n0
  show Go p e below s (Qof_ Z o0 o1 w_d w_w k_d k_y k_z z_0 z_1 z_2 z_3 h0 n0) 0 0 (s₁.setTop (entryFrame m #[(.ref o0), (.ref o1)] 5))
  rw [ef_of_]
  show gO (tF s₁ m 0 (la0 o0 o1) [])
  refine gob (fun _ k => XS.dconst0 X0.here hx rfl (hb hby d6_0) (v := (0 : UInt64)) (by decide +kernel) k) ?_
  show gO (tF s₁ m 1 (la0 o0 o1) [(.double (0 : UInt64))])
  refine gob (fun _ k => XS.dstoreN X0.here hx rfl (hb hby d6_1) rfl (l' := (la1 o0 o1 (0 : UInt64))) rfl k) ?_
  show gO (tF s₁ m 2 (la1 o0 o1 (0 : UInt64)) [])
  refine gob (fun _ k => XS.iconst X0.here hx rfl (hb hby d6_2) k) ?_
  show gO (tF s₁ m 3 (la1 o0 o1 (0 : UInt64)) [(.int 0)])
  refine gob (fun _ k => XS.istore X0.here hx rfl (hb hby d6_3) rfl (l' := (la2 o0 o1 (0 : UInt64) 0)) rfl k) ?_
  show gO (tF s₁ m 5 (la2 o0 o1 (0 : UInt64) 0) [])
  refine gob (fun _ k => XS.iload X0.here hx rfl (hb hby d6_5) rfl k) ?_
  show gO (tF s₁ m 7 (la2 o0 o1 (0 : UInt64) 0) [(.int 0)])
  refine gob (fun _ k => XS.aloadN X0.here hx rfl (hb hby d6_7) rfl rfl k) ?_
  show gO (tF s₁ m 8 (la2 o0 o1 (0 : UInt64) 0) [(.ref o0), (.int 0)])
  obtain ⟨T1, X1, e1, st1⟩ := getF X0 hx hZ hown (host := "") (Or.inl (hW hw 23 rfl)) Via.refl e0 F_dofs (g := (mkF m 8 (la2 o0 o1 (0 : UInt64) 0) [(.ref o0), (.int 0)])) rfl rfl (hb hby d6_8)
  refine gob st1 ?_
  show gO (tF T1 m 11 (la2 o0 o1 (0 : UInt64) 0) [(.ref w_d), (.int 0)])
  obtain ⟨cl2, Ar2, aq2, S2, N2, H2, G2⟩ := id V_d
  refine gob (X1.arraylength hx (by rw [e1]; exact Ar2.1) (State.isArrayOf_alike hZ.alike Ar2.2.1) (g := (mkF m 11 (la2 o0 o1 (0 : UInt64) 0) [(.ref w_d), (.int 0)])) rfl rfl (hb hby d6_11)) ?_
  rw [len_of S2 N2]
  show gO (tF T1 m 12 (la2 o0 o1 (0 : UInt64) 0) [(.int 0), (.int 0)])
  refine gob (fun _ k => XS.icmpYes X1.here hx rfl (pc0 := 12) (pc' := 41) rfl (hb hby d6_12) rfl (flt (by decide : ¬ ((0 : Int32) < (0 : Int32)))).2.1 (by decide) (by decide) k) ?_
  show gO (tF T1 m 41 (la2 o0 o1 (0 : UInt64) 0) [])
  refine gob (fun _ k => XS.dloadN X1.here hx rfl (hb hby d6_41) rfl k) ?_
  show gO (tF T1 m 42 (la2 o0 o1 (0 : UInt64) 0) [(.double (0 : UInt64))])
  refine goD X1 hx hlk Bd.returns (hb hby d6_42) ?_ (by decide) (by decide)
  show Qof_ Z o0 o1 w_d w_w k_d k_y k_z z_0 z_1 z_2 z_3 h0 n0 (some (.double (0 : UInt64))) T1.heap _
  exact ⟨(0 : UInt64), rfl, rfl, N0, e1⟩
theorem ef_of_0 (m : MethodId) (x0 : Addr) (x1 : Addr) : entryFrame m #[(.ref x0), (.ref x1)] 5 = mkF m 0 #[.val (.ref x0), .val (.ref x1), .unset, .unset, .unset] [] := by first | (simp [entryFrame, mkF, argsToLocals, Value.category]; done) | rfl
def Qof_0 (Z : State) (o0 : Addr) (o1 : Addr) (w_d : Addr) (w_w : Addr) (k_d : ClassId) (k_y : ClassId) (y_0 : UInt64) (k_z : ClassId) (z_0 : UInt64) (z_1 : UInt64) (z_2 : UInt64) (z_3 : UInt64) (h0 : Heap) (n0 : Nat) (v : Option Value) (h : Heap) (L : List Loc) : Prop := ∃ r : UInt64, v = some (.double r) ∧ ((r = (FP.dadd (0 : UInt64) (FP.dmul y_0 z_0)))) ∧ Fr n0 L ∧ h = h0
set_option maxRecDepth 65536 in
set_option maxHeartbeats 40000000 in
theorem rmof_0 (l : Launch) (Z : State) (a0 : Array Value) (hw : ∀ d ∈ tables_1, d.before a0 Z = true) (ws : List Jvm.Cond) (o0 : Addr) (o1 : Addr) (w_d : Addr) (w_w : Addr) (k_d : ClassId) (k_y : ClassId) (y_0 : UInt64) (k_z : ClassId) (z_0 : UInt64) (z_1 : UInt64) (z_2 : UInt64) (z_3 : UInt64) (h0 : Heap) (n0 : Nat) (Z0 : n0 ≤ h0.size) (F_dofs : Fld Z h0 o0 "com/example/fenda/fenda/analysis/Combination" "dofs" "[I" (.ref w_d)) (F_weights : Fld Z h0 o0 "com/example/fenda/fenda/analysis/Combination" "weights" "[D" (.ref w_w)) (V_d : Arv Z h0 w_d k_d .int (1 : Int32) [(.int 0)] (.int 0)) (m_y_0 : Mag64 1056 y_0) (V_y : Arv Z h0 w_w k_y .double (1 : Int32) [(.double y_0)] (.double 0)) (m_z_0 : Mag64 1056 z_0) (m_z_1 : Mag64 1056 z_1) (m_z_2 : Mag64 1056 z_2) (m_z_3 : Mag64 1056 z_3) (V_z : Arv Z h0 o1 k_z .double (4 : Int32) [(.double z_0), (.double z_1), (.double z_2), (.double z_3)] (.double 0)) :
    MetFree l (⟨"com/example/fenda/fenda/analysis/Combination", "of", "([D)D"⟩ : MethodName) (head1 (Jvm.Cond.code (⟨"com/example/fenda/fenda/analysis/Combination", "of", "([D)D"⟩ : MethodName) prog_3_method_2_code 5 (some .double) :: ws) ({ frames := 0, cells := 0, slots := 0, locals := 0 } : Room)) (fun a U => a = #[(.ref o0), (.ref o1)] ∧ Z.Warmed39 U.vm ∧ U.heap = h0) (fun _ _ _ _ _ => True) (fun _ U o U' => ∃ v L, o = .returned v ∧ Qof_0 Z o0 o1 w_d w_w k_d k_y y_0 k_z z_0 z_1 z_2 z_3 h0 n0 v U'.heap L ∧ FrameEnd U o U' L ({ frames := 0, cells := 0, slots := 0, locals := 0 } : Room).cells ({ frames := 0, cells := 0, slots := 0, locals := 0 } : Room).slots) := by
  refine MetFree.of_bodySF (plainFor_of_name (by first | (simp [plainName, overriddenIn]; done) | decide +kernel)) hisR ?_
  intro p e s m args below meth c s₁ Bd hml0 hP hK
  obtain ⟨rfl, hZ, hh⟩ := hP
  have hx := Bd.exec
  have hby := Bd.bytes
  have hml : c.maxLocals = 5 := hml0
  have hown : s.vm.findClass "com/example/fenda/fenda/analysis/Combination" = some m.cls := findClass_of_methodNamed Bd.named
  have hnm := (name_of_methodNamed Bd.named Bd.method).1
  have hlk := BodyLoose.notSynchronized Bd
  have X0 : Stand p l e ({ frames := 0, cells := 0, slots := 0, locals := 0 } : Room) s m #[(.ref o0), (.ref o1)] below meth c s₁ [] 0 0 := Stand.of_body Bd
  have e0 : s₁.heap = h0 := by rw [← hh, Bd.state]; rfl
  have N0 := Fr.nil n0
  show Go p e below s (Qof_0 Z o0 o1 w_d w_w k_d k_y y_0 k_z z_0 z_1 z_2 z_3 h0 n0) 0 0 (s₁.setTop (entryFrame m #[(.ref o0), (.ref o1)] 5))
  rw [ef_of_0]
  show gO (tF s₁ m 0 (la0 o0 o1) [])
  refine gob (fun _ k => XS.dconst0 X0.here hx rfl (hb hby d6_0) (v := (0 : UInt64)) (by decide +kernel) k) ?_
  show gO (tF s₁ m 1 (la0 o0 o1) [(.double (0 : UInt64))])
  refine gob (fun _ k => XS.dstoreN X0.here hx rfl (hb hby d6_1) rfl (l' := (la1 o0 o1 (0 : UInt64))) rfl k) ?_
  show gO (tF s₁ m 2 (la1 o0 o1 (0 : UInt64)) [])
  refine gob (fun _ k => XS.iconst X0.here hx rfl (hb hby d6_2) k) ?_
  show gO (tF s₁ m 3 (la1 o0 o1 (0 : UInt64)) [(.int 0)])
  refine gob (fun _ k => XS.istore X0.here hx rfl (hb hby d6_3) rfl (l' := (la2 o0 o1 (0 : UInt64) 0)) rfl k) ?_
  show gO (tF s₁ m 5 (la2 o0 o1 (0 : UInt64) 0) [])
  refine gob (fun _ k => XS.iload X0.here hx rfl (hb hby d6_5) rfl k) ?_
  show gO (tF s₁ m 7 (la2 o0 o1 (0 : UInt64) 0) [(.int 0)])
  refine gob (fun _ k => XS.aloadN X0.here hx rfl (hb hby d6_7) rfl rfl k) ?_
  show gO (tF s₁ m 8 (la2 o0 o1 (0 : UInt64) 0) [(.ref o0), (.int 0)])
  obtain ⟨T1, X1, e1, st1⟩ := getF X0 hx hZ hown (host := "") (Or.inl (hW hw 23 rfl)) Via.refl e0 F_dofs (g := (mkF m 8 (la2 o0 o1 (0 : UInt64) 0) [(.ref o0), (.int 0)])) rfl rfl (hb hby d6_8)
  refine gob st1 ?_
  show gO (tF T1 m 11 (la2 o0 o1 (0 : UInt64) 0) [(.ref w_d), (.int 0)])
  obtain ⟨cl2, Ar2, aq2, S2, N2, H2, G2⟩ := id V_d
  refine gob (X1.arraylength hx (by rw [e1]; exact Ar2.1) (State.isArrayOf_alike hZ.alike Ar2.2.1) (g := (mkF m 11 (la2 o0 o1 (0 : UInt64) 0) [(.ref w_d), (.int 0)])) rfl rfl (hb hby d6_11)) ?_
  rw [len_of S2 N2]
  show gO (tF T1 m 12 (la2 o0 o1 (0 : UInt64) 0) [(.int 1), (.int 0)])
  refine gob (fun _ k => XS.icmpNo X1.here hx rfl (hb hby d6_12) rfl (tlt (by decide : (0 : Int32) < (1 : Int32))).2.1 k) ?_
  show gO (tF T1 m 15 (la2 o0 o1 (0 : UInt64) 0) [])
  refine gob (fun _ k => XS.dloadN X1.here hx rfl (hb hby d6_15) rfl k) ?_
  show gO (tF T1 m 16 (la2 o0 o1 (0 : UInt64) 0) [(.double (0 : UInt64))])
  refine gob (fun _ k => XS.aloadN X1.here hx rfl (hb hby d6_16) rfl rfl k) ?_
  show gO (tF T1 m 17 (la2 o0 o1 (0 : UInt64) 0) [(.ref o0), (.double (0 : UInt64))])
  obtain ⟨T3, X3, e3, st3⟩ := getF X1 hx hZ hown (host := "") (Or.inl (hW hw 25 rfl)) Via.refl e1 F_weights (g := (mkF m 17 (la2 o0 o1 (0 : UInt64) 0) [(.ref o0), (.double (0 : UInt64))])) rfl rfl (hb hby d6_17)
  refine gob st3 ?_
  show gO (tF T3 m 20 (la2 o0 o1 (0 : UInt64) 0) [(.ref w_w), (.double (0 : UInt64))])
  refine gob (fun _ k => XS.iload X3.here hx rfl (hb hby d6_20) rfl k) ?_
  show gO (tF T3 m 22 (la2 o0 o1 (0 : UInt64) 0) [(.int 0), (.ref w_w), (.double (0 : UInt64))])
  obtain ⟨cl4, Ar4, aq4, S4, N4, H4, G4⟩ := id V_y
  have hin4 : ¬ ((0 : Int32) < 0 ∨ cl4.slots.size ≤ ((0 : Int32)).toNatClampNeg) := inb_of S4 ⟨by decide, by decide⟩
  refine gob (X3.daload hx (j := (0 : Int32)) (v := (.double y_0)) (by rw [e3]; exact Ar4.1) (State.isArrayOf_alike hZ.alike Ar4.2.1) Ar4.2.2 hin4 (Has.at H4 hin4 rfl) (g := (mkF m 22 (la2 o0 o1 (0 : UInt64) 0) [(.int 0), (.ref w_w), (.double (0 : UInt64))])) rfl rfl (hb hby d6_22)) ?_
  show gO (tF T3 m 23 (la2 o0 o1 (0 : UInt64) 0) [(.double y_0), (.double (0 : UInt64))])
  refine gob (fun _ k => XS.aloadN X3.here hx rfl (hb hby d6_23) rfl rfl k) ?_
  show gO (tF T3 m 24 (la2 o0 o1 (0 : UInt64) 0) [(.ref o1), (.double y_0), (.double (0 : UInt64))])
  refine gob (fun _ k => XS.aloadN X3.here hx rfl (hb hby d6_24) rfl rfl k) ?_
  show gO (tF T3 m 25 (la2 o0 o1 (0 : UInt64) 0) [(.ref o0), (.ref o1), (.double y_0), (.double (0 : UInt64))])
  obtain ⟨T5, X5, e5, st5⟩ := getF X3 hx hZ hown (host := "") (Or.inl (hW hw 23 rfl)) Via.refl e3 F_dofs (g := (mkF m 25 (la2 o0 o1 (0 : UInt64) 0) [(.ref o0), (.ref o1), (.double y_0), (.double (0 : UInt64))])) rfl rfl (hb hby d6_25)
  refine gob st5 ?_
  show gO (tF T5 m 28 (la2 o0 o1 (0 : UInt64) 0) [(.ref w_d), (.ref o1), (.double y_0), (.double (0 : UInt64))])
  refine gob (fun _ k => XS.iload X5.here hx rfl (hb hby d6_28) rfl k) ?_
  show gO (tF T5 m 30 (la2 o0 o1 (0 : UInt64) 0) [(.int 0), (.ref w_d), (.ref o1), (.double y_0), (.double (0 : UInt64))])
  obtain ⟨cl6, Ar6, aq6, S6, N6, H6, G6⟩ := id V_d
  have hin6 : ¬ ((0 : Int32) < 0 ∨ cl6.slots.size ≤ ((0 : Int32)).toNatClampNeg) := inb_of S6 ⟨by decide, by decide⟩
  refine gob (X5.iaload hx (j := (0 : Int32)) (v := (.int 0)) (by rw [e5]; exact Ar6.1) (State.isArrayOf_alike hZ.alike Ar6.2.1) Ar6.2.2 hin6 (Has.at H6 hin6 rfl) (g := (mkF m 30 (la2 o0 o1 (0 : UInt64) 0) [(.int 0), (.ref w_d), (.ref o1), (.double y_0), (.double (0 : UInt64))])) rfl rfl (hb hby d6_30)) ?_
  show gO (tF T5 m 31 (la2 o0 o1 (0 : UInt64) 0) [(.int 0), (.ref o1), (.double y_0), (.double (0 : UInt64))])
  obtain ⟨cl7, Ar7, aq7, S7, N7, H7, G7⟩ := id V_z
  have hin7 : ¬ ((0 : Int32) < 0 ∨ cl7.slots.size ≤ ((0 : Int32)).toNatClampNeg) := inb_of S7 ⟨by decide, by decide⟩
  refine gob (X5.daload hx (j := (0 : Int32)) (v := (.double z_0)) (by rw [e5]; exact Ar7.1) (State.isArrayOf_alike hZ.alike Ar7.2.1) Ar7.2.2 hin7 (Has.at H7 hin7 rfl) (g := (mkF m 31 (la2 o0 o1 (0 : UInt64) 0) [(.int 0), (.ref o1), (.double y_0), (.double (0 : UInt64))])) rfl rfl (hb hby d6_31)) ?_
  show gO (tF T5 m 32 (la2 o0 o1 (0 : UInt64) 0) [(.double z_0), (.double y_0), (.double (0 : UInt64))])
  have mg8 : Mag64 1090 (FP.dmul y_0 z_0) := own_dmul m_y_0 m_z_0 (by decide) (by decide) (by decide)
  refine gob (fun _ k => XS.dmulS X5.here hx rfl (hb hby d6_32) rfl (v := (FP.dmul y_0 z_0)) (mg8.fin (by decide)).noNaN rfl k) ?_
  show gO (tF T5 m 33 (la2 o0 o1 (0 : UInt64) 0) [(.double (FP.dmul y_0 z_0)), (.double (0 : UInt64))])
  have mg9 : Mag64 1092 (FP.dadd (0 : UInt64) (FP.dmul y_0 z_0)) := own_dadd (K := 1090) (own_m0.mono (by decide)) (mg8.mono (by decide)) (by decide) (by decide)
  refine gob (fun _ k => XS.daddS X5.here hx rfl (hb hby d6_33) rfl (v := (FP.dadd (0 : UInt64) (FP.dmul y_0 z_0))) (mg9.fin (by decide)).noNaN rfl k) ?_
  show gO (tF T5 m 34 (la2 o0 o1 (0 : UInt64) 0) [(.double (FP.dadd (0 : UInt64) (FP.dmul y_0 z_0)))])
  refine gob (fun _ k => XS.dstoreN X5.here hx rfl (hb hby d6_34) rfl (l' := (la2 o0 o1 (FP.dadd (0 : UInt64) (FP.dmul y_0 z_0)) 0)) rfl k) ?_
  show gO (tF T5 m 35 (la2 o0 o1 (FP.dadd (0 : UInt64) (FP.dmul y_0 z_0)) 0) [])
  refine gob (fun _ k => XS.iinc X5.here hx rfl (hb hby d6_35) rfl (l' := (la2 o0 o1 (FP.dadd (0 : UInt64) (FP.dmul y_0 z_0)) 1)) rfl k) ?_
  show gO (tF T5 m 38 (la2 o0 o1 (FP.dadd (0 : UInt64) (FP.dmul y_0 z_0)) 1) [])
  refine gob (fun _ k => XS.goto X5.here hx rfl (pc0 := 38) (pc' := 5) rfl (hb hby d6_38) (by decide) (by decide) k) ?_
  show gO (tF T5 m 5 (la2 o0 o1 (FP.dadd (0 : UInt64) (FP.dmul y_0 z_0)) 1) [])
  refine gob (fun _ k => XS.iload X5.here hx rfl (hb hby d6_5) rfl k) ?_
  show gO (tF T5 m 7 (la2 o0 o1 (FP.dadd (0 : UInt64) (FP.dmul y_0 z_0)) 1) [(.int 1)])
  refine gob (fun _ k => XS.aloadN X5.here hx rfl (hb hby d6_7) rfl rfl k) ?_
  show gO (tF T5 m 8 (la2 o0 o1 (FP.dadd (0 : UInt64) (FP.dmul y_0 z_0)) 1) [(.ref o0), (.int 1)])
  obtain ⟨T10, X10, e10, st10⟩ := getF X5 hx hZ hown (host := "") (Or.inl (hW hw 23 rfl)) Via.refl e5 F_dofs (g := (mkF m 8 (la2 o0 o1 (FP.dadd (0 : UInt64) (FP.dmul y_0 z_0)) 1) [(.ref o0), (.int 1)])) rfl rfl (hb hby d6_8)
  refine gob st10 ?_
  show gO (tF T10 m 11 (la2 o0 o1 (FP.dadd (0 : UInt64) (FP.dmul y_0 z_0)) 1) [(.ref w_d), (.int 1)])
  obtain ⟨cl11, Ar11, aq11, S11, N11, H11, G11⟩ := id V_d
  refine gob (X10.arraylength hx (by rw [e10]; exact Ar11.1) (State.isArrayOf_alike hZ.alike Ar11.2.1) (g := (mkF m 11 (la2 o0 o1 (FP.dadd (0 : UInt64) (FP.dmul y_0 z_0)) 1) [(.ref w_d), (.int 1)])) rfl rfl (hb hby d6_11)) ?_
  rw [len_of S11 N11]
  show gO (tF T10 m 12 (la2 o0 o1 (FP.dadd (0 : UInt64) (FP.dmul y_0 z_0)) 1) [(.int 1), (.int 1)])
  refine gob (fun _ k => XS.icmpYes X10.here hx rfl (pc0 := 12) (pc' := 41) rfl (hb hby d6_12) rfl (flt (by decide : ¬ ((1 : Int32) < (1 : Int32)))).2.1 (by decide) (by decide) k) ?_
  show gO (tF T10 m 41 (la2 o0 o1 (FP.dadd (0 : UInt64) (FP.dmul y_0 z_0)) 1) [])
  refine gob (fun _ k => XS.dloadN X10.here hx rfl (hb hby d6_41) rfl k) ?_
  show gO (tF T10 m 42 (la2 o0 o1 (FP.dadd (0 : UInt64) (FP.dmul y_0 z_0)) 1) [(.double (FP.dadd (0 : UInt64) (FP.dmul y_0 z_0)))])
  refine goD X10 hx hlk Bd.returns (hb hby d6_42) ?_ (by decide) (by decide)
  show Qof_0 Z o0 o1 w_d w_w k_d k_y y_0 k_z z_0 z_1 z_2 z_3 h0 n0 (some (.double (FP.dadd (0 : UInt64) (FP.dmul y_0 z_0)))) T10.heap _
  exact ⟨(FP.dadd (0 : UInt64) (FP.dmul y_0 z_0)), rfl, rfl, N0, e10⟩
theorem ef_of_1 (m : MethodId) (x0 : Addr) (x1 : Addr) : entryFrame m #[(.ref x0), (.ref x1)] 5 = mkF m 0 #[.val (.ref x0), .val (.ref x1), .unset, .unset, .unset] [] := by first | (simp [entryFrame, mkF, argsToLocals, Value.category]; done) | rfl
def Qof_1 (Z : State) (o0 : Addr) (o1 : Addr) (w_d : Addr) (w_w : Addr) (k_d : ClassId) (k_y : ClassId) (y_0 : UInt64) (k_z : ClassId) (z_0 : UInt64) (z_1 : UInt64) (z_2 : UInt64) (z_3 : UInt64) (h0 : Heap) (n0 : Nat) (v : Option Value) (h : Heap) (L : List Loc) : Prop := ∃ r : UInt64, v = some (.double r) ∧ ((r = (FP.dadd (0 : UInt64) (FP.dmul y_0 z_1)))) ∧ Fr n0 L ∧ h = h0
set_option maxRecDepth 65536 in
set_option maxHeartbeats 40000000 in
theorem rmof_1 (l : Launch) (Z : State) (a0 : Array Value) (hw : ∀ d ∈ tables_1, d.before a0 Z = true) (ws : List Jvm.Cond) (o0 : Addr) (o1 : Addr) (w_d : Addr) (w_w : Addr) (k_d : ClassId) (k_y : ClassId) (y_0 : UInt64) (k_z : ClassId) (z_0 : UInt64) (z_1 : UInt64) (z_2 : UInt64) (z_3 : UInt64) (h0 : Heap) (n0 : Nat) (Z0 : n0 ≤ h0.size) (F_dofs : Fld Z h0 o0 "com/example/fenda/fenda/analysis/Combination" "dofs" "[I" (.ref w_d)) (F_weights : Fld Z h0 o0 "com/example/fenda/fenda/analysis/Combination" "weights" "[D" (.ref w_w)) (V_d : Arv Z h0 w_d k_d .int (1 : Int32) [(.int 1)] (.int 0)) (m_y_0 : Mag64 1056 y_0) (V_y : Arv Z h0 w_w k_y .double (1 : Int32) [(.double y_0)] (.double 0)) (m_z_0 : Mag64 1056 z_0) (m_z_1 : Mag64 1056 z_1) (m_z_2 : Mag64 1056 z_2) (m_z_3 : Mag64 1056 z_3) (V_z : Arv Z h0 o1 k_z .double (4 : Int32) [(.double z_0), (.double z_1), (.double z_2), (.double z_3)] (.double 0)) :
    MetFree l (⟨"com/example/fenda/fenda/analysis/Combination", "of", "([D)D"⟩ : MethodName) (head1 (Jvm.Cond.code (⟨"com/example/fenda/fenda/analysis/Combination", "of", "([D)D"⟩ : MethodName) prog_3_method_2_code 5 (some .double) :: ws) ({ frames := 0, cells := 0, slots := 0, locals := 0 } : Room)) (fun a U => a = #[(.ref o0), (.ref o1)] ∧ Z.Warmed39 U.vm ∧ U.heap = h0) (fun _ _ _ _ _ => True) (fun _ U o U' => ∃ v L, o = .returned v ∧ Qof_1 Z o0 o1 w_d w_w k_d k_y y_0 k_z z_0 z_1 z_2 z_3 h0 n0 v U'.heap L ∧ FrameEnd U o U' L ({ frames := 0, cells := 0, slots := 0, locals := 0 } : Room).cells ({ frames := 0, cells := 0, slots := 0, locals := 0 } : Room).slots) := by
  refine MetFree.of_bodySF (plainFor_of_name (by first | (simp [plainName, overriddenIn]; done) | decide +kernel)) hisR ?_
  intro p e s m args below meth c s₁ Bd hml0 hP hK
  obtain ⟨rfl, hZ, hh⟩ := hP
  have hx := Bd.exec
  have hby := Bd.bytes
  have hml : c.maxLocals = 5 := hml0
  have hown : s.vm.findClass "com/example/fenda/fenda/analysis/Combination" = some m.cls := findClass_of_methodNamed Bd.named
  have hnm := (name_of_methodNamed Bd.named Bd.method).1
  have hlk := BodyLoose.notSynchronized Bd
  have X0 : Stand p l e ({ frames := 0, cells := 0, slots := 0, locals := 0 } : Room) s m #[(.ref o0), (.ref o1)] below meth c s₁ [] 0 0 := Stand.of_body Bd
  have e0 : s₁.heap = h0 := by rw [← hh, Bd.state]; rfl
  have N0 := Fr.nil n0
  show Go p e below s (Qof_1 Z o0 o1 w_d w_w k_d k_y y_0 k_z z_0 z_1 z_2 z_3 h0 n0) 0 0 (s₁.setTop (entryFrame m #[(.ref o0), (.ref o1)] 5))
  rw [ef_of_1]
  show gO (tF s₁ m 0 (la0 o0 o1) [])
  refine gob (fun _ k => XS.dconst0 X0.here hx rfl (hb hby d6_0) (v := (0 : UInt64)) (by decide +kernel) k) ?_
  show gO (tF s₁ m 1 (la0 o0 o1) [(.double (0 : UInt64))])
  refine gob (fun _ k => XS.dstoreN X0.here hx rfl (hb hby d6_1) rfl (l' := (la1 o0 o1 (0 : UInt64))) rfl k) ?_
  show gO (tF s₁ m 2 (la1 o0 o1 (0 : UInt64)) [])
  refine gob (fun _ k => XS.iconst X0.here hx rfl (hb hby d6_2) k) ?_
  show gO (tF s₁ m 3 (la1 o0 o1 (0 : UInt64)) [(.int 0)])
  refine gob (fun _ k => XS.istore X0.here hx rfl (hb hby d6_3) rfl (l' := (la2 o0 o1 (0 : UInt64) 0)) rfl k) ?_
  show gO (tF s₁ m 5 (la2 o0 o1 (0 : UInt64) 0) [])
  refine gob (fun _ k => XS.iload X0.here hx rfl (hb hby d6_5) rfl k) ?_
  show gO (tF s₁ m 7 (la2 o0 o1 (0 : UInt64) 0) [(.int 0)])
  refine gob (fun _ k => XS.aloadN X0.here hx rfl (hb hby d6_7) rfl rfl k) ?_
  show gO (tF s₁ m 8 (la2 o0 o1 (0 : UInt64) 0) [(.ref o0), (.int 0)])
  obtain ⟨T1, X1, e1, st1⟩ := getF X0 hx hZ hown (host := "") (Or.inl (hW hw 23 rfl)) Via.refl e0 F_dofs (g := (mkF m 8 (la2 o0 o1 (0 : UInt64) 0) [(.ref o0), (.int 0)])) rfl rfl (hb hby d6_8)
  refine gob st1 ?_
  show gO (tF T1 m 11 (la2 o0 o1 (0 : UInt64) 0) [(.ref w_d), (.int 0)])
  obtain ⟨cl2, Ar2, aq2, S2, N2, H2, G2⟩ := id V_d
  refine gob (X1.arraylength hx (by rw [e1]; exact Ar2.1) (State.isArrayOf_alike hZ.alike Ar2.2.1) (g := (mkF m 11 (la2 o0 o1 (0 : UInt64) 0) [(.ref w_d), (.int 0)])) rfl rfl (hb hby d6_11)) ?_
  rw [len_of S2 N2]
  show gO (tF T1 m 12 (la2 o0 o1 (0 : UInt64) 0) [(.int 1), (.int 0)])
  refine gob (fun _ k => XS.icmpNo X1.here hx rfl (hb hby d6_12) rfl (tlt (by decide : (0 : Int32) < (1 : Int32))).2.1 k) ?_
  show gO (tF T1 m 15 (la2 o0 o1 (0 : UInt64) 0) [])
  refine gob (fun _ k => XS.dloadN X1.here hx rfl (hb hby d6_15) rfl k) ?_
  show gO (tF T1 m 16 (la2 o0 o1 (0 : UInt64) 0) [(.double (0 : UInt64))])
  refine gob (fun _ k => XS.aloadN X1.here hx rfl (hb hby d6_16) rfl rfl k) ?_
  show gO (tF T1 m 17 (la2 o0 o1 (0 : UInt64) 0) [(.ref o0), (.double (0 : UInt64))])
  obtain ⟨T3, X3, e3, st3⟩ := getF X1 hx hZ hown (host := "") (Or.inl (hW hw 25 rfl)) Via.refl e1 F_weights (g := (mkF m 17 (la2 o0 o1 (0 : UInt64) 0) [(.ref o0), (.double (0 : UInt64))])) rfl rfl (hb hby d6_17)
  refine gob st3 ?_
  show gO (tF T3 m 20 (la2 o0 o1 (0 : UInt64) 0) [(.ref w_w), (.double (0 : UInt64))])
  refine gob (fun _ k => XS.iload X3.here hx rfl (hb hby d6_20) rfl k) ?_
  show gO (tF T3 m 22 (la2 o0 o1 (0 : UInt64) 0) [(.int 0), (.ref w_w), (.double (0 : UInt64))])
  obtain ⟨cl4, Ar4, aq4, S4, N4, H4, G4⟩ := id V_y
  have hin4 : ¬ ((0 : Int32) < 0 ∨ cl4.slots.size ≤ ((0 : Int32)).toNatClampNeg) := inb_of S4 ⟨by decide, by decide⟩
  refine gob (X3.daload hx (j := (0 : Int32)) (v := (.double y_0)) (by rw [e3]; exact Ar4.1) (State.isArrayOf_alike hZ.alike Ar4.2.1) Ar4.2.2 hin4 (Has.at H4 hin4 rfl) (g := (mkF m 22 (la2 o0 o1 (0 : UInt64) 0) [(.int 0), (.ref w_w), (.double (0 : UInt64))])) rfl rfl (hb hby d6_22)) ?_
  show gO (tF T3 m 23 (la2 o0 o1 (0 : UInt64) 0) [(.double y_0), (.double (0 : UInt64))])
  refine gob (fun _ k => XS.aloadN X3.here hx rfl (hb hby d6_23) rfl rfl k) ?_
  show gO (tF T3 m 24 (la2 o0 o1 (0 : UInt64) 0) [(.ref o1), (.double y_0), (.double (0 : UInt64))])
  refine gob (fun _ k => XS.aloadN X3.here hx rfl (hb hby d6_24) rfl rfl k) ?_
  show gO (tF T3 m 25 (la2 o0 o1 (0 : UInt64) 0) [(.ref o0), (.ref o1), (.double y_0), (.double (0 : UInt64))])
  obtain ⟨T5, X5, e5, st5⟩ := getF X3 hx hZ hown (host := "") (Or.inl (hW hw 23 rfl)) Via.refl e3 F_dofs (g := (mkF m 25 (la2 o0 o1 (0 : UInt64) 0) [(.ref o0), (.ref o1), (.double y_0), (.double (0 : UInt64))])) rfl rfl (hb hby d6_25)
  refine gob st5 ?_
  show gO (tF T5 m 28 (la2 o0 o1 (0 : UInt64) 0) [(.ref w_d), (.ref o1), (.double y_0), (.double (0 : UInt64))])
  refine gob (fun _ k => XS.iload X5.here hx rfl (hb hby d6_28) rfl k) ?_
  show gO (tF T5 m 30 (la2 o0 o1 (0 : UInt64) 0) [(.int 0), (.ref w_d), (.ref o1), (.double y_0), (.double (0 : UInt64))])
  obtain ⟨cl6, Ar6, aq6, S6, N6, H6, G6⟩ := id V_d
  have hin6 : ¬ ((0 : Int32) < 0 ∨ cl6.slots.size ≤ ((0 : Int32)).toNatClampNeg) := inb_of S6 ⟨by decide, by decide⟩
  refine gob (X5.iaload hx (j := (0 : Int32)) (v := (.int 1)) (by rw [e5]; exact Ar6.1) (State.isArrayOf_alike hZ.alike Ar6.2.1) Ar6.2.2 hin6 (Has.at H6 hin6 rfl) (g := (mkF m 30 (la2 o0 o1 (0 : UInt64) 0) [(.int 0), (.ref w_d), (.ref o1), (.double y_0), (.double (0 : UInt64))])) rfl rfl (hb hby d6_30)) ?_
  show gO (tF T5 m 31 (la2 o0 o1 (0 : UInt64) 0) [(.int 1), (.ref o1), (.double y_0), (.double (0 : UInt64))])
  obtain ⟨cl7, Ar7, aq7, S7, N7, H7, G7⟩ := id V_z
  have hin7 : ¬ ((1 : Int32) < 0 ∨ cl7.slots.size ≤ ((1 : Int32)).toNatClampNeg) := inb_of S7 ⟨by decide, by decide⟩
  refine gob (X5.daload hx (j := (1 : Int32)) (v := (.double z_1)) (by rw [e5]; exact Ar7.1) (State.isArrayOf_alike hZ.alike Ar7.2.1) Ar7.2.2 hin7 (Has.at H7 hin7 rfl) (g := (mkF m 31 (la2 o0 o1 (0 : UInt64) 0) [(.int 1), (.ref o1), (.double y_0), (.double (0 : UInt64))])) rfl rfl (hb hby d6_31)) ?_
  show gO (tF T5 m 32 (la2 o0 o1 (0 : UInt64) 0) [(.double z_1), (.double y_0), (.double (0 : UInt64))])
  have mg8 : Mag64 1090 (FP.dmul y_0 z_1) := own_dmul m_y_0 m_z_1 (by decide) (by decide) (by decide)
  refine gob (fun _ k => XS.dmulS X5.here hx rfl (hb hby d6_32) rfl (v := (FP.dmul y_0 z_1)) (mg8.fin (by decide)).noNaN rfl k) ?_
  show gO (tF T5 m 33 (la2 o0 o1 (0 : UInt64) 0) [(.double (FP.dmul y_0 z_1)), (.double (0 : UInt64))])
  have mg9 : Mag64 1092 (FP.dadd (0 : UInt64) (FP.dmul y_0 z_1)) := own_dadd (K := 1090) (own_m0.mono (by decide)) (mg8.mono (by decide)) (by decide) (by decide)
  refine gob (fun _ k => XS.daddS X5.here hx rfl (hb hby d6_33) rfl (v := (FP.dadd (0 : UInt64) (FP.dmul y_0 z_1))) (mg9.fin (by decide)).noNaN rfl k) ?_
  show gO (tF T5 m 34 (la2 o0 o1 (0 : UInt64) 0) [(.double (FP.dadd (0 : UInt64) (FP.dmul y_0 z_1)))])
  refine gob (fun _ k => XS.dstoreN X5.here hx rfl (hb hby d6_34) rfl (l' := (la2 o0 o1 (FP.dadd (0 : UInt64) (FP.dmul y_0 z_1)) 0)) rfl k) ?_
  show gO (tF T5 m 35 (la2 o0 o1 (FP.dadd (0 : UInt64) (FP.dmul y_0 z_1)) 0) [])
  refine gob (fun _ k => XS.iinc X5.here hx rfl (hb hby d6_35) rfl (l' := (la2 o0 o1 (FP.dadd (0 : UInt64) (FP.dmul y_0 z_1)) 1)) rfl k) ?_
  show gO (tF T5 m 38 (la2 o0 o1 (FP.dadd (0 : UInt64) (FP.dmul y_0 z_1)) 1) [])
  refine gob (fun _ k => XS.goto X5.here hx rfl (pc0 := 38) (pc' := 5) rfl (hb hby d6_38) (by decide) (by decide) k) ?_
  show gO (tF T5 m 5 (la2 o0 o1 (FP.dadd (0 : UInt64) (FP.dmul y_0 z_1)) 1) [])
  refine gob (fun _ k => XS.iload X5.here hx rfl (hb hby d6_5) rfl k) ?_
  show gO (tF T5 m 7 (la2 o0 o1 (FP.dadd (0 : UInt64) (FP.dmul y_0 z_1)) 1) [(.int 1)])
  refine gob (fun _ k => XS.aloadN X5.here hx rfl (hb hby d6_7) rfl rfl k) ?_
  show gO (tF T5 m 8 (la2 o0 o1 (FP.dadd (0 : UInt64) (FP.dmul y_0 z_1)) 1) [(.ref o0), (.int 1)])
  obtain ⟨T10, X10, e10, st10⟩ := getF X5 hx hZ hown (host := "") (Or.inl (hW hw 23 rfl)) Via.refl e5 F_dofs (g := (mkF m 8 (la2 o0 o1 (FP.dadd (0 : UInt64) (FP.dmul y_0 z_1)) 1) [(.ref o0), (.int 1)])) rfl rfl (hb hby d6_8)
  refine gob st10 ?_
  show gO (tF T10 m 11 (la2 o0 o1 (FP.dadd (0 : UInt64) (FP.dmul y_0 z_1)) 1) [(.ref w_d), (.int 1)])
  obtain ⟨cl11, Ar11, aq11, S11, N11, H11, G11⟩ := id V_d
  refine gob (X10.arraylength hx (by rw [e10]; exact Ar11.1) (State.isArrayOf_alike hZ.alike Ar11.2.1) (g := (mkF m 11 (la2 o0 o1 (FP.dadd (0 : UInt64) (FP.dmul y_0 z_1)) 1) [(.ref w_d), (.int 1)])) rfl rfl (hb hby d6_11)) ?_
  rw [len_of S11 N11]
  show gO (tF T10 m 12 (la2 o0 o1 (FP.dadd (0 : UInt64) (FP.dmul y_0 z_1)) 1) [(.int 1), (.int 1)])
  refine gob (fun _ k => XS.icmpYes X10.here hx rfl (pc0 := 12) (pc' := 41) rfl (hb hby d6_12) rfl (flt (by decide : ¬ ((1 : Int32) < (1 : Int32)))).2.1 (by decide) (by decide) k) ?_
  show gO (tF T10 m 41 (la2 o0 o1 (FP.dadd (0 : UInt64) (FP.dmul y_0 z_1)) 1) [])
  refine gob (fun _ k => XS.dloadN X10.here hx rfl (hb hby d6_41) rfl k) ?_
  show gO (tF T10 m 42 (la2 o0 o1 (FP.dadd (0 : UInt64) (FP.dmul y_0 z_1)) 1) [(.double (FP.dadd (0 : UInt64) (FP.dmul y_0 z_1)))])
  refine goD X10 hx hlk Bd.returns (hb hby d6_42) ?_ (by decide) (by decide)
  show Qof_1 Z o0 o1 w_d w_w k_d k_y y_0 k_z z_0 z_1 z_2 z_3 h0 n0 (some (.double (FP.dadd (0 : UInt64) (FP.dmul y_0 z_1)))) T10.heap _
  exact ⟨(FP.dadd (0 : UInt64) (FP.dmul y_0 z_1)), rfl, rfl, N0, e10⟩
theorem ef_of_01 (m : MethodId) (x0 : Addr) (x1 : Addr) : entryFrame m #[(.ref x0), (.ref x1)] 5 = mkF m 0 #[.val (.ref x0), .val (.ref x1), .unset, .unset, .unset] [] := by first | (simp [entryFrame, mkF, argsToLocals, Value.category]; done) | rfl
def Qof_01 (Z : State) (o0 : Addr) (o1 : Addr) (w_d : Addr) (w_w : Addr) (k_d : ClassId) (k_y : ClassId) (y_0 : UInt64) (y_1 : UInt64) (k_z : ClassId) (z_0 : UInt64) (z_1 : UInt64) (z_2 : UInt64) (z_3 : UInt64) (h0 : Heap) (n0 : Nat) (v : Option Value) (h : Heap) (L : List Loc) : Prop := ∃ r : UInt64, v = some (.double r) ∧ ((r = (FP.dadd (FP.dadd (0 : UInt64) (FP.dmul y_0 z_0)) (FP.dmul y_1 z_1)))) ∧ Fr n0 L ∧ h = h0
set_option maxRecDepth 65536 in
set_option maxHeartbeats 40000000 in
theorem rmof_01 (l : Launch) (Z : State) (a0 : Array Value) (hw : ∀ d ∈ tables_1, d.before a0 Z = true) (ws : List Jvm.Cond) (o0 : Addr) (o1 : Addr) (w_d : Addr) (w_w : Addr) (k_d : ClassId) (k_y : ClassId) (y_0 : UInt64) (y_1 : UInt64) (k_z : ClassId) (z_0 : UInt64) (z_1 : UInt64) (z_2 : UInt64) (z_3 : UInt64) (h0 : Heap) (n0 : Nat) (Z0 : n0 ≤ h0.size) (F_dofs : Fld Z h0 o0 "com/example/fenda/fenda/analysis/Combination" "dofs" "[I" (.ref w_d)) (F_weights : Fld Z h0 o0 "com/example/fenda/fenda/analysis/Combination" "weights" "[D" (.ref w_w)) (V_d : Arv Z h0 w_d k_d .int (2 : Int32) [(.int 0), (.int 1)] (.int 0)) (m_y_0 : Mag64 1056 y_0) (m_y_1 : Mag64 1056 y_1) (V_y : Arv Z h0 w_w k_y .double (2 : Int32) [(.double y_0), (.double y_1)] (.double 0)) (m_z_0 : Mag64 1056 z_0) (m_z_1 : Mag64 1056 z_1) (m_z_2 : Mag64 1056 z_2) (m_z_3 : Mag64 1056 z_3) (V_z : Arv Z h0 o1 k_z .double (4 : Int32) [(.double z_0), (.double z_1), (.double z_2), (.double z_3)] (.double 0)) :
    MetFree l (⟨"com/example/fenda/fenda/analysis/Combination", "of", "([D)D"⟩ : MethodName) (head1 (Jvm.Cond.code (⟨"com/example/fenda/fenda/analysis/Combination", "of", "([D)D"⟩ : MethodName) prog_3_method_2_code 5 (some .double) :: ws) ({ frames := 0, cells := 0, slots := 0, locals := 0 } : Room)) (fun a U => a = #[(.ref o0), (.ref o1)] ∧ Z.Warmed39 U.vm ∧ U.heap = h0) (fun _ _ _ _ _ => True) (fun _ U o U' => ∃ v L, o = .returned v ∧ Qof_01 Z o0 o1 w_d w_w k_d k_y y_0 y_1 k_z z_0 z_1 z_2 z_3 h0 n0 v U'.heap L ∧ FrameEnd U o U' L ({ frames := 0, cells := 0, slots := 0, locals := 0 } : Room).cells ({ frames := 0, cells := 0, slots := 0, locals := 0 } : Room).slots) := by
  refine MetFree.of_bodySF (plainFor_of_name (by first | (simp [plainName, overriddenIn]; done) | decide +kernel)) hisR ?_
  intro p e s m args below meth c s₁ Bd hml0 hP hK
  obtain ⟨rfl, hZ, hh⟩ := hP
  have hx := Bd.exec
  have hby := Bd.bytes
  have hml : c.maxLocals = 5 := hml0
  have hown : s.vm.findClass "com/example/fenda/fenda/analysis/Combination" = some m.cls := findClass_of_methodNamed Bd.named
  have hnm := (name_of_methodNamed Bd.named Bd.method).1
  have hlk := BodyLoose.notSynchronized Bd
  have X0 : Stand p l e ({ frames := 0, cells := 0, slots := 0, locals := 0 } : Room) s m #[(.ref o0), (.ref o1)] below meth c s₁ [] 0 0 := Stand.of_body Bd
  have e0 : s₁.heap = h0 := by rw [← hh, Bd.state]; rfl
  have N0 := Fr.nil n0
  show Go p e below s (Qof_01 Z o0 o1 w_d w_w k_d k_y y_0 y_1 k_z z_0 z_1 z_2 z_3 h0 n0) 0 0 (s₁.setTop (entryFrame m #[(.ref o0), (.ref o1)] 5))
  rw [ef_of_01]
  show gO (tF s₁ m 0 (la0 o0 o1) [])
  refine gob (fun _ k => XS.dconst0 X0.here hx rfl (hb hby d6_0) (v := (0 : UInt64)) (by decide +kernel) k) ?_
  show gO (tF s₁ m 1 (la0 o0 o1) [(.double (0 : UInt64))])
  refine gob (fun _ k => XS.dstoreN X0.here hx rfl (hb hby d6_1) rfl (l' := (la1 o0 o1 (0 : UInt64))) rfl k) ?_
  show gO (tF s₁ m 2 (la1 o0 o1 (0 : UInt64)) [])
  refine gob (fun _ k => XS.iconst X0.here hx rfl (hb hby d6_2) k) ?_
  show gO (tF s₁ m 3 (la1 o0 o1 (0 : UInt64)) [(.int 0)])
  refine gob (fun _ k => XS.istore X0.here hx rfl (hb hby d6_3) rfl (l' := (la2 o0 o1 (0 : UInt64) 0)) rfl k) ?_
  show gO (tF s₁ m 5 (la2 o0 o1 (0 : UInt64) 0) [])
  refine gob (fun _ k => XS.iload X0.here hx rfl (hb hby d6_5) rfl k) ?_
  show gO (tF s₁ m 7 (la2 o0 o1 (0 : UInt64) 0) [(.int 0)])
  refine gob (fun _ k => XS.aloadN X0.here hx rfl (hb hby d6_7) rfl rfl k) ?_
  show gO (tF s₁ m 8 (la2 o0 o1 (0 : UInt64) 0) [(.ref o0), (.int 0)])
  obtain ⟨T1, X1, e1, st1⟩ := getF X0 hx hZ hown (host := "") (Or.inl (hW hw 23 rfl)) Via.refl e0 F_dofs (g := (mkF m 8 (la2 o0 o1 (0 : UInt64) 0) [(.ref o0), (.int 0)])) rfl rfl (hb hby d6_8)
  refine gob st1 ?_
  show gO (tF T1 m 11 (la2 o0 o1 (0 : UInt64) 0) [(.ref w_d), (.int 0)])
  obtain ⟨cl2, Ar2, aq2, S2, N2, H2, G2⟩ := id V_d
  refine gob (X1.arraylength hx (by rw [e1]; exact Ar2.1) (State.isArrayOf_alike hZ.alike Ar2.2.1) (g := (mkF m 11 (la2 o0 o1 (0 : UInt64) 0) [(.ref w_d), (.int 0)])) rfl rfl (hb hby d6_11)) ?_
  rw [len_of S2 N2]
  show gO (tF T1 m 12 (la2 o0 o1 (0 : UInt64) 0) [(.int 2), (.int 0)])
  refine gob (fun _ k => XS.icmpNo X1.here hx rfl (hb hby d6_12) rfl (tlt (by decide : (0 : Int32) < (2 : Int32))).2.1 k) ?_
  show gO (tF T1 m 15 (la2 o0 o1 (0 : UInt64) 0) [])
  refine gob (fun _ k => XS.dloadN X1.here hx rfl (hb hby d6_15) rfl k) ?_
  show gO (tF T1 m 16 (la2 o0 o1 (0 : UInt64) 0) [(.double (0 : UInt64))])
  refine gob (fun _ k => XS.aloadN X1.here hx rfl (hb hby d6_16) rfl rfl k) ?_
  show gO (tF T1 m 17 (la2 o0 o1 (0 : UInt64) 0) [(.ref o0), (.double (0 : UInt64))])
  obtain ⟨T3, X3, e3, st3⟩ := getF X1 hx hZ hown (host := "") (Or.inl (hW hw 25 rfl)) Via.refl e1 F_weights (g := (mkF m 17 (la2 o0 o1 (0 : UInt64) 0) [(.ref o0), (.double (0 : UInt64))])) rfl rfl (hb hby d6_17)
  refine gob st3 ?_
  show gO (tF T3 m 20 (la2 o0 o1 (0 : UInt64) 0) [(.ref w_w), (.double (0 : UInt64))])
  refine gob (fun _ k => XS.iload X3.here hx rfl (hb hby d6_20) rfl k) ?_
  show gO (tF T3 m 22 (la2 o0 o1 (0 : UInt64) 0) [(.int 0), (.ref w_w), (.double (0 : UInt64))])
  obtain ⟨cl4, Ar4, aq4, S4, N4, H4, G4⟩ := id V_y
  have hin4 : ¬ ((0 : Int32) < 0 ∨ cl4.slots.size ≤ ((0 : Int32)).toNatClampNeg) := inb_of S4 ⟨by decide, by decide⟩
  refine gob (X3.daload hx (j := (0 : Int32)) (v := (.double y_0)) (by rw [e3]; exact Ar4.1) (State.isArrayOf_alike hZ.alike Ar4.2.1) Ar4.2.2 hin4 (Has.at H4 hin4 rfl) (g := (mkF m 22 (la2 o0 o1 (0 : UInt64) 0) [(.int 0), (.ref w_w), (.double (0 : UInt64))])) rfl rfl (hb hby d6_22)) ?_
  show gO (tF T3 m 23 (la2 o0 o1 (0 : UInt64) 0) [(.double y_0), (.double (0 : UInt64))])
  refine gob (fun _ k => XS.aloadN X3.here hx rfl (hb hby d6_23) rfl rfl k) ?_
  show gO (tF T3 m 24 (la2 o0 o1 (0 : UInt64) 0) [(.ref o1), (.double y_0), (.double (0 : UInt64))])
  refine gob (fun _ k => XS.aloadN X3.here hx rfl (hb hby d6_24) rfl rfl k) ?_
  show gO (tF T3 m 25 (la2 o0 o1 (0 : UInt64) 0) [(.ref o0), (.ref o1), (.double y_0), (.double (0 : UInt64))])
  obtain ⟨T5, X5, e5, st5⟩ := getF X3 hx hZ hown (host := "") (Or.inl (hW hw 23 rfl)) Via.refl e3 F_dofs (g := (mkF m 25 (la2 o0 o1 (0 : UInt64) 0) [(.ref o0), (.ref o1), (.double y_0), (.double (0 : UInt64))])) rfl rfl (hb hby d6_25)
  refine gob st5 ?_
  show gO (tF T5 m 28 (la2 o0 o1 (0 : UInt64) 0) [(.ref w_d), (.ref o1), (.double y_0), (.double (0 : UInt64))])
  refine gob (fun _ k => XS.iload X5.here hx rfl (hb hby d6_28) rfl k) ?_
  show gO (tF T5 m 30 (la2 o0 o1 (0 : UInt64) 0) [(.int 0), (.ref w_d), (.ref o1), (.double y_0), (.double (0 : UInt64))])
  obtain ⟨cl6, Ar6, aq6, S6, N6, H6, G6⟩ := id V_d
  have hin6 : ¬ ((0 : Int32) < 0 ∨ cl6.slots.size ≤ ((0 : Int32)).toNatClampNeg) := inb_of S6 ⟨by decide, by decide⟩
  refine gob (X5.iaload hx (j := (0 : Int32)) (v := (.int 0)) (by rw [e5]; exact Ar6.1) (State.isArrayOf_alike hZ.alike Ar6.2.1) Ar6.2.2 hin6 (Has.at H6 hin6 rfl) (g := (mkF m 30 (la2 o0 o1 (0 : UInt64) 0) [(.int 0), (.ref w_d), (.ref o1), (.double y_0), (.double (0 : UInt64))])) rfl rfl (hb hby d6_30)) ?_
  show gO (tF T5 m 31 (la2 o0 o1 (0 : UInt64) 0) [(.int 0), (.ref o1), (.double y_0), (.double (0 : UInt64))])
  obtain ⟨cl7, Ar7, aq7, S7, N7, H7, G7⟩ := id V_z
  have hin7 : ¬ ((0 : Int32) < 0 ∨ cl7.slots.size ≤ ((0 : Int32)).toNatClampNeg) := inb_of S7 ⟨by decide, by decide⟩
  refine gob (X5.daload hx (j := (0 : Int32)) (v := (.double z_0)) (by rw [e5]; exact Ar7.1) (State.isArrayOf_alike hZ.alike Ar7.2.1) Ar7.2.2 hin7 (Has.at H7 hin7 rfl) (g := (mkF m 31 (la2 o0 o1 (0 : UInt64) 0) [(.int 0), (.ref o1), (.double y_0), (.double (0 : UInt64))])) rfl rfl (hb hby d6_31)) ?_
  show gO (tF T5 m 32 (la2 o0 o1 (0 : UInt64) 0) [(.double z_0), (.double y_0), (.double (0 : UInt64))])
  have mg8 : Mag64 1090 (FP.dmul y_0 z_0) := own_dmul m_y_0 m_z_0 (by decide) (by decide) (by decide)
  refine gob (fun _ k => XS.dmulS X5.here hx rfl (hb hby d6_32) rfl (v := (FP.dmul y_0 z_0)) (mg8.fin (by decide)).noNaN rfl k) ?_
  show gO (tF T5 m 33 (la2 o0 o1 (0 : UInt64) 0) [(.double (FP.dmul y_0 z_0)), (.double (0 : UInt64))])
  have mg9 : Mag64 1092 (FP.dadd (0 : UInt64) (FP.dmul y_0 z_0)) := own_dadd (K := 1090) (own_m0.mono (by decide)) (mg8.mono (by decide)) (by decide) (by decide)
  refine gob (fun _ k => XS.daddS X5.here hx rfl (hb hby d6_33) rfl (v := (FP.dadd (0 : UInt64) (FP.dmul y_0 z_0))) (mg9.fin (by decide)).noNaN rfl k) ?_
  show gO (tF T5 m 34 (la2 o0 o1 (0 : UInt64) 0) [(.double (FP.dadd (0 : UInt64) (FP.dmul y_0 z_0)))])
  refine gob (fun _ k => XS.dstoreN X5.here hx rfl (hb hby d6_34) rfl (l' := (la2 o0 o1 (FP.dadd (0 : UInt64) (FP.dmul y_0 z_0)) 0)) rfl k) ?_
  show gO (tF T5 m 35 (la2 o0 o1 (FP.dadd (0 : UInt64) (FP.dmul y_0 z_0)) 0) [])
  refine gob (fun _ k => XS.iinc X5.here hx rfl (hb hby d6_35) rfl (l' := (la2 o0 o1 (FP.dadd (0 : UInt64) (FP.dmul y_0 z_0)) 1)) rfl k) ?_
  show gO (tF T5 m 38 (la2 o0 o1 (FP.dadd (0 : UInt64) (FP.dmul y_0 z_0)) 1) [])
  refine gob (fun _ k => XS.goto X5.here hx rfl (pc0 := 38) (pc' := 5) rfl (hb hby d6_38) (by decide) (by decide) k) ?_
  show gO (tF T5 m 5 (la2 o0 o1 (FP.dadd (0 : UInt64) (FP.dmul y_0 z_0)) 1) [])
  refine gob (fun _ k => XS.iload X5.here hx rfl (hb hby d6_5) rfl k) ?_
  show gO (tF T5 m 7 (la2 o0 o1 (FP.dadd (0 : UInt64) (FP.dmul y_0 z_0)) 1) [(.int 1)])
  refine gob (fun _ k => XS.aloadN X5.here hx rfl (hb hby d6_7) rfl rfl k) ?_
  show gO (tF T5 m 8 (la2 o0 o1 (FP.dadd (0 : UInt64) (FP.dmul y_0 z_0)) 1) [(.ref o0), (.int 1)])
  obtain ⟨T10, X10, e10, st10⟩ := getF X5 hx hZ hown (host := "") (Or.inl (hW hw 23 rfl)) Via.refl e5 F_dofs (g := (mkF m 8 (la2 o0 o1 (FP.dadd (0 : UInt64) (FP.dmul y_0 z_0)) 1) [(.ref o0), (.int 1)])) rfl rfl (hb hby d6_8)
  refine gob st10 ?_
  show gO (tF T10 m 11 (la2 o0 o1 (FP.dadd (0 : UInt64) (FP.dmul y_0 z_0)) 1) [(.ref w_d), (.int 1)])
  obtain ⟨cl11, Ar11, aq11, S11, N11, H11, G11⟩ := id V_d
  refine gob (X10.arraylength hx (by rw [e10]; exact Ar11.1) (State.isArrayOf_alike hZ.alike Ar11.2.1) (g := (mkF m 11 (la2 o0 o1 (FP.dadd (0 : UInt64) (FP.dmul y_0 z_0)) 1) [(.ref w_d), (.int 1)])) rfl rfl (hb hby d6_11)) ?_
  rw [len_of S11 N11]
  show gO (tF T10 m 12 (la2 o0 o1 (FP.dadd (0 : UInt64) (FP.dmul y_0 z_0)) 1) [(.int 2), (.int 1)])
  refine gob (fun _ k => XS.icmpNo X10.here hx rfl (hb hby d6_12) rfl (tlt (by decide : (1 : Int32) < (2 : Int32))).2.1 k) ?_
  show gO (tF T10 m 15 (la2 o0 o1 (FP.dadd (0 : UInt64) (FP.dmul y_0 z_0)) 1) [])
  refine gob (fun _ k => XS.dloadN X10.here hx rfl (hb hby d6_15) rfl k) ?_
  show gO (tF T10 m 16 (la2 o0 o1 (FP.dadd (0 : UInt64) (FP.dmul y_0 z_0)) 1) [(.double (FP.dadd (0 : UInt64) (FP.dmul y_0 z_0)))])
  refine gob (fun _ k => XS.aloadN X10.here hx rfl (hb hby d6_16) rfl rfl k) ?_
  show gO (tF T10 m 17 (la2 o0 o1 (FP.dadd (0 : UInt64) (FP.dmul y_0 z_0)) 1) [(.ref o0), (.double (FP.dadd (0 : UInt64) (FP.dmul y_0 z_0)))])
  obtain ⟨T12, X12, e12, st12⟩ := getF X10 hx hZ hown (host := "") (Or.inl (hW hw 25 rfl)) Via.refl e10 F_weights (g := (mkF m 17 (la2 o0 o1 (FP.dadd (0 : UInt64) (FP.dmul y_0 z_0)) 1) [(.ref o0), (.double (FP.dadd (0 : UInt64) (FP.dmul y_0 z_0)))])) rfl rfl (hb hby d6_17)
  refine gob st12 ?_
  show gO (tF T12 m 20 (la2 o0 o1 (FP.dadd (0 : UInt64) (FP.dmul y_0 z_0)) 1) [(.ref w_w), (.double (FP.dadd (0 : UInt64) (FP.dmul y_0 z_0)))])
  refine gob (fun _ k => XS.iload X12.here hx rfl (hb hby d6_20) rfl k) ?_
  show gO (tF T12 m 22 (la2 o0 o1 (FP.dadd (0 : UInt64) (FP.dmul y_0 z_0)) 1) [(.int 1), (.ref w_w), (.double (FP.dadd (0 : UInt64) (FP.dmul y_0 z_0)))])
  obtain ⟨cl13, Ar13, aq13, S13, N13, H13, G13⟩ := id V_y
  have hin13 : ¬ ((1 : Int32) < 0 ∨ cl13.slots.size ≤ ((1 : Int32)).toNatClampNeg) := inb_of S13 ⟨by decide, by decide⟩
  refine gob (X12.daload hx (j := (1 : Int32)) (v := (.double y_1)) (by rw [e12]; exact Ar13.1) (State.isArrayOf_alike hZ.alike Ar13.2.1) Ar13.2.2 hin13 (Has.at H13 hin13 rfl) (g := (mkF m 22 (la2 o0 o1 (FP.dadd (0 : UInt64) (FP.dmul y_0 z_0)) 1) [(.int 1), (.ref w_w), (.double (FP.dadd (0 : UInt64) (FP.dmul y_0 z_0)))])) rfl rfl (hb hby d6_22)) ?_
  show gO (tF T12 m 23 (la2 o0 o1 (FP.dadd (0 : UInt64) (FP.dmul y_0 z_0)) 1) [(.double y_1), (.double (FP.dadd (0 : UInt64) (FP.dmul y_0 z_0)))])
  refine gob (fun _ k => XS.aloadN X12.here hx rfl (hb hby d6_23) rfl rfl k) ?_
  show gO (tF T12 m 24 (la2 o0 o1 (FP.dadd (0 : UInt64) (FP.dmul y_0 z_0)) 1) [(.ref o1), (.double y_1), (.double (FP.dadd (0 : UInt64) (FP.dmul y_0 z_0)))])
  refine gob (fun _ k => XS.aloadN X12.here hx rfl (hb hby d6_24) rfl rfl k) ?_
  show gO (tF T12 m 25 (la2 o0 o1 (FP.dadd (0 : UInt64) (FP.dmul y_0 z_0)) 1) [(.ref o0), (.ref o1), (.double y_1), (.double (FP.dadd (0 : UInt64) (FP.dmul y_0 z_0)))])
  obtain ⟨T14, X14, e14, st14⟩ := getF X12 hx hZ hown (host := "") (Or.inl (hW hw 23 rfl)) Via.refl e12 F_dofs (g := (mkF m 25 (la2 o0 o1 (FP.dadd (0 : UInt64) (FP.dmul y_0 z_0)) 1) [(.ref o0), (.ref o1), (.double y_1), (.double (FP.dadd (0 : UInt64) (FP.dmul y_0 z_0)))])) rfl rfl (hb hby d6_25)
  refine gob st14 ?_
  show gO (tF T14 m 28 (la2 o0 o1 (FP.dadd (0 : UInt64) (FP.dmul y_0 z_0)) 1) [(.ref w_d), (.ref o1), (.double y_1), (.double (FP.dadd (0 : UInt64) (FP.dmul y_0 z_0)))])
  refine gob (fun _ k => XS.iload X14.here hx rfl (hb hby d6_28) rfl k) ?_
  show gO (tF T14 m 30 (la2 o0 o1 (FP.dadd (0 : UInt64) (FP.dmul y_0 z_0)) 1) [(.int 1), (.ref w_d), (.ref o1), (.double y_1), (.double (FP.dadd (0 : UInt64) (FP.dmul y_0 z_0)))])
  obtain ⟨cl15, Ar15, aq15, S15, N15, H15, G15⟩ := id V_d
  have hin15 : ¬ ((1 : Int32) < 0 ∨ cl15.slots.size ≤ ((1 : Int32)).toNatClampNeg) := inb_of S15 ⟨by decide, by decide⟩
  refine gob (X14.iaload hx (j := (1 : Int32)) (v := (.int 1)) (by rw [e14]; exact Ar15.1) (State.isArrayOf_alike hZ.alike Ar15.2.1) Ar15.2.2 hin15 (Has.at H15 hin15 rfl) (g := (mkF m 30 (la2 o0 o1 (FP.dadd (0 : UInt64) (FP.dmul y_0 z_0)) 1) [(.int 1), (.ref w_d), (.ref o1), (.double y_1), (.double (FP.dadd (0 : UInt64) (FP.dmul y_0 z_0)))])) rfl rfl (hb hby d6_30)) ?_
  show gO (tF T14 m 31 (la2 o0 o1 (FP.dadd (0 : UInt64) (FP.dmul y_0 z_0)) 1) [(.int 1), (.ref o1), (.double y_1), (.double (FP.dadd (0 : UInt64) (FP.dmul y_0 z_0)))])
  obtain ⟨cl16, Ar16, aq16, S16, N16, H16, G16⟩ := id V_z
  have hin16 : ¬ ((1 : Int32) < 0 ∨ cl16.slots.size ≤ ((1 : Int32)).toNatClampNeg) := inb_of S16 ⟨by decide, by decide⟩
  refine gob (X14.daload hx (j := (1 : Int32)) (v := (.double z_1)) (by rw [e14]; exact Ar16.1) (State.isArrayOf_alike hZ.alike Ar16.2.1) Ar16.2.2 hin16 (Has.at H16 hin16 rfl) (g := (mkF m 31 (la2 o0 o1 (FP.dadd (0 : UInt64) (FP.dmul y_0 z_0)) 1) [(.int 1), (.ref o1), (.double y_1), (.double (FP.dadd (0 : UInt64) (FP.dmul y_0 z_0)))])) rfl rfl (hb hby d6_31)) ?_
  show gO (tF T14 m 32 (la2 o0 o1 (FP.dadd (0 : UInt64) (FP.dmul y_0 z_0)) 1) [(.double z_1), (.double y_1), (.double (FP.dadd (0 : UInt64) (FP.dmul y_0 z_0)))])
  have mg17 : Mag64 1090 (FP.dmul y_1 z_1) := own_dmul m_y_1 m_z_1 (by decide) (by decide) (by decide)
  refine gob (fun _ k => XS.dmulS X14.here hx rfl (hb hby d6_32) rfl (v := (FP.dmul y_1 z_1)) (mg17.fin (by decide)).noNaN rfl k) ?_
  show gO (tF T14 m 33 (la2 o0 o1 (FP.dadd (0 : UInt64) (FP.dmul y_0 z_0)) 1) [(.double (FP.dmul y_1 z_1)), (.double (FP.dadd (0 : UInt64) (FP.dmul y_0 z_0)))])
  have mg18 : Mag64 1094 (FP.dadd (FP.dadd (0 : UInt64) (FP.dmul y_0 z_0)) (FP.dmul y_1 z_1)) := own_dadd (K := 1092) (mg9.mono (by decide)) (mg17.mono (by decide)) (by decide) (by decide)
  refine gob (fun _ k => XS.daddS X14.here hx rfl (hb hby d6_33) rfl (v := (FP.dadd (FP.dadd (0 : UInt64) (FP.dmul y_0 z_0)) (FP.dmul y_1 z_1))) (mg18.fin (by decide)).noNaN rfl k) ?_
  show gO (tF T14 m 34 (la2 o0 o1 (FP.dadd (0 : UInt64) (FP.dmul y_0 z_0)) 1) [(.double (FP.dadd (FP.dadd (0 : UInt64) (FP.dmul y_0 z_0)) (FP.dmul y_1 z_1)))])
  refine gob (fun _ k => XS.dstoreN X14.here hx rfl (hb hby d6_34) rfl (l' := (la2 o0 o1 (FP.dadd (FP.dadd (0 : UInt64) (FP.dmul y_0 z_0)) (FP.dmul y_1 z_1)) 1)) rfl k) ?_
  show gO (tF T14 m 35 (la2 o0 o1 (FP.dadd (FP.dadd (0 : UInt64) (FP.dmul y_0 z_0)) (FP.dmul y_1 z_1)) 1) [])
  refine gob (fun _ k => XS.iinc X14.here hx rfl (hb hby d6_35) rfl (l' := (la2 o0 o1 (FP.dadd (FP.dadd (0 : UInt64) (FP.dmul y_0 z_0)) (FP.dmul y_1 z_1)) 2)) rfl k) ?_
  show gO (tF T14 m 38 (la2 o0 o1 (FP.dadd (FP.dadd (0 : UInt64) (FP.dmul y_0 z_0)) (FP.dmul y_1 z_1)) 2) [])
  refine gob (fun _ k => XS.goto X14.here hx rfl (pc0 := 38) (pc' := 5) rfl (hb hby d6_38) (by decide) (by decide) k) ?_
  show gO (tF T14 m 5 (la2 o0 o1 (FP.dadd (FP.dadd (0 : UInt64) (FP.dmul y_0 z_0)) (FP.dmul y_1 z_1)) 2) [])
  refine gob (fun _ k => XS.iload X14.here hx rfl (hb hby d6_5) rfl k) ?_
  show gO (tF T14 m 7 (la2 o0 o1 (FP.dadd (FP.dadd (0 : UInt64) (FP.dmul y_0 z_0)) (FP.dmul y_1 z_1)) 2) [(.int 2)])
  refine gob (fun _ k => XS.aloadN X14.here hx rfl (hb hby d6_7) rfl rfl k) ?_
  show gO (tF T14 m 8 (la2 o0 o1 (FP.dadd (FP.dadd (0 : UInt64) (FP.dmul y_0 z_0)) (FP.dmul y_1 z_1)) 2) [(.ref o0), (.int 2)])
  obtain ⟨T19, X19, e19, st19⟩ := getF X14 hx hZ hown (host := "") (Or.inl (hW hw 23 rfl)) Via.refl e14 F_dofs (g := (mkF m 8 (la2 o0 o1 (FP.dadd (FP.dadd (0 : UInt64) (FP.dmul y_0 z_0)) (FP.dmul y_1 z_1)) 2) [(.ref o0), (.int 2)])) rfl rfl (hb hby d6_8)
  refine gob st19 ?_
  show gO (tF T19 m 11 (la2 o0 o1 (FP.dadd (FP.dadd (0 : UInt64) (FP.dmul y_0 z_0)) (FP.dmul y_1 z_1)) 2) [(.ref w_d), (.int 2)])
  obtain ⟨cl20, Ar20, aq20, S20, N20, H20, G20⟩ := id V_d
  refine gob (X19.arraylength hx (by rw [e19]; exact Ar20.1) (State.isArrayOf_alike hZ.alike Ar20.2.1) (g := (mkF m 11 (la2 o0 o1 (FP.dadd (FP.dadd (0 : UInt64) (FP.dmul y_0 z_0)) (FP.dmul y_1 z_1)) 2) [(.ref w_d), (.int 2)])) rfl rfl (hb hby d6_11)) ?_
  rw [len_of S20 N20]
  show gO (tF T19 m 12 (la2 o0 o1 (FP.dadd (FP.dadd (0 : UInt64) (FP.dmul y_0 z_0)) (FP.dmul y_1 z_1)) 2) [(.int 2), (.int 2)])
  refine gob (fun _ k => XS.icmpYes X19.here hx rfl (pc0 := 12) (pc' := 41) rfl (hb hby d6_12) rfl (flt (by decide : ¬ ((2 : Int32) < (2 : Int32)))).2.1 (by decide) (by decide) k) ?_
  show gO (tF T19 m 41 (la2 o0 o1 (FP.dadd (FP.dadd (0 : UInt64) (FP.dmul y_0 z_0)) (FP.dmul y_1 z_1)) 2) [])
  refine gob (fun _ k => XS.dloadN X19.here hx rfl (hb hby d6_41) rfl k) ?_
  show gO (tF T19 m 42 (la2 o0 o1 (FP.dadd (FP.dadd (0 : UInt64) (FP.dmul y_0 z_0)) (FP.dmul y_1 z_1)) 2) [(.double (FP.dadd (FP.dadd (0 : UInt64) (FP.dmul y_0 z_0)) (FP.dmul y_1 z_1)))])
  refine goD X19 hx hlk Bd.returns (hb hby d6_42) ?_ (by decide) (by decide)
  show Qof_01 Z o0 o1 w_d w_w k_d k_y y_0 y_1 k_z z_0 z_1 z_2 z_3 h0 n0 (some (.double (FP.dadd (FP.dadd (0 : UInt64) (FP.dmul y_0 z_0)) (FP.dmul y_1 z_1)))) T19.heap _
  exact ⟨(FP.dadd (FP.dadd (0 : UInt64) (FP.dmul y_0 z_0)) (FP.dmul y_1 z_1)), rfl, rfl, N0, e19⟩
theorem ef_of_2 (m : MethodId) (x0 : Addr) (x1 : Addr) : entryFrame m #[(.ref x0), (.ref x1)] 5 = mkF m 0 #[.val (.ref x0), .val (.ref x1), .unset, .unset, .unset] [] := by first | (simp [entryFrame, mkF, argsToLocals, Value.category]; done) | rfl
def Qof_2 (Z : State) (o0 : Addr) (o1 : Addr) (w_d : Addr) (w_w : Addr) (k_d : ClassId) (k_y : ClassId) (y_0 : UInt64) (k_z : ClassId) (z_0 : UInt64) (z_1 : UInt64) (z_2 : UInt64) (z_3 : UInt64) (h0 : Heap) (n0 : Nat) (v : Option Value) (h : Heap) (L : List Loc) : Prop := ∃ r : UInt64, v = some (.double r) ∧ ((r = (FP.dadd (0 : UInt64) (FP.dmul y_0 z_2)))) ∧ Fr n0 L ∧ h = h0
set_option maxRecDepth 65536 in
set_option maxHeartbeats 40000000 in
theorem rmof_2 (l : Launch) (Z : State) (a0 : Array Value) (hw : ∀ d ∈ tables_1, d.before a0 Z = true) (ws : List Jvm.Cond) (o0 : Addr) (o1 : Addr) (w_d : Addr) (w_w : Addr) (k_d : ClassId) (k_y : ClassId) (y_0 : UInt64) (k_z : ClassId) (z_0 : UInt64) (z_1 : UInt64) (z_2 : UInt64) (z_3 : UInt64) (h0 : Heap) (n0 : Nat) (Z0 : n0 ≤ h0.size) (F_dofs : Fld Z h0 o0 "com/example/fenda/fenda/analysis/Combination" "dofs" "[I" (.ref w_d)) (F_weights : Fld Z h0 o0 "com/example/fenda/fenda/analysis/Combination" "weights" "[D" (.ref w_w)) (V_d : Arv Z h0 w_d k_d .int (1 : Int32) [(.int 2)] (.int 0)) (m_y_0 : Mag64 1056 y_0) (V_y : Arv Z h0 w_w k_y .double (1 : Int32) [(.double y_0)] (.double 0)) (m_z_0 : Mag64 1056 z_0) (m_z_1 : Mag64 1056 z_1) (m_z_2 : Mag64 1056 z_2) (m_z_3 : Mag64 1056 z_3) (V_z : Arv Z h0 o1 k_z .double (4 : Int32) [(.double z_0), (.double z_1), (.double z_2), (.double z_3)] (.double 0)) :
    MetFree l (⟨"com/example/fenda/fenda/analysis/Combination", "of", "([D)D"⟩ : MethodName) (head1 (Jvm.Cond.code (⟨"com/example/fenda/fenda/analysis/Combination", "of", "([D)D"⟩ : MethodName) prog_3_method_2_code 5 (some .double) :: ws) ({ frames := 0, cells := 0, slots := 0, locals := 0 } : Room)) (fun a U => a = #[(.ref o0), (.ref o1)] ∧ Z.Warmed39 U.vm ∧ U.heap = h0) (fun _ _ _ _ _ => True) (fun _ U o U' => ∃ v L, o = .returned v ∧ Qof_2 Z o0 o1 w_d w_w k_d k_y y_0 k_z z_0 z_1 z_2 z_3 h0 n0 v U'.heap L ∧ FrameEnd U o U' L ({ frames := 0, cells := 0, slots := 0, locals := 0 } : Room).cells ({ frames := 0, cells := 0, slots := 0, locals := 0 } : Room).slots) := by
  refine MetFree.of_bodySF (plainFor_of_name (by first | (simp [plainName, overriddenIn]; done) | decide +kernel)) hisR ?_
  intro p e s m args below meth c s₁ Bd hml0 hP hK
  obtain ⟨rfl, hZ, hh⟩ := hP
  have hx := Bd.exec
  have hby := Bd.bytes
  have hml : c.maxLocals = 5 := hml0
  have hown : s.vm.findClass "com/example/fenda/fenda/analysis/Combination" = some m.cls := findClass_of_methodNamed Bd.named
  have hnm := (name_of_methodNamed Bd.named Bd.method).1
  have hlk := BodyLoose.notSynchronized Bd
  have X0 : Stand p l e ({ frames := 0, cells := 0, slots := 0, locals := 0 } : Room) s m #[(.ref o0), (.ref o1)] below meth c s₁ [] 0 0 := Stand.of_body Bd
  have e0 : s₁.heap = h0 := by rw [← hh, Bd.state]; rfl
  have N0 := Fr.nil n0
  show Go p e below s (Qof_2 Z o0 o1 w_d w_w k_d k_y y_0 k_z z_0 z_1 z_2 z_3 h0 n0) 0 0 (s₁.setTop (entryFrame m #[(.ref o0), (.ref o1)] 5))
  rw [ef_of_2]
  show gO (tF s₁ m 0 (la0 o0 o1) [])
  refine gob (fun _ k => XS.dconst0 X0.here hx rfl (hb hby d6_0) (v := (0 : UInt64)) (by decide +kernel) k) ?_
  show gO (tF s₁ m 1 (la0 o0 o1) [(.double (0 : UInt64))])
  refine gob (fun _ k => XS.dstoreN X0.here hx rfl (hb hby d6_1) rfl (l' := (la1 o0 o1 (0 : UInt64))) rfl k) ?_
  show gO (tF s₁ m 2 (la1 o0 o1 (0 : UInt64)) [])
  refine gob (fun _ k => XS.iconst X0.here hx rfl (hb hby d6_2) k) ?_
  show gO (tF s₁ m 3 (la1 o0 o1 (0 : UInt64)) [(.int 0)])
  refine gob (fun _ k => XS.istore X0.here hx rfl (hb hby d6_3) rfl (l' := (la2 o0 o1 (0 : UInt64) 0)) rfl k) ?_
  show gO (tF s₁ m 5 (la2 o0 o1 (0 : UInt64) 0) [])
  refine gob (fun _ k => XS.iload X0.here hx rfl (hb hby d6_5) rfl k) ?_
  show gO (tF s₁ m 7 (la2 o0 o1 (0 : UInt64) 0) [(.int 0)])
  refine gob (fun _ k => XS.aloadN X0.here hx rfl (hb hby d6_7) rfl rfl k) ?_
  show gO (tF s₁ m 8 (la2 o0 o1 (0 : UInt64) 0) [(.ref o0), (.int 0)])
  obtain ⟨T1, X1, e1, st1⟩ := getF X0 hx hZ hown (host := "") (Or.inl (hW hw 23 rfl)) Via.refl e0 F_dofs (g := (mkF m 8 (la2 o0 o1 (0 : UInt64) 0) [(.ref o0), (.int 0)])) rfl rfl (hb hby d6_8)
  refine gob st1 ?_
  show gO (tF T1 m 11 (la2 o0 o1 (0 : UInt64) 0) [(.ref w_d), (.int 0)])
  obtain ⟨cl2, Ar2, aq2, S2, N2, H2, G2⟩ := id V_d
  refine gob (X1.arraylength hx (by rw [e1]; exact Ar2.1) (State.isArrayOf_alike hZ.alike Ar2.2.1) (g := (mkF m 11 (la2 o0 o1 (0 : UInt64) 0) [(.ref w_d), (.int 0)])) rfl rfl (hb hby d6_11)) ?_
  rw [len_of S2 N2]
  show gO (tF T1 m 12 (la2 o0 o1 (0 : UInt64) 0) [(.int 1), (.int 0)])
  refine gob (fun _ k => XS.icmpNo X1.here hx rfl (hb hby d6_12) rfl (tlt (by decide : (0 : Int32) < (1 : Int32))).2.1 k) ?_
  show gO (tF T1 m 15 (la2 o0 o1 (0 : UInt64) 0) [])
  refine gob (fun _ k => XS.dloadN X1.here hx rfl (hb hby d6_15) rfl k) ?_
  show gO (tF T1 m 16 (la2 o0 o1 (0 : UInt64) 0) [(.double (0 : UInt64))])
  refine gob (fun _ k => XS.aloadN X1.here hx rfl (hb hby d6_16) rfl rfl k) ?_
  show gO (tF T1 m 17 (la2 o0 o1 (0 : UInt64) 0) [(.ref o0), (.double (0 : UInt64))])
  obtain ⟨T3, X3, e3, st3⟩ := getF X1 hx hZ hown (host := "") (Or.inl (hW hw 25 rfl)) Via.refl e1 F_weights (g := (mkF m 17 (la2 o0 o1 (0 : UInt64) 0) [(.ref o0), (.double (0 : UInt64))])) rfl rfl (hb hby d6_17)
  refine gob st3 ?_
  show gO (tF T3 m 20 (la2 o0 o1 (0 : UInt64) 0) [(.ref w_w), (.double (0 : UInt64))])
  refine gob (fun _ k => XS.iload X3.here hx rfl (hb hby d6_20) rfl k) ?_
  show gO (tF T3 m 22 (la2 o0 o1 (0 : UInt64) 0) [(.int 0), (.ref w_w), (.double (0 : UInt64))])
  obtain ⟨cl4, Ar4, aq4, S4, N4, H4, G4⟩ := id V_y
  have hin4 : ¬ ((0 : Int32) < 0 ∨ cl4.slots.size ≤ ((0 : Int32)).toNatClampNeg) := inb_of S4 ⟨by decide, by decide⟩
  refine gob (X3.daload hx (j := (0 : Int32)) (v := (.double y_0)) (by rw [e3]; exact Ar4.1) (State.isArrayOf_alike hZ.alike Ar4.2.1) Ar4.2.2 hin4 (Has.at H4 hin4 rfl) (g := (mkF m 22 (la2 o0 o1 (0 : UInt64) 0) [(.int 0), (.ref w_w), (.double (0 : UInt64))])) rfl rfl (hb hby d6_22)) ?_
  show gO (tF T3 m 23 (la2 o0 o1 (0 : UInt64) 0) [(.double y_0), (.double (0 : UInt64))])
  refine gob (fun _ k => XS.aloadN X3.here hx rfl (hb hby d6_23) rfl rfl k) ?_
  show gO (tF T3 m 24 (la2 o0 o1 (0 : UInt64) 0) [(.ref o1), (.double y_0), (.double (0 : UInt64))])
  refine gob (fun _ k => XS.aloadN X3.here hx rfl (hb hby d6_24) rfl rfl k) ?_
  show gO (tF T3 m 25 (la2 o0 o1 (0 : UInt64) 0) [(.ref o0), (.ref o1), (.double y_0), (.double (0 : UInt64))])
  obtain ⟨T5, X5, e5, st5⟩ := getF X3 hx hZ hown (host := "") (Or.inl (hW hw 23 rfl)) Via.refl e3 F_dofs (g := (mkF m 25 (la2 o0 o1 (0 : UInt64) 0) [(.ref o0), (.ref o1), (.double y_0), (.double (0 : UInt64))])) rfl rfl (hb hby d6_25)
  refine gob st5 ?_
  show gO (tF T5 m 28 (la2 o0 o1 (0 : UInt64) 0) [(.ref w_d), (.ref o1), (.double y_0), (.double (0 : UInt64))])
  refine gob (fun _ k => XS.iload X5.here hx rfl (hb hby d6_28) rfl k) ?_
  show gO (tF T5 m 30 (la2 o0 o1 (0 : UInt64) 0) [(.int 0), (.ref w_d), (.ref o1), (.double y_0), (.double (0 : UInt64))])
  obtain ⟨cl6, Ar6, aq6, S6, N6, H6, G6⟩ := id V_d
  have hin6 : ¬ ((0 : Int32) < 0 ∨ cl6.slots.size ≤ ((0 : Int32)).toNatClampNeg) := inb_of S6 ⟨by decide, by decide⟩
  refine gob (X5.iaload hx (j := (0 : Int32)) (v := (.int 2)) (by rw [e5]; exact Ar6.1) (State.isArrayOf_alike hZ.alike Ar6.2.1) Ar6.2.2 hin6 (Has.at H6 hin6 rfl) (g := (mkF m 30 (la2 o0 o1 (0 : UInt64) 0) [(.int 0), (.ref w_d), (.ref o1), (.double y_0), (.double (0 : UInt64))])) rfl rfl (hb hby d6_30)) ?_
  show gO (tF T5 m 31 (la2 o0 o1 (0 : UInt64) 0) [(.int 2), (.ref o1), (.double y_0), (.double (0 : UInt64))])
  obtain ⟨cl7, Ar7, aq7, S7, N7, H7, G7⟩ := id V_z
  have hin7 : ¬ ((2 : Int32) < 0 ∨ cl7.slots.size ≤ ((2 : Int32)).toNatClampNeg) := inb_of S7 ⟨by decide, by decide⟩
  refine gob (X5.daload hx (j := (2 : Int32)) (v := (.double z_2)) (by rw [e5]; exact Ar7.1) (State.isArrayOf_alike hZ.alike Ar7.2.1) Ar7.2.2 hin7 (Has.at H7 hin7 rfl) (g := (mkF m 31 (la2 o0 o1 (0 : UInt64) 0) [(.int 2), (.ref o1), (.double y_0), (.double (0 : UInt64))])) rfl rfl (hb hby d6_31)) ?_
  show gO (tF T5 m 32 (la2 o0 o1 (0 : UInt64) 0) [(.double z_2), (.double y_0), (.double (0 : UInt64))])
  have mg8 : Mag64 1090 (FP.dmul y_0 z_2) := own_dmul m_y_0 m_z_2 (by decide) (by decide) (by decide)
  refine gob (fun _ k => XS.dmulS X5.here hx rfl (hb hby d6_32) rfl (v := (FP.dmul y_0 z_2)) (mg8.fin (by decide)).noNaN rfl k) ?_
  show gO (tF T5 m 33 (la2 o0 o1 (0 : UInt64) 0) [(.double (FP.dmul y_0 z_2)), (.double (0 : UInt64))])
  have mg9 : Mag64 1092 (FP.dadd (0 : UInt64) (FP.dmul y_0 z_2)) := own_dadd (K := 1090) (own_m0.mono (by decide)) (mg8.mono (by decide)) (by decide) (by decide)
  refine gob (fun _ k => XS.daddS X5.here hx rfl (hb hby d6_33) rfl (v := (FP.dadd (0 : UInt64) (FP.dmul y_0 z_2))) (mg9.fin (by decide)).noNaN rfl k) ?_
  show gO (tF T5 m 34 (la2 o0 o1 (0 : UInt64) 0) [(.double (FP.dadd (0 : UInt64) (FP.dmul y_0 z_2)))])
  refine gob (fun _ k => XS.dstoreN X5.here hx rfl (hb hby d6_34) rfl (l' := (la2 o0 o1 (FP.dadd (0 : UInt64) (FP.dmul y_0 z_2)) 0)) rfl k) ?_
  show gO (tF T5 m 35 (la2 o0 o1 (FP.dadd (0 : UInt64) (FP.dmul y_0 z_2)) 0) [])
  refine gob (fun _ k => XS.iinc X5.here hx rfl (hb hby d6_35) rfl (l' := (la2 o0 o1 (FP.dadd (0 : UInt64) (FP.dmul y_0 z_2)) 1)) rfl k) ?_
  show gO (tF T5 m 38 (la2 o0 o1 (FP.dadd (0 : UInt64) (FP.dmul y_0 z_2)) 1) [])
  refine gob (fun _ k => XS.goto X5.here hx rfl (pc0 := 38) (pc' := 5) rfl (hb hby d6_38) (by decide) (by decide) k) ?_
  show gO (tF T5 m 5 (la2 o0 o1 (FP.dadd (0 : UInt64) (FP.dmul y_0 z_2)) 1) [])
  refine gob (fun _ k => XS.iload X5.here hx rfl (hb hby d6_5) rfl k) ?_
  show gO (tF T5 m 7 (la2 o0 o1 (FP.dadd (0 : UInt64) (FP.dmul y_0 z_2)) 1) [(.int 1)])
  refine gob (fun _ k => XS.aloadN X5.here hx rfl (hb hby d6_7) rfl rfl k) ?_
  show gO (tF T5 m 8 (la2 o0 o1 (FP.dadd (0 : UInt64) (FP.dmul y_0 z_2)) 1) [(.ref o0), (.int 1)])
  obtain ⟨T10, X10, e10, st10⟩ := getF X5 hx hZ hown (host := "") (Or.inl (hW hw 23 rfl)) Via.refl e5 F_dofs (g := (mkF m 8 (la2 o0 o1 (FP.dadd (0 : UInt64) (FP.dmul y_0 z_2)) 1) [(.ref o0), (.int 1)])) rfl rfl (hb hby d6_8)
  refine gob st10 ?_
  show gO (tF T10 m 11 (la2 o0 o1 (FP.dadd (0 : UInt64) (FP.dmul y_0 z_2)) 1) [(.ref w_d), (.int 1)])
  obtain ⟨cl11, Ar11, aq11, S11, N11, H11, G11⟩ := id V_d
  refine gob (X10.arraylength hx (by rw [e10]; exact Ar11.1) (State.isArrayOf_alike hZ.alike Ar11.2.1) (g := (mkF m 11 (la2 o0 o1 (FP.dadd (0 : UInt64) (FP.dmul y_0 z_2)) 1) [(.ref w_d), (.int 1)])) rfl rfl (hb hby d6_11)) ?_
  rw [len_of S11 N11]
  show gO (tF T10 m 12 (la2 o0 o1 (FP.dadd (0 : UInt64) (FP.dmul y_0 z_2)) 1) [(.int 1), (.int 1)])
  refine gob (fun _ k => XS.icmpYes X10.here hx rfl (pc0 := 12) (pc' := 41) rfl (hb hby d6_12) rfl (flt (by decide : ¬ ((1 : Int32) < (1 : Int32)))).2.1 (by decide) (by decide) k) ?_
  show gO (tF T10 m 41 (la2 o0 o1 (FP.dadd (0 : UInt64) (FP.dmul y_0 z_2)) 1) [])
  refine gob (fun _ k => XS.dloadN X10.here hx rfl (hb hby d6_41) rfl k) ?_
  show gO (tF T10 m 42 (la2 o0 o1 (FP.dadd (0 : UInt64) (FP.dmul y_0 z_2)) 1) [(.double (FP.dadd (0 : UInt64) (FP.dmul y_0 z_2)))])
  refine goD X10 hx hlk Bd.returns (hb hby d6_42) ?_ (by decide) (by decide)
  show Qof_2 Z o0 o1 w_d w_w k_d k_y y_0 k_z z_0 z_1 z_2 z_3 h0 n0 (some (.double (FP.dadd (0 : UInt64) (FP.dmul y_0 z_2)))) T10.heap _
  exact ⟨(FP.dadd (0 : UInt64) (FP.dmul y_0 z_2)), rfl, rfl, N0, e10⟩
theorem ef_of_02 (m : MethodId) (x0 : Addr) (x1 : Addr) : entryFrame m #[(.ref x0), (.ref x1)] 5 = mkF m 0 #[.val (.ref x0), .val (.ref x1), .unset, .unset, .unset] [] := by first | (simp [entryFrame, mkF, argsToLocals, Value.category]; done) | rfl
def Qof_02 (Z : State) (o0 : Addr) (o1 : Addr) (w_d : Addr) (w_w : Addr) (k_d : ClassId) (k_y : ClassId) (y_0 : UInt64) (y_1 : UInt64) (k_z : ClassId) (z_0 : UInt64) (z_1 : UInt64) (z_2 : UInt64) (z_3 : UInt64) (h0 : Heap) (n0 : Nat) (v : Option Value) (h : Heap) (L : List Loc) : Prop := ∃ r : UInt64, v = some (.double r) ∧ ((r = (FP.dadd (FP.dadd (0 : UInt64) (FP.dmul y_0 z_0)) (FP.dmul y_1 z_2)))) ∧ Fr n0 L ∧ h = h0
set_option maxRecDepth 65536 in
set_option maxHeartbeats 40000000 in
theorem rmof_02 (l : Launch) (Z : State) (a0 : Array Value) (hw : ∀ d ∈ tables_1, d.before a0 Z = true) (ws : List Jvm.Cond) (o0 : Addr) (o1 : Addr) (w_d : Addr) (w_w : Addr) (k_d : ClassId) (k_y : ClassId) (y_0 : UInt64) (y_1 : UInt64) (k_z : ClassId) (z_0 : UInt64) (z_1 : UInt64) (z_2 : UInt64) (z_3 : UInt64) (h0 : Heap) (n0 : Nat) (Z0 : n0 ≤ h0.size) (F_dofs : Fld Z h0 o0 "com/example/fenda/fenda/analysis/Combination" "dofs" "[I" (.ref w_d)) (F_weights : Fld Z h0 o0 "com/example/fenda/fenda/analysis/Combination" "weights" "[D" (.ref w_w)) (V_d : Arv Z h0 w_d k_d .int (2 : Int32) [(.int 0), (.int 2)] (.int 0)) (m_y_0 : Mag64 1056 y_0) (m_y_1 : Mag64 1056 y_1) (V_y : Arv Z h0 w_w k_y .double (2 : Int32) [(.double y_0), (.double y_1)] (.double 0)) (m_z_0 : Mag64 1056 z_0) (m_z_1 : Mag64 1056 z_1) (m_z_2 : Mag64 1056 z_2) (m_z_3 : Mag64 1056 z_3) (V_z : Arv Z h0 o1 k_z .double (4 : Int32) [(.double z_0), (.double z_1), (.double z_2), (.double z_3)] (.double 0)) :
    MetFree l (⟨"com/example/fenda/fenda/analysis/Combination", "of", "([D)D"⟩ : MethodName) (head1 (Jvm.Cond.code (⟨"com/example/fenda/fenda/analysis/Combination", "of", "([D)D"⟩ : MethodName) prog_3_method_2_code 5 (some .double) :: ws) ({ frames := 0, cells := 0, slots := 0, locals := 0 } : Room)) (fun a U => a = #[(.ref o0), (.ref o1)] ∧ Z.Warmed39 U.vm ∧ U.heap = h0) (fun _ _ _ _ _ => True) (fun _ U o U' => ∃ v L, o = .returned v ∧ Qof_02 Z o0 o1 w_d w_w k_d k_y y_0 y_1 k_z z_0 z_1 z_2 z_3 h0 n0 v U'.heap L ∧ FrameEnd U o U' L ({ frames := 0, cells := 0, slots := 0, locals := 0 } : Room).cells ({ frames := 0, cells := 0, slots := 0, locals := 0 } : Room).slots) := by
  refine MetFree.of_bodySF (plainFor_of_name (by first | (simp [plainName, overriddenIn]; done) | decide +kernel)) hisR ?_
  intro p e s m args below meth c s₁ Bd hml0 hP hK
  obtain ⟨rfl, hZ, hh⟩ := hP
  have hx := Bd.exec
  have hby := Bd.bytes
  have hml : c.maxLocals = 5 := hml0
  have hown : s.vm.findClass "com/example/fenda/fenda/analysis/Combination" = some m.cls := findClass_of_methodNamed Bd.named
  have hnm := (name_of_methodNamed Bd.named Bd.method).1
  have hlk := BodyLoose.notSynchronized Bd
  have X0 : Stand p l e ({ frames := 0, cells := 0, slots := 0, locals := 0 } : Room) s m #[(.ref o0), (.ref o1)] below meth c s₁ [] 0 0 := Stand.of_body Bd
  have e0 : s₁.heap = h0 := by rw [← hh, Bd.state]; rfl
  have N0 := Fr.nil n0
  show Go p e below s (Qof_02 Z o0 o1 w_d w_w k_d k_y y_0 y_1 k_z z_0 z_1 z_2 z_3 h0 n0) 0 0 (s₁.setTop (entryFrame m #[(.ref o0), (.ref o1)] 5))
  rw [ef_of_02]
  show gO (tF s₁ m 0 (la0 o0 o1) [])
  refine gob (fun _ k => XS.dconst0 X0.here hx rfl (hb hby d6_0) (v := (0 : UInt64)) (by decide +kernel) k) ?_
  show gO (tF s₁ m 1 (la0 o0 o1) [(.double (0 : UInt64))])
  refine gob (fun _ k => XS.dstoreN X0.here hx rfl (hb hby d6_1) rfl (l' := (la1 o0 o1 (0 : UInt64))) rfl k) ?_
  show gO (tF s₁ m 2 (la1 o0 o1 (0 : UInt64)) [])
  refine gob (fun _ k => XS.iconst X0.here hx rfl (hb hby d6_2) k) ?_
  show gO (tF s₁ m 3 (la1 o0 o1 (0 : UInt64)) [(.int 0)])
  refine gob (fun _ k => XS.istore X0.here hx rfl (hb hby d6_3) rfl (l' := (la2 o0 o1 (0 : UInt64) 0)) rfl k) ?_
  show gO (tF s₁ m 5 (la2 o0 o1 (0 : UInt64) 0) [])
  refine gob (fun _ k => XS.iload X0.here hx rfl (hb hby d6_5) rfl k) ?_
  show gO (tF s₁ m 7 (la2 o0 o1 (0 : UInt64) 0) [(.int 0)])
  refine gob (fun _ k => XS.aloadN X0.here hx rfl (hb hby d6_7) rfl rfl k) ?_
  show gO (tF s₁ m 8 (la2 o0 o1 (0 : UInt64) 0) [(.ref o0), (.int 0)])
  obtain ⟨T1, X1, e1, st1⟩ := getF X0 hx hZ hown (host := "") (Or.inl (hW hw 23 rfl)) Via.refl e0 F_dofs (g := (mkF m 8 (la2 o0 o1 (0 : UInt64) 0) [(.ref o0), (.int 0)])) rfl rfl (hb hby d6_8)
  refine gob st1 ?_
  show gO (tF T1 m 11 (la2 o0 o1 (0 : UInt64) 0) [(.ref w_d), (.int 0)])
  obtain ⟨cl2, Ar2, aq2, S2, N2, H2, G2⟩ := id V_d
  refine gob (X1.arraylength hx (by rw [e1]; exact Ar2.1) (State.isArrayOf_alike hZ.alike Ar2.2.1) (g := (mkF m 11 (la2 o0 o1 (0 : UInt64) 0) [(.ref w_d), (.int 0)])) rfl rfl (hb hby d6_11)) ?_
  rw [len_of S2 N2]
  show gO (tF T1 m 12 (la2 o0 o1 (0 : UInt64) 0) [(.int 2), (.int 0)])
  refine gob (fun _ k => XS.icmpNo X1.here hx rfl (hb hby d6_12) rfl (tlt (by decide : (0 : Int32) < (2 : Int32))).2.1 k) ?_
  show gO (tF T1 m 15 (la2 o0 o1 (0 : UInt64) 0) [])
  refine gob (fun _ k => XS.dloadN X1.here hx rfl (hb hby d6_15) rfl k) ?_
  show gO (tF T1 m 16 (la2 o0 o1 (0 : UInt64) 0) [(.double (0 : UInt64))])
  refine gob (fun _ k => XS.aloadN X1.here hx rfl (hb hby d6_16) rfl rfl k) ?_
  show gO (tF T1 m 17 (la2 o0 o1 (0 : UInt64) 0) [(.ref o0), (.double (0 : UInt64))])
  obtain ⟨T3, X3, e3, st3⟩ := getF X1 hx hZ hown (host := "") (Or.inl (hW hw 25 rfl)) Via.refl e1 F_weights (g := (mkF m 17 (la2 o0 o1 (0 : UInt64) 0) [(.ref o0), (.double (0 : UInt64))])) rfl rfl (hb hby d6_17)
  refine gob st3 ?_
  show gO (tF T3 m 20 (la2 o0 o1 (0 : UInt64) 0) [(.ref w_w), (.double (0 : UInt64))])
  refine gob (fun _ k => XS.iload X3.here hx rfl (hb hby d6_20) rfl k) ?_
  show gO (tF T3 m 22 (la2 o0 o1 (0 : UInt64) 0) [(.int 0), (.ref w_w), (.double (0 : UInt64))])
  obtain ⟨cl4, Ar4, aq4, S4, N4, H4, G4⟩ := id V_y
  have hin4 : ¬ ((0 : Int32) < 0 ∨ cl4.slots.size ≤ ((0 : Int32)).toNatClampNeg) := inb_of S4 ⟨by decide, by decide⟩
  refine gob (X3.daload hx (j := (0 : Int32)) (v := (.double y_0)) (by rw [e3]; exact Ar4.1) (State.isArrayOf_alike hZ.alike Ar4.2.1) Ar4.2.2 hin4 (Has.at H4 hin4 rfl) (g := (mkF m 22 (la2 o0 o1 (0 : UInt64) 0) [(.int 0), (.ref w_w), (.double (0 : UInt64))])) rfl rfl (hb hby d6_22)) ?_
  show gO (tF T3 m 23 (la2 o0 o1 (0 : UInt64) 0) [(.double y_0), (.double (0 : UInt64))])
  refine gob (fun _ k => XS.aloadN X3.here hx rfl (hb hby d6_23) rfl rfl k) ?_
  show gO (tF T3 m 24 (la2 o0 o1 (0 : UInt64) 0) [(.ref o1), (.double y_0), (.double (0 : UInt64))])
  refine gob (fun _ k => XS.aloadN X3.here hx rfl (hb hby d6_24) rfl rfl k) ?_
  show gO (tF T3 m 25 (la2 o0 o1 (0 : UInt64) 0) [(.ref o0), (.ref o1), (.double y_0), (.double (0 : UInt64))])
  obtain ⟨T5, X5, e5, st5⟩ := getF X3 hx hZ hown (host := "") (Or.inl (hW hw 23 rfl)) Via.refl e3 F_dofs (g := (mkF m 25 (la2 o0 o1 (0 : UInt64) 0) [(.ref o0), (.ref o1), (.double y_0), (.double (0 : UInt64))])) rfl rfl (hb hby d6_25)
  refine gob st5 ?_
  show gO (tF T5 m 28 (la2 o0 o1 (0 : UInt64) 0) [(.ref w_d), (.ref o1), (.double y_0), (.double (0 : UInt64))])
  refine gob (fun _ k => XS.iload X5.here hx rfl (hb hby d6_28) rfl k) ?_
  show gO (tF T5 m 30 (la2 o0 o1 (0 : UInt64) 0) [(.int 0), (.ref w_d), (.ref o1), (.double y_0), (.double (0 : UInt64))])
  obtain ⟨cl6, Ar6, aq6, S6, N6, H6, G6⟩ := id V_d
  have hin6 : ¬ ((0 : Int32) < 0 ∨ cl6.slots.size ≤ ((0 : Int32)).toNatClampNeg) := inb_of S6 ⟨by decide, by decide⟩
  refine gob (X5.iaload hx (j := (0 : Int32)) (v := (.int 0)) (by rw [e5]; exact Ar6.1) (State.isArrayOf_alike hZ.alike Ar6.2.1) Ar6.2.2 hin6 (Has.at H6 hin6 rfl) (g := (mkF m 30 (la2 o0 o1 (0 : UInt64) 0) [(.int 0), (.ref w_d), (.ref o1), (.double y_0), (.double (0 : UInt64))])) rfl rfl (hb hby d6_30)) ?_
  show gO (tF T5 m 31 (la2 o0 o1 (0 : UInt64) 0) [(.int 0), (.ref o1), (.double y_0), (.double (0 : UInt64))])
  obtain ⟨cl7, Ar7, aq7, S7, N7, H7, G7⟩ := id V_z
  have hin7 : ¬ ((0 : Int32) < 0 ∨ cl7.slots.size ≤ ((0 : Int32)).toNatClampNeg) := inb_of S7 ⟨by decide, by decide⟩
  refine gob (X5.daload hx (j := (0 : Int32)) (v := (.double z_0)) (by rw [e5]; exact Ar7.1) (State.isArrayOf_alike hZ.alike Ar7.2.1) Ar7.2.2 hin7 (Has.at H7 hin7 rfl) (g := (mkF m 31 (la2 o0 o1 (0 : UInt64) 0) [(.int 0), (.ref o1), (.double y_0), (.double (0 : UInt64))])) rfl rfl (hb hby d6_31)) ?_
  show gO (tF T5 m 32 (la2 o0 o1 (0 : UInt64) 0) [(.double z_0), (.double y_0), (.double (0 : UInt64))])
  have mg8 : Mag64 1090 (FP.dmul y_0 z_0) := own_dmul m_y_0 m_z_0 (by decide) (by decide) (by decide)
  refine gob (fun _ k => XS.dmulS X5.here hx rfl (hb hby d6_32) rfl (v := (FP.dmul y_0 z_0)) (mg8.fin (by decide)).noNaN rfl k) ?_
  show gO (tF T5 m 33 (la2 o0 o1 (0 : UInt64) 0) [(.double (FP.dmul y_0 z_0)), (.double (0 : UInt64))])
  have mg9 : Mag64 1092 (FP.dadd (0 : UInt64) (FP.dmul y_0 z_0)) := own_dadd (K := 1090) (own_m0.mono (by decide)) (mg8.mono (by decide)) (by decide) (by decide)
  refine gob (fun _ k => XS.daddS X5.here hx rfl (hb hby d6_33) rfl (v := (FP.dadd (0 : UInt64) (FP.dmul y_0 z_0))) (mg9.fin (by decide)).noNaN rfl k) ?_
  show gO (tF T5 m 34 (la2 o0 o1 (0 : UInt64) 0) [(.double (FP.dadd (0 : UInt64) (FP.dmul y_0 z_0)))])
  refine gob (fun _ k => XS.dstoreN X5.here hx rfl (hb hby d6_34) rfl (l' := (la2 o0 o1 (FP.dadd (0 : UInt64) (FP.dmul y_0 z_0)) 0)) rfl k) ?_
  show gO (tF T5 m 35 (la2 o0 o1 (FP.dadd (0 : UInt64) (FP.dmul y_0 z_0)) 0) [])
  refine gob (fun _ k => XS.iinc X5.here hx rfl (hb hby d6_35) rfl (l' := (la2 o0 o1 (FP.dadd (0 : UInt64) (FP.dmul y_0 z_0)) 1)) rfl k) ?_
  show gO (tF T5 m 38 (la2 o0 o1 (FP.dadd (0 : UInt64) (FP.dmul y_0 z_0)) 1) [])
  refine gob (fun _ k => XS.goto X5.here hx rfl (pc0 := 38) (pc' := 5) rfl (hb hby d6_38) (by decide) (by decide) k) ?_
  show gO (tF T5 m 5 (la2 o0 o1 (FP.dadd (0 : UInt64) (FP.dmul y_0 z_0)) 1) [])
  refine gob (fun _ k => XS.iload X5.here hx rfl (hb hby d6_5) rfl k) ?_
  show gO (tF T5 m 7 (la2 o0 o1 (FP.dadd (0 : UInt64) (FP.dmul y_0 z_0)) 1) [(.int 1)])
  refine gob (fun _ k => XS.aloadN X5.here hx rfl (hb hby d6_7) rfl rfl k) ?_
  show gO (tF T5 m 8 (la2 o0 o1 (FP.dadd (0 : UInt64) (FP.dmul y_0 z_0)) 1) [(.ref o0), (.int 1)])
  obtain ⟨T10, X10, e10, st10⟩ := getF X5 hx hZ hown (host := "") (Or.inl (hW hw 23 rfl)) Via.refl e5 F_dofs (g := (mkF m 8 (la2 o0 o1 (FP.dadd (0 : UInt64) (FP.dmul y_0 z_0)) 1) [(.ref o0), (.int 1)])) rfl rfl (hb hby d6_8)
  refine gob st10 ?_
  show gO (tF T10 m 11 (la2 o0 o1 (FP.dadd (0 : UInt64) (FP.dmul y_0 z_0)) 1) [(.ref w_d), (.int 1)])
  obtain ⟨cl11, Ar11, aq11, S11, N11, H11, G11⟩ := id V_d
  refine gob (X10.arraylength hx (by rw [e10]; exact Ar11.1) (State.isArrayOf_alike hZ.alike Ar11.2.1) (g := (mkF m 11 (la2 o0 o1 (FP.dadd (0 : UInt64) (FP.dmul y_0 z_0)) 1) [(.ref w_d), (.int 1)])) rfl rfl (hb hby d6_11)) ?_
  rw [len_of S11 N11]
  show gO (tF T10 m 12 (la2 o0 o1 (FP.dadd (0 : UInt64) (FP.dmul y_0 z_0)) 1) [(.int 2), (.int 1)])
  refine gob (fun _ k => XS.icmpNo X10.here hx rfl (hb hby d6_12) rfl (tlt (by decide : (1 : Int32) < (2 : Int32))).2.1 k) ?_
  show gO (tF T10 m 15 (la2 o0 o1 (FP.dadd (0 : UInt64) (FP.dmul y_0 z_0)) 1) [])
  refine gob (fun _ k => XS.dloadN X10.here hx rfl (hb hby d6_15) rfl k) ?_
  show gO (tF T10 m 16 (la2 o0 o1 (FP.dadd (0 : UInt64) (FP.dmul y_0 z_0)) 1) [(.double (FP.dadd (0 : UInt64) (FP.dmul y_0 z_0)))])
  refine gob (fun _ k => XS.aloadN X10.here hx rfl (hb hby d6_16) rfl rfl k) ?_
  show gO (tF T10 m 17 (la2 o0 o1 (FP.dadd (0 : UInt64) (FP.dmul y_0 z_0)) 1) [(.ref o0), (.double (FP.dadd (0 : UInt64) (FP.dmul y_0 z_0)))])
  obtain ⟨T12, X12, e12, st12⟩ := getF X10 hx hZ hown (host := "") (Or.inl (hW hw 25 rfl)) Via.refl e10 F_weights (g := (mkF m 17 (la2 o0 o1 (FP.dadd (0 : UInt64) (FP.dmul y_0 z_0)) 1) [(.ref o0), (.double (FP.dadd (0 : UInt64) (FP.dmul y_0 z_0)))])) rfl rfl (hb hby d6_17)
  refine gob st12 ?_
  show gO (tF T12 m 20 (la2 o0 o1 (FP.dadd (0 : UInt64) (FP.dmul y_0 z_0)) 1) [(.ref w_w), (.double (FP.dadd (0 : UInt64) (FP.dmul y_0 z_0)))])
  refine gob (fun _ k => XS.iload X12.here hx rfl (hb hby d6_20) rfl k) ?_
  show gO (tF T12 m 22 (la2 o0 o1 (FP.dadd (0 : UInt64) (FP.dmul y_0 z_0)) 1) [(.int 1), (.ref w_w), (.double (FP.dadd (0 : UInt64) (FP.dmul y_0 z_0)))])
  obtain ⟨cl13, Ar13, aq13, S13, N13, H13, G13⟩ := id V_y
  have hin13 : ¬ ((1 : Int32) < 0 ∨ cl13.slots.size ≤ ((1 : Int32)).toNatClampNeg) := inb_of S13 ⟨by decide, by decide⟩
  refine gob (X12.daload hx (j := (1 : Int32)) (v := (.double y_1)) (by rw [e12]; exact Ar13.1) (State.isArrayOf_alike hZ.alike Ar13.2.1) Ar13.2.2 hin13 (Has.at H13 hin13 rfl) (g := (mkF m 22 (la2 o0 o1 (FP.dadd (0 : UInt64) (FP.dmul y_0 z_0)) 1) [(.int 1), (.ref w_w), (.double (FP.dadd (0 : UInt64) (FP.dmul y_0 z_0)))])) rfl rfl (hb hby d6_22)) ?_
  show gO (tF T12 m 23 (la2 o0 o1 (FP.dadd (0 : UInt64) (FP.dmul y_0 z_0)) 1) [(.double y_1), (.double (FP.dadd (0 : UInt64) (FP.dmul y_0 z_0)))])
  refine gob (fun _ k => XS.aloadN X12.here hx rfl (hb hby d6_23) rfl rfl k) ?_
  show gO (tF T12 m 24 (la2 o0 o1 (FP.dadd (0 : UInt64) (FP.dmul y_0 z_0)) 1) [(.ref o1), (.double y_1), (.double (FP.dadd (0 : UInt64) (FP.dmul y_0 z_0)))])
  refine gob (fun _ k => XS.aloadN X12.here hx rfl (hb hby d6_24) rfl rfl k) ?_
  show gO (tF T12 m 25 (la2 o0 o1 (FP.dadd (0 : UInt64) (FP.dmul y_0 z_0)) 1) [(.ref o0), (.ref o1), (.double y_1), (.double (FP.dadd (0 : UInt64) (FP.dmul y_0 z_0)))])
  obtain ⟨T14, X14, e14, st14⟩ := getF X12 hx hZ hown (host := "") (Or.inl (hW hw 23 rfl)) Via.refl e12 F_dofs (g := (mkF m 25 (la2 o0 o1 (FP.dadd (0 : UInt64) (FP.dmul y_0 z_0)) 1) [(.ref o0), (.ref o1), (.double y_1), (.double (FP.dadd (0 : UInt64) (FP.dmul y_0 z_0)))])) rfl rfl (hb hby d6_25)
  refine gob st14 ?_
  show gO (tF T14 m 28 (la2 o0 o1 (FP.dadd (0 : UInt64) (FP.dmul y_0 z_0)) 1) [(.ref w_d), (.ref o1), (.double y_1), (.double (FP.dadd (0 : UInt64) (FP.dmul y_0 z_0)))])
  refine gob (fun _ k => XS.iload X14.here hx rfl (hb hby d6_28) rfl k) ?_
  show gO (tF T14 m 30 (la2 o0 o1 (FP.dadd (0 : UInt64) (FP.dmul y_0 z_0)) 1) [(.int 1), (.ref w_d), (.ref o1), (.double y_1), (.double (FP.dadd (0 : UInt64) (FP.dmul y_0 z_0)))])
  obtain ⟨cl15, Ar15, aq15, S15, N15, H15, G15⟩ := id V_d
  have hin15 : ¬ ((1 : Int32) < 0 ∨ cl15.slots.size ≤ ((1 : Int32)).toNatClampNeg) := inb_of S15 ⟨by decide, by decide⟩
  refine gob (X14.iaload hx (j := (1 : Int32)) (v := (.int 2)) (by rw [e14]; exact Ar15.1) (State.isArrayOf_alike hZ.alike Ar15.2.1) Ar15.2.2 hin15 (Has.at H15 hin15 rfl) (g := (mkF m 30 (la2 o0 o1 (FP.dadd (0 : UInt64) (FP.dmul y_0 z_0)) 1) [(.int 1), (.ref w_d), (.ref o1), (.double y_1), (.double (FP.dadd (0 : UInt64) (FP.dmul y_0 z_0)))])) rfl rfl (hb hby d6_30)) ?_
  show gO (tF T14 m 31 (la2 o0 o1 (FP.dadd (0 : UInt64) (FP.dmul y_0 z_0)) 1) [(.int 2), (.ref o1), (.double y_1), (.double (FP.dadd (0 : UInt64) (FP.dmul y_0 z_0)))])
  obtain ⟨cl16, Ar16, aq16, S16, N16, H16, G16⟩ := id V_z
  have hin16 : ¬ ((2 : Int32) < 0 ∨ cl16.slots.size ≤ ((2 : Int32)).toNatClampNeg) := inb_of S16 ⟨by decide, by decide⟩
  refine gob (X14.daload hx (j := (2 : Int32)) (v := (.double z_2)) (by rw [e14]; exact Ar16.1) (State.isArrayOf_alike hZ.alike Ar16.2.1) Ar16.2.2 hin16 (Has.at H16 hin16 rfl) (g := (mkF m 31 (la2 o0 o1 (FP.dadd (0 : UInt64) (FP.dmul y_0 z_0)) 1) [(.int 2), (.ref o1), (.double y_1), (.double (FP.dadd (0 : UInt64) (FP.dmul y_0 z_0)))])) rfl rfl (hb hby d6_31)) ?_
  show gO (tF T14 m 32 (la2 o0 o1 (FP.dadd (0 : UInt64) (FP.dmul y_0 z_0)) 1) [(.double z_2), (.double y_1), (.double (FP.dadd (0 : UInt64) (FP.dmul y_0 z_0)))])
  have mg17 : Mag64 1090 (FP.dmul y_1 z_2) := own_dmul m_y_1 m_z_2 (by decide) (by decide) (by decide)
  refine gob (fun _ k => XS.dmulS X14.here hx rfl (hb hby d6_32) rfl (v := (FP.dmul y_1 z_2)) (mg17.fin (by decide)).noNaN rfl k) ?_
  show gO (tF T14 m 33 (la2 o0 o1 (FP.dadd (0 : UInt64) (FP.dmul y_0 z_0)) 1) [(.double (FP.dmul y_1 z_2)), (.double (FP.dadd (0 : UInt64) (FP.dmul y_0 z_0)))])
  have mg18 : Mag64 1094 (FP.dadd (FP.dadd (0 : UInt64) (FP.dmul y_0 z_0)) (FP.dmul y_1 z_2)) := own_dadd (K := 1092) (mg9.mono (by decide)) (mg17.mono (by decide)) (by decide) (by decide)
  refine gob (fun _ k => XS.daddS X14.here hx rfl (hb hby d6_33) rfl (v := (FP.dadd (FP.dadd (0 : UInt64) (FP.dmul y_0 z_0)) (FP.dmul y_1 z_2))) (mg18.fin (by decide)).noNaN rfl k) ?_
  show gO (tF T14 m 34 (la2 o0 o1 (FP.dadd (0 : UInt64) (FP.dmul y_0 z_0)) 1) [(.double (FP.dadd (FP.dadd (0 : UInt64) (FP.dmul y_0 z_0)) (FP.dmul y_1 z_2)))])
  refine gob (fun _ k => XS.dstoreN X14.here hx rfl (hb hby d6_34) rfl (l' := (la2 o0 o1 (FP.dadd (FP.dadd (0 : UInt64) (FP.dmul y_0 z_0)) (FP.dmul y_1 z_2)) 1)) rfl k) ?_
  show gO (tF T14 m 35 (la2 o0 o1 (FP.dadd (FP.dadd (0 : UInt64) (FP.dmul y_0 z_0)) (FP.dmul y_1 z_2)) 1) [])
  refine gob (fun _ k => XS.iinc X14.here hx rfl (hb hby d6_35) rfl (l' := (la2 o0 o1 (FP.dadd (FP.dadd (0 : UInt64) (FP.dmul y_0 z_0)) (FP.dmul y_1 z_2)) 2)) rfl k) ?_
  show gO (tF T14 m 38 (la2 o0 o1 (FP.dadd (FP.dadd (0 : UInt64) (FP.dmul y_0 z_0)) (FP.dmul y_1 z_2)) 2) [])
  refine gob (fun _ k => XS.goto X14.here hx rfl (pc0 := 38) (pc' := 5) rfl (hb hby d6_38) (by decide) (by decide) k) ?_
  show gO (tF T14 m 5 (la2 o0 o1 (FP.dadd (FP.dadd (0 : UInt64) (FP.dmul y_0 z_0)) (FP.dmul y_1 z_2)) 2) [])
  refine gob (fun _ k => XS.iload X14.here hx rfl (hb hby d6_5) rfl k) ?_
  show gO (tF T14 m 7 (la2 o0 o1 (FP.dadd (FP.dadd (0 : UInt64) (FP.dmul y_0 z_0)) (FP.dmul y_1 z_2)) 2) [(.int 2)])
  refine gob (fun _ k => XS.aloadN X14.here hx rfl (hb hby d6_7) rfl rfl k) ?_
  show gO (tF T14 m 8 (la2 o0 o1 (FP.dadd (FP.dadd (0 : UInt64) (FP.dmul y_0 z_0)) (FP.dmul y_1 z_2)) 2) [(.ref o0), (.int 2)])
  obtain ⟨T19, X19, e19, st19⟩ := getF X14 hx hZ hown (host := "") (Or.inl (hW hw 23 rfl)) Via.refl e14 F_dofs (g := (mkF m 8 (la2 o0 o1 (FP.dadd (FP.dadd (0 : UInt64) (FP.dmul y_0 z_0)) (FP.dmul y_1 z_2)) 2) [(.ref o0), (.int 2)])) rfl rfl (hb hby d6_8)
  refine gob st19 ?_
  show gO (tF T19 m 11 (la2 o0 o1 (FP.dadd (FP.dadd (0 : UInt64) (FP.dmul y_0 z_0)) (FP.dmul y_1 z_2)) 2) [(.ref w_d), (.int 2)])
  obtain ⟨cl20, Ar20, aq20, S20, N20, H20, G20⟩ := id V_d
  refine gob (X19.arraylength hx (by rw [e19]; exact Ar20.1) (State.isArrayOf_alike hZ.alike Ar20.2.1) (g := (mkF m 11 (la2 o0 o1 (FP.dadd (FP.dadd (0 : UInt64) (FP.dmul y_0 z_0)) (FP.dmul y_1 z_2)) 2) [(.ref w_d), (.int 2)])) rfl rfl (hb hby d6_11)) ?_
  rw [len_of S20 N20]
  show gO (tF T19 m 12 (la2 o0 o1 (FP.dadd (FP.dadd (0 : UInt64) (FP.dmul y_0 z_0)) (FP.dmul y_1 z_2)) 2) [(.int 2), (.int 2)])
  refine gob (fun _ k => XS.icmpYes X19.here hx rfl (pc0 := 12) (pc' := 41) rfl (hb hby d6_12) rfl (flt (by decide : ¬ ((2 : Int32) < (2 : Int32)))).2.1 (by decide) (by decide) k) ?_
  show gO (tF T19 m 41 (la2 o0 o1 (FP.dadd (FP.dadd (0 : UInt64) (FP.dmul y_0 z_0)) (FP.dmul y_1 z_2)) 2) [])
  refine gob (fun _ k => XS.dloadN X19.here hx rfl (hb hby d6_41) rfl k) ?_
  show gO (tF T19 m 42 (la2 o0 o1 (FP.dadd (FP.dadd (0 : UInt64) (FP.dmul y_0 z_0)) (FP.dmul y_1 z_2)) 2) [(.double (FP.dadd (FP.dadd (0 : UInt64) (FP.dmul y_0 z_0)) (FP.dmul y_1 z_2)))])
  refine goD X19 hx hlk Bd.returns (hb hby d6_42) ?_ (by decide) (by decide)
  show Qof_02 Z o0 o1 w_d w_w k_d k_y y_0 y_1 k_z z_0 z_1 z_2 z_3 h0 n0 (some (.double (FP.dadd (FP.dadd (0 : UInt64) (FP.dmul y_0 z_0)) (FP.dmul y_1 z_2)))) T19.heap _
  exact ⟨(FP.dadd (FP.dadd (0 : UInt64) (FP.dmul y_0 z_0)) (FP.dmul y_1 z_2)), rfl, rfl, N0, e19⟩
theorem ef_of_12 (m : MethodId) (x0 : Addr) (x1 : Addr) : entryFrame m #[(.ref x0), (.ref x1)] 5 = mkF m 0 #[.val (.ref x0), .val (.ref x1), .unset, .unset, .unset] [] := by first | (simp [entryFrame, mkF, argsToLocals, Value.category]; done) | rfl
def Qof_12 (Z : State) (o0 : Addr) (o1 : Addr) (w_d : Addr) (w_w : Addr) (k_d : ClassId) (k_y : ClassId) (y_0 : UInt64) (y_1 : UInt64) (k_z : ClassId) (z_0 : UInt64) (z_1 : UInt64) (z_2 : UInt64) (z_3 : UInt64) (h0 : Heap) (n0 : Nat) (v : Option Value) (h : Heap) (L : List Loc) : Prop := ∃ r : UInt64, v = some (.double r) ∧ ((r = (FP.dadd (FP.dadd (0 : UInt64) (FP.dmul y_0 z_1)) (FP.dmul y_1 z_2)))) ∧ Fr n0 L ∧ h = h0
set_option maxRecDepth 65536 in
set_option maxHeartbeats 40000000 in
theorem rmof_12 (l : Launch) (Z : State) (a0 : Array Value) (hw : ∀ d ∈ tables_1, d.before a0 Z = true) (ws : List Jvm.Cond) (o0 : Addr) (o1 : Addr) (w_d : Addr) (w_w : Addr) (k_d : ClassId) (k_y : ClassId) (y_0 : UInt64) (y_1 : UInt64) (k_z : ClassId) (z_0 : UInt64) (z_1 : UInt64) (z_2 : UInt64) (z_3 : UInt64) (h0 : Heap) (n0 : Nat) (Z0 : n0 ≤ h0.size) (F_dofs : Fld Z h0 o0 "com/example/fenda/fenda/analysis/Combination" "dofs" "[I" (.ref w_d)) (F_weights : Fld Z h0 o0 "com/example/fenda/fenda/analysis/Combination" "weights" "[D" (.ref w_w)) (V_d : Arv Z h0 w_d k_d .int (2 : Int32) [(.int 1), (.int 2)] (.int 0)) (m_y_0 : Mag64 1056 y_0) (m_y_1 : Mag64 1056 y_1) (V_y : Arv Z h0 w_w k_y .double (2 : Int32) [(.double y_0), (.double y_1)] (.double 0)) (m_z_0 : Mag64 1056 z_0) (m_z_1 : Mag64 1056 z_1) (m_z_2 : Mag64 1056 z_2) (m_z_3 : Mag64 1056 z_3) (V_z : Arv Z h0 o1 k_z .double (4 : Int32) [(.double z_0), (.double z_1), (.double z_2), (.double z_3)] (.double 0)) :
    MetFree l (⟨"com/example/fenda/fenda/analysis/Combination", "of", "([D)D"⟩ : MethodName) (head1 (Jvm.Cond.code (⟨"com/example/fenda/fenda/analysis/Combination", "of", "([D)D"⟩ : MethodName) prog_3_method_2_code 5 (some .double) :: ws) ({ frames := 0, cells := 0, slots := 0, locals := 0 } : Room)) (fun a U => a = #[(.ref o0), (.ref o1)] ∧ Z.Warmed39 U.vm ∧ U.heap = h0) (fun _ _ _ _ _ => True) (fun _ U o U' => ∃ v L, o = .returned v ∧ Qof_12 Z o0 o1 w_d w_w k_d k_y y_0 y_1 k_z z_0 z_1 z_2 z_3 h0 n0 v U'.heap L ∧ FrameEnd U o U' L ({ frames := 0, cells := 0, slots := 0, locals := 0 } : Room).cells ({ frames := 0, cells := 0, slots := 0, locals := 0 } : Room).slots) := by
  refine MetFree.of_bodySF (plainFor_of_name (by first | (simp [plainName, overriddenIn]; done) | decide +kernel)) hisR ?_
  intro p e s m args below meth c s₁ Bd hml0 hP hK
  obtain ⟨rfl, hZ, hh⟩ := hP
  have hx := Bd.exec
  have hby := Bd.bytes
  have hml : c.maxLocals = 5 := hml0
  have hown : s.vm.findClass "com/example/fenda/fenda/analysis/Combination" = some m.cls := findClass_of_methodNamed Bd.named
  have hnm := (name_of_methodNamed Bd.named Bd.method).1
  have hlk := BodyLoose.notSynchronized Bd
  have X0 : Stand p l e ({ frames := 0, cells := 0, slots := 0, locals := 0 } : Room) s m #[(.ref o0), (.ref o1)] below meth c s₁ [] 0 0 := Stand.of_body Bd
  have e0 : s₁.heap = h0 := by rw [← hh, Bd.state]; rfl
  have N0 := Fr.nil n0
  show Go p e below s (Qof_12 Z o0 o1 w_d w_w k_d k_y y_0 y_1 k_z z_0 z_1 z_2 z_3 h0 n0) 0 0 (s₁.setTop (entryFrame m #[(.ref o0), (.ref o1)] 5))
  rw [ef_of_12]
  show gO (tF s₁ m 0 (la0 o0 o1) [])
  refine gob (fun _ k => XS.dconst0 X0.here hx rfl (hb hby d6_0) (v := (0 : UInt64)) (by decide +kernel) k) ?_
  show gO (tF s₁ m 1 (la0 o0 o1) [(.double (0 : UInt64))])
  refine gob (fun _ k => XS.dstoreN X0.here hx rfl (hb hby d6_1) rfl (l' := (la1 o0 o1 (0 : UInt64))) rfl k) ?_
  show gO (tF s₁ m 2 (la1 o0 o1 (0 : UInt64)) [])
  refine gob (fun _ k => XS.iconst X0.here hx rfl (hb hby d6_2) k) ?_
  show gO (tF s₁ m 3 (la1 o0 o1 (0 : UInt64)) [(.int 0)])
  refine gob (fun _ k => XS.istore X0.here hx rfl (hb hby d6_3) rfl (l' := (la2 o0 o1 (0 : UInt64) 0)) rfl k) ?_
  show gO (tF s₁ m 5 (la2 o0 o1 (0 : UInt64) 0) [])
  refine gob (fun _ k => XS.iload X0.here hx rfl (hb hby d6_5) rfl k) ?_
  show gO (tF s₁ m 7 (la2 o0 o1 (0 : UInt64) 0) [(.int 0)])
  refine gob (fun _ k => XS.aloadN X0.here hx rfl (hb hby d6_7) rfl rfl k) ?_
  show gO (tF s₁ m 8 (la2 o0 o1 (0 : UInt64) 0) [(.ref o0), (.int 0)])
  obtain ⟨T1, X1, e1, st1⟩ := getF X0 hx hZ hown (host := "") (Or.inl (hW hw 23 rfl)) Via.refl e0 F_dofs (g := (mkF m 8 (la2 o0 o1 (0 : UInt64) 0) [(.ref o0), (.int 0)])) rfl rfl (hb hby d6_8)
  refine gob st1 ?_
  show gO (tF T1 m 11 (la2 o0 o1 (0 : UInt64) 0) [(.ref w_d), (.int 0)])
  obtain ⟨cl2, Ar2, aq2, S2, N2, H2, G2⟩ := id V_d
  refine gob (X1.arraylength hx (by rw [e1]; exact Ar2.1) (State.isArrayOf_alike hZ.alike Ar2.2.1) (g := (mkF m 11 (la2 o0 o1 (0 : UInt64) 0) [(.ref w_d), (.int 0)])) rfl rfl (hb hby d6_11)) ?_
  rw [len_of S2 N2]
  show gO (tF T1 m 12 (la2 o0 o1 (0 : UInt64) 0) [(.int 2), (.int 0)])
  refine gob (fun _ k => XS.icmpNo X1.here hx rfl (hb hby d6_12) rfl (tlt (by decide : (0 : Int32) < (2 : Int32))).2.1 k) ?_
  show gO (tF T1 m 15 (la2 o0 o1 (0 : UInt64) 0) [])
  refine gob (fun _ k => XS.dloadN X1.here hx rfl (hb hby d6_15) rfl k) ?_
  show gO (tF T1 m 16 (la2 o0 o1 (0 : UInt64) 0) [(.double (0 : UInt64))])
  refine gob (fun _ k => XS.aloadN X1.here hx rfl (hb hby d6_16) rfl rfl k) ?_
  show gO (tF T1 m 17 (la2 o0 o1 (0 : UInt64) 0) [(.ref o0), (.double (0 : UInt64))])
  obtain ⟨T3, X3, e3, st3⟩ := getF X1 hx hZ hown (host := "") (Or.inl (hW hw 25 rfl)) Via.refl e1 F_weights (g := (mkF m 17 (la2 o0 o1 (0 : UInt64) 0) [(.ref o0), (.double (0 : UInt64))])) rfl rfl (hb hby d6_17)
  refine gob st3 ?_
  show gO (tF T3 m 20 (la2 o0 o1 (0 : UInt64) 0) [(.ref w_w), (.double (0 : UInt64))])
  refine gob (fun _ k => XS.iload X3.here hx rfl (hb hby d6_20) rfl k) ?_
  show gO (tF T3 m 22 (la2 o0 o1 (0 : UInt64) 0) [(.int 0), (.ref w_w), (.double (0 : UInt64))])
  obtain ⟨cl4, Ar4, aq4, S4, N4, H4, G4⟩ := id V_y
  have hin4 : ¬ ((0 : Int32) < 0 ∨ cl4.slots.size ≤ ((0 : Int32)).toNatClampNeg) := inb_of S4 ⟨by decide, by decide⟩
  refine gob (X3.daload hx (j := (0 : Int32)) (v := (.double y_0)) (by rw [e3]; exact Ar4.1) (State.isArrayOf_alike hZ.alike Ar4.2.1) Ar4.2.2 hin4 (Has.at H4 hin4 rfl) (g := (mkF m 22 (la2 o0 o1 (0 : UInt64) 0) [(.int 0), (.ref w_w), (.double (0 : UInt64))])) rfl rfl (hb hby d6_22)) ?_
  show gO (tF T3 m 23 (la2 o0 o1 (0 : UInt64) 0) [(.double y_0), (.double (0 : UInt64))])
  refine gob (fun _ k => XS.aloadN X3.here hx rfl (hb hby d6_23) rfl rfl k) ?_
  show gO (tF T3 m 24 (la2 o0 o1 (0 : UInt64) 0) [(.ref o1), (.double y_0), (.double (0 : UInt64))])
  refine gob (fun _ k => XS.aloadN X3.here hx rfl (hb hby d6_24) rfl rfl k) ?_
  show gO (tF T3 m 25 (la2 o0 o1 (0 : UInt64) 0) [(.ref o0), (.ref o1), (.double y_0), (.double (0 : UInt64))])
  obtain ⟨T5, X5, e5, st5⟩ := getF X3 hx hZ hown (host := "") (Or.inl (hW hw 23 rfl)) Via.refl e3 F_dofs (g := (mkF m 25 (la2 o0 o1 (0 : UInt64) 0) [(.ref o0), (.ref o1), (.double y_0), (.double (0 : UInt64))])) rfl rfl (hb hby d6_25)
  refine gob st5 ?_
  show gO (tF T5 m 28 (la2 o0 o1 (0 : UInt64) 0) [(.ref w_d), (.ref o1), (.double y_0), (.double (0 : UInt64))])
  refine gob (fun _ k => XS.iload X5.here hx rfl (hb hby d6_28) rfl k) ?_
  show gO (tF T5 m 30 (la2 o0 o1 (0 : UInt64) 0) [(.int 0), (.ref w_d), (.ref o1), (.double y_0), (.double (0 : UInt64))])
  obtain ⟨cl6, Ar6, aq6, S6, N6, H6, G6⟩ := id V_d
  have hin6 : ¬ ((0 : Int32) < 0 ∨ cl6.slots.size ≤ ((0 : Int32)).toNatClampNeg) := inb_of S6 ⟨by decide, by decide⟩
  refine gob (X5.iaload hx (j := (0 : Int32)) (v := (.int 1)) (by rw [e5]; exact Ar6.1) (State.isArrayOf_alike hZ.alike Ar6.2.1) Ar6.2.2 hin6 (Has.at H6 hin6 rfl) (g := (mkF m 30 (la2 o0 o1 (0 : UInt64) 0) [(.int 0), (.ref w_d), (.ref o1), (.double y_0), (.double (0 : UInt64))])) rfl rfl (hb hby d6_30)) ?_
  show gO (tF T5 m 31 (la2 o0 o1 (0 : UInt64) 0) [(.int 1), (.ref o1), (.double y_0), (.double (0 : UInt64))])
  obtain ⟨cl7, Ar7, aq7, S7, N7, H7, G7⟩ := id V_z
  have hin7 : ¬ ((1 : Int32) < 0 ∨ cl7.slots.size ≤ ((1 : Int32)).toNatClampNeg) := inb_of S7 ⟨by decide, by decide⟩
  refine gob (X5.daload hx (j := (1 : Int32)) (v := (.double z_1)) (by rw [e5]; exact Ar7.1) (State.isArrayOf_alike hZ.alike Ar7.2.1) Ar7.2.2 hin7 (Has.at H7 hin7 rfl) (g := (mkF m 31 (la2 o0 o1 (0 : UInt64) 0) [(.int 1), (.ref o1), (.double y_0), (.double (0 : UInt64))])) rfl rfl (hb hby d6_31)) ?_
  show gO (tF T5 m 32 (la2 o0 o1 (0 : UInt64) 0) [(.double z_1), (.double y_0), (.double (0 : UInt64))])
  have mg8 : Mag64 1090 (FP.dmul y_0 z_1) := own_dmul m_y_0 m_z_1 (by decide) (by decide) (by decide)
  refine gob (fun _ k => XS.dmulS X5.here hx rfl (hb hby d6_32) rfl (v := (FP.dmul y_0 z_1)) (mg8.fin (by decide)).noNaN rfl k) ?_
  show gO (tF T5 m 33 (la2 o0 o1 (0 : UInt64) 0) [(.double (FP.dmul y_0 z_1)), (.double (0 : UInt64))])
  have mg9 : Mag64 1092 (FP.dadd (0 : UInt64) (FP.dmul y_0 z_1)) := own_dadd (K := 1090) (own_m0.mono (by decide)) (mg8.mono (by decide)) (by decide) (by decide)
  refine gob (fun _ k => XS.daddS X5.here hx rfl (hb hby d6_33) rfl (v := (FP.dadd (0 : UInt64) (FP.dmul y_0 z_1))) (mg9.fin (by decide)).noNaN rfl k) ?_
  show gO (tF T5 m 34 (la2 o0 o1 (0 : UInt64) 0) [(.double (FP.dadd (0 : UInt64) (FP.dmul y_0 z_1)))])
  refine gob (fun _ k => XS.dstoreN X5.here hx rfl (hb hby d6_34) rfl (l' := (la2 o0 o1 (FP.dadd (0 : UInt64) (FP.dmul y_0 z_1)) 0)) rfl k) ?_
  show gO (tF T5 m 35 (la2 o0 o1 (FP.dadd (0 : UInt64) (FP.dmul y_0 z_1)) 0) [])
  refine gob (fun _ k => XS.iinc X5.here hx rfl (hb hby d6_35) rfl (l' := (la2 o0 o1 (FP.dadd (0 : UInt64) (FP.dmul y_0 z_1)) 1)) rfl k) ?_
  show gO (tF T5 m 38 (la2 o0 o1 (FP.dadd (0 : UInt64) (FP.dmul y_0 z_1)) 1) [])
  refine gob (fun _ k => XS.goto X5.here hx rfl (pc0 := 38) (pc' := 5) rfl (hb hby d6_38) (by decide) (by decide) k) ?_
  show gO (tF T5 m 5 (la2 o0 o1 (FP.dadd (0 : UInt64) (FP.dmul y_0 z_1)) 1) [])
  refine gob (fun _ k => XS.iload X5.here hx rfl (hb hby d6_5) rfl k) ?_
  show gO (tF T5 m 7 (la2 o0 o1 (FP.dadd (0 : UInt64) (FP.dmul y_0 z_1)) 1) [(.int 1)])
  refine gob (fun _ k => XS.aloadN X5.here hx rfl (hb hby d6_7) rfl rfl k) ?_
  show gO (tF T5 m 8 (la2 o0 o1 (FP.dadd (0 : UInt64) (FP.dmul y_0 z_1)) 1) [(.ref o0), (.int 1)])
  obtain ⟨T10, X10, e10, st10⟩ := getF X5 hx hZ hown (host := "") (Or.inl (hW hw 23 rfl)) Via.refl e5 F_dofs (g := (mkF m 8 (la2 o0 o1 (FP.dadd (0 : UInt64) (FP.dmul y_0 z_1)) 1) [(.ref o0), (.int 1)])) rfl rfl (hb hby d6_8)
  refine gob st10 ?_
  show gO (tF T10 m 11 (la2 o0 o1 (FP.dadd (0 : UInt64) (FP.dmul y_0 z_1)) 1) [(.ref w_d), (.int 1)])
  obtain ⟨cl11, Ar11, aq11, S11, N11, H11, G11⟩ := id V_d
  refine gob (X10.arraylength hx (by rw [e10]; exact Ar11.1) (State.isArrayOf_alike hZ.alike Ar11.2.1) (g := (mkF m 11 (la2 o0 o1 (FP.dadd (0 : UInt64) (FP.dmul y_0 z_1)) 1) [(.ref w_d), (.int 1)])) rfl rfl (hb hby d6_11)) ?_
  rw [len_of S11 N11]
  show gO (tF T10 m 12 (la2 o0 o1 (FP.dadd (0 : UInt64) (FP.dmul y_0 z_1)) 1) [(.int 2), (.int 1)])
  refine gob (fun _ k => XS.icmpNo X10.here hx rfl (hb hby d6_12) rfl (tlt (by decide : (1 : Int32) < (2 : Int32))).2.1 k) ?_
  show gO (tF T10 m 15 (la2 o0 o1 (FP.dadd (0 : UInt64) (FP.dmul y_0 z_1)) 1) [])
  refine gob (fun _ k => XS.dloadN X10.here hx rfl (hb hby d6_15) rfl k) ?_
  show gO (tF T10 m 16 (la2 o0 o1 (FP.dadd (0 : UInt64) (FP.dmul y_0 z_1)) 1) [(.double (FP.dadd (0 : UInt64) (FP.dmul y_0 z_1)))])
  refine gob (fun _ k => XS.aloadN X10.here hx rfl (hb hby d6_16) rfl rfl k) ?_
  show gO (tF T10 m 17 (la2 o0 o1 (FP.dadd (0 : UInt64) (FP.dmul y_0 z_1)) 1) [(.ref o0), (.double (FP.dadd (0 : UInt64) (FP.dmul y_0 z_1)))])
  obtain ⟨T12, X12, e12, st12⟩ := getF X10 hx hZ hown (host := "") (Or.inl (hW hw 25 rfl)) Via.refl e10 F_weights (g := (mkF m 17 (la2 o0 o1 (FP.dadd (0 : UInt64) (FP.dmul y_0 z_1)) 1) [(.ref o0), (.double (FP.dadd (0 : UInt64) (FP.dmul y_0 z_1)))])) rfl rfl (hb hby d6_17)
  refine gob st12 ?_
  show gO (tF T12 m 20 (la2 o0 o1 (FP.dadd (0 : UInt64) (FP.dmul y_0 z_1)) 1) [(.ref w_w), (.double (FP.dadd (0 : UInt64) (FP.dmul y_0 z_1)))])
  refine gob (fun _ k => XS.iload X12.here hx rfl (hb hby d6_20) rfl k) ?_
  show gO (tF T12 m 22 (la2 o0 o1 (FP.dadd (0 : UInt64) (FP.dmul y_0 z_1)) 1) [(.int 1), (.ref w_w), (.double (FP.dadd (0 : UInt64) (FP.dmul y_0 z_1)))])
  obtain ⟨cl13, Ar13, aq13, S13, N13, H13, G13⟩ := id V_y
  have hin13 : ¬ ((1 : Int32) < 0 ∨ cl13.slots.size ≤ ((1 : Int32)).toNatClampNeg) := inb_of S13 ⟨by decide, by decide⟩
  refine gob (X12.daload hx (j := (1 : Int32)) (v := (.double y_1)) (by rw [e12]; exact Ar13.1) (State.isArrayOf_alike hZ.alike Ar13.2.1) Ar13.2.2 hin13 (Has.at H13 hin13 rfl) (g := (mkF m 22 (la2 o0 o1 (FP.dadd (0 : UInt64) (FP.dmul y_0 z_1)) 1) [(.int 1), (.ref w_w), (.double (FP.dadd (0 : UInt64) (FP.dmul y_0 z_1)))])) rfl rfl (hb hby d6_22)) ?_
  show gO (tF T12 m 23 (la2 o0 o1 (FP.dadd (0 : UInt64) (FP.dmul y_0 z_1)) 1) [(.double y_1), (.double (FP.dadd (0 : UInt64) (FP.dmul y_0 z_1)))])
  refine gob (fun _ k => XS.aloadN X12.here hx rfl (hb hby d6_23) rfl rfl k) ?_
  show gO (tF T12 m 24 (la2 o0 o1 (FP.dadd (0 : UInt64) (FP.dmul y_0 z_1)) 1) [(.ref o1), (.double y_1), (.double (FP.dadd (0 : UInt64) (FP.dmul y_0 z_1)))])
  refine gob (fun _ k => XS.aloadN X12.here hx rfl (hb hby d6_24) rfl rfl k) ?_
  show gO (tF T12 m 25 (la2 o0 o1 (FP.dadd (0 : UInt64) (FP.dmul y_0 z_1)) 1) [(.ref o0), (.ref o1), (.double y_1), (.double (FP.dadd (0 : UInt64) (FP.dmul y_0 z_1)))])
  obtain ⟨T14, X14, e14, st14⟩ := getF X12 hx hZ hown (host := "") (Or.inl (hW hw 23 rfl)) Via.refl e12 F_dofs (g := (mkF m 25 (la2 o0 o1 (FP.dadd (0 : UInt64) (FP.dmul y_0 z_1)) 1) [(.ref o0), (.ref o1), (.double y_1), (.double (FP.dadd (0 : UInt64) (FP.dmul y_0 z_1)))])) rfl rfl (hb hby d6_25)
  refine gob st14 ?_
  show gO (tF T14 m 28 (la2 o0 o1 (FP.dadd (0 : UInt64) (FP.dmul y_0 z_1)) 1) [(.ref w_d), (.ref o1), (.double y_1), (.double (FP.dadd (0 : UInt64) (FP.dmul y_0 z_1)))])
  refine gob (fun _ k => XS.iload X14.here hx rfl (hb hby d6_28) rfl k) ?_
  show gO (tF T14 m 30 (la2 o0 o1 (FP.dadd (0 : UInt64) (FP.dmul y_0 z_1)) 1) [(.int 1), (.ref w_d), (.ref o1), (.double y_1), (.double (FP.dadd (0 : UInt64) (FP.dmul y_0 z_1)))])
  obtain ⟨cl15, Ar15, aq15, S15, N15, H15, G15⟩ := id V_d
  have hin15 : ¬ ((1 : Int32) < 0 ∨ cl15.slots.size ≤ ((1 : Int32)).toNatClampNeg) := inb_of S15 ⟨by decide, by decide⟩
  refine gob (X14.iaload hx (j := (1 : Int32)) (v := (.int 2)) (by rw [e14]; exact Ar15.1) (State.isArrayOf_alike hZ.alike Ar15.2.1) Ar15.2.2 hin15 (Has.at H15 hin15 rfl) (g := (mkF m 30 (la2 o0 o1 (FP.dadd (0 : UInt64) (FP.dmul y_0 z_1)) 1) [(.int 1), (.ref w_d), (.ref o1), (.double y_1), (.double (FP.dadd (0 : UInt64) (FP.dmul y_0 z_1)))])) rfl rfl (hb hby d6_30)) ?_
  show gO (tF T14 m 31 (la2 o0 o1 (FP.dadd (0 : UInt64) (FP.dmul y_0 z_1)) 1) [(.int 2), (.ref o1), (.double y_1), (.double (FP.dadd (0 : UInt64) (FP.dmul y_0 z_1)))])
  obtain ⟨cl16, Ar16, aq16, S16, N16, H16, G16⟩ := id V_z
  have hin16 : ¬ ((2 : Int32) < 0 ∨ cl16.slots.size ≤ ((2 : Int32)).toNatClampNeg) := inb_of S16 ⟨by decide, by decide⟩
  refine gob (X14.daload hx (j := (2 : Int32)) (v := (.double z_2)) (by rw [e14]; exact Ar16.1) (State.isArrayOf_alike hZ.alike Ar16.2.1) Ar16.2.2 hin16 (Has.at H16 hin16 rfl) (g := (mkF m 31 (la2 o0 o1 (FP.dadd (0 : UInt64) (FP.dmul y_0 z_1)) 1) [(.int 2), (.ref o1), (.double y_1), (.double (FP.dadd (0 : UInt64) (FP.dmul y_0 z_1)))])) rfl rfl (hb hby d6_31)) ?_
  show gO (tF T14 m 32 (la2 o0 o1 (FP.dadd (0 : UInt64) (FP.dmul y_0 z_1)) 1) [(.double z_2), (.double y_1), (.double (FP.dadd (0 : UInt64) (FP.dmul y_0 z_1)))])
  have mg17 : Mag64 1090 (FP.dmul y_1 z_2) := own_dmul m_y_1 m_z_2 (by decide) (by decide) (by decide)
  refine gob (fun _ k => XS.dmulS X14.here hx rfl (hb hby d6_32) rfl (v := (FP.dmul y_1 z_2)) (mg17.fin (by decide)).noNaN rfl k) ?_
  show gO (tF T14 m 33 (la2 o0 o1 (FP.dadd (0 : UInt64) (FP.dmul y_0 z_1)) 1) [(.double (FP.dmul y_1 z_2)), (.double (FP.dadd (0 : UInt64) (FP.dmul y_0 z_1)))])
  have mg18 : Mag64 1094 (FP.dadd (FP.dadd (0 : UInt64) (FP.dmul y_0 z_1)) (FP.dmul y_1 z_2)) := own_dadd (K := 1092) (mg9.mono (by decide)) (mg17.mono (by decide)) (by decide) (by decide)
  refine gob (fun _ k => XS.daddS X14.here hx rfl (hb hby d6_33) rfl (v := (FP.dadd (FP.dadd (0 : UInt64) (FP.dmul y_0 z_1)) (FP.dmul y_1 z_2))) (mg18.fin (by decide)).noNaN rfl k) ?_
  show gO (tF T14 m 34 (la2 o0 o1 (FP.dadd (0 : UInt64) (FP.dmul y_0 z_1)) 1) [(.double (FP.dadd (FP.dadd (0 : UInt64) (FP.dmul y_0 z_1)) (FP.dmul y_1 z_2)))])
  refine gob (fun _ k => XS.dstoreN X14.here hx rfl (hb hby d6_34) rfl (l' := (la2 o0 o1 (FP.dadd (FP.dadd (0 : UInt64) (FP.dmul y_0 z_1)) (FP.dmul y_1 z_2)) 1)) rfl k) ?_
  show gO (tF T14 m 35 (la2 o0 o1 (FP.dadd (FP.dadd (0 : UInt64) (FP.dmul y_0 z_1)) (FP.dmul y_1 z_2)) 1) [])
  refine gob (fun _ k => XS.iinc X14.here hx rfl (hb hby d6_35) rfl (l' := (la2 o0 o1 (FP.dadd (FP.dadd (0 : UInt64) (FP.dmul y_0 z_1)) (FP.dmul y_1 z_2)) 2)) rfl k) ?_
  show gO (tF T14 m 38 (la2 o0 o1 (FP.dadd (FP.dadd (0 : UInt64) (FP.dmul y_0 z_1)) (FP.dmul y_1 z_2)) 2) [])
  refine gob (fun _ k => XS.goto X14.here hx rfl (pc0 := 38) (pc' := 5) rfl (hb hby d6_38) (by decide) (by decide) k) ?_
  show gO (tF T14 m 5 (la2 o0 o1 (FP.dadd (FP.dadd (0 : UInt64) (FP.dmul y_0 z_1)) (FP.dmul y_1 z_2)) 2) [])
  refine gob (fun _ k => XS.iload X14.here hx rfl (hb hby d6_5) rfl k) ?_
  show gO (tF T14 m 7 (la2 o0 o1 (FP.dadd (FP.dadd (0 : UInt64) (FP.dmul y_0 z_1)) (FP.dmul y_1 z_2)) 2) [(.int 2)])
  refine gob (fun _ k => XS.aloadN X14.here hx rfl (hb hby d6_7) rfl rfl k) ?_
  show gO (tF T14 m 8 (la2 o0 o1 (FP.dadd (FP.dadd (0 : UInt64) (FP.dmul y_0 z_1)) (FP.dmul y_1 z_2)) 2) [(.ref o0), (.int 2)])
  obtain ⟨T19, X19, e19, st19⟩ := getF X14 hx hZ hown (host := "") (Or.inl (hW hw 23 rfl)) Via.refl e14 F_dofs (g := (mkF m 8 (la2 o0 o1 (FP.dadd (FP.dadd (0 : UInt64) (FP.dmul y_0 z_1)) (FP.dmul y_1 z_2)) 2) [(.ref o0), (.int 2)])) rfl rfl (hb hby d6_8)
  refine gob st19 ?_
  show gO (tF T19 m 11 (la2 o0 o1 (FP.dadd (FP.dadd (0 : UInt64) (FP.dmul y_0 z_1)) (FP.dmul y_1 z_2)) 2) [(.ref w_d), (.int 2)])
  obtain ⟨cl20, Ar20, aq20, S20, N20, H20, G20⟩ := id V_d
  refine gob (X19.arraylength hx (by rw [e19]; exact Ar20.1) (State.isArrayOf_alike hZ.alike Ar20.2.1) (g := (mkF m 11 (la2 o0 o1 (FP.dadd (FP.dadd (0 : UInt64) (FP.dmul y_0 z_1)) (FP.dmul y_1 z_2)) 2) [(.ref w_d), (.int 2)])) rfl rfl (hb hby d6_11)) ?_
  rw [len_of S20 N20]
  show gO (tF T19 m 12 (la2 o0 o1 (FP.dadd (FP.dadd (0 : UInt64) (FP.dmul y_0 z_1)) (FP.dmul y_1 z_2)) 2) [(.int 2), (.int 2)])
  refine gob (fun _ k => XS.icmpYes X19.here hx rfl (pc0 := 12) (pc' := 41) rfl (hb hby d6_12) rfl (flt (by decide : ¬ ((2 : Int32) < (2 : Int32)))).2.1 (by decide) (by decide) k) ?_
  show gO (tF T19 m 41 (la2 o0 o1 (FP.dadd (FP.dadd (0 : UInt64) (FP.dmul y_0 z_1)) (FP.dmul y_1 z_2)) 2) [])
  refine gob (fun _ k => XS.dloadN X19.here hx rfl (hb hby d6_41) rfl k) ?_
  show gO (tF T19 m 42 (la2 o0 o1 (FP.dadd (FP.dadd (0 : UInt64) (FP.dmul y_0 z_1)) (FP.dmul y_1 z_2)) 2) [(.double (FP.dadd (FP.dadd (0 : UInt64) (FP.dmul y_0 z_1)) (FP.dmul y_1 z_2)))])
  refine goD X19 hx hlk Bd.returns (hb hby d6_42) ?_ (by decide) (by decide)
  show Qof_12 Z o0 o1 w_d w_w k_d k_y y_0 y_1 k_z z_0 z_1 z_2 z_3 h0 n0 (some (.double (FP.dadd (FP.dadd (0 : UInt64) (FP.dmul y_0 z_1)) (FP.dmul y_1 z_2)))) T19.heap _
  exact ⟨(FP.dadd (FP.dadd (0 : UInt64) (FP.dmul y_0 z_1)) (FP.dmul y_1 z_2)), rfl, rfl, N0, e19⟩
theorem ef_of_012 (m : MethodId) (x0 : Addr) (x1 : Addr) : entryFrame m #[(.ref x0), (.ref x1)] 5 = mkF m 0 #[.val (.ref x0), .val (.ref x1), .unset, .unset, .unset] [] := by first | (simp [entryFrame, mkF, argsToLocals, Value.category]; done) | rfl
def Qof_012 (Z : State) (o0 : Addr) (o1 : Addr) (w_d : Addr) (w_w : Addr) (k_d : ClassId) (k_y : ClassId) (y_0 : UInt64) (y_1 : UInt64) (y_2 : UInt64) (k_z : ClassId) (z_0 : UInt64) (z_1 : UInt64) (z_2 : UInt64) (z_3 : UInt64) (h0 : Heap) (n0 : Nat) (v : Option Value) (h : Heap) (L : List Loc) : Prop := ∃ r : UInt64, v = some (.double r) ∧ ((r = (FP.dadd (FP.dadd (FP.dadd (0 : UInt64) (FP.dmul y_0 z_0)) (FP.dmul y_1 z_1)) (FP.dmul y_2 z_2)))) ∧ Fr n0 L ∧ h = h0
set_option maxRecDepth 65536 in
set_option maxHeartbeats 40000000 in
theorem rmof_012 (l : Launch) (Z : State) (a0 : Array Value) (hw : ∀ d ∈ tables_1, d.before a0 Z = true) (ws : List Jvm.Cond) (o0 : Addr) (o1 : Addr) (w_d : Addr) (w_w : Addr) (k_d : ClassId) (k_y : ClassId) (y_0 : UInt64) (y_1 : UInt64) (y_2 : UInt64) (k_z : ClassId) (z_0 : UInt64) (z_1 : UInt64) (z_2 : UInt64) (z_3 : UInt64) (h0 : Heap) (n0 : Nat) (Z0 : n0 ≤ h0.size) (F_dofs : Fld Z h0 o0 "com/example/fenda/fenda/analysis/Combination" "dofs" "[I" (.ref w_d)) (F_weights : Fld Z h0 o0 "com/example/fenda/fenda/analysis/Combination" "weights" "[D" (.ref w_w)) (V_d : Arv Z h0 w_d k_d .int (3 : Int32) [(.int 0), (.int 1), (.int 2)] (.int 0)) (m_y_0 : Mag64 1056 y_0) (m_y_1 : Mag64 1056 y_1) (m_y_2 : Mag64 1056 y_2) (V_y : Arv Z h0 w_w k_y .double (3 : Int32) [(.double y_0), (.double y_1), (.double y_2)] (.double 0)) (m_z_0 : Mag64 1056 z_0) (m_z_1 : Mag64 1056 z_1) (m_z_2 : Mag64 1056 z_2) (m_z_3 : Mag64 1056 z_3) (V_z : Arv Z h0 o1 k_z .double (4 : Int32) [(.double z_0), (.double z_1), (.double z_2), (.double z_3)] (.double 0)) :
    MetFree l (⟨"com/example/fenda/fenda/analysis/Combination", "of", "([D)D"⟩ : MethodName) (head1 (Jvm.Cond.code (⟨"com/example/fenda/fenda/analysis/Combination", "of", "([D)D"⟩ : MethodName) prog_3_method_2_code 5 (some .double) :: ws) ({ frames := 0, cells := 0, slots := 0, locals := 0 } : Room)) (fun a U => a = #[(.ref o0), (.ref o1)] ∧ Z.Warmed39 U.vm ∧ U.heap = h0) (fun _ _ _ _ _ => True) (fun _ U o U' => ∃ v L, o = .returned v ∧ Qof_012 Z o0 o1 w_d w_w k_d k_y y_0 y_1 y_2 k_z z_0 z_1 z_2 z_3 h0 n0 v U'.heap L ∧ FrameEnd U o U' L ({ frames := 0, cells := 0, slots := 0, locals := 0 } : Room).cells ({ frames := 0, cells := 0, slots := 0, locals := 0 } : Room).slots) := by
  refine MetFree.of_bodySF (plainFor_of_name (by first | (simp [plainName, overriddenIn]; done) | decide +kernel)) hisR ?_
  intro p e s m args below meth c s₁ Bd hml0 hP hK
  obtain ⟨rfl, hZ, hh⟩ := hP
  have hx := Bd.exec
  have hby := Bd.bytes
  have hml : c.maxLocals = 5 := hml0
  have hown : s.vm.findClass "com/example/fenda/fenda/analysis/Combination" = some m.cls := findClass_of_methodNamed Bd.named
  have hnm := (name_of_methodNamed Bd.named Bd.method).1
  have hlk := BodyLoose.notSynchronized Bd
  have X0 : Stand p l e ({ frames := 0, cells := 0, slots := 0, locals := 0 } : Room) s m #[(.ref o0), (.ref o1)] below meth c s₁ [] 0 0 := Stand.of_body Bd
  have e0 : s₁.heap = h0 := by rw [← hh, Bd.state]; rfl
  have N0 := Fr.nil n0
  show Go p e below s (Qof_012 Z o0 o1 w_d w_w k_d k_y y_0 y_1 y_2 k_z z_0 z_1 z_2 z_3 h0 n0) 0 0 (s₁.setTop (entryFrame m #[(.ref o0), (.ref o1)] 5))
  rw [ef_of_012]
  show gO (tF s₁ m 0 (la0 o0 o1) [])
  refine gob (fun _ k => XS.dconst0 X0.here hx rfl (hb hby d6_0) (v := (0 : UInt64)) (by decide +kernel) k) ?_
  show gO (tF s₁ m 1 (la0 o0 o1) [(.double (0 : UInt64))])
  refine gob (fun _ k => XS.dstoreN X0.here hx rfl (hb hby d6_1) rfl (l' := (la1 o0 o1 (0 : UInt64))) rfl k) ?_
  show gO (tF s₁ m 2 (la1 o0 o1 (0 : UInt64)) [])
  refine gob (fun _ k => XS.iconst X0.here hx rfl (hb hby d6_2) k) ?_
  show gO (tF s₁ m 3 (la1 o0 o1 (0 : UInt64)) [(.int 0)])
  refine gob (fun _ k => XS.istore X0.here hx rfl (hb hby d6_3) rfl (l' := (la2 o0 o1 (0 : UInt64) 0)) rfl k) ?_
  show gO (tF s₁ m 5 (la2 o0 o1 (0 : UInt64) 0) [])
  refine gob (fun _ k => XS.iload X0.here hx rfl (hb hby d6_5) rfl k) ?_
  show gO (tF s₁ m 7 (la2 o0 o1 (0 : UInt64) 0) [(.int 0)])
  refine gob (fun _ k => XS.aloadN X0.here hx rfl (hb hby d6_7) rfl rfl k) ?_
  show gO (tF s₁ m 8 (la2 o0 o1 (0 : UInt64) 0) [(.ref o0), (.int 0)])
  obtain ⟨T1, X1, e1, st1⟩ := getF X0 hx hZ hown (host := "") (Or.inl (hW hw 23 rfl)) Via.refl e0 F_dofs (g := (mkF m 8 (la2 o0 o1 (0 : UInt64) 0) [(.ref o0), (.int 0)])) rfl rfl (hb hby d6_8)
  refine gob st1 ?_
  show gO (tF T1 m 11 (la2 o0 o1 (0 : UInt64) 0) [(.ref w_d), (.int 0)])
  obtain ⟨cl2, Ar2, aq2, S2, N2, H2, G2⟩ := id V_d
  refine gob (X1.arraylength hx (by rw [e1]; exact Ar2.1) (State.isArrayOf_alike hZ.alike Ar2.2.1) (g := (mkF m 11 (la2 o0 o1 (0 : UInt64) 0) [(.ref w_d), (.int 0)])) rfl rfl (hb hby d6_11)) ?_
  rw [len_of S2 N2]
  show gO (tF T1 m 12 (la2 o0 o1 (0 : UInt64) 0) [(.int 3), (.int 0)])
  refine gob (fun _ k => XS.icmpNo X1.here hx rfl (hb hby d6_12) rfl (tlt (by decide : (0 : Int32) < (3 : Int32))).2.1 k) ?_
  show gO (tF T1 m 15 (la2 o0 o1 (0 : UInt64) 0) [])
  refine gob (fun _ k => XS.dloadN X1.here hx rfl (hb hby d6_15) rfl k) ?_
  show gO (tF T1 m 16 (la2 o0 o1 (0 : UInt64) 0) [(.double (0 : UInt64))])
  refine gob (fun _ k => XS.aloadN X1.here hx rfl (hb hby d6_16) rfl rfl k) ?_
  show gO (tF T1 m 17 (la2 o0 o1 (0 : UInt64) 0) [(.ref o0), (.double (0 : UInt64))])
  obtain ⟨T3, X3, e3, st3⟩ := getF X1 hx hZ hown (host := "") (Or.inl (hW hw 25 rfl)) Via.refl e1 F_weights (g := (mkF m 17 (la2 o0 o1 (0 : UInt64) 0) [(.ref o0), (.double (0 : UInt64))])) rfl rfl (hb hby d6_17)
  refine gob st3 ?_
  show gO (tF T3 m 20 (la2 o0 o1 (0 : UInt64) 0) [(.ref w_w), (.double (0 : UInt64))])
  refine gob (fun _ k => XS.iload X3.here hx rfl (hb hby d6_20) rfl k) ?_
  show gO (tF T3 m 22 (la2 o0 o1 (0 : UInt64) 0) [(.int 0), (.ref w_w), (.double (0 : UInt64))])
  obtain ⟨cl4, Ar4, aq4, S4, N4, H4, G4⟩ := id V_y
  have hin4 : ¬ ((0 : Int32) < 0 ∨ cl4.slots.size ≤ ((0 : Int32)).toNatClampNeg) := inb_of S4 ⟨by decide, by decide⟩
  refine gob (X3.daload hx (j := (0 : Int32)) (v := (.double y_0)) (by rw [e3]; exact Ar4.1) (State.isArrayOf_alike hZ.alike Ar4.2.1) Ar4.2.2 hin4 (Has.at H4 hin4 rfl) (g := (mkF m 22 (la2 o0 o1 (0 : UInt64) 0) [(.int 0), (.ref w_w), (.double (0 : UInt64))])) rfl rfl (hb hby d6_22)) ?_
  show gO (tF T3 m 23 (la2 o0 o1 (0 : UInt64) 0) [(.double y_0), (.double (0 : UInt64))])
  refine gob (fun _ k => XS.aloadN X3.here hx rfl (hb hby d6_23) rfl rfl k) ?_
  show gO (tF T3 m 24 (la2 o0 o1 (0 : UInt64) 0) [(.ref o1), (.double y_0), (.double (0 : UInt64))])
  refine gob (fun _ k => XS.aloadN X3.here hx rfl (hb hby d6_24) rfl rfl k) ?_
  show gO (tF T3 m 25 (la2 o0 o1 (0 : UInt64) 0) [(.ref o0), (.ref o1), (.double y_0), (.double (0 : UInt64))])
  obtain ⟨T5, X5, e5, st5⟩ := getF X3 hx hZ hown (host := "") (Or.inl (hW hw 23 rfl)) Via.refl e3 F_dofs (g := (mkF m 25 (la2 o0 o1 (0 : UInt64) 0) [(.ref o0), (.ref o1), (.double y_0), (.double (0 : UInt64))])) rfl rfl (hb hby d6_25)
  refine gob st5 ?_
  show gO (tF T5 m 28 (la2 o0 o1 (0 : UInt64) 0) [(.ref w_d), (.ref o1), (.double y_0), (.double (0 : UInt64))])
  refine gob (fun _ k => XS.iload X5.here hx rfl (hb hby d6_28) rfl k) ?_
  show gO (tF T5 m 30 (la2 o0 o1 (0 : UInt64) 0) [(.int 0), (.ref w_d), (.ref o1), (.double y_0), (.double (0 : UInt64))])
  obtain ⟨cl6, Ar6, aq6, S6, N6, H6, G6⟩ := id V_d
  have hin6 : ¬ ((0 : Int32) < 0 ∨ cl6.slots.size ≤ ((0 : Int32)).toNatClampNeg) := inb_of S6 ⟨by decide, by decide⟩
  refine gob (X5.iaload hx (j := (0 : Int32)) (v := (.int 0)) (by rw [e5]; exact Ar6.1) (State.isArrayOf_alike hZ.alike Ar6.2.1) Ar6.2.2 hin6 (Has.at H6 hin6 rfl) (g := (mkF m 30 (la2 o0 o1 (0 : UInt64) 0) [(.int 0), (.ref w_d), (.ref o1), (.double y_0), (.double (0 : UInt64))])) rfl rfl (hb hby d6_30)) ?_
  show gO (tF T5 m 31 (la2 o0 o1 (0 : UInt64) 0) [(.int 0), (.ref o1), (.double y_0), (.double (0 : UInt64))])
  obtain ⟨cl7, Ar7, aq7, S7, N7, H7, G7⟩ := id V_z
  have hin7 : ¬ ((0 : Int32) < 0 ∨ cl7.slots.size ≤ ((0 : Int32)).toNatClampNeg) := inb_of S7 ⟨by decide, by decide⟩
  refine gob (X5.daload hx (j := (0 : Int32)) (v := (.double z_0)) (by rw [e5]; exact Ar7.1) (State.isArrayOf_alike hZ.alike Ar7.2.1) Ar7.2.2 hin7 (Has.at H7 hin7 rfl) (g := (mkF m 31 (la2 o0 o1 (0 : UInt64) 0) [(.int 0), (.ref o1), (.double y_0), (.double (0 : UInt64))])) rfl rfl (hb hby d6_31)) ?_
  show gO (tF T5 m 32 (la2 o0 o1 (0 : UInt64) 0) [(.double z_0), (.double y_0), (.double (0 : UInt64))])
  have mg8 : Mag64 1090 (FP.dmul y_0 z_0) := own_dmul m_y_0 m_z_0 (by decide) (by decide) (by decide)
  refine gob (fun _ k => XS.dmulS X5.here hx rfl (hb hby d6_32) rfl (v := (FP.dmul y_0 z_0)) (mg8.fin (by decide)).noNaN rfl k) ?_
  show gO (tF T5 m 33 (la2 o0 o1 (0 : UInt64) 0) [(.double (FP.dmul y_0 z_0)), (.double (0 : UInt64))])
  have mg9 : Mag64 1092 (FP.dadd (0 : UInt64) (FP.dmul y_0 z_0)) := own_dadd (K := 1090) (own_m0.mono (by decide)) (mg8.mono (by decide)) (by decide) (by decide)
  refine gob (fun _ k => XS.daddS X5.here hx rfl (hb hby d6_33) rfl (v := (FP.dadd (0 : UInt64) (FP.dmul y_0 z_0))) (mg9.fin (by decide)).noNaN rfl k) ?_
  show gO (tF T5 m 34 (la2 o0 o1 (0 : UInt64) 0) [(.double (FP.dadd (0 : UInt64) (FP.dmul y_0 z_0)))])
  refine gob (fun _ k => XS.dstoreN X5.here hx rfl (hb hby d6_34) rfl (l' := (la2 o0 o1 (FP.dadd (0 : UInt64) (FP.dmul y_0 z_0)) 0)) rfl k) ?_
  show gO (tF T5 m 35 (la2 o0 o1 (FP.dadd (0 : UInt64) (FP.dmul y_0 z_0)) 0) [])
  refine gob (fun _ k => XS.iinc X5.here hx rfl (hb hby d6_35) rfl (l' := (la2 o0 o1 (FP.dadd (0 : UInt64) (FP.dmul y_0 z_0)) 1)) rfl k) ?_
  show gO (tF T5 m 38 (la2 o0 o1 (FP.dadd (0 : UInt64) (FP.dmul y_0 z_0)) 1) [])
  refine gob (fun _ k => XS.goto X5.here hx rfl (pc0 := 38) (pc' := 5) rfl (hb hby d6_38) (by decide) (by decide) k) ?_
  show gO (tF T5 m 5 (la2 o0 o1 (FP.dadd (0 : UInt64) (FP.dmul y_0 z_0)) 1) [])
  refine gob (fun _ k => XS.iload X5.here hx rfl (hb hby d6_5) rfl k) ?_
  show gO (tF T5 m 7 (la2 o0 o1 (FP.dadd (0 : UInt64) (FP.dmul y_0 z_0)) 1) [(.int 1)])
  refine gob (fun _ k => XS.aloadN X5.here hx rfl (hb hby d6_7) rfl rfl k) ?_
  show gO (tF T5 m 8 (la2 o0 o1 (FP.dadd (0 : UInt64) (FP.dmul y_0 z_0)) 1) [(.ref o0), (.int 1)])
  obtain ⟨T10, X10, e10, st10⟩ := getF X5 hx hZ hown (host := "") (Or.inl (hW hw 23 rfl)) Via.refl e5 F_dofs (g := (mkF m 8 (la2 o0 o1 (FP.dadd (0 : UInt64) (FP.dmul y_0 z_0)) 1) [(.ref o0), (.int 1)])) rfl rfl (hb hby d6_8)
  refine gob st10 ?_
  show gO (tF T10 m 11 (la2 o0 o1 (FP.dadd (0 : UInt64) (FP.dmul y_0 z_0)) 1) [(.ref w_d), (.int 1)])
  obtain ⟨cl11, Ar11, aq11, S11, N11, H11, G11⟩ := id V_d
  refine gob (X10.arraylength hx (by rw [e10]; exact Ar11.1) (State.isArrayOf_alike hZ.alike Ar11.2.1) (g := (mkF m 11 (la2 o0 o1 (FP.dadd (0 : UInt64) (FP.dmul y_0 z_0)) 1) [(.ref w_d), (.int 1)])) rfl rfl (hb hby d6_11)) ?_
  rw [len_of S11 N11]
  show gO (tF T10 m 12 (la2 o0 o1 (FP.dadd (0 : UInt64) (FP.dmul y_0 z_0)) 1) [(.int 3), (.int 1)])
  refine gob (fun _ k => XS.icmpNo X10.here hx rfl (hb hby d6_12) rfl (tlt (by decide : (1 : Int32) < (3 : Int32))).2.1 k) ?_
  show gO (tF T10 m 15 (la2 o0 o1 (FP.dadd (0 : UInt64) (FP.dmul y_0 z_0)) 1) [])
  refine gob (fun _ k => XS.dloadN X10.here hx rfl (hb hby d6_15) rfl k) ?_
  show gO (tF T10 m 16 (la2 o0 o1 (FP.dadd (0 : UInt64) (FP.dmul y_0 z_0)) 1) [(.double (FP.dadd (0 : UInt64) (FP.dmul y_0 z_0)))])
  refine gob (fun _ k => XS.aloadN X10.here hx rfl (hb hby d6_16) rfl rfl k) ?_
  show gO (tF T10 m 17 (la2 o0 o1 (FP.dadd (0 : UInt64) (FP.dmul y_0 z_0)) 1) [(.ref o0), (.double (FP.dadd (0 : UInt64) (FP.dmul y_0 z_0)))])
  obtain ⟨T12, X12, e12, st12⟩ := getF X10 hx hZ hown (host := "") (Or.inl (hW hw 25 rfl)) Via.refl e10 F_weights (g := (mkF m 17 (la2 o0 o1 (FP.dadd (0 : UInt64) (FP.dmul y_0 z_0)) 1) [(.ref o0), (.double (FP.dadd (0 : UInt64) (FP.dmul y_0 z_0)))])) rfl rfl (hb hby d6_17)
  refine gob st12 ?_
  show gO (tF T12 m 20 (la2 o0 o1 (FP.dadd (0 : UInt64) (FP.dmul y_0 z_0)) 1) [(.ref w_w), (.double (FP.dadd (0 : UInt64) (FP.dmul y_0 z_0)))])
  refine gob (fun _ k => XS.iload X12.here hx rfl (hb hby d6_20) rfl k) ?_
  show gO (tF T12 m 22 (la2 o0 o1 (FP.dadd (0 : UInt64) (FP.dmul y_0 z_0)) 1) [(.int 1), (.ref w_w), (.double (FP.dadd (0 : UInt64) (FP.dmul y_0 z_0)))])
  obtain ⟨cl13, Ar13, aq13, S13, N13, H13, G13⟩ := id V_y
  have hin13 : ¬ ((1 : Int32) < 0 ∨ cl13.slots.size ≤ ((1 : Int32)).toNatClampNeg) := inb_of S13 ⟨by decide, by decide⟩
  refine gob (X12.daload hx (j := (1 : Int32)) (v := (.double y_1)) (by rw [e12]; exact Ar13.1) (State.isArrayOf_alike hZ.alike Ar13.2.1) Ar13.2.2 hin13 (Has.at H13 hin13 rfl) (g := (mkF m 22 (la2 o0 o1 (FP.dadd (0 : UInt64) (FP.dmul y_0 z_0)) 1) [(.int 1), (.ref w_w), (.double (FP.dadd (0 : UInt64) (FP.dmul y_0 z_0)))])) rfl rfl (hb hby d6_22)) ?_
  show gO (tF T12 m 23 (la2 o0 o1 (FP.dadd (0 : UInt64) (FP.dmul y_0 z_0)) 1) [(.double y_1), (.double (FP.dadd (0 : UInt64) (FP.dmul y_0 z_0)))])
  refine gob (fun _ k => XS.aloadN X12.here hx rfl (hb hby d6_23) rfl rfl k) ?_
  show gO (tF T12 m 24 (la2 o0 o1 (FP.dadd (0 : UInt64) (FP.dmul y_0 z_0)) 1) [(.ref o1), (.double y_1), (.double (FP.dadd (0 : UInt64) (FP.dmul y_0 z_0)))])
  refine gob (fun _ k => XS.aloadN X12.here hx rfl (hb hby d6_24) rfl rfl k) ?_
  show gO (tF T12 m 25 (la2 o0 o1 (FP.dadd (0 : UInt64) (FP.dmul y_0 z_0)) 1) [(.ref o0), (.ref o1), (.double y_1), (.double (FP.dadd (0 : UInt64) (FP.dmul y_0 z_0)))])
  obtain ⟨T14, X14, e14, st14⟩ := getF X12 hx hZ hown (host := "") (Or.inl (hW hw 23 rfl)) Via.refl e12 F_dofs (g := (mkF m 25 (la2 o0 o1 (FP.dadd (0 : UInt64) (FP.dmul y_0 z_0)) 1) [(.ref o0), (.ref o1), (.double y_1), (.double (FP.dadd (0 : UInt64) (FP.dmul y_0 z_0)))])) rfl rfl (hb hby d6_25)
  refine gob st14 ?_
  show gO (tF T14 m 28 (la2 o0 o1 (FP.dadd (0 : UInt64) (FP.dmul y_0 z_0)) 1) [(.ref w_d), (.ref o1), (.double y_1), (.double (FP.dadd (0 : UInt64) (FP.dmul y_0 z_0)))])
  refine gob (fun _ k => XS.iload X14.here hx rfl (hb hby d6_28) rfl k) ?_
  show gO (tF T14 m 30 (la2 o0 o1 (FP.dadd (0 : UInt64) (FP.dmul y_0 z_0)) 1) [(.int 1), (.ref w_d), (.ref o1), (.double y_1), (.double (FP.dadd (0 : UInt64) (FP.dmul y_0 z_0)))])
  obtain ⟨cl15, Ar15, aq15, S15, N15, H15, G15⟩ := id V_d
  have hin15 : ¬ ((1 : Int32) < 0 ∨ cl15.slots.size ≤ ((1 : Int32)).toNatClampNeg) := inb_of S15 ⟨by decide, by decide⟩
  refine gob (X14.iaload hx (j := (1 : Int32)) (v := (.int 1)) (by rw [e14]; exact Ar15.1) (State.isArrayOf_alike hZ.alike Ar15.2.1) Ar15.2.2 hin15 (Has.at H15 hin15 rfl) (g := (mkF m 30 (la2 o0 o1 (FP.dadd (0 : UInt64) (FP.dmul y_0 z_0)) 1) [(.int 1), (.ref w_d), (.ref o1), (.double y_1), (.double (FP.dadd (0 : UInt64) (FP.dmul y_0 z_0)))])) rfl rfl (hb hby d6_30)) ?_
  show gO (tF T14 m 31 (la2 o0 o1 (FP.dadd (0 : UInt64) (FP.dmul y_0 z_0)) 1) [(.int 1), (.ref o1), (.double y_1), (.double (FP.dadd (0 : UInt64) (FP.dmul y_0 z_0)))])
  obtain ⟨cl16, Ar16, aq16, S16, N16, H16, G16⟩ := id V_z
  have hin16 : ¬ ((1 : Int32) < 0 ∨ cl16.slots.size ≤ ((1 : Int32)).toNatClampNeg) := inb_of S16 ⟨by decide, by decide⟩
  refine gob (X14.daload hx (j := (1 : Int32)) (v := (.double z_1)) (by rw [e14]; exact Ar16.1) (State.isArrayOf_alike hZ.alike Ar16.2.1) Ar16.2.2 hin16 (Has.at H16 hin16 rfl) (g := (mkF m 31 (la2 o0 o1 (FP.dadd (0 : UInt64) (FP.dmul y_0 z_0)) 1) [(.int 1), (.ref o1), (.double y_1), (.double (FP.dadd (0 : UInt64) (FP.dmul y_0 z_0)))])) rfl rfl (hb hby d6_31)) ?_
  show gO (tF T14 m 32 (la2 o0 o1 (FP.dadd (0 : UInt64) (FP.dmul y_0 z_0)) 1) [(.double z_1), (.double y_1), (.double (FP.dadd (0 : UInt64) (FP.dmul y_0 z_0)))])
  have mg17 : Mag64 1090 (FP.dmul y_1 z_1) := own_dmul m_y_1 m_z_1 (by decide) (by decide) (by decide)
  refine gob (fun _ k => XS.dmulS X14.here hx rfl (hb hby d6_32) rfl (v := (FP.dmul y_1 z_1)) (mg17.fin (by decide)).noNaN rfl k) ?_
  show gO (tF T14 m 33 (la2 o0 o1 (FP.dadd (0 : UInt64) (FP.dmul y_0 z_0)) 1) [(.double (FP.dmul y_1 z_1)), (.double (FP.dadd (0 : UInt64) (FP.dmul y_0 z_0)))])
  have mg18 : Mag64 1094 (FP.dadd (FP.dadd (0 : UInt64) (FP.dmul y_0 z_0)) (FP.dmul y_1 z_1)) := own_dadd (K := 1092) (mg9.mono (by decide)) (mg17.mono (by decide)) (by decide) (by decide)
  refine gob (fun _ k => XS.daddS X14.here hx rfl (hb hby d6_33) rfl (v := (FP.dadd (FP.dadd (0 : UInt64) (FP.dmul y_0 z_0)) (FP.dmul y_1 z_1))) (mg18.fin (by decide)).noNaN rfl k) ?_
  show gO (tF T14 m 34 (la2 o0 o1 (FP.dadd (0 : UInt64) (FP.dmul y_0 z_0)) 1) [(.double (FP.dadd (FP.dadd (0 : UInt64) (FP.dmul y_0 z_0)) (FP.dmul y_1 z_1)))])
  refine gob (fun _ k => XS.dstoreN X14.here hx rfl (hb hby d6_34) rfl (l' := (la2 o0 o1 (FP.dadd (FP.dadd (0 : UInt64) (FP.dmul y_0 z_0)) (FP.dmul y_1 z_1)) 1)) rfl k) ?_
  show gO (tF T14 m 35 (la2 o0 o1 (FP.dadd (FP.dadd (0 : UInt64) (FP.dmul y_0 z_0)) (FP.dmul y_1 z_1)) 1) [])
  refine gob (fun _ k => XS.iinc X14.here hx rfl (hb hby d6_35) rfl (l' := (la2 o0 o1 (FP.dadd (FP.dadd (0 : UInt64) (FP.dmul y_0 z_0)) (FP.dmul y_1 z_1)) 2)) rfl k) ?_
  show gO (tF T14 m 38 (la2 o0 o1 (FP.dadd (FP.dadd (0 : UInt64) (FP.dmul y_0 z_0)) (FP.dmul y_1 z_1)) 2) [])
  refine gob (fun _ k => XS.goto X14.here hx rfl (pc0 := 38) (pc' := 5) rfl (hb hby d6_38) (by decide) (by decide) k) ?_
  show gO (tF T14 m 5 (la2 o0 o1 (FP.dadd (FP.dadd (0 : UInt64) (FP.dmul y_0 z_0)) (FP.dmul y_1 z_1)) 2) [])
  refine gob (fun _ k => XS.iload X14.here hx rfl (hb hby d6_5) rfl k) ?_
  show gO (tF T14 m 7 (la2 o0 o1 (FP.dadd (FP.dadd (0 : UInt64) (FP.dmul y_0 z_0)) (FP.dmul y_1 z_1)) 2) [(.int 2)])
  refine gob (fun _ k => XS.aloadN X14.here hx rfl (hb hby d6_7) rfl rfl k) ?_
  show gO (tF T14 m 8 (la2 o0 o1 (FP.dadd (FP.dadd (0 : UInt64) (FP.dmul y_0 z_0)) (FP.dmul y_1 z_1)) 2) [(.ref o0), (.int 2)])
  obtain ⟨T19, X19, e19, st19⟩ := getF X14 hx hZ hown (host := "") (Or.inl (hW hw 23 rfl)) Via.refl e14 F_dofs (g := (mkF m 8 (la2 o0 o1 (FP.dadd (FP.dadd (0 : UInt64) (FP.dmul y_0 z_0)) (FP.dmul y_1 z_1)) 2) [(.ref o0), (.int 2)])) rfl rfl (hb hby d6_8)
  refine gob st19 ?_
  show gO (tF T19 m 11 (la2 o0 o1 (FP.dadd (FP.dadd (0 : UInt64) (FP.dmul y_0 z_0)) (FP.dmul y_1 z_1)) 2) [(.ref w_d), (.int 2)])
  obtain ⟨cl20, Ar20, aq20, S20, N20, H20, G20⟩ := id V_d
  refine gob (X19.arraylength hx (by rw [e19]; exact Ar20.1) (State.isArrayOf_alike hZ.alike Ar20.2.1) (g := (mkF m 11 (la2 o0 o1 (FP.dadd (FP.dadd (0 : UInt64) (FP.dmul y_0 z_0)) (FP.dmul y_1 z_1)) 2) [(.ref w_d), (.int 2)])) rfl rfl (hb hby d6_11)) ?_
  rw [len_of S20 N20]
  show gO (tF T19 m 12 (la2 o0 o1 (FP.dadd (FP.dadd (0 : UInt64) (FP.dmul y_0 z_0)) (FP.dmul y_1 z_1)) 2) [(.int 3), (.int 2)])
  refine gob (fun _ k => XS.icmpNo X19.here hx rfl (hb hby d6_12) rfl (tlt (by decide : (2 : Int32) < (3 : Int32))).2.1 k) ?_
  show gO (tF T19 m 15 (la2 o0 o1 (FP.dadd (FP.dadd (0 : UInt64) (FP.dmul y_0 z_0)) (FP.dmul y_1 z_1)) 2) [])
  refine gob (fun _ k => XS.dloadN X19.here hx rfl (hb hby d6_15) rfl k) ?_
  show gO (tF T19 m 16 (la2 o0 o1 (FP.dadd (FP.dadd (0 : UInt64) (FP.dmul y_0 z_0)) (FP.dmul y_1 z_1)) 2) [(.double (FP.dadd (FP.dadd (0 : UInt64) (FP.dmul y_0 z_0)) (FP.dmul y_1 z_1)))])
  refine gob (fun _ k => XS.aloadN X19.here hx rfl (hb hby d6_16) rfl rfl k) ?_
  show gO (tF T19 m 17 (la2 o0 o1 (FP.dadd (FP.dadd (0 : UInt64) (FP.dmul y_0 z_0)) (FP.dmul y_1 z_1)) 2) [(.ref o0), (.double (FP.dadd (FP.dadd (0 : UInt64) (FP.dmul y_0 z_0)) (FP.dmul y_1 z_1)))])
  obtain ⟨T21, X21, e21, st21⟩ := getF X19 hx hZ hown (host := "") (Or.inl (hW hw 25 rfl)) Via.refl e19 F_weights (g := (mkF m 17 (la2 o0 o1 (FP.dadd (FP.dadd (0 : UInt64) (FP.dmul y_0 z_0)) (FP.dmul y_1 z_1)) 2) [(.ref o0), (.double (FP.dadd (FP.dadd (0 : UInt64) (FP.dmul y_0 z_0)) (FP.dmul y_1 z_1)))])) rfl rfl (hb hby d6_17)
  refine gob st21 ?_
  show gO (tF T21 m 20 (la2 o0 o1 (FP.dadd (FP.dadd (0 : UInt64) (FP.dmul y_0 z_0)) (FP.dmul y_1 z_1)) 2) [(.ref w_w), (.double (FP.dadd (FP.dadd (0 : UInt64) (FP.dmul y_0 z_0)) (FP.dmul y_1 z_1)))])
  refine gob (fun _ k => XS.iload X21.here hx rfl (hb hby d6_20) rfl k) ?_
  show gO (tF T21 m 22 (la2 o0 o1 (FP.dadd (FP.dadd (0 : UInt64) (FP.dmul y_0 z_0)) (FP.dmul y_1 z_1)) 2) [(.int 2), (.ref w_w), (.double (FP.dadd (FP.dadd (0 : UInt64) (FP.dmul y_0 z_0)) (FP.dmul y_1 z_1)))])
  obtain ⟨cl22, Ar22, aq22, S22, N22, H22, G22⟩ := id V_y
  have hin22 : ¬ ((2 : Int32) < 0 ∨ cl22.slots.size ≤ ((2 : Int32)).toNatClampNeg) := inb_of S22 ⟨by decide, by decide⟩
  refine gob (X21.daload hx (j := (2 : Int32)) (v := (.double y_2)) (by rw [e21]; exact Ar22.1) (State.isArrayOf_alike hZ.alike Ar22.2.1) Ar22.2.2 hin22 (Has.at H22 hin22 rfl) (g := (mkF m 22 (la2 o0 o1 (FP.dadd (FP.dadd (0 : UInt64) (FP.dmul y_0 z_0)) (FP.dmul y_1 z_1)) 2) [(.int 2), (.ref w_w), (.double (FP.dadd (FP.dadd (0 : UInt64) (FP.dmul y_0 z_0)) (FP.dmul y_1 z_1)))])) rfl rfl (hb hby d6_22)) ?_
  show gO (tF T21 m 23 (la2 o0 o1 (FP.dadd (FP.dadd (0 : UInt64) (FP.dmul y_0 z_0)) (FP.dmul y_1 z_1)) 2) [(.double y_2), (.double (FP.dadd (FP.dadd (0 : UInt64) (FP.dmul y_0 z_0)) (FP.dmul y_1 z_1)))])
  refine gob (fun _ k => XS.aloadN X21.here hx rfl (hb hby d6_23) rfl rfl k) ?_
  show gO (tF T21 m 24 (la2 o0 o1 (FP.dadd (FP.dadd (0 : UInt64) (FP.dmul y_0 z_0)) (FP.dmul y_1 z_1)) 2) [(.ref o1), (.double y_2), (.double (FP.dadd (FP.dadd (0 : UInt64) (FP.dmul y_0 z_0)) (FP.dmul y_1 z_1)))])
  refine gob (fun _ k => XS.aloadN X21.here hx rfl (hb hby d6_24) rfl rfl k) ?_
  show gO (tF T21 m 25 (la2 o0 o1 (FP.dadd (FP.dadd (0 : UInt64) (FP.dmul y_0 z_0)) (FP.dmul y_1 z_1)) 2) [(.ref o0), (.ref o1), (.double y_2), (.double (FP.dadd (FP.dadd (0 : UInt64) (FP.dmul y_0 z_0)) (FP.dmul y_1 z_1)))])
  obtain ⟨T23, X23, e23, st23⟩ := getF X21 hx hZ hown (host := "") (Or.inl (hW hw 23 rfl)) Via.refl e21 F_dofs (g := (mkF m 25 (la2 o0 o1 (FP.dadd (FP.dadd (0 : UInt64) (FP.dmul y_0 z_0)) (FP.dmul y_1 z_1)) 2) [(.ref o0), (.ref o1), (.double y_2), (.double (FP.dadd (FP.dadd (0 : UInt64) (FP.dmul y_0 z_0)) (FP.dmul y_1 z_1)))])) rfl rfl (hb hby d6_25)
  refine gob st23 ?_
  show gO (tF T23 m 28 (la2 o0 o1 (FP.dadd (FP.dadd (0 : UInt64) (FP.dmul y_0 z_0)) (FP.dmul y_1 z_1)) 2) [(.ref w_d), (.ref o1), (.double y_2), (.double (FP.dadd (FP.dadd (0 : UInt64) (FP.dmul y_0 z_0)) (FP.dmul y_1 z_1)))])
  refine gob (fun _ k => XS.iload X23.here hx rfl (hb hby d6_28) rfl k) ?_
  show gO (tF T23 m 30 (la2 o0 o1 (FP.dadd (FP.dadd (0 : UInt64) (FP.dmul y_0 z_0)) (FP.dmul y_1 z_1)) 2) [(.int 2), (.ref w_d), (.ref o1), (.double y_2), (.double (FP.dadd (FP.dadd (0 : UInt64) (FP.dmul y_0 z_0)) (FP.dmul y_1 z_1)))])
  obtain ⟨cl24, Ar24, aq24, S24, N24, H24, G24⟩ := id V_d
  have hin24 : ¬ ((2 : Int32) < 0 ∨ cl24.slots.size ≤ ((2 : Int32)).toNatClampNeg) := inb_of S24 ⟨by decide, by decide⟩
  refine gob (X23.iaload hx (j := (2 : Int32)) (v := (.int 2)) (by rw [e23]; exact Ar24.1) (State.isArrayOf_alike hZ.alike Ar24.2.1) Ar24.2.2 hin24 (Has.at H24 hin24 rfl) (g := (mkF m 30 (la2 o0 o1 (FP.dadd (FP.dadd (0 : UInt64) (FP.dmul y_0 z_0)) (FP.dmul y_1 z_1)) 2) [(.int 2), (.ref w_d), (.ref o1), (.double y_2), (.double (FP.dadd (FP.dadd (0 : UInt64) (FP.dmul y_0 z_0)) (FP.dmul y_1 z_1)))])) rfl rfl (hb hby d6_30)) ?_
  show gO (tF T23 m 31 (la2 o0 o1 (FP.dadd (FP.dadd (0 : UInt64) (FP.dmul y_0 z_0)) (FP.dmul y_1 z_1)) 2) [(.int 2), (.ref o1), (.double y_2), (.double (FP.dadd (FP.dadd (0 : UInt64) (FP.dmul y_0 z_0)) (FP.dmul y_1 z_1)))])
  obtain ⟨cl25, Ar25, aq25, S25, N25, H25, G25⟩ := id V_z
  have hin25 : ¬ ((2 : Int32) < 0 ∨ cl25.slots.size ≤ ((2 : Int32)).toNatClampNeg) := inb_of S25 ⟨by decide, by decide⟩
  refine gob (X23.daload hx (j := (2 : Int32)) (v := (.double z_2)) (by rw [e23]; exact Ar25.1) (State.isArrayOf_alike hZ.alike Ar25.2.1) Ar25.2.2 hin25 (Has.at H25 hin25 rfl) (g := (mkF m 31 (la2 o0 o1 (FP.dadd (FP.dadd (0 : UInt64) (FP.dmul y_0 z_0)) (FP.dmul y_1 z_1)) 2) [(.int 2), (.ref o1), (.double y_2), (.double (FP.dadd (FP.dadd (0 : UInt64) (FP.dmul y_0 z_0)) (FP.dmul y_1 z_1)))])) rfl rfl (hb hby d6_31)) ?_
  show gO (tF T23 m 32 (la2 o0 o1 (FP.dadd (FP.dadd (0 : UInt64) (FP.dmul y_0 z_0)) (FP.dmul y_1 z_1)) 2) [(.double z_2), (.double y_2), (.double (FP.dadd (FP.dadd (0 : UInt64) (FP.dmul y_0 z_0)) (FP.dmul y_1 z_1)))])
  have mg26 : Mag64 1090 (FP.dmul y_2 z_2) := own_dmul m_y_2 m_z_2 (by decide) (by decide) (by decide)
  refine gob (fun _ k => XS.dmulS X23.here hx rfl (hb hby d6_32) rfl (v := (FP.dmul y_2 z_2)) (mg26.fin (by decide)).noNaN rfl k) ?_
  show gO (tF T23 m 33 (la2 o0 o1 (FP.dadd (FP.dadd (0 : UInt64) (FP.dmul y_0 z_0)) (FP.dmul y_1 z_1)) 2) [(.double (FP.dmul y_2 z_2)), (.double (FP.dadd (FP.dadd (0 : UInt64) (FP.dmul y_0 z_0)) (FP.dmul y_1 z_1)))])
  have mg27 : Mag64 1096 (FP.dadd (FP.dadd (FP.dadd (0 : UInt64) (FP.dmul y_0 z_0)) (FP.dmul y_1 z_1)) (FP.dmul y_2 z_2)) := own_dadd (K := 1094) (mg18.mono (by decide)) (mg26.mono (by decide)) (by decide) (by decide)
  refine gob (fun _ k => XS.daddS X23.here hx rfl (hb hby d6_33) rfl (v := (FP.dadd (FP.dadd (FP.dadd (0 : UInt64) (FP.dmul y_0 z_0)) (FP.dmul y_1 z_1)) (FP.dmul y_2 z_2))) (mg27.fin (by decide)).noNaN rfl k) ?_
  show gO (tF T23 m 34 (la2 o0 o1 (FP.dadd (FP.dadd (0 : UInt64) (FP.dmul y_0 z_0)) (FP.dmul y_1 z_1)) 2) [(.double (FP.dadd (FP.dadd (FP.dadd (0 : UInt64) (FP.dmul y_0 z_0)) (FP.dmul y_1 z_1)) (FP.dmul y_2 z_2)))])
  refine gob (fun _ k => XS.dstoreN X23.here hx rfl (hb hby d6_34) rfl (l' := (la2 o0 o1 (FP.dadd (FP.dadd (FP.dadd (0 : UInt64) (FP.dmul y_0 z_0)) (FP.dmul y_1 z_1)) (FP.dmul y_2 z_2)) 2)) rfl k) ?_
  show gO (tF T23 m 35 (la2 o0 o1 (FP.dadd (FP.dadd (FP.dadd (0 : UInt64) (FP.dmul y_0 z_0)) (FP.dmul y_1 z_1)) (FP.dmul y_2 z_2)) 2) [])
  refine gob (fun _ k => XS.iinc X23.here hx rfl (hb hby d6_35) rfl (l' := (la2 o0 o1 (FP.dadd (FP.dadd (FP.dadd (0 : UInt64) (FP.dmul y_0 z_0)) (FP.dmul y_1 z_1)) (FP.dmul y_2 z_2)) 3)) rfl k) ?_
  show gO (tF T23 m 38 (la2 o0 o1 (FP.dadd (FP.dadd (FP.dadd (0 : UInt64) (FP.dmul y_0 z_0)) (FP.dmul y_1 z_1)) (FP.dmul y_2 z_2)) 3) [])
  refine gob (fun _ k => XS.goto X23.here hx rfl (pc0 := 38) (pc' := 5) rfl (hb hby d6_38) (by decide) (by decide) k) ?_
  show gO (tF T23 m 5 (la2 o0 o1 (FP.dadd (FP.dadd (FP.dadd (0 : UInt64) (FP.dmul y_0 z_0)) (FP.dmul y_1 z_1)) (FP.dmul y_2 z_2)) 3) [])
  refine gob (fun _ k => XS.iload X23.here hx rfl (hb hby d6_5) rfl k) ?_
  show gO (tF T23 m 7 (la2 o0 o1 (FP.dadd (FP.dadd (FP.dadd (0 : UInt64) (FP.dmul y_0 z_0)) (FP.dmul y_1 z_1)) (FP.dmul y_2 z_2)) 3) [(.int 3)])
  refine gob (fun _ k => XS.aloadN X23.here hx rfl (hb hby d6_7) rfl rfl k) ?_
  show gO (tF T23 m 8 (la2 o0 o1 (FP.dadd (FP.dadd (FP.dadd (0 : UInt64) (FP.dmul y_0 z_0)) (FP.dmul y_1 z_1)) (FP.dmul y_2 z_2)) 3) [(.ref o0), (.int 3)])
  obtain ⟨T28, X28, e28, st28⟩ := getF X23 hx hZ hown (host := "") (Or.inl (hW hw 23 rfl)) Via.refl e23 F_dofs (g := (mkF m 8 (la2 o0 o1 (FP.dadd (FP.dadd (FP.dadd (0 : UInt64) (FP.dmul y_0 z_0)) (FP.dmul y_1 z_1)) (FP.dmul y_2 z_2)) 3) [(.ref o0), (.int 3)])) rfl rfl (hb hby d6_8)
  refine gob st28 ?_
  show gO (tF T28 m 11 (la2 o0 o1 (FP.dadd (FP.dadd (FP.dadd (0 : UInt64) (FP.dmul y_0 z_0)) (FP.dmul y_1 z_1)) (FP.dmul y_2 z_2)) 3) [(.ref w_d), (.int 3)])
  obtain ⟨cl29, Ar29, aq29, S29, N29, H29, G29⟩ := id V_d
  refine gob (X28.arraylength hx (by rw [e28]; exact Ar29.1) (State.isArrayOf_alike hZ.alike Ar29.2.1) (g := (mkF m 11 (la2 o0 o1 (FP.dadd (FP.dadd (FP.dadd (0 : UInt64) (FP.dmul y_0 z_0)) (FP.dmul y_1 z_1)) (FP.dmul y_2 z_2)) 3) [(.ref w_d), (.int 3)])) rfl rfl (hb hby d6_11)) ?_
  rw [len_of S29 N29]
  show gO (tF T28 m 12 (la2 o0 o1 (FP.dadd (FP.dadd (FP.dadd (0 : UInt64) (FP.dmul y_0 z_0)) (FP.dmul y_1 z_1)) (FP.dmul y_2 z_2)) 3) [(.int 3), (.int 3)])
  refine gob (fun _ k => XS.icmpYes X28.here hx rfl (pc0 := 12) (pc' := 41) rfl (hb hby d6_12) rfl (flt (by decide : ¬ ((3 : Int32) < (3 : Int32)))).2.1 (by decide) (by decide) k) ?_
  show gO (tF T28 m 41 (la2 o0 o1 (FP.dadd (FP.dadd (FP.dadd (0 : UInt64) (FP.dmul y_0 z_0)) (FP.dmul y_1 z_1)) (FP.dmul y_2 z_2)) 3) [])
  refine gob (fun _ k => XS.dloadN X28.here hx rfl (hb hby d6_41) rfl k) ?_
  show gO (tF T28 m 42 (la2 o0 o1 (FP.dadd (FP.dadd (FP.dadd (0 : UInt64) (FP.dmul y_0 z_0)) (FP.dmul y_1 z_1)) (FP.dmul y_2 z_2)) 3) [(.double (FP.dadd (FP.dadd (FP.dadd (0 : UInt64) (FP.dmul y_0 z_0)) (FP.dmul y_1 z_1)) (FP.dmul y_2 z_2)))])
  refine goD X28 hx hlk Bd.returns (hb hby d6_42) ?_ (by decide) (by decide)
  show Qof_012 Z o0 o1 w_d w_w k_d k_y y_0 y_1 y_2 k_z z_0 z_1 z_2 z_3 h0 n0 (some (.double (FP.dadd (FP.dadd (FP.dadd (0 : UInt64) (FP.dmul y_0 z_0)) (FP.dmul y_1 z_1)) (FP.dmul y_2 z_2)))) T28.heap _
  exact ⟨(FP.dadd (FP.dadd (FP.dadd (0 : UInt64) (FP.dmul y_0 z_0)) (FP.dmul y_1 z_1)) (FP.dmul y_2 z_2)), rfl, rfl, N0, e28⟩
theorem ef_of_3 (m : MethodId) (x0 : Addr) (x1 : Addr) : entryFrame m #[(.ref x0), (.ref x1)] 5 = mkF m 0 #[.val (.ref x0), .val (.ref x1), .unset, .unset, .unset] [] := by first | (simp [entryFrame, mkF, argsToLocals, Value.category]; done) | rfl
def Qof_3 (Z : State) (o0 : Addr) (o1 : Addr) (w_d : Addr) (w_w : Addr) (k_d : ClassId) (k_y : ClassId) (y_0 : UInt64) (k_z : ClassId) (z_0 : UInt64) (z_1 : UInt64) (z_2 : UInt64) (z_3 : UInt64) (h0 : Heap) (n0 : Nat) (v : Option Value) (h : Heap) (L : List Loc) : Prop := ∃ r : UInt64, v = some (.double r) ∧ ((r = (FP.dadd (0 : UInt64) (FP.dmul y_0 z_3)))) ∧ Fr n0 L ∧ h = h0
set_option maxRecDepth 65536 in
set_option maxHeartbeats 40000000 in
theorem rmof_3 (l : Launch) (Z : State) (a0 : Array Value) (hw : ∀ d ∈ tables_1, d.before a0 Z = true) (ws : List Jvm.Cond) (o0 : Addr) (o1 : Addr) (w_d : Addr) (w_w : Addr) (k_d : ClassId) (k_y : ClassId) (y_0 : UInt64) (k_z : ClassId) (z_0 : UInt64) (z_1 : UInt64) (z_2 : UInt64) (z_3 : UInt64) (h0 : Heap) (n0 : Nat) (Z0 : n0 ≤ h0.size) (F_dofs : Fld Z h0 o0 "com/example/fenda/fenda/analysis/Combination" "dofs" "[I" (.ref w_d)) (F_weights : Fld Z h0 o0 "com/example/fenda/fenda/analysis/Combination" "weights" "[D" (.ref w_w)) (V_d : Arv Z h0 w_d k_d .int (1 : Int32) [(.int 3)] (.int 0)) (m_y_0 : Mag64 1056 y_0) (V_y : Arv Z h0 w_w k_y .double (1 : Int32) [(.double y_0)] (.double 0)) (m_z_0 : Mag64 1056 z_0) (m_z_1 : Mag64 1056 z_1) (m_z_2 : Mag64 1056 z_2) (m_z_3 : Mag64 1056 z_3) (V_z : Arv Z h0 o1 k_z .double (4 : Int32) [(.double z_0), (.double z_1), (.double z_2), (.double z_3)] (.double 0)) :
    MetFree l (⟨"com/example/fenda/fenda/analysis/Combination", "of", "([D)D"⟩ : MethodName) (head1 (Jvm.Cond.code (⟨"com/example/fenda/fenda/analysis/Combination", "of", "([D)D"⟩ : MethodName) prog_3_method_2_code 5 (some .double) :: ws) ({ frames := 0, cells := 0, slots := 0, locals := 0 } : Room)) (fun a U => a = #[(.ref o0), (.ref o1)] ∧ Z.Warmed39 U.vm ∧ U.heap = h0) (fun _ _ _ _ _ => True) (fun _ U o U' => ∃ v L, o = .returned v ∧ Qof_3 Z o0 o1 w_d w_w k_d k_y y_0 k_z z_0 z_1 z_2 z_3 h0 n0 v U'.heap L ∧ FrameEnd U o U' L ({ frames := 0, cells := 0, slots := 0, locals := 0 } : Room).cells ({ frames := 0, cells := 0, slots := 0, locals := 0 } : Room).slots) := by
  refine MetFree.of_bodySF (plainFor_of_name (by first | (simp [plainName, overriddenIn]; done) | decide +kernel)) hisR ?_
  intro p e s m args below meth c s₁ Bd hml0 hP hK
  obtain ⟨rfl, hZ, hh⟩ := hP
  have hx := Bd.exec
  have hby := Bd.bytes
  have hml : c.maxLocals = 5 := hml0
  have hown : s.vm.findClass "com/example/fenda/fenda/analysis/Combination" = some m.cls := findClass_of_methodNamed Bd.named
  have hnm := (name_of_methodNamed Bd.named Bd.method).1
  have hlk := BodyLoose.notSynchronized Bd
  have X0 : Stand p l e ({ frames := 0, cells := 0, slots := 0, locals := 0 } : Room) s m #[(.ref o0), (.ref o1)] below meth c s₁ [] 0 0 := Stand.of_body Bd
  have e0 : s₁.heap = h0 := by rw [← hh, Bd.state]; rfl
  have N0 := Fr.nil n0
  show Go p e below s (Qof_3 Z o0 o1 w_d w_w k_d k_y y_0 k_z z_0 z_1 z_2 z_3 h0 n0) 0 0 (s₁.setTop (entryFrame m #[(.ref o0), (.ref o1)] 5))
  rw [ef_of_3]
  show gO (tF s₁ m 0 (la0 o0 o1) [])
  refine gob (fun _ k => XS.dconst0 X0.here hx rfl (hb hby d6_0) (v := (0 : UInt64)) (by decide +kernel) k) ?_
  show gO (tF s₁ m 1 (la0 o0 o1) [(.double (0 : UInt64))])
  refine gob (fun _ k => XS.dstoreN X0.here hx rfl (hb hby d6_1) rfl (l' := (la1 o0 o1 (0 : UInt64))) rfl k) ?_
  show gO (tF s₁ m 2 (la1 o0 o1 (0 : UInt64)) [])
  refine gob (fun _ k => XS.iconst X0.here hx rfl (hb hby d6_2) k) ?_
  show gO (tF s₁ m 3 (la1 o0 o1 (0 : UInt64)) [(.int 0)])
  refine gob (fun _ k => XS.istore X0.here hx rfl (hb hby d6_3) rfl (l' := (la2 o0 o1 (0 : UInt64) 0)) rfl k) ?_
  show gO (tF s₁ m 5 (la2 o0 o1 (0 : UInt64) 0) [])
  refine gob (fun _ k => XS.iload X0.here hx rfl (hb hby d6_5) rfl k) ?_
  show gO (tF s₁ m 7 (la2 o0 o1 (0 : UInt64) 0) [(.int 0)])
  refine gob (fun _ k => XS.aloadN X0.here hx rfl (hb hby d6_7) rfl rfl k) ?_
  show gO (tF s₁ m 8 (la2 o0 o1 (0 : UInt64) 0) [(.ref o0), (.int 0)])
  obtain ⟨T1, X1, e1, st1⟩ := getF X0 hx hZ hown (host := "") (Or.inl (hW hw 23 rfl)) Via.refl e0 F_dofs (g := (mkF m 8 (la2 o0 o1 (0 : UInt64) 0) [(.ref o0), (.int 0)])) rfl rfl (hb hby d6_8)
  refine gob st1 ?_
  show gO (tF T1 m 11 (la2 o0 o1 (0 : UInt64) 0) [(.ref w_d), (.int 0)])
  obtain ⟨cl2, Ar2, aq2, S2, N2, H2, G2⟩ := id V_d
  refine gob (X1.arraylength hx (by rw [e1]; exact Ar2.1) (State.isArrayOf_alike hZ.alike Ar2.2.1) (g := (mkF m 11 (la2 o0 o1 (0 : UInt64) 0) [(.ref w_d), (.int 0)])) rfl rfl (hb hby d6_11)) ?_
  rw [len_of S2 N2]
  show gO (tF T1 m 12 (la2 o0 o1 (0 : UInt64) 0) [(.int 1), (.int 0)])
  refine gob (fun _ k => XS.icmpNo X1.here hx rfl (hb hby d6_12) rfl (tlt (by decide : (0 : Int32) < (1 : Int32))).2.1 k) ?_
  show gO (tF T1 m 15 (la2 o0 o1 (0 : UInt64) 0) [])
  refine gob (fun _ k => XS.dloadN X1.here hx rfl (hb hby d6_15) rfl k) ?_
  show gO (tF T1 m 16 (la2 o0 o1 (0 : UInt64) 0) [(.double (0 : UInt64))])
  refine gob (fun _ k => XS.aloadN X1.here hx rfl (hb hby d6_16) rfl rfl k) ?_
  show gO (tF T1 m 17 (la2 o0 o1 (0 : UInt64) 0) [(.ref o0), (.double (0 : UInt64))])
  obtain ⟨T3, X3, e3, st3⟩ := getF X1 hx hZ hown (host := "") (Or.inl (hW hw 25 rfl)) Via.refl e1 F_weights (g := (mkF m 17 (la2 o0 o1 (0 : UInt64) 0) [(.ref o0), (.double (0 : UInt64))])) rfl rfl (hb hby d6_17)
  refine gob st3 ?_
  show gO (tF T3 m 20 (la2 o0 o1 (0 : UInt64) 0) [(.ref w_w), (.double (0 : UInt64))])
  refine gob (fun _ k => XS.iload X3.here hx rfl (hb hby d6_20) rfl k) ?_
  show gO (tF T3 m 22 (la2 o0 o1 (0 : UInt64) 0) [(.int 0), (.ref w_w), (.double (0 : UInt64))])
  obtain ⟨cl4, Ar4, aq4, S4, N4, H4, G4⟩ := id V_y
  have hin4 : ¬ ((0 : Int32) < 0 ∨ cl4.slots.size ≤ ((0 : Int32)).toNatClampNeg) := inb_of S4 ⟨by decide, by decide⟩
  refine gob (X3.daload hx (j := (0 : Int32)) (v := (.double y_0)) (by rw [e3]; exact Ar4.1) (State.isArrayOf_alike hZ.alike Ar4.2.1) Ar4.2.2 hin4 (Has.at H4 hin4 rfl) (g := (mkF m 22 (la2 o0 o1 (0 : UInt64) 0) [(.int 0), (.ref w_w), (.double (0 : UInt64))])) rfl rfl (hb hby d6_22)) ?_
  show gO (tF T3 m 23 (la2 o0 o1 (0 : UInt64) 0) [(.double y_0), (.double (0 : UInt64))])
  refine gob (fun _ k => XS.aloadN X3.here hx rfl (hb hby d6_23) rfl rfl k) ?_
  show gO (tF T3 m 24 (la2 o0 o1 (0 : UInt64) 0) [(.ref o1), (.double y_0), (.double (0 : UInt64))])
  refine gob (fun _ k => XS.aloadN X3.here hx rfl (hb hby d6_24) rfl rfl k) ?_
  show gO (tF T3 m 25 (la2 o0 o1 (0 : UInt64) 0) [(.ref o0), (.ref o1), (.double y_0), (.double (0 : UInt64))])
  obtain ⟨T5, X5, e5, st5⟩ := getF X3 hx hZ hown (host := "") (Or.inl (hW hw 23 rfl)) Via.refl e3 F_dofs (g := (mkF m 25 (la2 o0 o1 (0 : UInt64) 0) [(.ref o0), (.ref o1), (.double y_0), (.double (0 : UInt64))])) rfl rfl (hb hby d6_25)
  refine gob st5 ?_
  show gO (tF T5 m 28 (la2 o0 o1 (0 : UInt64) 0) [(.ref w_d), (.ref o1), (.double y_0), (.double (0 : UInt64))])
  refine gob (fun _ k => XS.iload X5.here hx rfl (hb hby d6_28) rfl k) ?_
  show gO (tF T5 m 30 (la2 o0 o1 (0 : UInt64) 0) [(.int 0), (.ref w_d), (.ref o1), (.double y_0), (.double (0 : UInt64))])
  obtain ⟨cl6, Ar6, aq6, S6, N6, H6, G6⟩ := id V_d
  have hin6 : ¬ ((0 : Int32) < 0 ∨ cl6.slots.size ≤ ((0 : Int32)).toNatClampNeg) := inb_of S6 ⟨by decide, by decide⟩
  refine gob (X5.iaload hx (j := (0 : Int32)) (v := (.int 3)) (by rw [e5]; exact Ar6.1) (State.isArrayOf_alike hZ.alike Ar6.2.1) Ar6.2.2 hin6 (Has.at H6 hin6 rfl) (g := (mkF m 30 (la2 o0 o1 (0 : UInt64) 0) [(.int 0), (.ref w_d), (.ref o1), (.double y_0), (.double (0 : UInt64))])) rfl rfl (hb hby d6_30)) ?_
  show gO (tF T5 m 31 (la2 o0 o1 (0 : UInt64) 0) [(.int 3), (.ref o1), (.double y_0), (.double (0 : UInt64))])
  obtain ⟨cl7, Ar7, aq7, S7, N7, H7, G7⟩ := id V_z
  have hin7 : ¬ ((3 : Int32) < 0 ∨ cl7.slots.size ≤ ((3 : Int32)).toNatClampNeg) := inb_of S7 ⟨by decide, by decide⟩
  refine gob (X5.daload hx (j := (3 : Int32)) (v := (.double z_3)) (by rw [e5]; exact Ar7.1) (State.isArrayOf_alike hZ.alike Ar7.2.1) Ar7.2.2 hin7 (Has.at H7 hin7 rfl) (g := (mkF m 31 (la2 o0 o1 (0 : UInt64) 0) [(.int 3), (.ref o1), (.double y_0), (.double (0 : UInt64))])) rfl rfl (hb hby d6_31)) ?_
  show gO (tF T5 m 32 (la2 o0 o1 (0 : UInt64) 0) [(.double z_3), (.double y_0), (.double (0 : UInt64))])
  have mg8 : Mag64 1090 (FP.dmul y_0 z_3) := own_dmul m_y_0 m_z_3 (by decide) (by decide) (by decide)
  refine gob (fun _ k => XS.dmulS X5.here hx rfl (hb hby d6_32) rfl (v := (FP.dmul y_0 z_3)) (mg8.fin (by decide)).noNaN rfl k) ?_
  show gO (tF T5 m 33 (la2 o0 o1 (0 : UInt64) 0) [(.double (FP.dmul y_0 z_3)), (.double (0 : UInt64))])
  have mg9 : Mag64 1092 (FP.dadd (0 : UInt64) (FP.dmul y_0 z_3)) := own_dadd (K := 1090) (own_m0.mono (by decide)) (mg8.mono (by decide)) (by decide) (by decide)
  refine gob (fun _ k => XS.daddS X5.here hx rfl (hb hby d6_33) rfl (v := (FP.dadd (0 : UInt64) (FP.dmul y_0 z_3))) (mg9.fin (by decide)).noNaN rfl k) ?_
  show gO (tF T5 m 34 (la2 o0 o1 (0 : UInt64) 0) [(.double (FP.dadd (0 : UInt64) (FP.dmul y_0 z_3)))])
  refine gob (fun _ k => XS.dstoreN X5.here hx rfl (hb hby d6_34) rfl (l' := (la2 o0 o1 (FP.dadd (0 : UInt64) (FP.dmul y_0 z_3)) 0)) rfl k) ?_
  show gO (tF T5 m 35 (la2 o0 o1 (FP.dadd (0 : UInt64) (FP.dmul y_0 z_3)) 0) [])
  refine gob (fun _ k => XS.iinc X5.here hx rfl (hb hby d6_35) rfl (l' := (la2 o0 o1 (FP.dadd (0 : UInt64) (FP.dmul y_0 z_3)) 1)) rfl k) ?_
  show gO (tF T5 m 38 (la2 o0 o1 (FP.dadd (0 : UInt64) (FP.dmul y_0 z_3)) 1) [])
  refine gob (fun _ k => XS.goto X5.here hx rfl (pc0 := 38) (pc' := 5) rfl (hb hby d6_38) (by decide) (by decide) k) ?_
  show gO (tF T5 m 5 (la2 o0 o1 (FP.dadd (0 : UInt64) (FP.dmul y_0 z_3)) 1) [])
  refine gob (fun _ k => XS.iload X5.here hx rfl (hb hby d6_5) rfl k) ?_
  show gO (tF T5 m 7 (la2 o0 o1 (FP.dadd (0 : UInt64) (FP.dmul y_0 z_3)) 1) [(.int 1)])
  refine gob (fun _ k => XS.aloadN X5.here hx rfl (hb hby d6_7) rfl rfl k) ?_
  show gO (tF T5 m 8 (la2 o0 o1 (FP.dadd (0 : UInt64) (FP.dmul y_0 z_3)) 1) [(.ref o0), (.int 1)])
  obtain ⟨T10, X10, e10, st10⟩ := getF X5 hx hZ hown (host := "") (Or.inl (hW hw 23 rfl)) Via.refl e5 F_dofs (g := (mkF m 8 (la2 o0 o1 (FP.dadd (0 : UInt64) (FP.dmul y_0 z_3)) 1) [(.ref o0), (.int 1)])) rfl rfl (hb hby d6_8)
  refine gob st10 ?_
  show gO (tF T10 m 11 (la2 o0 o1 (FP.dadd (0 : UInt64) (FP.dmul y_0 z_3)) 1) [(.ref w_d), (.int 1)])
  obtain ⟨cl11, Ar11, aq11, S11, N11, H11, G11⟩ := id V_d
  refine gob (X10.arraylength hx (by rw [e10]; exact Ar11.1) (State.isArrayOf_alike hZ.alike Ar11.2.1) (g := (mkF m 11 (la2 o0 o1 (FP.dadd (0 : UInt64) (FP.dmul y_0 z_3)) 1) [(.ref w_d), (.int 1)])) rfl rfl (hb hby d6_11)) ?_
  rw [len_of S11 N11]
  show gO (tF T10 m 12 (la2 o0 o1 (FP.dadd (0 : UInt64) (FP.dmul y_0 z_3)) 1) [(.int 1), (.int 1)])
  refine gob (fun _ k => XS.icmpYes X10.here hx rfl (pc0 := 12) (pc' := 41) rfl (hb hby d6_12) rfl (flt (by decide : ¬ ((1 : Int32) < (1 : Int32)))).2.1 (by decide) (by decide) k) ?_
  show gO (tF T10 m 41 (la2 o0 o1 (FP.dadd (0 : UInt64) (FP.dmul y_0 z_3)) 1) [])
  refine gob (fun _ k => XS.dloadN X10.here hx rfl (hb hby d6_41) rfl k) ?_
  show gO (tF T10 m 42 (la2 o0 o1 (FP.dadd (0 : UInt64) (FP.dmul y_0 z_3)) 1) [(.double (FP.dadd (0 : UInt64) (FP.dmul y_0 z_3)))])
  refine goD X10 hx hlk Bd.returns (hb hby d6_42) ?_ (by decide) (by decide)
  show Qof_3 Z o0 o1 w_d w_w k_d k_y y_0 k_z z_0 z_1 z_2 z_3 h0 n0 (some (.double (FP.dadd (0 : UInt64) (FP.dmul y_0 z_3)))) T10.heap _
  exact ⟨(FP.dadd (0 : UInt64) (FP.dmul y_0 z_3)), rfl, rfl, N0, e10⟩
theorem ef_of_03 (m : MethodId) (x0 : Addr) (x1 : Addr) : entryFrame m #[(.ref x0), (.ref x1)] 5 = mkF m 0 #[.val (.ref x0), .val (.ref x1), .unset, .unset, .unset] [] := by first | (simp [entryFrame, mkF, argsToLocals, Value.category]; done) | rfl
def Qof_03 (Z : State) (o0 : Addr) (o1 : Addr) (w_d : Addr) (w_w : Addr) (k_d : ClassId) (k_y : ClassId) (y_0 : UInt64) (y_1 : UInt64) (k_z : ClassId) (z_0 : UInt64) (z_1 : UInt64) (z_2 : UInt64) (z_3 : UInt64) (h0 : Heap) (n0 : Nat) (v : Option Value) (h : Heap) (L : List Loc) : Prop := ∃ r : UInt64, v = some (.double r) ∧ ((r = (FP.dadd (FP.dadd (0 : UInt64) (FP.dmul y_0 z_0)) (FP.dmul y_1 z_3)))) ∧ Fr n0 L ∧ h = h0
set_option maxRecDepth 65536 in
set_option maxHeartbeats 40000000 in
theorem rmof_03 (l : Launch) (Z : State) (a0 : Array Value) (hw : ∀ d ∈ tables_1, d.before a0 Z = true) (ws : List Jvm.Cond) (o0 : Addr) (o1 : Addr) (w_d : Addr) (w_w : Addr) (k_d : ClassId) (k_y : ClassId) (y_0 : UInt64) (y_1 : UInt64) (k_z : ClassId) (z_0 : UInt64) (z_1 : UInt64) (z_2 : UInt64) (z_3 : UInt64) (h0 : Heap) (n0 : Nat) (Z0 : n0 ≤ h0.size) (F_dofs : Fld Z h0 o0 "com/example/fenda/fenda/analysis/Combination" "dofs" "[I" (.ref w_d)) (F_weights : Fld Z h0 o0 "com/example/fenda/fenda/analysis/Combination" "weights" "[D" (.ref w_w)) (V_d : Arv Z h0 w_d k_d .int (2 : Int32) [(.int 0), (.int 3)] (.int 0)) (m_y_0 : Mag64 1056 y_0) (m_y_1 : Mag64 1056 y_1) (V_y : Arv Z h0 w_w k_y .double (2 : Int32) [(.double y_0), (.double y_1)] (.double 0)) (m_z_0 : Mag64 1056 z_0) (m_z_1 : Mag64 1056 z_1) (m_z_2 : Mag64 1056 z_2) (m_z_3 : Mag64 1056 z_3) (V_z : Arv Z h0 o1 k_z .double (4 : Int32) [(.double z_0), (.double z_1), (.double z_2), (.double z_3)] (.double 0)) :
    MetFree l (⟨"com/example/fenda/fenda/analysis/Combination", "of", "([D)D"⟩ : MethodName) (head1 (Jvm.Cond.code (⟨"com/example/fenda/fenda/analysis/Combination", "of", "([D)D"⟩ : MethodName) prog_3_method_2_code 5 (some .double) :: ws) ({ frames := 0, cells := 0, slots := 0, locals := 0 } : Room)) (fun a U => a = #[(.ref o0), (.ref o1)] ∧ Z.Warmed39 U.vm ∧ U.heap = h0) (fun _ _ _ _ _ => True) (fun _ U o U' => ∃ v L, o = .returned v ∧ Qof_03 Z o0 o1 w_d w_w k_d k_y y_0 y_1 k_z z_0 z_1 z_2 z_3 h0 n0 v U'.heap L ∧ FrameEnd U o U' L ({ frames := 0, cells := 0, slots := 0, locals := 0 } : Room).cells ({ frames := 0, cells := 0, slots := 0, locals := 0 } : Room).slots) := by
  refine MetFree.of_bodySF (plainFor_of_name (by first | (simp [plainName, overriddenIn]; done) | decide +kernel)) hisR ?_
  intro p e s m args below meth c s₁ Bd hml0 hP hK
  obtain ⟨rfl, hZ, hh⟩ := hP
  have hx := Bd.exec
  have hby := Bd.bytes
  have hml : c.maxLocals = 5 := hml0
  have hown : s.vm.findClass "com/example/fenda/fenda/analysis/Combination" = some m.cls := findClass_of_methodNamed Bd.named
  have hnm := (name_of_methodNamed Bd.named Bd.method).1
  have hlk := BodyLoose.notSynchronized Bd
  have X0 : Stand p l e ({ frames := 0, cells := 0, slots := 0, locals := 0 } : Room) s m #[(.ref o0), (.ref o1)] below meth c s₁ [] 0 0 := Stand.of_body Bd
  have e0 : s₁.heap = h0 := by rw [← hh, Bd.state]; rfl
  have N0 := Fr.nil n0
  show Go p e below s (Qof_03 Z o0 o1 w_d w_w k_d k_y y_0 y_1 k_z z_0 z_1 z_2 z_3 h0 n0) 0 0 (s₁.setTop (entryFrame m #[(.ref o0), (.ref o1)] 5))
  rw [ef_of_03]
  show gO (tF s₁ m 0 (la0 o0 o1) [])
  refine gob (fun _ k => XS.dconst0 X0.here hx rfl (hb hby d6_0) (v := (0 : UInt64)) (by decide +kernel) k) ?_
  show gO (tF s₁ m 1 (la0 o0 o1) [(.double (0 : UInt64))])
  refine gob (fun _ k => XS.dstoreN X0.here hx rfl (hb hby d6_1) rfl (l' := (la1 o0 o1 (0 : UInt64))) rfl k) ?_
  show gO (tF s₁ m 2 (la1 o0 o1 (0 : UInt64)) [])
  refine gob (fun _ k => XS.iconst X0.here hx rfl (hb hby d6_2) k) ?_
  show gO (tF s₁ m 3 (la1 o0 o1 (0 : UInt64)) [(.int 0)])
  refine gob (fun _ k => XS.istore X0.here hx rfl (hb hby d6_3) rfl (l' := (la2 o0 o1 (0 : UInt64) 0)) rfl k) ?_
  show gO (tF s₁ m 5 (la2 o0 o1 (0 : UInt64) 0) [])
  refine gob (fun _ k => XS.iload X0.here hx rfl (hb hby d6_5) rfl k) ?_
  show gO (tF s₁ m 7 (la2 o0 o1 (0 : UInt64) 0) [(.int 0)])
  refine gob (fun _ k => XS.aloadN X0.here hx rfl (hb hby d6_7) rfl rfl k) ?_
  show gO (tF s₁ m 8 (la2 o0 o1 (0 : UInt64) 0) [(.ref o0), (.int 0)])
  obtain ⟨T1, X1, e1, st1⟩ := getF X0 hx hZ hown (host := "") (Or.inl (hW hw 23 rfl)) Via.refl e0 F_dofs (g := (mkF m 8 (la2 o0 o1 (0 : UInt64) 0) [(.ref o0), (.int 0)])) rfl rfl (hb hby d6_8)
  refine gob st1 ?_
  show gO (tF T1 m 11 (la2 o0 o1 (0 : UInt64) 0) [(.ref w_d), (.int 0)])
  obtain ⟨cl2, Ar2, aq2, S2, N2, H2, G2⟩ := id V_d
  refine gob (X1.arraylength hx (by rw [e1]; exact Ar2.1) (State.isArrayOf_alike hZ.alike Ar2.2.1) (g := (mkF m 11 (la2 o0 o1 (0 : UInt64) 0) [(.ref w_d), (.int 0)])) rfl rfl (hb hby d6_11)) ?_
  rw [len_of S2 N2]
  show gO (tF T1 m 12 (la2 o0 o1 (0 : UInt64) 0) [(.int 2), (.int 0)])
  refine gob (fun _ k => XS.icmpNo X1.here hx rfl (hb hby d6_12) rfl (tlt (by decide : (0 : Int32) < (2 : Int32))).2.1 k) ?_
  show gO (tF T1 m 15 (la2 o0 o1 (0 : UInt64) 0) [])
  refine gob (fun _ k => XS.dloadN X1.here hx rfl (hb hby d6_15) rfl k) ?_
  show gO (tF T1 m 16 (la2 o0 o1 (0 : UInt64) 0) [(.double (0 : UInt64))])
  refine gob (fun _ k => XS.aloadN X1.here hx rfl (hb hby d6_16) rfl rfl k) ?_
  show gO (tF T1 m 17 (la2 o0 o1 (0 : UInt64) 0) [(.ref o0), (.double (0 : UInt64))])
  obtain ⟨T3, X3, e3, st3⟩ := getF X1 hx hZ hown (host := "") (Or.inl (hW hw 25 rfl)) Via.refl e1 F_weights (g := (mkF m 17 (la2 o0 o1 (0 : UInt64) 0) [(.ref o0), (.double (0 : UInt64))])) rfl rfl (hb hby d6_17)
  refine gob st3 ?_
  show gO (tF T3 m 20 (la2 o0 o1 (0 : UInt64) 0) [(.ref w_w), (.double (0 : UInt64))])
  refine gob (fun _ k => XS.iload X3.here hx rfl (hb hby d6_20) rfl k) ?_
  show gO (tF T3 m 22 (la2 o0 o1 (0 : UInt64) 0) [(.int 0), (.ref w_w), (.double (0 : UInt64))])
  obtain ⟨cl4, Ar4, aq4, S4, N4, H4, G4⟩ := id V_y
  have hin4 : ¬ ((0 : Int32) < 0 ∨ cl4.slots.size ≤ ((0 : Int32)).toNatClampNeg) := inb_of S4 ⟨by decide, by decide⟩
  refine gob (X3.daload hx (j := (0 : Int32)) (v := (.double y_0)) (by rw [e3]; exact Ar4.1) (State.isArrayOf_alike hZ.alike Ar4.2.1) Ar4.2.2 hin4 (Has.at H4 hin4 rfl) (g := (mkF m 22 (la2 o0 o1 (0 : UInt64) 0) [(.int 0), (.ref w_w), (.double (0 : UInt64))])) rfl rfl (hb hby d6_22)) ?_
  show gO (tF T3 m 23 (la2 o0 o1 (0 : UInt64) 0) [(.double y_0), (.double (0 : UInt64))])
  refine gob (fun _ k => XS.aloadN X3.here hx rfl (hb hby d6_23) rfl rfl k) ?_
  show gO (tF T3 m 24 (la2 o0 o1 (0 : UInt64) 0) [(.ref o1), (.double y_0), (.double (0 : UInt64))])
  refine gob (fun _ k => XS.aloadN X3.here hx rfl (hb hby d6_24) rfl rfl k) ?_
  show gO (tF T3 m 25 (la2 o0 o1 (0 : UInt64) 0) [(.ref o0), (.ref o1), (.double y_0), (.double (0 : UInt64))])
  obtain ⟨T5, X5, e5, st5⟩ := getF X3 hx hZ hown (host := "") (Or.inl (hW hw 23 rfl)) Via.refl e3 F_dofs (g := (mkF m 25 (la2 o0 o1 (0 : UInt64) 0) [(.ref o0), (.ref o1), (.double y_0), (.double (0 : UInt64))])) rfl rfl (hb hby d6_25)
  refine gob st5 ?_
  show gO (tF T5 m 28 (la2 o0 o1 (0 : UInt64) 0) [(.ref w_d), (.ref o1), (.double y_0), (.double (0 : UInt64))])
  refine gob (fun _ k => XS.iload X5.here hx rfl (hb hby d6_28) rfl k) ?_
  show gO (tF T5 m 30 (la2 o0 o1 (0 : UInt64) 0) [(.int 0), (.ref w_d), (.ref o1), (.double y_0), (.double (0 : UInt64))])
  obtain ⟨cl6, Ar6, aq6, S6, N6, H6, G6⟩ := id V_d
  have hin6 : ¬ ((0 : Int32) < 0 ∨ cl6.slots.size ≤ ((0 : Int32)).toNatClampNeg) := inb_of S6 ⟨by decide, by decide⟩
  refine gob (X5.iaload hx (j := (0 : Int32)) (v := (.int 0)) (by rw [e5]; exact Ar6.1) (State.isArrayOf_alike hZ.alike Ar6.2.1) Ar6.2.2 hin6 (Has.at H6 hin6 rfl) (g := (mkF m 30 (la2 o0 o1 (0 : UInt64) 0) [(.int 0), (.ref w_d), (.ref o1), (.double y_0), (.double (0 : UInt64))])) rfl rfl (hb hby d6_30)) ?_
  show gO (tF T5 m 31 (la2 o0 o1 (0 : UInt64) 0) [(.int 0), (.ref o1), (.double y_0), (.double (0 : UInt64))])
  obtain ⟨cl7, Ar7, aq7, S7, N7, H7, G7⟩ := id V_z
  have hin7 : ¬ ((0 : Int32) < 0 ∨ cl7.slots.size ≤ ((0 : Int32)).toNatClampNeg) := inb_of S7 ⟨by decide, by decide⟩
  refine gob (X5.daload hx (j := (0 : Int32)) (v := (.double z_0)) (by rw [e5]; exact Ar7.1) (State.isArrayOf_alike hZ.alike Ar7.2.1) Ar7.2.2 hin7 (Has.at H7 hin7 rfl) (g := (mkF m 31 (la2 o0 o1 (0 : UInt64) 0) [(.int 0), (.ref o1), (.double y_0), (.double (0 : UInt64))])) rfl rfl (hb hby d6_31)) ?_
  show gO (tF T5 m 32 (la2 o0 o1 (0 : UInt64) 0) [(.double z_0), (.double y_0), (.double (0 : UInt64))])
  have mg8 : Mag64 1090 (FP.dmul y_0 z_0) := own_dmul m_y_0 m_z_0 (by decide) (by decide) (by decide)
  refine gob (fun _ k => XS.dmulS X5.here hx rfl (hb hby d6_32) rfl (v := (FP.dmul y_0 z_0)) (mg8.fin (by decide)).noNaN rfl k) ?_
  show gO (tF T5 m 33 (la2 o0 o1 (0 : UInt64) 0) [(.double (FP.dmul y_0 z_0)), (.double (0 : UInt64))])
  have mg9 : Mag64 1092 (FP.dadd (0 : UInt64) (FP.dmul y_0 z_0)) := own_dadd (K := 1090) (own_m0.mono (by decide)) (mg8.mono (by decide)) (by decide) (by decide)
  refine gob (fun _ k => XS.daddS X5.here hx rfl (hb hby d6_33) rfl (v := (FP.dadd (0 : UInt64) (FP.dmul y_0 z_0))) (mg9.fin (by decide)).noNaN rfl k) ?_
  show gO (tF T5 m 34 (la2 o0 o1 (0 : UInt64) 0) [(.double (FP.dadd (0 : UInt64) (FP.dmul y_0 z_0)))])
  refine gob (fun _ k => XS.dstoreN X5.here hx rfl (hb hby d6_34) rfl (l' := (la2 o0 o1 (FP.dadd (0 : UInt64) (FP.dmul y_0 z_0)) 0)) rfl k) ?_
  show gO (tF T5 m 35 (la2 o0 o1 (FP.dadd (0 : UInt64) (FP.dmul y_0 z_0)) 0) [])
  refine gob (fun _ k => XS.iinc X5.here hx rfl (hb hby d6_35) rfl (l' := (la2 o0 o1 (FP.dadd (0 : UInt64) (FP.dmul y_0 z_0)) 1)) rfl k) ?_
  show gO (tF T5 m 38 (la2 o0 o1 (FP.dadd (0 : UInt64) (FP.dmul y_0 z_0)) 1) [])
  refine gob (fun _ k => XS.goto X5.here hx rfl (pc0 := 38) (pc' := 5) rfl (hb hby d6_38) (by decide) (by decide) k) ?_
  show gO (tF T5 m 5 (la2 o0 o1 (FP.dadd (0 : UInt64) (FP.dmul y_0 z_0)) 1) [])
  refine gob (fun _ k => XS.iload X5.here hx rfl (hb hby d6_5) rfl k) ?_
  show gO (tF T5 m 7 (la2 o0 o1 (FP.dadd (0 : UInt64) (FP.dmul y_0 z_0)) 1) [(.int 1)])
  refine gob (fun _ k => XS.aloadN X5.here hx rfl (hb hby d6_7) rfl rfl k) ?_
  show gO (tF T5 m 8 (la2 o0 o1 (FP.dadd (0 : UInt64) (FP.dmul y_0 z_0)) 1) [(.ref o0), (.int 1)])
  obtain ⟨T10, X10, e10, st10⟩ := getF X5 hx hZ hown (host := "") (Or.inl (hW hw 23 rfl)) Via.refl e5 F_dofs (g := (mkF m 8 (la2 o0 o1 (FP.dadd (0 : UInt64) (FP.dmul y_0 z_0)) 1) [(.ref o0), (.int 1)])) rfl rfl (hb hby d6_8)
  refine gob st10 ?_
  show gO (tF T10 m 11 (la2 o0 o1 (FP.dadd (0 : UInt64) (FP.dmul y_0 z_0)) 1) [(.ref w_d), (.int 1)])
  obtain ⟨cl11, Ar11, aq11, S11, N11, H11, G11⟩ := id V_d
  refine gob (X10.arraylength hx (by rw [e10]; exact Ar11.1) (State.isArrayOf_alike hZ.alike Ar11.2.1) (g := (mkF m 11 (la2 o0 o1 (FP.dadd (0 : UInt64) (FP.dmul y_0 z_0)) 1) [(.ref w_d), (.int 1)])) rfl rfl (hb hby d6_11)) ?_
  rw [len_of S11 N11]
  show gO (tF T10 m 12 (la2 o0 o1 (FP.dadd (0 : UInt64) (FP.dmul y_0 z_0)) 1) [(.int 2), (.int 1)])
  refine gob (fun _ k => XS.icmpNo X10.here hx rfl (hb hby d6_12) rfl (tlt (by decide : (1 : Int32) < (2 : Int32))).2.1 k) ?_
  show gO (tF T10 m 15 (la2 o0 o1 (FP.dadd (0 : UInt64) (FP.dmul y_0 z_0)) 1) [])
  refine gob (fun _ k => XS.dloadN X10.here hx rfl (hb hby d6_15) rfl k) ?_
  show gO (tF T10 m 16 (la2 o0 o1 (FP.dadd (0 : UInt64) (FP.dmul y_0 z_0)) 1) [(.double (FP.dadd (0 : UInt64) (FP.dmul y_0 z_0)))])
  refine gob (fun _ k => XS.aloadN X10.here hx rfl (hb hby d6_16) rfl rfl k) ?_
  show gO (tF T10 m 17 (la2 o0 o1 (FP.dadd (0 : UInt64) (FP.dmul y_0 z_0)) 1) [(.ref o0), (.double (FP.dadd (0 : UInt64) (FP.dmul y_0 z_0)))])
  obtain ⟨T12, X12, e12, st12⟩ := getF X10 hx hZ hown (host := "") (Or.inl (hW hw 25 rfl)) Via.refl e10 F_weights (g := (mkF m 17 (la2 o0 o1 (FP.dadd (0 : UInt64) (FP.dmul y_0 z_0)) 1) [(.ref o0), (.double (FP.dadd (0 : UInt64) (FP.dmul y_0 z_0)))])) rfl rfl (hb hby d6_17)
  refine gob st12 ?_
  show gO (tF T12 m 20 (la2 o0 o1 (FP.dadd (0 : UInt64) (FP.dmul y_0 z_0)) 1) [(.ref w_w), (.double (FP.dadd (0 : UInt64) (FP.dmul y_0 z_0)))])
  refine gob (fun _ k => XS.iload X12.here hx rfl (hb hby d6_20) rfl k) ?_
  show gO (tF T12 m 22 (la2 o0 o1 (FP.dadd (0 : UInt64) (FP.dmul y_0 z_0)) 1) [(.int 1), (.ref w_w), (.double (FP.dadd (0 : UInt64) (FP.dmul y_0 z_0)))])
  obtain ⟨cl13, Ar13, aq13, S13, N13, H13, G13⟩ := id V_y
  have hin13 : ¬ ((1 : Int32) < 0 ∨ cl13.slots.size ≤ ((1 : Int32)).toNatClampNeg) := inb_of S13 ⟨by decide, by decide⟩
  refine gob (X12.daload hx (j := (1 : Int32)) (v := (.double y_1)) (by rw [e12]; exact Ar13.1) (State.isArrayOf_alike hZ.alike Ar13.2.1) Ar13.2.2 hin13 (Has.at H13 hin13 rfl) (g := (mkF m 22 (la2 o0 o1 (FP.dadd (0 : UInt64) (FP.dmul y_0 z_0)) 1) [(.int 1), (.ref w_w), (.double (FP.dadd (0 : UInt64) (FP.dmul y_0 z_0)))])) rfl rfl (hb hby d6_22)) ?_
  show gO (tF T12 m 23 (la2 o0 o1 (FP.dadd (0 : UInt64) (FP.dmul y_0 z_0)) 1) [(.double y_1), (.double (FP.dadd (0 : UInt64) (FP.dmul y_0 z_0)))])
  refine gob (fun _ k => XS.aloadN X12.here hx rfl (hb hby d6_23) rfl rfl k) ?_
  show gO (tF T12 m 24 (la2 o0 o1 (FP.dadd (0 : UInt64) (FP.dmul y_0 z_0)) 1) [(.ref o1), (.double y_1), (.double (FP.dadd (0 : UInt64) (FP.dmul y_0 z_0)))])
  refine gob (fun _ k => XS.aloadN X12.here hx rfl (hb hby d6_24) rfl rfl k) ?_
  show gO (tF T12 m 25 (la2 o0 o1 (FP.dadd (0 : UInt64) (FP.dmul y_0 z_0)) 1) [(.ref o0), (.ref o1), (.double y_1), (.double (FP.dadd (0 : UInt64) (FP.dmul y_0 z_0)))])
  obtain ⟨T14, X14, e14, st14⟩ := getF X12 hx hZ hown (host := "") (Or.inl (hW hw 23 rfl)) Via.refl e12 F_dofs (g := (mkF m 25 (la2 o0 o1 (FP.dadd (0 : UInt64) (FP.dmul y_0 z_0)) 1) [(.ref o0), (.ref o1), (.double y_1), (.double (FP.dadd (0 : UInt64) (FP.dmul y_0 z_0)))])) rfl rfl (hb hby d6_25)
  refine gob st14 ?_
  show gO (tF T14 m 28 (la2 o0 o1 (FP.dadd (0 : UInt64) (FP.dmul y_0 z_0)) 1) [(.ref w_d), (.ref o1), (.double y_1), (.double (FP.dadd (0 : UInt64) (FP.dmul y_0 z_0)))])
  refine gob (fun _ k => XS.iload X14.here hx rfl (hb hby d6_28) rfl k) ?_
  show gO (tF T14 m 30 (la2 o0 o1 (FP.dadd (0 : UInt64) (FP.dmul y_0 z_0)) 1) [(.int 1), (.ref w_d), (.ref o1), (.double y_1), (.double (FP.dadd (0 : UInt64) (FP.dmul y_0 z_0)))])
  obtain ⟨cl15, Ar15, aq15, S15, N15, H15, G15⟩ := id V_d
  have hin15 : ¬ ((1 : Int32) < 0 ∨ cl15.slots.size ≤ ((1 : Int32)).toNatClampNeg) := inb_of S15 ⟨by decide, by decide⟩
  refine gob (X14.iaload hx (j := (1 : Int32)) (v := (.int 3)) (by rw [e14]; exact Ar15.1) (State.isArrayOf_alike hZ.alike Ar15.2.1) Ar15.2.2 hin15 (Has.at H15 hin15 rfl) (g := (mkF m 30 (la2 o0 o1 (FP.dadd (0 : UInt64) (FP.dmul y_0 z_0)) 1) [(.int 1), (.ref w_d), (.ref o1), (.double y_1), (.double (FP.dadd (0 : UInt64) (FP.dmul y_0 z_0)))])) rfl rfl (hb hby d6_30)) ?_
  show gO (tF T14 m 31 (la2 o0 o1 (FP.dadd (0 : UInt64) (FP.dmul y_0 z_0)) 1) [(.int 3), (.ref o1), (.double y_1), (.double (FP.dadd (0 : UInt64) (FP.dmul y_0 z_0)))])
  obtain ⟨cl16, Ar16, aq16, S16, N16, H16, G16⟩ := id V_z
  have hin16 : ¬ ((3 : Int32) < 0 ∨ cl16.slots.size ≤ ((3 : Int32)).toNatClampNeg) := inb_of S16 ⟨by decide, by decide⟩
  refine gob (X14.daload hx (j := (3 : Int32)) (v := (.double z_3)) (by rw [e14]; exact Ar16.1) (State.isArrayOf_alike hZ.alike Ar16.2.1) Ar16.2.2 hin16 (Has.at H16 hin16 rfl) (g := (mkF m 31 (la2 o0 o1 (FP.dadd (0 : UInt64) (FP.dmul y_0 z_0)) 1) [(.int 3), (.ref o1), (.double y_1), (.double (FP.dadd (0 : UInt64) (FP.dmul y_0 z_0)))])) rfl rfl (hb hby d6_31)) ?_
  show gO (tF T14 m 32 (la2 o0 o1 (FP.dadd (0 : UInt64) (FP.dmul y_0 z_0)) 1) [(.double z_3), (.double y_1), (.double (FP.dadd (0 : UInt64) (FP.dmul y_0 z_0)))])
  have mg17 : Mag64 1090 (FP.dmul y_1 z_3) := own_dmul m_y_1 m_z_3 (by decide) (by decide) (by decide)
  refine gob (fun _ k => XS.dmulS X14.here hx rfl (hb hby d6_32) rfl (v := (FP.dmul y_1 z_3)) (mg17.fin (by decide)).noNaN rfl k) ?_
  show gO (tF T14 m 33 (la2 o0 o1 (FP.dadd (0 : UInt64) (FP.dmul y_0 z_0)) 1) [(.double (FP.dmul y_1 z_3)), (.double (FP.dadd (0 : UInt64) (FP.dmul y_0 z_0)))])
  have mg18 : Mag64 1094 (FP.dadd (FP.dadd (0 : UInt64) (FP.dmul y_0 z_0)) (FP.dmul y_1 z_3)) := own_dadd (K := 1092) (mg9.mono (by decide)) (mg17.mono (by decide)) (by decide) (by decide)
  refine gob (fun _ k => XS.daddS X14.here hx rfl (hb hby d6_33) rfl (v := (FP.dadd (FP.dadd (0 : UInt64) (FP.dmul y_0 z_0)) (FP.dmul y_1 z_3))) (mg18.fin (by decide)).noNaN rfl k) ?_
  show gO (tF T14 m 34 (la2 o0 o1 (FP.dadd (0 : UInt64) (FP.dmul y_0 z_0)) 1) [(.double (FP.dadd (FP.dadd (0 : UInt64) (FP.dmul y_0 z_0)) (FP.dmul y_1 z_3)))])
  refine gob (fun _ k => XS.dstoreN X14.here hx rfl (hb hby d6_34) rfl (l' := (la2 o0 o1 (FP.dadd (FP.dadd (0 : UInt64) (FP.dmul y_0 z_0)) (FP.dmul y_1 z_3)) 1)) rfl k) ?_
  show gO (tF T14 m 35 (la2 o0 o1 (FP.dadd (FP.dadd (0 : UInt64) (FP.dmul y_0 z_0)) (FP.dmul y_1 z_3)) 1) [])
  refine gob (fun _ k => XS.iinc X14.here hx rfl (hb hby d6_35) rfl (l' := (la2 o0 o1 (FP.dadd (FP.dadd (0 : UInt64) (FP.dmul y_0 z_0)) (FP.dmul y_1 z_3)) 2)) rfl k) ?_
  show gO (tF T14 m 38 (la2 o0 o1 (FP.dadd (FP.dadd (0 : UInt64) (FP.dmul y_0 z_0)) (FP.dmul y_1 z_3)) 2) [])
  refine gob (fun _ k => XS.goto X14.here hx rfl (pc0 := 38) (pc' := 5) rfl (hb hby d6_38) (by decide) (by decide) k) ?_
  show gO (tF T14 m 5 (la2 o0 o1 (FP.dadd (FP.dadd (0 : UInt64) (FP.dmul y_0 z_0)) (FP.dmul y_1 z_3)) 2) [])
  refine gob (fun _ k => XS.iload X14.here hx rfl (hb hby d6_5) rfl k) ?_
  show gO (tF T14 m 7 (la2 o0 o1 (FP.dadd (FP.dadd (0 : UInt64) (FP.dmul y_0 z_0)) (FP.dmul y_1 z_3)) 2) [(.int 2)])
  refine gob (fun _ k => XS.aloadN X14.here hx rfl (hb hby d6_7) rfl rfl k) ?_
  show gO (tF T14 m 8 (la2 o0 o1 (FP.dadd (FP.dadd (0 : UInt64) (FP.dmul y_0 z_0)) (FP.dmul y_1 z_3)) 2) [(.ref o0), (.int 2)])
  obtain ⟨T19, X19, e19, st19⟩ := getF X14 hx hZ hown (host := "") (Or.inl (hW hw 23 rfl)) Via.refl e14 F_dofs (g := (mkF m 8 (la2 o0 o1 (FP.dadd (FP.dadd (0 : UInt64) (FP.dmul y_0 z_0)) (FP.dmul y_1 z_3)) 2) [(.ref o0), (.int 2)])) rfl rfl (hb hby d6_8)
  refine gob st19 ?_
  show gO (tF T19 m 11 (la2 o0 o1 (FP.dadd (FP.dadd (0 : UInt64) (FP.dmul y_0 z_0)) (FP.dmul y_1 z_3)) 2) [(.ref w_d), (.int 2)])
  obtain ⟨cl20, Ar20, aq20, S20, N20, H20, G20⟩ := id V_d
  refine gob (X19.arraylength hx (by rw [e19]; exact Ar20.1) (State.isArrayOf_alike hZ.alike Ar20.2.1) (g := (mkF m 11 (la2 o0 o1 (FP.dadd (FP.dadd (0 : UInt64) (FP.dmul y_0 z_0)) (FP.dmul y_1 z_3)) 2) [(.ref w_d), (.int 2)])) rfl rfl (hb hby d6_11)) ?_
  rw [len_of S20 N20]
  show gO (tF T19 m 12 (la2 o0 o1 (FP.dadd (FP.dadd (0 : UInt64) (FP.dmul y_0 z_0)) (FP.dmul y_1 z_3)) 2) [(.int 2), (.int 2)])
  refine gob (fun _ k => XS.icmpYes X19.here hx rfl (pc0 := 12) (pc' := 41) rfl (hb hby d6_12) rfl (flt (by decide : ¬ ((2 : Int32) < (2 : Int32)))).2.1 (by decide) (by decide) k) ?_
  show gO (tF T19 m 41 (la2 o0 o1 (FP.dadd (FP.dadd (0 : UInt64) (FP.dmul y_0 z_0)) (FP.dmul y_1 z_3)) 2) [])
  refine gob (fun _ k => XS.dloadN X19.here hx rfl (hb hby d6_41) rfl k) ?_
  show gO (tF T19 m 42 (la2 o0 o1 (FP.dadd (FP.dadd (0 : UInt64) (FP.dmul y_0 z_0)) (FP.dmul y_1 z_3)) 2) [(.double (FP.dadd (FP.dadd (0 : UInt64) (FP.dmul y_0 z_0)) (FP.dmul y_1 z_3)))])
  refine goD X19 hx hlk Bd.returns (hb hby d6_42) ?_ (by decide) (by decide)
  show Qof_03 Z o0 o1 w_d w_w k_d k_y y_0 y_1 k_z z_0 z_1 z_2 z_3 h0 n0 (some (.double (FP.dadd (FP.dadd (0 : UInt64) (FP.dmul y_0 z_0)) (FP.dmul y_1 z_3)))) T19.heap _
  exact ⟨(FP.dadd (FP.dadd (0 : UInt64) (FP.dmul y_0 z_0)) (FP.dmul y_1 z_3)), rfl, rfl, N0, e19⟩
theorem ef_of_13 (m : MethodId) (x0 : Addr) (x1 : Addr) : entryFrame m #[(.ref x0), (.ref x1)] 5 = mkF m 0 #[.val (.ref x0), .val (.ref x1), .unset, .unset, .unset] [] := by first | (simp [entryFrame, mkF, argsToLocals, Value.category]; done) | rfl
def Qof_13 (Z : State) (o0 : Addr) (o1 : Addr) (w_d : Addr) (w_w : Addr) (k_d : ClassId) (k_y : ClassId) (y_0 : UInt64) (y_1 : UInt64) (k_z : ClassId) (z_0 : UInt64) (z_1 : UInt64) (z_2 : UInt64) (z_3 : UInt64) (h0 : Heap) (n0 : Nat) (v : Option Value) (h : Heap) (L : List Loc) : Prop := ∃ r : UInt64, v = some (.double r) ∧ ((r = (FP.dadd (FP.dadd (0 : UInt64) (FP.dmul y_0 z_1)) (FP.dmul y_1 z_3)))) ∧ Fr n0 L ∧ h = h0
set_option maxRecDepth 65536 in
set_option maxHeartbeats 40000000 in
theorem rmof_13 (l : Launch) (Z : State) (a0 : Array Value) (hw : ∀ d ∈ tables_1, d.before a0 Z = true) (ws : List Jvm.Cond) (o0 : Addr) (o1 : Addr) (w_d : Addr) (w_w : Addr) (k_d : ClassId) (k_y : ClassId) (y_0 : UInt64) (y_1 : UInt64) (k_z : ClassId) (z_0 : UInt64) (z_1 : UInt64) (z_2 : UInt64) (z_3 : UInt64) (h0 : Heap) (n0 : Nat) (Z0 : n0 ≤ h0.size) (F_dofs : Fld Z h0 o0 "com/example/fenda/fenda/analysis/Combination" "dofs" "[I" (.ref w_d)) (F_weights : Fld Z h0 o0 "com/example/fenda/fenda/analysis/Combination" "weights" "[D" (.ref w_w)) (V_d : Arv Z h0 w_d k_d .int (2 : Int32) [(.int 1), (.int 3)] (.int 0)) (m_y_0 : Mag64 1056 y_0) (m_y_1 : Mag64 1056 y_1) (V_y : Arv Z h0 w_w k_y .double (2 : Int32) [(.double y_0), (.double y_1)] (.double 0)) (m_z_0 : Mag64 1056 z_0) (m_z_1 : Mag64 1056 z_1) (m_z_2 : Mag64 1056 z_2) (m_z_3 : Mag64 1056 z_3) (V_z : Arv Z h0 o1 k_z .double (4 : Int32) [(.double z_0), (.double z_1), (.double z_2), (.double z_3)] (.double 0)) :
    MetFree l (⟨"com/example/fenda/fenda/analysis/Combination", "of", "([D)D"⟩ : MethodName) (head1 (Jvm.Cond.code (⟨"com/example/fenda/fenda/analysis/Combination", "of", "([D)D"⟩ : MethodName) prog_3_method_2_code 5 (some .double) :: ws) ({ frames := 0, cells := 0, slots := 0, locals := 0 } : Room)) (fun a U => a = #[(.ref o0), (.ref o1)] ∧ Z.Warmed39 U.vm ∧ U.heap = h0) (fun _ _ _ _ _ => True) (fun _ U o U' => ∃ v L, o = .returned v ∧ Qof_13 Z o0 o1 w_d w_w k_d k_y y_0 y_1 k_z z_0 z_1 z_2 z_3 h0 n0 v U'.heap L ∧ FrameEnd U o U' L ({ frames := 0, cells := 0, slots := 0, locals := 0 } : Room).cells ({ frames := 0, cells := 0, slots := 0, locals := 0 } : Room).slots) := by
  refine MetFree.of_bodySF (plainFor_of_name (by first | (simp [plainName, overriddenIn]; done) | decide +kernel)) hisR ?_
  intro p e s m args below meth c s₁ Bd hml0 hP hK
  obtain ⟨rfl, hZ, hh⟩ := hP
  have hx := Bd.exec
  have hby := Bd.bytes
  have hml : c.maxLocals = 5 := hml0
  have hown : s.vm.findClass "com/example/fenda/fenda/analysis/Combination" = some m.cls := findClass_of_methodNamed Bd.named
  have hnm := (name_of_methodNamed Bd.named Bd.method).1
  have hlk := BodyLoose.notSynchronized Bd
  have X0 : Stand p l e ({ frames := 0, cells := 0, slots := 0, locals := 0 } : Room) s m #[(.ref o0), (.ref o1)] below meth c s₁ [] 0 0 := Stand.of_body Bd
  have e0 : s₁.heap = h0 := by rw [← hh, Bd.state]; rfl
  have N0 := Fr.nil n0
  show Go p e below s (Qof_13 Z o0 o1 w_d w_w k_d k_y y_0 y_1 k_z z_0 z_1 z_2 z_3 h0 n0) 0 0 (s₁.setTop (entryFrame m #[(.ref o0), (.ref o1)] 5))
  rw [ef_of_13]
  show gO (tF s₁ m 0 (la0 o0 o1) [])
  refine gob (fun _ k => XS.dconst0 X0.here hx rfl (hb hby d6_0) (v := (0 : UInt64)) (by decide +kernel) k) ?_
  show gO (tF s₁ m 1 (la0 o0 o1) [(.double (0 : UInt64))])
  refine gob (fun _ k => XS.dstoreN X0.here hx rfl (hb hby d6_1) rfl (l' := (la1 o0 o1 (0 : UInt64))) rfl k) ?_
  show gO (tF s₁ m 2 (la1 o0 o1 (0 : UInt64)) [])
  refine gob (fun _ k => XS.iconst X0.here hx rfl (hb hby d6_2) k) ?_
  show gO (tF s₁ m 3 (la1 o0 o1 (0 : UInt64)) [(.int 0)])
  refine gob (fun _ k => XS.istore X0.here hx rfl (hb hby d6_3) rfl (l' := (la2 o0 o1 (0 : UInt64) 0)) rfl k) ?_
  show gO (tF s₁ m 5 (la2 o0 o1 (0 : UInt64) 0) [])
  refine gob (fun _ k => XS.iload X0.here hx rfl (hb hby d6_5) rfl k) ?_
  show gO (tF s₁ m 7 (la2 o0 o1 (0 : UInt64) 0) [(.int 0)])
  refine gob (fun _ k => XS.aloadN X0.here hx rfl (hb hby d6_7) rfl rfl k) ?_
  show gO (tF s₁ m 8 (la2 o0 o1 (0 : UInt64) 0) [(.ref o0), (.int 0)])
  obtain ⟨T1, X1, e1, st1⟩ := getF X0 hx hZ hown (host := "") (Or.inl (hW hw 23 rfl)) Via.refl e0 F_dofs (g := (mkF m 8 (la2 o0 o1 (0 : UInt64) 0) [(.ref o0), (.int 0)])) rfl rfl (hb hby d6_8)
  refine gob st1 ?_
  show gO (tF T1 m 11 (la2 o0 o1 (0 : UInt64) 0) [(.ref w_d), (.int 0)])
  obtain ⟨cl2, Ar2, aq2, S2, N2, H2, G2⟩ := id V_d
  refine gob (X1.arraylength hx (by rw [e1]; exact Ar2.1) (State.isArrayOf_alike hZ.alike Ar2.2.1) (g := (mkF m 11 (la2 o0 o1 (0 : UInt64) 0) [(.ref w_d), (.int 0)])) rfl rfl (hb hby d6_11)) ?_
  rw [len_of S2 N2]
  show gO (tF T1 m 12 (la2 o0 o1 (0 : UInt64) 0) [(.int 2), (.int 0)])
  refine gob (fun _ k => XS.icmpNo X1.here hx rfl (hb hby d6_12) rfl (tlt (by decide : (0 : Int32) < (2 : Int32))).2.1 k) ?_
  show gO (tF T1 m 15 (la2 o0 o1 (0 : UInt64) 0) [])
  refine gob (fun _ k => XS.dloadN X1.here hx rfl (hb hby d6_15) rfl k) ?_
  show gO (tF T1 m 16 (la2 o0 o1 (0 : UInt64) 0) [(.double (0 : UInt64))])
  refine gob (fun _ k => XS.aloadN X1.here hx rfl (hb hby d6_16) rfl rfl k) ?_
  show gO (tF T1 m 17 (la2 o0 o1 (0 : UInt64) 0) [(.ref o0), (.double (0 : UInt64))])
  obtain ⟨T3, X3, e3, st3⟩ := getF X1 hx hZ hown (host := "") (Or.inl (hW hw 25 rfl)) Via.refl e1 F_weights (g := (mkF m 17 (la2 o0 o1 (0 : UInt64) 0) [(.ref o0), (.double (0 : UInt64))])) rfl rfl (hb hby d6_17)
  refine gob st3 ?_
  show gO (tF T3 m 20 (la2 o0 o1 (0 : UInt64) 0) [(.ref w_w), (.double (0 : UInt64))])
  refine gob (fun _ k => XS.iload X3.here hx rfl (hb hby d6_20) rfl k) ?_
  show gO (tF T3 m 22 (la2 o0 o1 (0 : UInt64) 0) [(.int 0), (.ref w_w), (.double (0 : UInt64))])
  obtain ⟨cl4, Ar4, aq4, S4, N4, H4, G4⟩ := id V_y
  have hin4 : ¬ ((0 : Int32) < 0 ∨ cl4.slots.size ≤ ((0 : Int32)).toNatClampNeg) := inb_of S4 ⟨by decide, by decide⟩
  refine gob (X3.daload hx (j := (0 : Int32)) (v := (.double y_0)) (by rw [e3]; exact Ar4.1) (State.isArrayOf_alike hZ.alike Ar4.2.1) Ar4.2.2 hin4 (Has.at H4 hin4 rfl) (g := (mkF m 22 (la2 o0 o1 (0 : UInt64) 0) [(.int 0), (.ref w_w), (.double (0 : UInt64))])) rfl rfl (hb hby d6_22)) ?_
  show gO (tF T3 m 23 (la2 o0 o1 (0 : UInt64) 0) [(.double y_0), (.double (0 : UInt64))])
  refine gob (fun _ k => XS.aloadN X3.here hx rfl (hb hby d6_23) rfl rfl k) ?_
  show gO (tF T3 m 24 (la2 o0 o1 (0 : UInt64) 0) [(.ref o1), (.double y_0), (.double (0 : UInt64))])
  refine gob (fun _ k => XS.aloadN X3.here hx rfl (hb hby d6_24) rfl rfl k) ?_
  show gO (tF T3 m 25 (la2 o0 o1 (0 : UInt64) 0) [(.ref o0), (.ref o1), (.double y_0), (.double (0 : UInt64))])
  obtain ⟨T5, X5, e5, st5⟩ := getF X3 hx hZ hown (host := "") (Or.inl (hW hw 23 rfl)) Via.refl e3 F_dofs (g := (mkF m 25 (la2 o0 o1 (0 : UInt64) 0) [(.ref o0), (.ref o1), (.double y_0), (.double (0 : UInt64))])) rfl rfl (hb hby d6_25)
  refine gob st5 ?_
  show gO (tF T5 m 28 (la2 o0 o1 (0 : UInt64) 0) [(.ref w_d), (.ref o1), (.double y_0), (.double (0 : UInt64))])
  refine gob (fun _ k => XS.iload X5.here hx rfl (hb hby d6_28) rfl k) ?_
  show gO (tF T5 m 30 (la2 o0 o1 (0 : UInt64) 0) [(.int 0), (.ref w_d), (.ref o1), (.double y_0), (.double (0 : UInt64))])
  obtain ⟨cl6, Ar6, aq6, S6, N6, H6, G6⟩ := id V_d
  have hin6 : ¬ ((0 : Int32) < 0 ∨ cl6.slots.size ≤ ((0 : Int32)).toNatClampNeg) := inb_of S6 ⟨by decide, by decide⟩
  refine gob (X5.iaload hx (j := (0 : Int32)) (v := (.int 1)) (by rw [e5]; exact Ar6.1) (State.isArrayOf_alike hZ.alike Ar6.2.1) Ar6.2.2 hin6 (Has.at H6 hin6 rfl) (g := (mkF m 30 (la2 o0 o1 (0 : UInt64) 0) [(.int 0), (.ref w_d), (.ref o1), (.double y_0), (.double (0 : UInt64))])) rfl rfl (hb hby d6_30)) ?_
  show gO (tF T5 m 31 (la2 o0 o1 (0 : UInt64) 0) [(.int 1), (.ref o1), (.double y_0), (.double (0 : UInt64))])
  obtain ⟨cl7, Ar7, aq7, S7, N7, H7, G7⟩ := id V_z
  have hin7 : ¬ ((1 : Int32) < 0 ∨ cl7.slots.size ≤ ((1 : Int32)).toNatClampNeg) := inb_of S7 ⟨by decide, by decide⟩
  refine gob (X5.daload hx (j := (1 : Int32)) (v := (.double z_1)) (by rw [e5]; exact Ar7.1) (State.isArrayOf_alike hZ.alike Ar7.2.1) Ar7.2.2 hin7 (Has.at H7 hin7 rfl) (g := (mkF m 31 (la2 o0 o1 (0 : UInt64) 0) [(.int 1), (.ref o1), (.double y_0), (.double (0 : UInt64))])) rfl rfl (hb hby d6_31)) ?_
  show gO (tF T5 m 32 (la2 o0 o1 (0 : UInt64) 0) [(.double z_1), (.double y_0), (.double (0 : UInt64))])
  have mg8 : Mag64 1090 (FP.dmul y_0 z_1) := own_dmul m_y_0 m_z_1 (by decide) (by decide) (by decide)
  refine gob (fun _ k => XS.dmulS X5.here hx rfl (hb hby d6_32) rfl (v := (FP.dmul y_0 z_1)) (mg8.fin (by decide)).noNaN rfl k) ?_
  show gO (tF T5 m 33 (la2 o0 o1 (0 : UInt64) 0) [(.double (FP.dmul y_0 z_1)), (.double (0 : UInt64))])
  have mg9 : Mag64 1092 (FP.dadd (0 : UInt64) (FP.dmul y_0 z_1)) := own_dadd (K := 1090) (own_m0.mono (by decide)) (mg8.mono (by decide)) (by decide) (by decide)
  refine gob (fun _ k => XS.daddS X5.here hx rfl (hb hby d6_33) rfl (v := (FP.dadd (0 : UInt64) (FP.dmul y_0 z_1))) (mg9.fin (by decide)).noNaN rfl k) ?_
  show gO (tF T5 m 34 (la2 o0 o1 (0 : UInt64) 0) [(.double (FP.dadd (0 : UInt64) (FP.dmul y_0 z_1)))])
  refine gob (fun _ k => XS.dstoreN X5.here hx rfl (hb hby d6_34) rfl (l' := (la2 o0 o1 (FP.dadd (0 : UInt64) (FP.dmul y_0 z_1)) 0)) rfl k) ?_
  show gO (tF T5 m 35 (la2 o0 o1 (FP.dadd (0 : UInt64) (FP.dmul y_0 z_1)) 0) [])
  refine gob (fun _ k => XS.iinc X5.here hx rfl (hb hby d6_35) rfl (l' := (la2 o0 o1 (FP.dadd (0 : UInt64) (FP.dmul y_0 z_1)) 1)) rfl k) ?_
  show gO (tF T5 m 38 (la2 o0 o1 (FP.dadd (0 : UInt64) (FP.dmul y_0 z_1)) 1) [])
  refine gob (fun _ k => XS.goto X5.here hx rfl (pc0 := 38) (pc' := 5) rfl (hb hby d6_38) (by decide) (by decide) k) ?_
  show gO (tF T5 m 5 (la2 o0 o1 (FP.dadd (0 : UInt64) (FP.dmul y_0 z_1)) 1) [])
  refine gob (fun _ k => XS.iload X5.here hx rfl (hb hby d6_5) rfl k) ?_
  show gO (tF T5 m 7 (la2 o0 o1 (FP.dadd (0 : UInt64) (FP.dmul y_0 z_1)) 1) [(.int 1)])
  refine gob (fun _ k => XS.aloadN X5.here hx rfl (hb hby d6_7) rfl rfl k) ?_
  show gO (tF T5 m 8 (la2 o0 o1 (FP.dadd (0 : UInt64) (FP.dmul y_0 z_1)) 1) [(.ref o0), (.int 1)])
  obtain ⟨T10, X10, e10, st10⟩ := getF X5 hx hZ hown (host := "") (Or.inl (hW hw 23 rfl)) Via.refl e5 F_dofs (g := (mkF m 8 (la2 o0 o1 (FP.dadd (0 : UInt64) (FP.dmul y_0 z_1)) 1) [(.ref o0), (.int 1)])) rfl rfl (hb hby d6_8)
  refine gob st10 ?_
  show gO (tF T10 m 11 (la2 o0 o1 (FP.dadd (0 : UInt64) (FP.dmul y_0 z_1)) 1) [(.ref w_d), (.int 1)])
  obtain ⟨cl11, Ar11, aq11, S11, N11, H11, G11⟩ := id V_d
  refine gob (X10.arraylength hx (by rw [e10]; exact Ar11.1) (State.isArrayOf_alike hZ.alike Ar11.2.1) (g := (mkF m 11 (la2 o0 o1 (FP.dadd (0 : UInt64) (FP.dmul y_0 z_1)) 1) [(.ref w_d), (.int 1)])) rfl rfl (hb hby d6_11)) ?_
  rw [len_of S11 N11]
  show gO (tF T10 m 12 (la2 o0 o1 (FP.dadd (0 : UInt64) (FP.dmul y_0 z_1)) 1) [(.int 2), (.int 1)])
  refine gob (fun _ k => XS.icmpNo X10.here hx rfl (hb hby d6_12) rfl (tlt (by decide : (1 : Int32) < (2 : Int32))).2.1 k) ?_
  show gO (tF T10 m 15 (la2 o0 o1 (FP.dadd (0 : UInt64) (FP.dmul y_0 z_1)) 1) [])
  refine gob (fun _ k => XS.dloadN X10.here hx rfl (hb hby d6_15) rfl k) ?_
  show gO (tF T10 m 16 (la2 o0 o1 (FP.dadd (0 : UInt64) (FP.dmul y_0 z_1)) 1) [(.double (FP.dadd (0 : UInt64) (FP.dmul y_0 z_1)))])
  refine gob (fun _ k => XS.aloadN X10.here hx rfl (hb hby d6_16) rfl rfl k) ?_
  show gO (tF T10 m 17 (la2 o0 o1 (FP.dadd (0 : UInt64) (FP.dmul y_0 z_1)) 1) [(.ref o0), (.double (FP.dadd (0 : UInt64) (FP.dmul y_0 z_1)))])
  obtain ⟨T12, X12, e12, st12⟩ := getF X10 hx hZ hown (host := "") (Or.inl (hW hw 25 rfl)) Via.refl e10 F_weights (g := (mkF m 17 (la2 o0 o1 (FP.dadd (0 : UInt64) (FP.dmul y_0 z_1)) 1) [(.ref o0), (.double (FP.dadd (0 : UInt64) (FP.dmul y_0 z_1)))])) rfl rfl (hb hby d6_17)
  refine gob st12 ?_
  show gO (tF T12 m 20 (la2 o0 o1 (FP.dadd (0 : UInt64) (FP.dmul y_0 z_1)) 1) [(.ref w_w), (.double (FP.dadd (0 : UInt64) (FP.dmul y_0 z_1)))])
  refine gob (fun _ k => XS.iload X12.here hx rfl (hb hby d6_20) rfl k) ?_
  show gO (tF T12 m 22 (la2 o0 o1 (FP.dadd (0 : UInt64) (FP.dmul y_0 z_1)) 1) [(.int 1), (.ref w_w), (.double (FP.dadd (0 : UInt64) (FP.dmul y_0 z_1)))])
  obtain ⟨cl13, Ar13, aq13, S13, N13, H13, G13⟩ := id V_y
  have hin13 : ¬ ((1 : Int32) < 0 ∨ cl13.slots.size ≤ ((1 : Int32)).toNatClampNeg) := inb_of S13 ⟨by decide, by decide⟩
  refine gob (X12.daload hx (j := (1 : Int32)) (v := (.double y_1)) (by rw [e12]; exact Ar13.1) (State.isArrayOf_alike hZ.alike Ar13.2.1) Ar13.2.2 hin13 (Has.at H13 hin13 rfl) (g := (mkF m 22 (la2 o0 o1 (FP.dadd (0 : UInt64) (FP.dmul y_0 z_1)) 1) [(.int 1), (.ref w_w), (.double (FP.dadd (0 : UInt64) (FP.dmul y_0 z_1)))])) rfl rfl (hb hby d6_22)) ?_
  show gO (tF T12 m 23 (la2 o0 o1 (FP.dadd (0 : UInt64) (FP.dmul y_0 z_1)) 1) [(.double y_1), (.double (FP.dadd (0 : UInt64) (FP.dmul y_0 z_1)))])
  refine gob (fun _ k => XS.aloadN X12.here hx rfl (hb hby d6_23) rfl rfl k) ?_
  show gO (tF T12 m 24 (la2 o0 o1 (FP.dadd (0 : UInt64) (FP.dmul y_0 z_1)) 1) [(.ref o1), (.double y_1), (.double (FP.dadd (0 : UInt64) (FP.dmul y_0 z_1)))])
  refine gob (fun _ k => XS.aloadN X12.here hx rfl (hb hby d6_24) rfl rfl k) ?_
  show gO (tF T12 m 25 (la2 o0 o1 (FP.dadd (0 : UInt64) (FP.dmul y_0 z_1)) 1) [(.ref o0), (.ref o1), (.double y_1), (.double (FP.dadd (0 : UInt64) (FP.dmul y_0 z_1)))])
  obtain ⟨T14, X14, e14, st14⟩ := getF X12 hx hZ hown (host := "") (Or.inl (hW hw 23 rfl)) Via.refl e12 F_dofs (g := (mkF m 25 (la2 o0 o1 (FP.dadd (0 : UInt64) (FP.dmul y_0 z_1)) 1) [(.ref o0), (.ref o1), (.double y_1), (.double (FP.dadd (0 : UInt64) (FP.dmul y_0 z_1)))])) rfl rfl (hb hby d6_25)
  refine gob st14 ?_
  show gO (tF T14 m 28 (la2 o0 o1 (FP.dadd (0 : UInt64) (FP.dmul y_0 z_1)) 1) [(.ref w_d), (.ref o1), (.double y_1), (.double (FP.dadd (0 : UInt64) (FP.dmul y_0 z_1)))])
  refine gob (fun _ k => XS.iload X14.here hx rfl (hb hby d6_28) rfl k) ?_
  show gO (tF T14 m 30 (la2 o0 o1 (FP.dadd (0 : UInt64) (FP.dmul y_0 z_1)) 1) [(.int 1), (.ref w_d), (.ref o1), (.double y_1), (.double (FP.dadd (0 : UInt64) (FP.dmul y_0 z_1)))])
  obtain ⟨cl15, Ar15, aq15, S15, N15, H15, G15⟩ := id V_d
  have hin15 : ¬ ((1 : Int32) < 0 ∨ cl15.slots.size ≤ ((1 : Int32)).toNatClampNeg) := inb_of S15 ⟨by decide, by decide⟩
  refine gob (X14.iaload hx (j := (1 : Int32)) (v := (.int 3)) (by rw [e14]; exact Ar15.1) (State.isArrayOf_alike hZ.alike Ar15.2.1) Ar15.2.2 hin15 (Has.at H15 hin15 rfl) (g := (mkF m 30 (la2 o0 o1 (FP.dadd (0 : UInt64) (FP.dmul y_0 z_1)) 1) [(.int 1), (.ref w_d), (.ref o1), (.double y_1), (.double (FP.dadd (0 : UInt64) (FP.dmul y_0 z_1)))])) rfl rfl (hb hby d6_30)) ?_
  show gO (tF T14 m 31 (la2 o0 o1 (FP.dadd (0 : UInt64) (FP.dmul y_0 z_1)) 1) [(.int 3), (.ref o1), (.double y_1), (.double (FP.dadd (0 : UInt64) (FP.dmul y_0 z_1)))])
  obtain ⟨cl16, Ar16, aq16, S16, N16, H16, G16⟩ := id V_z
  have hin16 : ¬ ((3 : Int32) < 0 ∨ cl16.slots.size ≤ ((3 : Int32)).toNatClampNeg) := inb_of S16 ⟨by decide, by decide⟩
  refine gob (X14.daload hx (j := (3 : Int32)) (v := (.double z_3)) (by rw [e14]; exact Ar16.1) (State.isArrayOf_alike hZ.alike Ar16.2.1) Ar16.2.2 hin16 (Has.at H16 hin16 rfl) (g := (mkF m 31 (la2 o0 o1 (FP.dadd (0 : UInt64) (FP.dmul y_0 z_1)) 1) [(.int 3), (.ref o1), (.double y_1), (.double (FP.dadd (0 : UInt64) (FP.dmul y_0 z_1)))])) rfl rfl (hb hby d6_31)) ?_
  show gO (tF T14 m 32 (la2 o0 o1 (FP.dadd (0 : UInt64) (FP.dmul y_0 z_1)) 1) [(.double z_3), (.double y_1), (.double (FP.dadd (0 : UInt64) (FP.dmul y_0 z_1)))])
  have mg17 : Mag64 1090 (FP.dmul y_1 z_3) := own_dmul m_y_1 m_z_3 (by decide) (by decide) (by decide)
  refine gob (fun _ k => XS.dmulS X14.here hx rfl (hb hby d6_32) rfl (v := (FP.dmul y_1 z_3)) (mg17.fin (by decide)).noNaN rfl k) ?_
  show gO (tF T14 m 33 (la2 o0 o1 (FP.dadd (0 : UInt64) (FP.dmul y_0 z_1)) 1) [(.double (FP.dmul y_1 z_3)), (.double (FP.dadd (0 : UInt64) (FP.dmul y_0 z_1)))])
  have mg18 : Mag64 1094 (FP.dadd (FP.dadd (0 : UInt64) (FP.dmul y_0 z_1)) (FP.dmul y_1 z_3)) := own_dadd (K := 1092) (mg9.mono (by decide)) (mg17.mono (by decide)) (by decide) (by decide)
  refine gob (fun _ k => XS.daddS X14.here hx rfl (hb hby d6_33) rfl (v := (FP.dadd (FP.dadd (0 : UInt64) (FP.dmul y_0 z_1)) (FP.dmul y_1 z_3))) (mg18.fin (by decide)).noNaN rfl k) ?_
  show gO (tF T14 m 34 (la2 o0 o1 (FP.dadd (0 : UInt64) (FP.dmul y_0 z_1)) 1) [(.double (FP.dadd (FP.dadd (0 : UInt64) (FP.dmul y_0 z_1)) (FP.dmul y_1 z_3)))])
  refine gob (fun _ k => XS.dstoreN X14.here hx rfl (hb hby d6_34) rfl (l' := (la2 o0 o1 (FP.dadd (FP.dadd (0 : UInt64) (FP.dmul y_0 z_1)) (FP.dmul y_1 z_3)) 1)) rfl k) ?_
  show gO (tF T14 m 35 (la2 o0 o1 (FP.dadd (FP.dadd (0 : UInt64) (FP.dmul y_0 z_1)) (FP.dmul y_1 z_3)) 1) [])
  refine gob (fun _ k => XS.iinc X14.here hx rfl (hb hby d6_35) rfl (l' := (la2 o0 o1 (FP.dadd (FP.dadd (0 : UInt64) (FP.dmul y_0 z_1)) (FP.dmul y_1 z_3)) 2)) rfl k) ?_
  show gO (tF T14 m 38 (la2 o0 o1 (FP.dadd (FP.dadd (0 : UInt64) (FP.dmul y_0 z_1)) (FP.dmul y_1 z_3)) 2) [])
  refine gob (fun _ k => XS.goto X14.here hx rfl (pc0 := 38) (pc' := 5) rfl (hb hby d6_38) (by decide) (by decide) k) ?_
  show gO (tF T14 m 5 (la2 o0 o1 (FP.dadd (FP.dadd (0 : UInt64) (FP.dmul y_0 z_1)) (FP.dmul y_1 z_3)) 2) [])
  refine gob (fun _ k => XS.iload X14.here hx rfl (hb hby d6_5) rfl k) ?_
  show gO (tF T14 m 7 (la2 o0 o1 (FP.dadd (FP.dadd (0 : UInt64) (FP.dmul y_0 z_1)) (FP.dmul y_1 z_3)) 2) [(.int 2)])
  refine gob (fun _ k => XS.aloadN X14.here hx rfl (hb hby d6_7) rfl rfl k) ?_
  show gO (tF T14 m 8 (la2 o0 o1 (FP.dadd (FP.dadd (0 : UInt64) (FP.dmul y_0 z_1)) (FP.dmul y_1 z_3)) 2) [(.ref o0), (.int 2)])
  obtain ⟨T19, X19, e19, st19⟩ := getF X14 hx hZ hown (host := "") (Or.inl (hW hw 23 rfl)) Via.refl e14 F_dofs (g := (mkF m 8 (la2 o0 o1 (FP.dadd (FP.dadd (0 : UInt64) (FP.dmul y_0 z_1)) (FP.dmul y_1 z_3)) 2) [(.ref o0), (.int 2)])) rfl rfl (hb hby d6_8)
  refine gob st19 ?_
  show gO (tF T19 m 11 (la2 o0 o1 (FP.dadd (FP.dadd (0 : UInt64) (FP.dmul y_0 z_1)) (FP.dmul y_1 z_3)) 2) [(.ref w_d), (.int 2)])
  obtain ⟨cl20, Ar20, aq20, S20, N20, H20, G20⟩ := id V_d
  refine gob (X19.arraylength hx (by rw [e19]; exact Ar20.1) (State.isArrayOf_alike hZ.alike Ar20.2.1) (g := (mkF m 11 (la2 o0 o1 (FP.dadd (FP.dadd (0 : UInt64) (FP.dmul y_0 z_1)) (FP.dmul y_1 z_3)) 2) [(.ref w_d), (.int 2)])) rfl rfl (hb hby d6_11)) ?_
  rw [len_of S20 N20]
  show gO (tF T19 m 12 (la2 o0 o1 (FP.dadd (FP.dadd (0 : UInt64) (FP.dmul y_0 z_1)) (FP.dmul y_1 z_3)) 2) [(.int 2), (.int 2)])
  refine gob (fun _ k => XS.icmpYes X19.here hx rfl (pc0 := 12) (pc' := 41) rfl (hb hby d6_12) rfl (flt (by decide : ¬ ((2 : Int32) < (2 : Int32)))).2.1 (by decide) (by decide) k) ?_
  show gO (tF T19 m 41 (la2 o0 o1 (FP.dadd (FP.dadd (0 : UInt64) (FP.dmul y_0 z_1)) (FP.dmul y_1 z_3)) 2) [])
  refine gob (fun _ k => XS.dloadN X19.here hx rfl (hb hby d6_41) rfl k) ?_
  show gO (tF T19 m 42 (la2 o0 o1 (FP.dadd (FP.dadd (0 : UInt64) (FP.dmul y_0 z_1)) (FP.dmul y_1 z_3)) 2) [(.double (FP.dadd (FP.dadd (0 : UInt64) (FP.dmul y_0 z_1)) (FP.dmul y_1 z_3)))])
  refine goD X19 hx hlk Bd.returns (hb hby d6_42) ?_ (by decide) (by decide)
  show Qof_13 Z o0 o1 w_d w_w k_d k_y y_0 y_1 k_z z_0 z_1 z_2 z_3 h0 n0 (some (.double (FP.dadd (FP.dadd (0 : UInt64) (FP.dmul y_0 z_1)) (FP.dmul y_1 z_3)))) T19.heap _
  exact ⟨(FP.dadd (FP.dadd (0 : UInt64) (FP.dmul y_0 z_1)) (FP.dmul y_1 z_3)), rfl, rfl, N0, e19⟩
theorem ef_of_013 (m : MethodId) (x0 : Addr) (x1 : Addr) : entryFrame m #[(.ref x0), (.ref x1)] 5 = mkF m 0 #[.val (.ref x0), .val (.ref x1), .unset, .unset, .unset] [] := by first | (simp [entryFrame, mkF, argsToLocals, Value.category]; done) | rfl
def Qof_013 (Z : State) (o0 : Addr) (o1 : Addr) (w_d : Addr) (w_w : Addr) (k_d : ClassId) (k_y : ClassId) (y_0 : UInt64) (y_1 : UInt64) (y_2 : UInt64) (k_z : ClassId) (z_0 : UInt64) (z_1 : UInt64) (z_2 : UInt64) (z_3 : UInt64) (h0 : Heap) (n0 : Nat) (v : Option Value) (h : Heap) (L : List Loc) : Prop := ∃ r : UInt64, v = some (.double r) ∧ ((r = (FP.dadd (FP.dadd (FP.dadd (0 : UInt64) (FP.dmul y_0 z_0)) (FP.dmul y_1 z_1)) (FP.dmul y_2 z_3)))) ∧ Fr n0 L ∧ h = h0
set_option maxRecDepth 65536 in
set_option maxHeartbeats 40000000 in
theorem rmof_013 (l : Launch) (Z : State) (a0 : Array Value) (hw : ∀ d ∈ tables_1, d.before a0 Z = true) (ws : List Jvm.Cond) (o0 : Addr) (o1 : Addr) (w_d : Addr) (w_w : Addr) (k_d : ClassId) (k_y : ClassId) (y_0 : UInt64) (y_1 : UInt64) (y_2 : UInt64) (k_z : ClassId) (z_0 : UInt64) (z_1 : UInt64) (z_2 : UInt64) (z_3 : UInt64) (h0 : Heap) (n0 : Nat) (Z0 : n0 ≤ h0.size) (F_dofs : Fld Z h0 o0 "com/example/fenda/fenda/analysis/Combination" "dofs" "[I" (.ref w_d)) (F_weights : Fld Z h0 o0 "com/example/fenda/fenda/analysis/Combination" "weights" "[D" (.ref w_w)) (V_d : Arv Z h0 w_d k_d .int (3 : Int32) [(.int 0), (.int 1), (.int 3)] (.int 0)) (m_y_0 : Mag64 1056 y_0) (m_y_1 : Mag64 1056 y_1) (m_y_2 : Mag64 1056 y_2) (V_y : Arv Z h0 w_w k_y .double (3 : Int32) [(.double y_0), (.double y_1), (.double y_2)] (.double 0)) (m_z_0 : Mag64 1056 z_0) (m_z_1 : Mag64 1056 z_1) (m_z_2 : Mag64 1056 z_2) (m_z_3 : Mag64 1056 z_3) (V_z : Arv Z h0 o1 k_z .double (4 : Int32) [(.double z_0), (.double z_1), (.double z_2), (.double z_3)] (.double 0)) :
    MetFree l (⟨"com/example/fenda/fenda/analysis/Combination", "of", "([D)D"⟩ : MethodName) (head1 (Jvm.Cond.code (⟨"com/example/fenda/fenda/analysis/Combination", "of", "([D)D"⟩ : MethodName) prog_3_method_2_code 5 (some .double) :: ws) ({ frames := 0, cells := 0, slots := 0, locals := 0 } : Room)) (fun a U => a = #[(.ref o0), (.ref o1)] ∧ Z.Warmed39 U.vm ∧ U.heap = h0) (fun _ _ _ _ _ => True) (fun _ U o U' => ∃ v L, o = .returned v ∧ Qof_013 Z o0 o1 w_d w_w k_d k_y y_0 y_1 y_2 k_z z_0 z_1 z_2 z_3 h0 n0 v U'.heap L ∧ FrameEnd U o U' L ({ frames := 0, cells := 0, slots := 0, locals := 0 } : Room).cells ({ frames := 0, cells := 0, slots := 0, locals := 0 } : Room).slots) := by
  refine MetFree.of_bodySF (plainFor_of_name (by first | (simp [plainName, overriddenIn]; done) | decide +kernel)) hisR ?_
  intro p e s m args below meth c s₁ Bd hml0 hP hK
  obtain ⟨rfl, hZ, hh⟩ := hP
  have hx := Bd.exec
  have hby := Bd.bytes
  have hml : c.maxLocals = 5 := hml0
  have hown : s.vm.findClass "com/example/fenda/fenda/analysis/Combination" = some m.cls := findClass_of_methodNamed Bd.named
  have hnm := (name_of_methodNamed Bd.named Bd.method).1
  have hlk := BodyLoose.notSynchronized Bd
  have X0 : Stand p l e ({ frames := 0, cells := 0, slots := 0, locals := 0 } : Room) s m #[(.ref o0), (.ref o1)] below meth c s₁ [] 0 0 := Stand.of_body Bd
  have e0 : s₁.heap = h0 := by rw [← hh, Bd.state]; rfl
  have N0 := Fr.nil n0
  show Go p e below s (Qof_013 Z o0 o1 w_d w_w k_d k_y y_0 y_1 y_2 k_z z_0 z_1 z_2 z_3 h0 n0) 0 0 (s₁.setTop (entryFrame m #[(.ref o0), (.ref o1)] 5))
  rw [ef_of_013]
  show gO (tF s₁ m 0 (la0 o0 o1) [])
  refine gob (fun _ k => XS.dconst0 X0.here hx rfl (hb hby d6_0) (v := (0 : UInt64)) (by decide +kernel) k) ?_
  show gO (tF s₁ m 1 (la0 o0 o1) [(.double (0 : UInt64))])
  refine gob (fun _ k => XS.dstoreN X0.here hx rfl (hb hby d6_1) rfl (l' := (la1 o0 o1 (0 : UInt64))) rfl k) ?_
  show gO (tF s₁ m 2 (la1 o0 o1 (0 : UInt64)) [])
  refine gob (fun _ k => XS.iconst X0.here hx rfl (hb hby d6_2) k) ?_
  show gO (tF s₁ m 3 (la1 o0 o1 (0 : UInt64)) [(.int 0)])
  refine gob (fun _ k => XS.istore X0.here hx rfl (hb hby d6_3) rfl (l' := (la2 o0 o1 (0 : UInt64) 0)) rfl k) ?_
  show gO (tF s₁ m 5 (la2 o0 o1 (0 : UInt64) 0) [])
  refine gob (fun _ k => XS.iload X0.here hx rfl (hb hby d6_5) rfl k) ?_
  show gO (tF s₁ m 7 (la2 o0 o1 (0 : UInt64) 0) [(.int 0)])
  refine gob (fun _ k => XS.aloadN X0.here hx rfl (hb hby d6_7) rfl rfl k) ?_
  show gO (tF s₁ m 8 (la2 o0 o1 (0 : UInt64) 0) [(.ref o0), (.int 0)])
  obtain ⟨T1, X1, e1, st1⟩ := getF X0 hx hZ hown (host := "") (Or.inl (hW hw 23 rfl)) Via.refl e0 F_dofs (g := (mkF m 8 (la2 o0 o1 (0 : UInt64) 0) [(.ref o0), (.int 0)])) rfl rfl (hb hby d6_8)
  refine gob st1 ?_
  show gO (tF T1 m 11 (la2 o0 o1 (0 : UInt64) 0) [(.ref w_d), (.int 0)])
  obtain ⟨cl2, Ar2, aq2, S2, N2, H2, G2⟩ := id V_d
  refine gob (X1.arraylength hx (by rw [e1]; exact Ar2.1) (State.isArrayOf_alike hZ.alike Ar2.2.1) (g := (mkF m 11 (la2 o0 o1 (0 : UInt64) 0) [(.ref w_d), (.int 0)])) rfl rfl (hb hby d6_11)) ?_
  rw [len_of S2 N2]
  show gO (tF T1 m 12 (la2 o0 o1 (0 : UInt64) 0) [(.int 3), (.int 0)])
  refine gob (fun _ k => XS.icmpNo X1.here hx rfl (hb hby d6_12) rfl (tlt (by decide : (0 : Int32) < (3 : Int32))).2.1 k) ?_
  show gO (tF T1 m 15 (la2 o0 o1 (0 : UInt64) 0) [])
  refine gob (fun _ k => XS.dloadN X1.here hx rfl (hb hby d6_15) rfl k) ?_
  show gO (tF T1 m 16 (la2 o0 o1 (0 : UInt64) 0) [(.double (0 : UInt64))])
  refine gob (fun _ k => XS.aloadN X1.here hx rfl (hb hby d6_16) rfl rfl k) ?_
  show gO (tF T1 m 17 (la2 o0 o1 (0 : UInt64) 0) [(.ref o0), (.double (0 : UInt64))])
  obtain ⟨T3, X3, e3, st3⟩ := getF X1 hx hZ hown (host := "") (Or.inl (hW hw 25 rfl)) Via.refl e1 F_weights (g := (mkF m 17 (la2 o0 o1 (0 : UInt64) 0) [(.ref o0), (.double (0 : UInt64))])) rfl rfl (hb hby d6_17)
  refine gob st3 ?_
  show gO (tF T3 m 20 (la2 o0 o1 (0 : UInt64) 0) [(.ref w_w), (.double (0 : UInt64))])
  refine gob (fun _ k => XS.iload X3.here hx rfl (hb hby d6_20) rfl k) ?_
  show gO (tF T3 m 22 (la2 o0 o1 (0 : UInt64) 0) [(.int 0), (.ref w_w), (.double (0 : UInt64))])
  obtain ⟨cl4, Ar4, aq4, S4, N4, H4, G4⟩ := id V_y
  have hin4 : ¬ ((0 : Int32) < 0 ∨ cl4.slots.size ≤ ((0 : Int32)).toNatClampNeg) := inb_of S4 ⟨by decide, by decide⟩
  refine gob (X3.daload hx (j := (0 : Int32)) (v := (.double y_0)) (by rw [e3]; exact Ar4.1) (State.isArrayOf_alike hZ.alike Ar4.2.1) Ar4.2.2 hin4 (Has.at H4 hin4 rfl) (g := (mkF m 22 (la2 o0 o1 (0 : UInt64) 0) [(.int 0), (.ref w_w), (.double (0 : UInt64))])) rfl rfl (hb hby d6_22)) ?_
  show gO (tF T3 m 23 (la2 o0 o1 (0 : UInt64) 0) [(.double y_0), (.double (0 : UInt64))])
  refine gob (fun _ k => XS.aloadN X3.here hx rfl (hb hby d6_23) rfl rfl k) ?_
  show gO (tF T3 m 24 (la2 o0 o1 (0 : UInt64) 0) [(.ref o1), (.double y_0), (.double (0 : UInt64))])
  refine gob (fun _ k => XS.aloadN X3.here hx rfl (hb hby d6_24) rfl rfl k) ?_
  show gO (tF T3 m 25 (la2 o0 o1 (0 : UInt64) 0) [(.ref o0), (.ref o1), (.double y_0), (.double (0 : UInt64))])
  obtain ⟨T5, X5, e5, st5⟩ := getF X3 hx hZ hown (host := "") (Or.inl (hW hw 23 rfl)) Via.refl e3 F_dofs (g := (mkF m 25 (la2 o0 o1 (0 : UInt64) 0) [(.ref o0), (.ref o1), (.double y_0), (.double (0 : UInt64))])) rfl rfl (hb hby d6_25)
  refine gob st5 ?_
  show gO (tF T5 m 28 (la2 o0 o1 (0 : UInt64) 0) [(.ref w_d), (.ref o1), (.double y_0), (.double (0 : UInt64))])
  refine gob (fun _ k => XS.iload X5.here hx rfl (hb hby d6_28) rfl k) ?_
  show gO (tF T5 m 30 (la2 o0 o1 (0 : UInt64) 0) [(.int 0), (.ref w_d), (.ref o1), (.double y_0), (.double (0 : UInt64))])
  obtain ⟨cl6, Ar6, aq6, S6, N6, H6, G6⟩ := id V_d
  have hin6 : ¬ ((0 : Int32) < 0 ∨ cl6.slots.size ≤ ((0 : Int32)).toNatClampNeg) := inb_of S6 ⟨by decide, by decide⟩
  refine gob (X5.iaload hx (j := (0 : Int32)) (v := (.int 0)) (by rw [e5]; exact Ar6.1) (State.isArrayOf_alike hZ.alike Ar6.2.1) Ar6.2.2 hin6 (Has.at H6 hin6 rfl) (g := (mkF m 30 (la2 o0 o1 (0 : UInt64) 0) [(.int 0), (.ref w_d), (.ref o1), (.double y_0), (.double (0 : UInt64))])) rfl rfl (hb hby d6_30)) ?_
  show gO (tF T5 m 31 (la2 o0 o1 (0 : UInt64) 0) [(.int 0), (.ref o1), (.double y_0), (.double (0 : UInt64))])
  obtain ⟨cl7, Ar7, aq7, S7, N7, H7, G7⟩ := id V_z
  have hin7 : ¬ ((0 : Int32) < 0 ∨ cl7.slots.size ≤ ((0 : Int32)).toNatClampNeg) := inb_of S7 ⟨by decide, by decide⟩
  refine gob (X5.daload hx (j := (0 : Int32)) (v := (.double z_0)) (by rw [e5]; exact Ar7.1) (State.isArrayOf_alike hZ.alike Ar7.2.1) Ar7.2.2 hin7 (Has.at H7 hin7 rfl) (g := (mkF m 31 (la2 o0 o1 (0 : UInt64) 0) [(.int 0), (.ref o1), (.double y_0), (.double (0 : UInt64))])) rfl rfl (hb hby d6_31)) ?_
  show gO (tF T5 m 32 (la2 o0 o1 (0 : UInt64) 0) [(.double z_0), (.double y_0), (.double (0 : UInt64))])
  have mg8 : Mag64 1090 (FP.dmul y_0 z_0) := own_dmul m_y_0 m_z_0 (by decide) (by decide) (by decide)
  refine gob (fun _ k => XS.dmulS X5.here hx rfl (hb hby d6_32) rfl (v := (FP.dmul y_0 z_0)) (mg8.fin (by decide)).noNaN rfl k) ?_
  show gO (tF T5 m 33 (la2 o0 o1 (0 : UInt64) 0) [(.double (FP.dmul y_0 z_0)), (.double (0 : UInt64))])
  have mg9 : Mag64 1092 (FP.dadd (0 : UInt64) (FP.dmul y_0 z_0)) := own_dadd (K := 1090) (own_m0.mono (by decide)) (mg8.mono (by decide)) (by decide) (by decide)
  refine gob (fun _ k => XS.daddS X5.here hx rfl (hb hby d6_33) rfl (v := (FP.dadd (0 : UInt64) (FP.dmul y_0 z_0))) (mg9.fin (by decide)).noNaN rfl k) ?_
  show gO (tF T5 m 34 (la2 o0 o1 (0 : UInt64) 0) [(.double (FP.dadd (0 : UInt64) (FP.dmul y_0 z_0)))])
  refine gob (fun _ k => XS.dstoreN X5.here hx rfl (hb hby d6_34) rfl (l' := (la2 o0 o1 (FP.dadd (0 : UInt64) (FP.dmul y_0 z_0)) 0)) rfl k) ?_
  show gO (tF T5 m 35 (la2 o0 o1 (FP.dadd (0 : UInt64) (FP.dmul y_0 z_0)) 0) [])
  refine gob (fun _ k => XS.iinc X5.here hx rfl (hb hby d6_35) rfl (l' := (la2 o0 o1 (FP.dadd (0 : UInt64) (FP.dmul y_0 z_0)) 1)) rfl k) ?_
  show gO (tF T5 m 38 (la2 o0 o1 (FP.dadd (0 : UInt64) (FP.dmul y_0 z_0)) 1) [])
  refine gob (fun _ k => XS.goto X5.here hx rfl (pc0 := 38) (pc' := 5) rfl (hb hby d6_38) (by decide) (by decide) k) ?_
  show gO (tF T5 m 5 (la2 o0 o1 (FP.dadd (0 : UInt64) (FP.dmul y_0 z_0)) 1) [])
  refine gob (fun _ k => XS.iload X5.here hx rfl (hb hby d6_5) rfl k) ?_
  show gO (tF T5 m 7 (la2 o0 o1 (FP.dadd (0 : UInt64) (FP.dmul y_0 z_0)) 1) [(.int 1)])
  refine gob (fun _ k => XS.aloadN X5.here hx rfl (hb hby d6_7) rfl rfl k) ?_
  show gO (tF T5 m 8 (la2 o0 o1 (FP.dadd (0 : UInt64) (FP.dmul y_0 z_0)) 1) [(.ref o0), (.int 1)])
  obtain ⟨T10, X10, e10, st10⟩ := getF X5 hx hZ hown (host := "") (Or.inl (hW hw 23 rfl)) Via.refl e5 F_dofs (g := (mkF m 8 (la2 o0 o1 (FP.dadd (0 : UInt64) (FP.dmul y_0 z_0)) 1) [(.ref o0), (.int 1)])) rfl rfl (hb hby d6_8)
  refine gob st10 ?_
  show gO (tF T10 m 11 (la2 o0 o1 (FP.dadd (0 : UInt64) (FP.dmul y_0 z_0)) 1) [(.ref w_d), (.int 1)])
  obtain ⟨cl11, Ar11, aq11, S11, N11, H11, G11⟩ := id V_d
  refine gob (X10.arraylength hx (by rw [e10]; exact Ar11.1) (State.isArrayOf_alike hZ.alike Ar11.2.1) (g := (mkF m 11 (la2 o0 o1 (FP.dadd (0 : UInt64) (FP.dmul y_0 z_0)) 1) [(.ref w_d), (.int 1)])) rfl rfl (hb hby d6_11)) ?_
  rw [len_of S11 N11]
  show gO (tF T10 m 12 (la2 o0 o1 (FP.dadd (0 : UInt64) (FP.dmul y_0 z_0)) 1) [(.int 3), (.int 1)])
  refine gob (fun _ k => XS.icmpNo X10.here hx rfl (hb hby d6_12) rfl (tlt (by decide : (1 : Int32) < (3 : Int32))).2.1 k) ?_
  show gO (tF T10 m 15 (la2 o0 o1 (FP.dadd (0 : UInt64) (FP.dmul y_0 z_0)) 1) [])
  refine gob (fun _ k => XS.dloadN X10.here hx rfl (hb hby d6_15) rfl k) ?_
  show gO (tF T10 m 16 (la2 o0 o1 (FP.dadd (0 : UInt64) (FP.dmul y_0 z_0)) 1) [(.double (FP.dadd (0 : UInt64) (FP.dmul y_0 z_0)))])
  refine gob (fun _ k => XS.aloadN X10.here hx rfl (hb hby d6_16) rfl rfl k) ?_
  show gO (tF T10 m 17 (la2 o0 o1 (FP.dadd (0 : UInt64) (FP.dmul y_0 z_0)) 1) [(.ref o0), (.double (FP.dadd (0 : UInt64) (FP.dmul y_0 z_0)))])
  obtain ⟨T12, X12, e12, st12⟩ := getF X10 hx hZ hown (host := "") (Or.inl (hW hw 25 rfl)) Via.refl e10 F_weights (g := (mkF m 17 (la2 o0 o1 (FP.dadd (0 : UInt64) (FP.dmul y_0 z_0)) 1) [(.ref o0), (.double (FP.dadd (0 : UInt64) (FP.dmul y_0 z_0)))])) rfl rfl (hb hby d6_17)
  refine gob st12 ?_
  show gO (tF T12 m 20 (la2 o0 o1 (FP.dadd (0 : UInt64) (FP.dmul y_0 z_0)) 1) [(.ref w_w), (.double (FP.dadd (0 : UInt64) (FP.dmul y_0 z_0)))])
  refine gob (fun _ k => XS.iload X12.here hx rfl (hb hby d6_20) rfl k) ?_
  show gO (tF T12 m 22 (la2 o0 o1 (FP.dadd (0 : UInt64) (FP.dmul y_0 z_0)) 1) [(.int 1), (.ref w_w), (.double (FP.dadd (0 : UInt64) (FP.dmul y_0 z_0)))])
  obtain ⟨cl13, Ar13, aq13, S13, N13, H13, G13⟩ := id V_y
  have hin13 : ¬ ((1 : Int32) < 0 ∨ cl13.slots.size ≤ ((1 : Int32)).toNatClampNeg) := inb_of S13 ⟨by decide, by decide⟩
  refine gob (X12.daload hx (j := (1 : Int32)) (v := (.double y_1)) (by rw [e12]; exact Ar13.1) (State.isArrayOf_alike hZ.alike Ar13.2.1) Ar13.2.2 hin13 (Has.at H13 hin13 rfl) (g := (mkF m 22 (la2 o0 o1 (FP.dadd (0 : UInt64) (FP.dmul y_0 z_0)) 1) [(.int 1), (.ref w_w), (.double (FP.dadd (0 : UInt64) (FP.dmul y_0 z_0)))])) rfl rfl (hb hby d6_22)) ?_
  show gO (tF T12 m 23 (la2 o0 o1 (FP.dadd (0 : UInt64) (FP.dmul y_0 z_0)) 1) [(.double y_1), (.double (FP.dadd (0 : UInt64) (FP.dmul y_0 z_0)))])
  refine gob (fun _ k => XS.aloadN X12.here hx rfl (hb hby d6_23) rfl rfl k) ?_
  show gO (tF T12 m 24 (la2 o0 o1 (FP.dadd (0 : UInt64) (FP.dmul y_0 z_0)) 1) [(.ref o1), (.double y_1), (.double (FP.dadd (0 : UInt64) (FP.dmul y_0 z_0)))])
  refine gob (fun _ k => XS.aloadN X12.here hx rfl (hb hby d6_24) rfl rfl k) ?_
  show gO (tF T12 m 25 (la2 o0 o1 (FP.dadd (0 : UInt64) (FP.dmul y_0 z_0)) 1) [(.ref o0), (.ref o1), (.double y_1), (.double (FP.dadd (0 : UInt64) (FP.dmul y_0 z_0)))])
  obtain ⟨T14, X14, e14, st14⟩ := getF X12 hx hZ hown (host := "") (Or.inl (hW hw 23 rfl)) Via.refl e12 F_dofs (g := (mkF m 25 (la2 o0 o1 (FP.dadd (0 : UInt64) (FP.dmul y_0 z_0)) 1) [(.ref o0), (.ref o1), (.double y_1), (.double (FP.dadd (0 : UInt64) (FP.dmul y_0 z_0)))])) rfl rfl (hb hby d6_25)
  refine gob st14 ?_
  show gO (tF T14 m 28 (la2 o0 o1 (FP.dadd (0 : UInt64) (FP.dmul y_0 z_0)) 1) [(.ref w_d), (.ref o1), (.double y_1), (.double (FP.dadd (0 : UInt64) (FP.dmul y_0 z_0)))])
  refine gob (fun _ k => XS.iload X14.here hx rfl (hb hby d6_28) rfl k) ?_
  show gO (tF T14 m 30 (la2 o0 o1 (FP.dadd (0 : UInt64) (FP.dmul y_0 z_0)) 1) [(.int 1), (.ref w_d), (.ref o1), (.double y_1), (.double (FP.dadd (0 : UInt64) (FP.dmul y_0 z_0)))])
  obtain ⟨cl15, Ar15, aq15, S15, N15, H15, G15⟩ := id V_d
  have hin15 : ¬ ((1 : Int32) < 0 ∨ cl15.slots.size ≤ ((1 : Int32)).toNatClampNeg) := inb_of S15 ⟨by decide, by decide⟩
  refine gob (X14.iaload hx (j := (1 : Int32)) (v := (.int 1)) (by rw [e14]; exact Ar15.1) (State.isArrayOf_alike hZ.alike Ar15.2.1) Ar15.2.2 hin15 (Has.at H15 hin15 rfl) (g := (mkF m 30 (la2 o0 o1 (FP.dadd (0 : UInt64) (FP.dmul y_0 z_0)) 1) [(.int 1), (.ref w_d), (.ref o1), (.double y_1), (.double (FP.dadd (0 : UInt64) (FP.dmul y_0 z_0)))])) rfl rfl (hb hby d6_30)) ?_
  show gO (tF T14 m 31 (la2 o0 o1 (FP.dadd (0 : UInt64) (FP.dmul y_0 z_0)) 1) [(.int 1), (.ref o1), (.double y_1), (.double (FP.dadd (0 : UInt64) (FP.dmul y_0 z_0)))])
  obtain ⟨cl16, Ar16, aq16, S16, N16, H16, G16⟩ := id V_z
  have hin16 : ¬ ((1 : Int32) < 0 ∨ cl16.slots.size ≤ ((1 : Int32)).toNatClampNeg) := inb_of S16 ⟨by decide, by decide⟩
  refine gob (X14.daload hx (j := (1 : Int32)) (v := (.double z_1)) (by rw [e14]; exact Ar16.1) (State.isArrayOf_alike hZ.alike Ar16.2.1) Ar16.2.2 hin16 (Has.at H16 hin16 rfl) (g := (mkF m 31 (la2 o0 o1 (FP.dadd (0 : UInt64) (FP.dmul y_0 z_0)) 1) [(.int 1), (.ref o1), (.double y_1), (.double (FP.dadd (0 : UInt64) (FP.dmul y_0 z_0)))])) rfl rfl (hb hby d6_31)) ?_
  show gO (tF T14 m 32 (la2 o0 o1 (FP.dadd (0 : UInt64) (FP.dmul y_0 z_0)) 1) [(.double z_1), (.double y_1), (.double (FP.dadd (0 : UInt64) (FP.dmul y_0 z_0)))])
  have mg17 : Mag64 1090 (FP.dmul y_1 z_1) := own_dmul m_y_1 m_z_1 (by decide) (by decide) (by decide)
  refine gob (fun _ k => XS.dmulS X14.here hx rfl (hb hby d6_32) rfl (v := (FP.dmul y_1 z_1)) (mg17.fin (by decide)).noNaN rfl k) ?_
  show gO (tF T14 m 33 (la2 o0 o1 (FP.dadd (0 : UInt64) (FP.dmul y_0 z_0)) 1) [(.double (FP.dmul y_1 z_1)), (.double (FP.dadd (0 : UInt64) (FP.dmul y_0 z_0)))])
  have mg18 : Mag64 1094 (FP.dadd (FP.dadd (0 : UInt64) (FP.dmul y_0 z_0)) (FP.dmul y_1 z_1)) := own_dadd (K := 1092) (mg9.mono (by decide)) (mg17.mono (by decide)) (by decide) (by decide)
  refine gob (fun _ k => XS.daddS X14.here hx rfl (hb hby d6_33) rfl (v := (FP.dadd (FP.dadd (0 : UInt64) (FP.dmul y_0 z_0)) (FP.dmul y_1 z_1))) (mg18.fin (by decide)).noNaN rfl k) ?_
  show gO (tF T14 m 34 (la2 o0 o1 (FP.dadd (0 : UInt64) (FP.dmul y_0 z_0)) 1) [(.double (FP.dadd (FP.dadd (0 : UInt64) (FP.dmul y_0 z_0)) (FP.dmul y_1 z_1)))])
  refine gob (fun _ k => XS.dstoreN X14.here hx rfl (hb hby d6_34) rfl (l' := (la2 o0 o1 (FP.dadd (FP.dadd (0 : UInt64) (FP.dmul y_0 z_0)) (FP.dmul y_1 z_1)) 1)) rfl k) ?_
  show gO (tF T14 m 35 (la2 o0 o1 (FP.dadd (FP.dadd (0 : UInt64) (FP.dmul y_0 z_0)) (FP.dmul y_1 z_1)) 1) [])
  refine gob (fun _ k => XS.iinc X14.here hx rfl (hb hby d6_35) rfl (l' := (la2 o0 o1 (FP.dadd (FP.dadd (0 : UInt64) (FP.dmul y_0 z_0)) (FP.dmul y_1 z_1)) 2)) rfl k) ?_
  show gO (tF T14 m 38 (la2 o0 o1 (FP.dadd (FP.dadd (0 : UInt64) (FP.dmul y_0 z_0)) (FP.dmul y_1 z_1)) 2) [])
  refine gob (fun _ k => XS.goto X14.here hx rfl (pc0 := 38) (pc' := 5) rfl (hb hby d6_38) (by decide) (by decide) k) ?_
  show gO (tF T14 m 5 (la2 o0 o1 (FP.dadd (FP.dadd (0 : UInt64) (FP.dmul y_0 z_0)) (FP.dmul y_1 z_1)) 2) [])
  refine gob (fun _ k => XS.iload X14.here hx rfl (hb hby d6_5) rfl k) ?_
  show gO (tF T14 m 7 (la2 o0 o1 (FP.dadd (FP.dadd (0 : UInt64) (FP.dmul y_0 z_0)) (FP.dmul y_1 z_1)) 2) [(.int 2)])
  refine gob (fun _ k => XS.aloadN X14.here hx rfl (hb hby d6_7) rfl rfl k) ?_
  show gO (tF T14 m 8 (la2 o0 o1 (FP.dadd (FP.dadd (0 : UInt64) (FP.dmul y_0 z_0)) (FP.dmul y_1 z_1)) 2) [(.ref o0), (.int 2)])
  obtain ⟨T19, X19, e19, st19⟩ := getF X14 hx hZ hown (host := "") (Or.inl (hW hw 23 rfl)) Via.refl e14 F_dofs (g := (mkF m 8 (la2 o0 o1 (FP.dadd (FP.dadd (0 : UInt64) (FP.dmul y_0 z_0)) (FP.dmul y_1 z_1)) 2) [(.ref o0), (.int 2)])) rfl rfl (hb hby d6_8)
  refine gob st19 ?_
  show gO (tF T19 m 11 (la2 o0 o1 (FP.dadd (FP.dadd (0 : UInt64) (FP.dmul y_0 z_0)) (FP.dmul y_1 z_1)) 2) [(.ref w_d), (.int 2)])
  obtain ⟨cl20, Ar20, aq20, S20, N20, H20, G20⟩ := id V_d
  refine gob (X19.arraylength hx (by rw [e19]; exact Ar20.1) (State.isArrayOf_alike hZ.alike Ar20.2.1) (g := (mkF m 11 (la2 o0 o1 (FP.dadd (FP.dadd (0 : UInt64) (FP.dmul y_0 z_0)) (FP.dmul y_1 z_1)) 2) [(.ref w_d), (.int 2)])) rfl rfl (hb hby d6_11)) ?_
  rw [len_of S20 N20]
  show gO (tF T19 m 12 (la2 o0 o1 (FP.dadd (FP.dadd (0 : UInt64) (FP.dmul y_0 z_0)) (FP.dmul y_1 z_1)) 2) [(.int 3), (.int 2)])
  refine gob (fun _ k => XS.icmpNo X19.here hx rfl (hb hby d6_12) rfl (tlt (by decide : (2 : Int32) < (3 : Int32))).2.1 k) ?_
  show gO (tF T19 m 15 (la2 o0 o1 (FP.dadd (FP.dadd (0 : UInt64) (FP.dmul y_0 z_0)) (FP.dmul y_1 z_1)) 2) [])
  refine gob (fun _ k => XS.dloadN X19.here hx rfl (hb hby d6_15) rfl k) ?_
  show gO (tF T19 m 16 (la2 o0 o1 (FP.dadd (FP.dadd (0 : UInt64) (FP.dmul y_0 z_0)) (FP.dmul y_1 z_1)) 2) [(.double (FP.dadd (FP.dadd (0 : UInt64) (FP.dmul y_0 z_0)) (FP.dmul y_1 z_1)))])
  refine gob (fun _ k => XS.aloadN X19.here hx rfl (hb hby d6_16) rfl rfl k) ?_
  show gO (tF T19 m 17 (la2 o0 o1 (FP.dadd (FP.dadd (0 : UInt64) (FP.dmul y_0 z_0)) (FP.dmul y_1 z_1)) 2) [(.ref o0), (.double (FP.dadd (FP.dadd (0 : UInt64) (FP.dmul y_0 z_0)) (FP.dmul y_1 z_1)))])
  obtain ⟨T21, X21, e21, st21⟩ := getF X19 hx hZ hown (host := "") (Or.inl (hW hw 25 rfl)) Via.refl e19 F_weights (g := (mkF m 17 (la2 o0 o1 (FP.dadd (FP.dadd (0 : UInt64) (FP.dmul y_0 z_0)) (FP.dmul y_1 z_1)) 2) [(.ref o0), (.double (FP.dadd (FP.dadd (0 : UInt64) (FP.dmul y_0 z_0)) (FP.dmul y_1 z_1)))])) rfl rfl (hb hby d6_17)
  refine gob st21 ?_
  show gO (tF T21 m 20 (la2 o0 o1 (FP.dadd (FP.dadd (0 : UInt64) (FP.dmul y_0 z_0)) (FP.dmul y_1 z_1)) 2) [(.ref w_w), (.double (FP.dadd (FP.dadd (0 : UInt64) (FP.dmul y_0 z_0)) (FP.dmul y_1 z_1)))])
  refine gob (fun _ k => XS.iload X21.here hx rfl (hb hby d6_20) rfl k) ?_
  show gO (tF T21 m 22 (la2 o0 o1 (FP.dadd (FP.dadd (0 : UInt64) (FP.dmul y_0 z_0)) (FP.dmul y_1 z_1)) 2) [(.int 2), (.ref w_w), (.double (FP.dadd (FP.dadd (0 : UInt64) (FP.dmul y_0 z_0)) (FP.dmul y_1 z_1)))])
  obtain ⟨cl22, Ar22, aq22, S22, N22, H22, G22⟩ := id V_y
  have hin22 : ¬ ((2 : Int32) < 0 ∨ cl22.slots.size ≤ ((2 : Int32)).toNatClampNeg) := inb_of S22 ⟨by decide, by decide⟩
  refine gob (X21.daload hx (j := (2 : Int32)) (v := (.double y_2)) (by rw [e21]; exact Ar22.1) (State.isArrayOf_alike hZ.alike Ar22.2.1) Ar22.2.2 hin22 (Has.at H22 hin22 rfl) (g := (mkF m 22 (la2 o0 o1 (FP.dadd (FP.dadd (0 : UInt64) (FP.dmul y_0 z_0)) (FP.dmul y_1 z_1)) 2) [(.int 2), (.ref w_w), (.double (FP.dadd (FP.dadd (0 : UInt64) (FP.dmul y_0 z_0)) (FP.dmul y_1 z_1)))])) rfl rfl (hb hby d6_22)) ?_
  show gO (tF T21 m 23 (la2 o0 o1 (FP.dadd (FP.dadd (0 : UInt64) (FP.dmul y_0 z_0)) (FP.dmul y_1 z_1)) 2) [(.double y_2), (.double (FP.dadd (FP.dadd (0 : UInt64) (FP.dmul y_0 z_0)) (FP.dmul y_1 z_1)))])
  refine gob (fun _ k => XS.aloadN X21.here hx rfl (hb hby d6_23) rfl rfl k) ?_
  show gO (tF T21 m 24 (la2 o0 o1 (FP.dadd (FP.dadd (0 : UInt64) (FP.dmul y_0 z_0)) (FP.dmul y_1 z_1)) 2) [(.ref o1), (.double y_2), (.double (FP.dadd (FP.dadd (0 : UInt64) (FP.dmul y_0 z_0)) (FP.dmul y_1 z_1)))])
  refine gob (fun _ k => XS.aloadN X21.here hx rfl (hb hby d6_24) rfl rfl k) ?_
  show gO (tF T21 m 25 (la2 o0 o1 (FP.dadd (FP.dadd (0 : UInt64) (FP.dmul y_0 z_0)) (FP.dmul y_1 z_1)) 2) [(.ref o0), (.ref o1), (.double y_2), (.double (FP.dadd (FP.dadd (0 : UInt64) (FP.dmul y_0 z_0)) (FP.dmul y_1 z_1)))])
  obtain ⟨T23, X23, e23, st23⟩ := getF X21 hx hZ hown (host := "") (Or.inl (hW hw 23 rfl)) Via.refl e21 F_dofs (g := (mkF m 25 (la2 o0 o1 (FP.dadd (FP.dadd (0 : UInt64) (FP.dmul y_0 z_0)) (FP.dmul y_1 z_1)) 2) [(.ref o0), (.ref o1), (.double y_2), (.double (FP.dadd (FP.dadd (0 : UInt64) (FP.dmul y_0 z_0)) (FP.dmul y_1 z_1)))])) rfl rfl (hb hby d6_25)
  refine gob st23 ?_
  show gO (tF T23 m 28 (la2 o0 o1 (FP.dadd (FP.dadd (0 : UInt64) (FP.dmul y_0 z_0)) (FP.dmul y_1 z_1)) 2) [(.ref w_d), (.ref o1), (.double y_2), (.double (FP.dadd (FP.dadd (0 : UInt64) (FP.dmul y_0 z_0)) (FP.dmul y_1 z_1)))])
  refine gob (fun _ k => XS.iload X23.here hx rfl (hb hby d6_28) rfl k) ?_
  show gO (tF T23 m 30 (la2 o0 o1 (FP.dadd (FP.dadd (0 : UInt64) (FP.dmul y_0 z_0)) (FP.dmul y_1 z_1)) 2) [(.int 2), (.ref w_d), (.ref o1), (.double y_2), (.double (FP.dadd (FP.dadd (0 : UInt64) (FP.dmul y_0 z_0)) (FP.dmul y_1 z_1)))])
  obtain ⟨cl24, Ar24, aq24, S24, N24, H24, G24⟩ := id V_d
  have hin24 : ¬ ((2 : Int32) < 0 ∨ cl24.slots.size ≤ ((2 : Int32)).toNatClampNeg) := inb_of S24 ⟨by decide, by decide⟩
  refine gob (X23.iaload hx (j := (2 : Int32)) (v := (.int 3)) (by rw [e23]; exact Ar24.1) (State.isArrayOf_alike hZ.alike Ar24.2.1) Ar24.2.2 hin24 (Has.at H24 hin24 rfl) (g := (mkF m 30 (la2 o0 o1 (FP.dadd (FP.dadd (0 : UInt64) (FP.dmul y_0 z_0)) (FP.dmul y_1 z_1)) 2) [(.int 2), (.ref w_d), (.ref o1), (.double y_2), (.double (FP.dadd (FP.dadd (0 : UInt64) (FP.dmul y_0 z_0)) (FP.dmul y_1 z_1)))])) rfl rfl (hb hby d6_30)) ?_
  show gO (tF T23 m 31 (la2 o0 o1 (FP.dadd (FP.dadd (0 : UInt64) (FP.dmul y_0 z_0)) (FP.dmul y_1 z_1)) 2) [(.int 3), (.ref o1), (.double y_2), (.double (FP.dadd (FP.dadd (0 : UInt64) (FP.dmul y_0 z_0)) (FP.dmul y_1 z_1)))])
  obtain ⟨cl25, Ar25, aq25, S25, N25, H25, G25⟩ := id V_z
  have hin25 : ¬ ((3 : Int32) < 0 ∨ cl25.slots.size ≤ ((3 : Int32)).toNatClampNeg) := inb_of S25 ⟨by decide, by decide⟩
  refine gob (X23.daload hx (j := (3 : Int32)) (v := (.double z_3)) (by rw [e23]; exact Ar25.1) (State.isArrayOf_alike hZ.alike Ar25.2.1) Ar25.2.2 hin25 (Has.at H25 hin25 rfl) (g := (mkF m 31 (la2 o0 o1 (FP.dadd (FP.dadd (0 : UInt64) (FP.dmul y_0 z_0)) (FP.dmul y_1 z_1)) 2) [(.int 3), (.ref o1), (.double y_2), (.double (FP.dadd (FP.dadd (0 : UInt64) (FP.dmul y_0 z_0)) (FP.dmul y_1 z_1)))])) rfl rfl (hb hby d6_31)) ?_
  show gO (tF T23 m 32 (la2 o0 o1 (FP.dadd (FP.dadd (0 : UInt64) (FP.dmul y_0 z_0)) (FP.dmul y_1 z_1)) 2) [(.double z_3), (.double y_2), (.double (FP.dadd (FP.dadd (0 : UInt64) (FP.dmul y_0 z_0)) (FP.dmul y_1 z_1)))])
  have mg26 : Mag64 1090 (FP.dmul y_2 z_3) := own_dmul m_y_2 m_z_3 (by decide) (by decide) (by decide)
  refine gob (fun _ k => XS.dmulS X23.here hx rfl (hb hby d6_32) rfl (v := (FP.dmul y_2 z_3)) (mg26.fin (by decide)).noNaN rfl k) ?_
  show gO (tF T23 m 33 (la2 o0 o1 (FP.dadd (FP.dadd (0 : UInt64) (FP.dmul y_0 z_0)) (FP.dmul y_1 z_1)) 2) [(.double (FP.dmul y_2 z_3)), (.double (FP.dadd (FP.dadd (0 : UInt64) (FP.dmul y_0 z_0)) (FP.dmul y_1 z_1)))])
  have mg27 : Mag64 1096 (FP.dadd (FP.dadd (FP.dadd (0 : UInt64) (FP.dmul y_0 z_0)) (FP.dmul y_1 z_1)) (FP.dmul y_2 z_3)) := own_dadd (K := 1094) (mg18.mono (by decide)) (mg26.mono (by decide)) (by decide) (by decide)
  refine gob (fun _ k => XS.daddS X23.here hx rfl (hb hby d6_33) rfl (v := (FP.dadd (FP.dadd (FP.dadd (0 : UInt64) (FP.dmul y_0 z_0)) (FP.dmul y_1 z_1)) (FP.dmul y_2 z_3))) (mg27.fin (by decide)).noNaN rfl k) ?_
  show gO (tF T23 m 34 (la2 o0 o1 (FP.dadd (FP.dadd (0 : UInt64) (FP.dmul y_0 z_0)) (FP.dmul y_1 z_1)) 2) [(.double (FP.dadd (FP.dadd (FP.dadd (0 : UInt64) (FP.dmul y_0 z_0)) (FP.dmul y_1 z_1)) (FP.dmul y_2 z_3)))])
  refine gob (fun _ k => XS.dstoreN X23.here hx rfl (hb hby d6_34) rfl (l' := (la2 o0 o1 (FP.dadd (FP.dadd (FP.dadd (0 : UInt64) (FP.dmul y_0 z_0)) (FP.dmul y_1 z_1)) (FP.dmul y_2 z_3)) 2)) rfl k) ?_
  show gO (tF T23 m 35 (la2 o0 o1 (FP.dadd (FP.dadd (FP.dadd (0 : UInt64) (FP.dmul y_0 z_0)) (FP.dmul y_1 z_1)) (FP.dmul y_2 z_3)) 2) [])
  refine gob (fun _ k => XS.iinc X23.here hx rfl (hb hby d6_35) rfl (l' := (la2 o0 o1 (FP.dadd (FP.dadd (FP.dadd (0 : UInt64) (FP.dmul y_0 z_0)) (FP.dmul y_1 z_1)) (FP.dmul y_2 z_3)) 3)) rfl k) ?_
  show gO (tF T23 m 38 (la2 o0 o1 (FP.dadd (FP.dadd (FP.dadd (0 : UInt64) (FP.dmul y_0 z_0)) (FP.dmul y_1 z_1)) (FP.dmul y_2 z_3)) 3) [])
  refine gob (fun _ k => XS.goto X23.here hx rfl (pc0 := 38) (pc' := 5) rfl (hb hby d6_38) (by decide) (by decide) k) ?_
  show gO (tF T23 m 5 (la2 o0 o1 (FP.dadd (FP.dadd (FP.dadd (0 : UInt64) (FP.dmul y_0 z_0)) (FP.dmul y_1 z_1)) (FP.dmul y_2 z_3)) 3) [])
  refine gob (fun _ k => XS.iload X23.here hx rfl (hb hby d6_5) rfl k) ?_
  show gO (tF T23 m 7 (la2 o0 o1 (FP.dadd (FP.dadd (FP.dadd (0 : UInt64) (FP.dmul y_0 z_0)) (FP.dmul y_1 z_1)) (FP.dmul y_2 z_3)) 3) [(.int 3)])
  refine gob (fun _ k => XS.aloadN X23.here hx rfl (hb hby d6_7) rfl rfl k) ?_
  show gO (tF T23 m 8 (la2 o0 o1 (FP.dadd (FP.dadd (FP.dadd (0 : UInt64) (FP.dmul y_0 z_0)) (FP.dmul y_1 z_1)) (FP.dmul y_2 z_3)) 3) [(.ref o0), (.int 3)])
  obtain ⟨T28, X28, e28, st28⟩ := getF X23 hx hZ hown (host := "") (Or.inl (hW hw 23 rfl)) Via.refl e23 F_dofs (g := (mkF m 8 (la2 o0 o1 (FP.dadd (FP.dadd (FP.dadd (0 : UInt64) (FP.dmul y_0 z_0)) (FP.dmul y_1 z_1)) (FP.dmul y_2 z_3)) 3) [(.ref o0), (.int 3)])) rfl rfl (hb hby d6_8)
  refine gob st28 ?_
  show gO (tF T28 m 11 (la2 o0 o1 (FP.dadd (FP.dadd (FP.dadd (0 : UInt64) (FP.dmul y_0 z_0)) (FP.dmul y_1 z_1)) (FP.dmul y_2 z_3)) 3) [(.ref w_d), (.int 3)])
  obtain ⟨cl29, Ar29, aq29, S29, N29, H29, G29⟩ := id V_d
  refine gob (X28.arraylength hx (by rw [e28]; exact Ar29.1) (State.isArrayOf_alike hZ.alike Ar29.2.1) (g := (mkF m 11 (la2 o0 o1 (FP.dadd (FP.dadd (FP.dadd (0 : UInt64) (FP.dmul y_0 z_0)) (FP.dmul y_1 z_1)) (FP.dmul y_2 z_3)) 3) [(.ref w_d), (.int 3)])) rfl rfl (hb hby d6_11)) ?_
  rw [len_of S29 N29]
  show gO (tF T28 m 12 (la2 o0 o1 (FP.dadd (FP.dadd (FP.dadd (0 : UInt64) (FP.dmul y_0 z_0)) (FP.dmul y_1 z_1)) (FP.dmul y_2 z_3)) 3) [(.int 3), (.int 3)])
  refine gob (fun _ k => XS.icmpYes X28.here hx rfl (pc0 := 12) (pc' := 41) rfl (hb hby d6_12) rfl (flt (by decide : ¬ ((3 : Int32) < (3 : Int32)))).2.1 (by decide) (by decide) k) ?_
  show gO (tF T28 m 41 (la2 o0 o1 (FP.dadd (FP.dadd (FP.dadd (0 : UInt64) (FP.dmul y_0 z_0)) (FP.dmul y_1 z_1)) (FP.dmul y_2 z_3)) 3) [])
  refine gob (fun _ k => XS.dloadN X28.here hx rfl (hb hby d6_41) rfl k) ?_
  show gO (tF T28 m 42 (la2 o0 o1 (FP.dadd (FP.dadd (FP.dadd (0 : UInt64) (FP.dmul y_0 z_0)) (FP.dmul y_1 z_1)) (FP.dmul y_2 z_3)) 3) [(.double (FP.dadd (FP.dadd (FP.dadd (0 : UInt64) (FP.dmul y_0 z_0)) (FP.dmul y_1 z_1)) (FP.dmul y_2 z_3)))])
  refine goD X28 hx hlk Bd.returns (hb hby d6_42) ?_ (by decide) (by decide)
  show Qof_013 Z o0 o1 w_d w_w k_d k_y y_0 y_1 y_2 k_z z_0 z_1 z_2 z_3 h0 n0 (some (.double (FP.dadd (FP.dadd (FP.dadd (0 : UInt64) (FP.dmul y_0 z_0)) (FP.dmul y_1 z_1)) (FP.dmul y_2 z_3)))) T28.heap _
  exact ⟨(FP.dadd (FP.dadd (FP.dadd (0 : UInt64) (FP.dmul y_0 z_0)) (FP.dmul y_1 z_1)) (FP.dmul y_2 z_3)), rfl, rfl, N0, e28⟩
theorem ef_of_23 (m : MethodId) (x0 : Addr) (x1 : Addr) : entryFrame m #[(.ref x0), (.ref x1)] 5 = mkF m 0 #[.val (.ref x0), .val (.ref x1), .unset, .unset, .unset] [] := by first | (simp [entryFrame, mkF, argsToLocals, Value.category]; done) | rfl
def Qof_23 (Z : State) (o0 : Addr) (o1 : Addr) (w_d : Addr) (w_w : Addr) (k_d : ClassId) (k_y : ClassId) (y_0 : UInt64) (y_1 : UInt64) (k_z : ClassId) (z_0 : UInt64) (z_1 : UInt64) (z_2 : UInt64) (z_3 : UInt64) (h0 : Heap) (n0 : Nat) (v : Option Value) (h : Heap) (L : List Loc) : Prop := ∃ r : UInt64, v = some (.double r) ∧ ((r = (FP.dadd (FP.dadd (0 : UInt64) (FP.dmul y_0 z_2)) (FP.dmul y_1 z_3)))) ∧ Fr n0 L ∧ h = h0
set_option maxRecDepth 65536 in
set_option maxHeartbeats 40000000 in
theorem rmof_23 (l : Launch) (Z : State) (a0 : Array Value) (hw : ∀ d ∈ tables_1, d.before a0 Z = true) (ws : List Jvm.Cond) (o0 : Addr) (o1 : Addr) (w_d : Addr) (w_w : Addr) (k_d : ClassId) (k_y : ClassId) (y_0 : UInt64) (y_1 : UInt64) (k_z : ClassId) (z_0 : UInt64) (z_1 : UInt64) (z_2 : UInt64) (z_3 : UInt64) (h0 : Heap) (n0 : Nat) (Z0 : n0 ≤ h0.size) (F_dofs : Fld Z h0 o0 "com/example/fenda/fenda/analysis/Combination" "dofs" "[I" (.ref w_d)) (F_weights : Fld Z h0 o0 "com/example/fenda/fenda/analysis/Combination" "weights" "[D" (.ref w_w)) (V_d : Arv Z h0 w_d k_d .int (2 : Int32) [(.int 2), (.int 3)] (.int 0)) (m_y_0 : Mag64 1056 y_0) (m_y_1 : Mag64 1056 y_1) (V_y : Arv Z h0 w_w k_y .double (2 : Int32) [(.double y_0), (.double y_1)] (.double 0)) (m_z_0 : Mag64 1056 z_0) (m_z_1 : Mag64 1056 z_1) (m_z_2 : Mag64 1056 z_2) (m_z_3 : Mag64 1056 z_3) (V_z : Arv Z h0 o1 k_z .double (4 : Int32) [(.double z_0), (.double z_1), (.double z_2), (.double z_3)] (.double 0)) :
    MetFree l (⟨"com/example/fenda/fenda/analysis/Combination", "of", "([D)D"⟩ : MethodName) (head1 (Jvm.Cond.code (⟨"com/example/fenda/fenda/analysis/Combination", "of", "([D)D"⟩ : MethodName) prog_3_method_2_code 5 (some .double) :: ws) ({ frames := 0, cells := 0, slots := 0, locals := 0 } : Room)) (fun a U => a = #[(.ref o0), (.ref o1)] ∧ Z.Warmed39 U.vm ∧ U.heap = h0) (fun _ _ _ _ _ => True) (fun _ U o U' => ∃ v L, o = .returned v ∧ Qof_23 Z o0 o1 w_d w_w k_d k_y y_0 y_1 k_z z_0 z_1 z_2 z_3 h0 n0 v U'.heap L ∧ FrameEnd U o U' L ({ frames := 0, cells := 0, slots := 0, locals := 0 } : Room).cells ({ frames := 0, cells := 0, slots := 0, locals := 0 } : Room).slots) := by
  refine MetFree.of_bodySF (plainFor_of_name (by first | (simp [plainName, overriddenIn]; done) | decide +kernel)) hisR ?_
  intro p e s m args below meth c s₁ Bd hml0 hP hK
  obtain ⟨rfl, hZ, hh⟩ := hP
  have hx := Bd.exec
  have hby := Bd.bytes
  have hml : c.maxLocals = 5 := hml0
  have hown : s.vm.findClass "com/example/fenda/fenda/analysis/Combination" = some m.cls := findClass_of_methodNamed Bd.named
  have hnm := (name_of_methodNamed Bd.named Bd.method).1
  have hlk := BodyLoose.notSynchronized Bd
  have X0 : Stand p l e ({ frames := 0, cells := 0, slots := 0, locals := 0 } : Room) s m #[(.ref o0), (.ref o1)] below meth c s₁ [] 0 0 := Stand.of_body Bd
  have e0 : s₁.heap = h0 := by rw [← hh, Bd.state]; rfl
  have N0 := Fr.nil n0
  show Go p e below s (Qof_23 Z o0 o1 w_d w_w k_d k_y y_0 y_1 k_z z_0 z_1 z_2 z_3 h0 n0) 0 0 (s₁.setTop (entryFrame m #[(.ref o0), (.ref o1)] 5))
  rw [ef_of_23]
  show gO (tF s₁ m 0 (la0 o0 o1) [])
  refine gob (fun _ k => XS.dconst0 X0.here hx rfl (hb hby d6_0) (v := (0 : UInt64)) (by decide +kernel) k) ?_
  show gO (tF s₁ m 1 (la0 o0 o1) [(.double (0 : UInt64))])
  refine gob (fun _ k => XS.dstoreN X0.here hx rfl (hb hby d6_1) rfl (l' := (la1 o0 o1 (0 : UInt64))) rfl k) ?_
  show gO (tF s₁ m 2 (la1 o0 o1 (0 : UInt64)) [])
  refine gob (fun _ k => XS.iconst X0.here hx rfl (hb hby d6_2) k) ?_
  show gO (tF s₁ m 3 (la1 o0 o1 (0 : UInt64)) [(.int 0)])
  refine gob (fun _ k => XS.istore X0.here hx rfl (hb hby d6_3) rfl (l' := (la2 o0 o1 (0 : UInt64) 0)) rfl k) ?_
  show gO (tF s₁ m 5 (la2 o0 o1 (0 : UInt64) 0) [])
  refine gob (fun _ k => XS.iload X0.here hx rfl (hb hby d6_5) rfl k) ?_
  show gO (tF s₁ m 7 (la2 o0 o1 (0 : UInt64) 0) [(.int 0)])
  refine gob (fun _ k => XS.aloadN X0.here hx rfl (hb hby d6_7) rfl rfl k) ?_
  show gO (tF s₁ m 8 (la2 o0 o1 (0 : UInt64) 0) [(.ref o0), (.int 0)])
  obtain ⟨T1, X1, e1, st1⟩ := getF X0 hx hZ hown (host := "") (Or.inl (hW hw 23 rfl)) Via.refl e0 F_dofs (g := (mkF m 8 (la2 o0 o1 (0 : UInt64) 0) [(.ref o0), (.int 0)])) rfl rfl (hb hby d6_8)
  refine gob st1 ?_
  show gO (tF T1 m 11 (la2 o0 o1 (0 : UInt64) 0) [(.ref w_d), (.int 0)])
  obtain ⟨cl2, Ar2, aq2, S2, N2, H2, G2⟩ := id V_d
  refine gob (X1.arraylength hx (by rw [e1]; exact Ar2.1) (State.isArrayOf_alike hZ.alike Ar2.2.1) (g := (mkF m 11 (la2 o0 o1 (0 : UInt64) 0) [(.ref w_d), (.int 0)])) rfl rfl (hb hby d6_11)) ?_
  rw [len_of S2 N2]
  show gO (tF T1 m 12 (la2 o0 o1 (0 : UInt64) 0) [(.int 2), (.int 0)])
  refine gob (fun _ k => XS.icmpNo X1.here hx rfl (hb hby d6_12) rfl (tlt (by decide : (0 : Int32) < (2 : Int32))).2.1 k) ?_
  show gO (tF T1 m 15 (la2 o0 o1 (0 : UInt64) 0) [])
  refine gob (fun _ k => XS.dloadN X1.here hx rfl (hb hby d6_15) rfl k) ?_
  show gO (tF T1 m 16 (la2 o0 o1 (0 : UInt64) 0) [(.double (0 : UInt64))])
  refine gob (fun _ k => XS.aloadN X1.here hx rfl (hb hby d6_16) rfl rfl k) ?_
  show gO (tF T1 m 17 (la2 o0 o1 (0 : UInt64) 0) [(.ref o0), (.double (0 : UInt64))])
  obtain ⟨T3, X3, e3, st3⟩ := getF X1 hx hZ hown (host := "") (Or.inl (hW hw 25 rfl)) Via.refl e1 F_weights (g := (mkF m 17 (la2 o0 o1 (0 : UInt64) 0) [(.ref o0), (.double (0 : UInt64))])) rfl rfl (hb hby d6_17)
  refine gob st3 ?_
  show gO (tF T3 m 20 (la2 o0 o1 (0 : UInt64) 0) [(.ref w_w), (.double (0 : UInt64))])
  refine gob (fun _ k => XS.iload X3.here hx rfl (hb hby d6_20) rfl k) ?_
  show gO (tF T3 m 22 (la2 o0 o1 (0 : UInt64) 0) [(.int 0), (.ref w_w), (.double (0 : UInt64))])
  obtain ⟨cl4, Ar4, aq4, S4, N4, H4, G4⟩ := id V_y
  have hin4 : ¬ ((0 : Int32) < 0 ∨ cl4.slots.size ≤ ((0 : Int32)).toNatClampNeg) := inb_of S4 ⟨by decide, by decide⟩
  refine gob (X3.daload hx (j := (0 : Int32)) (v := (.double y_0)) (by rw [e3]; exact Ar4.1) (State.isArrayOf_alike hZ.alike Ar4.2.1) Ar4.2.2 hin4 (Has.at H4 hin4 rfl) (g := (mkF m 22 (la2 o0 o1 (0 : UInt64) 0) [(.int 0), (.ref w_w), (.double (0 : UInt64))])) rfl rfl (hb hby d6_22)) ?_
  show gO (tF T3 m 23 (la2 o0 o1 (0 : UInt64) 0) [(.double y_0), (.double (0 : UInt64))])
  refine gob (fun _ k => XS.aloadN X3.here hx rfl (hb hby d6_23) rfl rfl k) ?_
  show gO (tF T3 m 24 (la2 o0 o1 (0 : UInt64) 0) [(.ref o1), (.double y_0), (.double (0 : UInt64))])
  refine gob (fun _ k => XS.aloadN X3.here hx rfl (hb hby d6_24) rfl rfl k) ?_
  show gO (tF T3 m 25 (la2 o0 o1 (0 : UInt64) 0) [(.ref o0), (.ref o1), (.double y_0), (.double (0 : UInt64))])
  obtain ⟨T5, X5, e5, st5⟩ := getF X3 hx hZ hown (host := "") (Or.inl (hW hw 23 rfl)) Via.refl e3 F_dofs (g := (mkF m 25 (la2 o0 o1 (0 : UInt64) 0) [(.ref o0), (.ref o1), (.double y_0), (.double (0 : UInt64))])) rfl rfl (hb hby d6_25)
  refine gob st5 ?_
  show gO (tF T5 m 28 (la2 o0 o1 (0 : UInt64) 0) [(.ref w_d), (.ref o1), (.double y_0), (.double (0 : UInt64))])
  refine gob (fun _ k => XS.iload X5.here hx rfl (hb hby d6_28) rfl k) ?_
  show gO (tF T5 m 30 (la2 o0 o1 (0 : UInt64) 0) [(.int 0), (.ref w_d), (.ref o1), (.double y_0), (.double (0 : UInt64))])
  obtain ⟨cl6, Ar6, aq6, S6, N6, H6, G6⟩ := id V_d
  have hin6 : ¬ ((0 : Int32) < 0 ∨ cl6.slots.size ≤ ((0 : Int32)).toNatClampNeg) := inb_of S6 ⟨by decide, by decide⟩
  refine gob (X5.iaload hx (j := (0 : Int32)) (v := (.int 2)) (by rw [e5]; exact Ar6.1) (State.isArrayOf_alike hZ.alike Ar6.2.1) Ar6.2.2 hin6 (Has.at H6 hin6 rfl) (g := (mkF m 30 (la2 o0 o1 (0 : UInt64) 0) [(.int 0), (.ref w_d), (.ref o1), (.double y_0), (.double (0 : UInt64))])) rfl rfl (hb hby d6_30)) ?_
  show gO (tF T5 m 31 (la2 o0 o1 (0 : UInt64) 0) [(.int 2), (.ref o1), (.double y_0), (.double (0 : UInt64))])
  obtain ⟨cl7, Ar7, aq7, S7, N7, H7, G7⟩ := id V_z
  have hin7 : ¬ ((2 : Int32) < 0 ∨ cl7.slots.size ≤ ((2 : Int32)).toNatClampNeg) := inb_of S7 ⟨by decide, by decide⟩
  refine gob (X5.daload hx (j := (2 : Int32)) (v := (.double z_2)) (by rw [e5]; exact Ar7.1) (State.isArrayOf_alike hZ.alike Ar7.2.1) Ar7.2.2 hin7 (Has.at H7 hin7 rfl) (g := (mkF m 31 (la2 o0 o1 (0 : UInt64) 0) [(.int 2), (.ref o1), (.double y_0), (.double (0 : UInt64))])) rfl rfl (hb hby d6_31)) ?_
  show gO (tF T5 m 32 (la2 o0 o1 (0 : UInt64) 0) [(.double z_2), (.double y_0), (.double (0 : UInt64))])
  have mg8 : Mag64 1090 (FP.dmul y_0 z_2) := own_dmul m_y_0 m_z_2 (by decide) (by decide) (by decide)
  refine gob (fun _ k => XS.dmulS X5.here hx rfl (hb hby d6_32) rfl (v := (FP.dmul y_0 z_2)) (mg8.fin (by decide)).noNaN rfl k) ?_
  show gO (tF T5 m 33 (la2 o0 o1 (0 : UInt64) 0) [(.double (FP.dmul y_0 z_2)), (.double (0 : UInt64))])
  have mg9 : Mag64 1092 (FP.dadd (0 : UInt64) (FP.dmul y_0 z_2)) := own_dadd (K := 1090) (own_m0.mono (by decide)) (mg8.mono (by decide)) (by decide) (by decide)
  refine gob (fun _ k => XS.daddS X5.here hx rfl (hb hby d6_33) rfl (v := (FP.dadd (0 : UInt64) (FP.dmul y_0 z_2))) (mg9.fin (by decide)).noNaN rfl k) ?_
  show gO (tF T5 m 34 (la2 o0 o1 (0 : UInt64) 0) [(.double (FP.dadd (0 : UInt64) (FP.dmul y_0 z_2)))])
  refine gob (fun _ k => XS.dstoreN X5.here hx rfl (hb hby d6_34) rfl (l' := (la2 o0 o1 (FP.dadd (0 : UInt64) (FP.dmul y_0 z_2)) 0)) rfl k) ?_
  show gO (tF T5 m 35 (la2 o0 o1 (FP.dadd (0 : UInt64) (FP.dmul y_0 z_2)) 0) [])
  refine gob (fun _ k => XS.iinc X5.here hx rfl (hb hby d6_35) rfl (l' := (la2 o0 o1 (FP.dadd (0 : UInt64) (FP.dmul y_0 z_2)) 1)) rfl k) ?_
  show gO (tF T5 m 38 (la2 o0 o1 (FP.dadd (0 : UInt64) (FP.dmul y_0 z_2)) 1) [])
  refine gob (fun _ k => XS.goto X5.here hx rfl (pc0 := 38) (pc' := 5) rfl (hb hby d6_38) (by decide) (by decide) k) ?_
  show gO (tF T5 m 5 (la2 o0 o1 (FP.dadd (0 : UInt64) (FP.dmul y_0 z_2)) 1) [])
  refine gob (fun _ k => XS.iload X5.here hx rfl (hb hby d6_5) rfl k) ?_
  show gO (tF T5 m 7 (la2 o0 o1 (FP.dadd (0 : UInt64) (FP.dmul y_0 z_2)) 1) [(.int 1)])
  refine gob (fun _ k => XS.aloadN X5.here hx rfl (hb hby d6_7) rfl rfl k) ?_
  show gO (tF T5 m 8 (la2 o0 o1 (FP.dadd (0 : UInt64) (FP.dmul y_0 z_2)) 1) [(.ref o0), (.int 1)])
  obtain ⟨T10, X10, e10, st10⟩ := getF X5 hx hZ hown (host := "") (Or.inl (hW hw 23 rfl)) Via.refl e5 F_dofs (g := (mkF m 8 (la2 o0 o1 (FP.dadd (0 : UInt64) (FP.dmul y_0 z_2)) 1) [(.ref o0), (.int 1)])) rfl rfl (hb hby d6_8)
  refine gob st10 ?_
  show gO (tF T10 m 11 (la2 o0 o1 (FP.dadd (0 : UInt64) (FP.dmul y_0 z_2)) 1) [(.ref w_d), (.int 1)])
  obtain ⟨cl11, Ar11, aq11, S11, N11, H11, G11⟩ := id V_d
  refine gob (X10.arraylength hx (by rw [e10]; exact Ar11.1) (State.isArrayOf_alike hZ.alike Ar11.2.1) (g := (mkF m 11 (la2 o0 o1 (FP.dadd (0 : UInt64) (FP.dmul y_0 z_2)) 1) [(.ref w_d), (.int 1)])) rfl rfl (hb hby d6_11)) ?_
  rw [len_of S11 N11]
  show gO (tF T10 m 12 (la2 o0 o1 (FP.dadd (0 : UInt64) (FP.dmul y_0 z_2)) 1) [(.int 2), (.int 1)])
  refine gob (fun _ k => XS.icmpNo X10.here hx rfl (hb hby d6_12) rfl (tlt (by decide : (1 : Int32) < (2 : Int32))).2.1 k) ?_
  show gO (tF T10 m 15 (la2 o0 o1 (FP.dadd (0 : UInt64) (FP.dmul y_0 z_2)) 1) [])
  refine gob (fun _ k => XS.dloadN X10.here hx rfl (hb hby d6_15) rfl k) ?_
  show gO (tF T10 m 16 (la2 o0 o1 (FP.dadd (0 : UInt64) (FP.dmul y_0 z_2)) 1) [(.double (FP.dadd (0 : UInt64) (FP.dmul y_0 z_2)))])
  refine gob (fun _ k => XS.aloadN X10.here hx rfl (hb hby d6_16) rfl rfl k) ?_
  show gO (tF T10 m 17 (la2 o0 o1 (FP.dadd (0 : UInt64) (FP.dmul y_0 z_2)) 1) [(.ref o0), (.double (FP.dadd (0 : UInt64) (FP.dmul y_0 z_2)))])
  obtain ⟨T12, X12, e12, st12⟩ := getF X10 hx hZ hown (host := "") (Or.inl (hW hw 25 rfl)) Via.refl e10 F_weights (g := (mkF m 17 (la2 o0 o1 (FP.dadd (0 : UInt64) (FP.dmul y_0 z_2)) 1) [(.ref o0), (.double (FP.dadd (0 : UInt64) (FP.dmul y_0 z_2)))])) rfl rfl (hb hby d6_17)
  refine gob st12 ?_
  show gO (tF T12 m 20 (la2 o0 o1 (FP.dadd (0 : UInt64) (FP.dmul y_0 z_2)) 1) [(.ref w_w), (.double (FP.dadd (0 : UInt64) (FP.dmul y_0 z_2)))])
  refine gob (fun _ k => XS.iload X12.here hx rfl (hb hby d6_20) rfl k) ?_
  show gO (tF T12 m 22 (la2 o0 o1 (FP.dadd (0 : UInt64) (FP.dmul y_0 z_2)) 1) [(.int 1), (.ref w_w), (.double (FP.dadd (0 : UInt64) (FP.dmul y_0 z_2)))])
  obtain ⟨cl13, Ar13, aq13, S13, N13, H13, G13⟩ := id V_y
  have hin13 : ¬ ((1 : Int32) < 0 ∨ cl13.slots.size ≤ ((1 : Int32)).toNatClampNeg) := inb_of S13 ⟨by decide, by decide⟩
  refine gob (X12.daload hx (j := (1 : Int32)) (v := (.double y_1)) (by rw [e12]; exact Ar13.1) (State.isArrayOf_alike hZ.alike Ar13.2.1) Ar13.2.2 hin13 (Has.at H13 hin13 rfl) (g := (mkF m 22 (la2 o0 o1 (FP.dadd (0 : UInt64) (FP.dmul y_0 z_2)) 1) [(.int 1), (.ref w_w), (.double (FP.dadd (0 : UInt64) (FP.dmul y_0 z_2)))])) rfl rfl (hb hby d6_22)) ?_
  show gO (tF T12 m 23 (la2 o0 o1 (FP.dadd (0 : UInt64) (FP.dmul y_0 z_2)) 1) [(.double y_1), (.double (FP.dadd (0 : UInt64) (FP.dmul y_0 z_2)))])
  refine gob (fun _ k => XS.aloadN X12.here hx rfl (hb hby d6_23) rfl rfl k) ?_
  show gO (tF T12 m 24 (la2 o0 o1 (FP.dadd (0 : UInt64) (FP.dmul y_0 z_2)) 1) [(.ref o1), (.double y_1), (.double (FP.dadd (0 : UInt64) (FP.dmul y_0 z_2)))])
  refine gob (fun _ k => XS.aloadN X12.here hx rfl (hb hby d6_24) rfl rfl k) ?_
  show gO (tF T12 m 25 (la2 o0 o1 (FP.dadd (0 : UInt64) (FP.dmul y_0 z_2)) 1) [(.ref o0), (.ref o1), (.double y_1), (.double (FP.dadd (0 : UInt64) (FP.dmul y_0 z_2)))])
  obtain ⟨T14, X14, e14, st14⟩ := getF X12 hx hZ hown (host := "") (Or.inl (hW hw 23 rfl)) Via.refl e12 F_dofs (g := (mkF m 25 (la2 o0 o1 (FP.dadd (0 : UInt64) (FP.dmul y_0 z_2)) 1) [(.ref o0), (.ref o1), (.double y_1), (.double (FP.dadd (0 : UInt64) (FP.dmul y_0 z_2)))])) rfl rfl (hb hby d6_25)
  refine gob st14 ?_
  show gO (tF T14 m 28 (la2 o0 o1 (FP.dadd (0 : UInt64) (FP.dmul y_0 z_2)) 1) [(.ref w_d), (.ref o1), (.double y_1), (.double (FP.dadd (0 : UInt64) (FP.dmul y_0 z_2)))])
  refine gob (fun _ k => XS.iload X14.here hx rfl (hb hby d6_28) rfl k) ?_
  show gO (tF T14 m 30 (la2 o0 o1 (FP.dadd (0 : UInt64) (FP.dmul y_0 z_2)) 1) [(.int 1), (.ref w_d), (.ref o1), (.double y_1), (.double (FP.dadd (0 : UInt64) (FP.dmul y_0 z_2)))])
  obtain ⟨cl15, Ar15, aq15, S15, N15, H15, G15⟩ := id V_d
  have hin15 : ¬ ((1 : Int32) < 0 ∨ cl15.slots.size ≤ ((1 : Int32)).toNatClampNeg) := inb_of S15 ⟨by decide, by decide⟩
  refine gob (X14.iaload hx (j := (1 : Int32)) (v := (.int 3)) (by rw [e14]; exact Ar15.1) (State.isArrayOf_alike hZ.alike Ar15.2.1) Ar15.2.2 hin15 (Has.at H15 hin15 rfl) (g := (mkF m 30 (la2 o0 o1 (FP.dadd (0 : UInt64) (FP.dmul y_0 z_2)) 1) [(.int 1), (.ref w_d), (.ref o1), (.double y_1), (.double (FP.dadd (0 : UInt64) (FP.dmul y_0 z_2)))])) rfl rfl (hb hby d6_30)) ?_
  show gO (tF T14 m 31 (la2 o0 o1 (FP.dadd (0 : UInt64) (FP.dmul y_0 z_2)) 1) [(.int 3), (.ref o1), (.double y_1), (.double (FP.dadd (0 : UInt64) (FP.dmul y_0 z_2)))])
  obtain ⟨cl16, Ar16, aq16, S16, N16, H16, G16⟩ := id V_z
  have hin16 : ¬ ((3 : Int32) < 0 ∨ cl16.slots.size ≤ ((3 : Int32)).toNatClampNeg) := inb_of S16 ⟨by decide, by decide⟩
  refine gob (X14.daload hx (j := (3 : Int32)) (v := (.double z_3)) (by rw [e14]; exact Ar16.1) (State.isArrayOf_alike hZ.alike Ar16.2.1) Ar16.2.2 hin16 (Has.at H16 hin16 rfl) (g := (mkF m 31 (la2 o0 o1 (FP.dadd (0 : UInt64) (FP.dmul y_0 z_2)) 1) [(.int 3), (.ref o1), (.double y_1), (.double (FP.dadd (0 : UInt64) (FP.dmul y_0 z_2)))])) rfl rfl (hb hby d6_31)) ?_
  show gO (tF T14 m 32 (la2 o0 o1 (FP.dadd (0 : UInt64) (FP.dmul y_0 z_2)) 1) [(.double z_3), (.double y_1), (.double (FP.dadd (0 : UInt64) (FP.dmul y_0 z_2)))])
  have mg17 : Mag64 1090 (FP.dmul y_1 z_3) := own_dmul m_y_1 m_z_3 (by decide) (by decide) (by decide)
  refine gob (fun _ k => XS.dmulS X14.here hx rfl (hb hby d6_32) rfl (v := (FP.dmul y_1 z_3)) (mg17.fin (by decide)).noNaN rfl k) ?_
  show gO (tF T14 m 33 (la2 o0 o1 (FP.dadd (0 : UInt64) (FP.dmul y_0 z_2)) 1) [(.double (FP.dmul y_1 z_3)), (.double (FP.dadd (0 : UInt64) (FP.dmul y_0 z_2)))])
  have mg18 : Mag64 1094 (FP.dadd (FP.dadd (0 : UInt64) (FP.dmul y_0 z_2)) (FP.dmul y_1 z_3)) := own_dadd (K := 1092) (mg9.mono (by decide)) (mg17.mono (by decide)) (by decide) (by decide)
  refine gob (fun _ k => XS.daddS X14.here hx rfl (hb hby d6_33) rfl (v := (FP.dadd (FP.dadd (0 : UInt64) (FP.dmul y_0 z_2)) (FP.dmul y_1 z_3))) (mg18.fin (by decide)).noNaN rfl k) ?_
  show gO (tF T14 m 34 (la2 o0 o1 (FP.dadd (0 : UInt64) (FP.dmul y_0 z_2)) 1) [(.double (FP.dadd (FP.dadd (0 : UInt64) (FP.dmul y_0 z_2)) (FP.dmul y_1 z_3)))])
  refine gob (fun _ k => XS.dstoreN X14.here hx rfl (hb hby d6_34) rfl (l' := (la2 o0 o1 (FP.dadd (FP.dadd (0 : UInt64) (FP.dmul y_0 z_2)) (FP.dmul y_1 z_3)) 1)) rfl k) ?_
  show gO (tF T14 m 35 (la2 o0 o1 (FP.dadd (FP.dadd (0 : UInt64) (FP.dmul y_0 z_2)) (FP.dmul y_1 z_3)) 1) [])
  refine gob (fun _ k => XS.iinc X14.here hx rfl (hb hby d6_35) rfl (l' := (la2 o0 o1 (FP.dadd (FP.dadd (0 : UInt64) (FP.dmul y_0 z_2)) (FP.dmul y_1 z_3)) 2)) rfl k) ?_
  show gO (tF T14 m 38 (la2 o0 o1 (FP.dadd (FP.dadd (0 : UInt64) (FP.dmul y_0 z_2)) (FP.dmul y_1 z_3)) 2) [])
  refine gob (fun _ k => XS.goto X14.here hx rfl (pc0 := 38) (pc' := 5) rfl (hb hby d6_38) (by decide) (by decide) k) ?_
  show gO (tF T14 m 5 (la2 o0 o1 (FP.dadd (FP.dadd (0 : UInt64) (FP.dmul y_0 z_2)) (FP.dmul y_1 z_3)) 2) [])
  refine gob (fun _ k => XS.iload X14.here hx rfl (hb hby d6_5) rfl k) ?_
  show gO (tF T14 m 7 (la2 o0 o1 (FP.dadd (FP.dadd (0 : UInt64) (FP.dmul y_0 z_2)) (FP.dmul y_1 z_3)) 2) [(.int 2)])
  refine gob (fun _ k => XS.aloadN X14.here hx rfl (hb hby d6_7) rfl rfl k) ?_
  show gO (tF T14 m 8 (la2 o0 o1 (FP.dadd (FP.dadd (0 : UInt64) (FP.dmul y_0 z_2)) (FP.dmul y_1 z_3)) 2) [(.ref o0), (.int 2)])
  obtain ⟨T19, X19, e19, st19⟩ := getF X14 hx hZ hown (host := "") (Or.inl (hW hw 23 rfl)) Via.refl e14 F_dofs (g := (mkF m 8 (la2 o0 o1 (FP.dadd (FP.dadd (0 : UInt64) (FP.dmul y_0 z_2)) (FP.dmul y_1 z_3)) 2) [(.ref o0), (.int 2)])) rfl rfl (hb hby d6_8)
  refine gob st19 ?_
  show gO (tF T19 m 11 (la2 o0 o1 (FP.dadd (FP.dadd (0 : UInt64) (FP.dmul y_0 z_2)) (FP.dmul y_1 z_3)) 2) [(.ref w_d), (.int 2)])
  obtain ⟨cl20, Ar20, aq20, S20, N20, H20, G20⟩ := id V_d
  refine gob (X19.arraylength hx (by rw [e19]; exact Ar20.1) (State.isArrayOf_alike hZ.alike Ar20.2.1) (g := (mkF m 11 (la2 o0 o1 (FP.dadd (FP.dadd (0 : UInt64) (FP.dmul y_0 z_2)) (FP.dmul y_1 z_3)) 2) [(.ref w_d), (.int 2)])) rfl rfl (hb hby d6_11)) ?_
  rw [len_of S20 N20]
  show gO (tF T19 m 12 (la2 o0 o1 (FP.dadd (FP.dadd (0 : UInt64) (FP.dmul y_0 z_2)) (FP.dmul y_1 z_3)) 2) [(.int 2), (.int 2)])
  refine gob (fun _ k => XS.icmpYes X19.here hx rfl (pc0 := 12) (pc' := 41) rfl (hb hby d6_12) rfl (flt (by decide : ¬ ((2 : Int32) < (2 : Int32)))).2.1 (by decide) (by decide) k) ?_
  show gO (tF T19 m 41 (la2 o0 o1 (FP.dadd (FP.dadd (0 : UInt64) (FP.dmul y_0 z_2)) (FP.dmul y_1 z_3)) 2) [])
  refine gob (fun _ k => XS.dloadN X19.here hx rfl (hb hby d6_41) rfl k) ?_
  show gO (tF T19 m 42 (la2 o0 o1 (FP.dadd (FP.dadd (0 : UInt64) (FP.dmul y_0 z_2)) (FP.dmul y_1 z_3)) 2) [(.double (FP.dadd (FP.dadd (0 : UInt64) (FP.dmul y_0 z_2)) (FP.dmul y_1 z_3)))])
  refine goD X19 hx hlk Bd.returns (hb hby d6_42) ?_ (by decide) (by decide)
  show Qof_23 Z o0 o1 w_d w_w k_d k_y y_0 y_1 k_z z_0 z_1 z_2 z_3 h0 n0 (some (.double (FP.dadd (FP.dadd (0 : UInt64) (FP.dmul y_0 z_2)) (FP.dmul y_1 z_3)))) T19.heap _
  exact ⟨(FP.dadd (FP.dadd (0 : UInt64) (FP.dmul y_0 z_2)) (FP.dmul y_1 z_3)), rfl, rfl, N0, e19⟩
theorem ef_of_023 (m : MethodId) (x0 : Addr) (x1 : Addr) : entryFrame m #[(.ref x0), (.ref x1)] 5 = mkF m 0 #[.val (.ref x0), .val (.ref x1), .unset, .unset, .unset] [] := by first | (simp [entryFrame, mkF, argsToLocals, Value.category]; done) | rfl
def Qof_023 (Z : State) (o0 : Addr) (o1 : Addr) (w_d : Addr) (w_w : Addr) (k_d : ClassId) (k_y : ClassId) (y_0 : UInt64) (y_1 : UInt64) (y_2 : UInt64) (k_z : ClassId) (z_0 : UInt64) (z_1 : UInt64) (z_2 : UInt64) (z_3 : UInt64) (h0 : Heap) (n0 : Nat) (v : Option Value) (h : Heap) (L : List Loc) : Prop := ∃ r : UInt64, v = some (.double r) ∧ ((r = (FP.dadd (FP.dadd (FP.dadd (0 : UInt64) (FP.dmul y_0 z_0)) (FP.dmul y_1 z_2)) (FP.dmul y_2 z_3)))) ∧ Fr n0 L ∧ h = h0
set_option maxRecDepth 65536 in
set_option maxHeartbeats 40000000 in
theorem rmof_023 (l : Launch) (Z : State) (a0 : Array Value) (hw : ∀ d ∈ tables_1, d.before a0 Z = true) (ws : List Jvm.Cond) (o0 : Addr) (o1 : Addr) (w_d : Addr) (w_w : Addr) (k_d : ClassId) (k_y : ClassId) (y_0 : UInt64) (y_1 : UInt64) (y_2 : UInt64) (k_z : ClassId) (z_0 : UInt64) (z_1 : UInt64) (z_2 : UInt64) (z_3 : UInt64) (h0 : Heap) (n0 : Nat) (Z0 : n0 ≤ h0.size) (F_dofs : Fld Z h0 o0 "com/example/fenda/fenda/analysis/Combination" "dofs" "[I" (.ref w_d)) (F_weights : Fld Z h0 o0 "com/example/fenda/fenda/analysis/Combination" "weights" "[D" (.ref w_w)) (V_d : Arv Z h0 w_d k_d .int (3 : Int32) [(.int 0), (.int 2), (.int 3)] (.int 0)) (m_y_0 : Mag64 1056 y_0) (m_y_1 : Mag64 1056 y_1) (m_y_2 : Mag64 1056 y_2) (V_y : Arv Z h0 w_w k_y .double (3 : Int32) [(.double y_0), (.double y_1), (.double y_2)] (.double 0)) (m_z_0 : Mag64 1056 z_0) (m_z_1 : Mag64 1056 z_1) (m_z_2 : Mag64 1056 z_2) (m_z_3 : Mag64 1056 z_3) (V_z : Arv Z h0 o1 k_z .double (4 : Int32) [(.double z_0), (.double z_1), (.double z_2), (.double z_3)] (.double 0)) :
    MetFree l (⟨"com/example/fenda/fenda/analysis/Combination", "of", "([D)D"⟩ : MethodName) (head1 (Jvm.Cond.code (⟨"com/example/fenda/fenda/analysis/Combination", "of", "([D)D"⟩ : MethodName) prog_3_method_2_code 5 (some .double) :: ws) ({ frames := 0, cells := 0, slots := 0, locals := 0 } : Room)) (fun a U => a = #[(.ref o0), (.ref o1)] ∧ Z.Warmed39 U.vm ∧ U.heap = h0) (fun _ _ _ _ _ => True) (fun _ U o U' => ∃ v L, o = .returned v ∧ Qof_023 Z o0 o1 w_d w_w k_d k_y y_0 y_1 y_2 k_z z_0 z_1 z_2 z_3 h0 n0 v U'.heap L ∧ FrameEnd U o U' L ({ frames := 0, cells := 0, slots := 0, locals := 0 } : Room).cells ({ frames := 0, cells := 0, slots := 0, locals := 0 } : Room).slots) := by
  refine MetFree.of_bodySF (plainFor_of_name (by first | (simp [plainName, overriddenIn]; done) | decide +kernel)) hisR ?_
  intro p e s m args below meth c s₁ Bd hml0 hP hK
  obtain ⟨rfl, hZ, hh⟩ := hP
  have hx := Bd.exec
  have hby := Bd.bytes
  have hml : c.maxLocals = 5 := hml0
  have hown : s.vm.findClass "com/example/fenda/fenda/analysis/Combination" = some m.cls := findClass_of_methodNamed Bd.named
  have hnm := (name_of_methodNamed Bd.named Bd.method).1
  have hlk := BodyLoose.notSynchronized Bd
  have X0 : Stand p l e ({ frames := 0, cells := 0, slots := 0, locals := 0 } : Room) s m #[(.ref o0), (.ref o1)] below meth c s₁ [] 0 0 := Stand.of_body Bd
  have e0 : s₁.heap = h0 := by rw [← hh, Bd.state]; rfl
  have N0 := Fr.nil n0
  show Go p e below s (Qof_023 Z o0 o1 w_d w_w k_d k_y y_0 y_1 y_2 k_z z_0 z_1 z_2 z_3 h0 n0) 0 0 (s₁.setTop (entryFrame m #[(.ref o0), (.ref o1)] 5))
  rw [ef_of_023]
  show gO (tF s₁ m 0 (la0 o0 o1) [])
  refine gob (fun _ k => XS.dconst0 X0.here hx rfl (hb hby d6_0) (v := (0 : UInt64)) (by decide +kernel) k) ?_
  show gO (tF s₁ m 1 (la0 o0 o1) [(.double (0 : UInt64))])
  refine gob (fun _ k => XS.dstoreN X0.here hx rfl (hb hby d6_1) rfl (l' := (la1 o0 o1 (0 : UInt64))) rfl k) ?_
  show gO (tF s₁ m 2 (la1 o0 o1 (0 : UInt64)) [])
  refine gob (fun _ k => XS.iconst X0.here hx rfl (hb hby d6_2) k) ?_
  show gO (tF s₁ m 3 (la1 o0 o1 (0 : UInt64)) [(.int 0)])
  refine gob (fun _ k => XS.istore X0.here hx rfl (hb hby d6_3) rfl (l' := (la2 o0 o1 (0 : UInt64) 0)) rfl k) ?_
  show gO (tF s₁ m 5 (la2 o0 o1 (0 : UInt64) 0) [])
  refine gob (fun _ k => XS.iload X0.here hx rfl (hb hby d6_5) rfl k) ?_
  show gO (tF s₁ m 7 (la2 o0 o1 (0 : UInt64) 0) [(.int 0)])
  refine gob (fun _ k => XS.aloadN X0.here hx rfl (hb hby d6_7) rfl rfl k) ?_
  show gO (tF s₁ m 8 (la2 o0 o1 (0 : UInt64) 0) [(.ref o0), (.int 0)])
  obtain ⟨T1, X1, e1, st1⟩ := getF X0 hx hZ hown (host := "") (Or.inl (hW hw 23 rfl)) Via.refl e0 F_dofs (g := (mkF m 8 (la2 o0 o1 (0 : UInt64) 0) [(.ref o0), (.int 0)])) rfl rfl (hb hby d6_8)
  refine gob st1 ?_
  show gO (tF T1 m 11 (la2 o0 o1 (0 : UInt64) 0) [(.ref w_d), (.int 0)])
  obtain ⟨cl2, Ar2, aq2, S2, N2, H2, G2⟩ := id V_d
  refine gob (X1.arraylength hx (by rw [e1]; exact Ar2.1) (State.isArrayOf_alike hZ.alike Ar2.2.1) (g := (mkF m 11 (la2 o0 o1 (0 : UInt64) 0) [(.ref w_d), (.int 0)])) rfl rfl (hb hby d6_11)) ?_
  rw [len_of S2 N2]
  show gO (tF T1 m 12 (la2 o0 o1 (0 : UInt64) 0) [(.int 3), (.int 0)])
  refine gob (fun _ k => XS.icmpNo X1.here hx rfl (hb hby d6_12) rfl (tlt (by decide : (0 : Int32) < (3 : Int32))).2.1 k) ?_
  show gO (tF T1 m 15 (la2 o0 o1 (0 : UInt64) 0) [])
  refine gob (fun _ k => XS.dloadN X1.here hx rfl (hb hby d6_15) rfl k) ?_
  show gO (tF T1 m 16 (la2 o0 o1 (0 : UInt64) 0) [(.double (0 : UInt64))])
  refine gob (fun _ k => XS.aloadN X1.here hx rfl (hb hby d6_16) rfl rfl k) ?_
  show gO (tF T1 m 17 (la2 o0 o1 (0 : UInt64) 0) [(.ref o0), (.double (0 : UInt64))])
  obtain ⟨T3, X3, e3, st3⟩ := getF X1 hx hZ hown (host := "") (Or.inl (hW hw 25 rfl)) Via.refl e1 F_weights (g := (mkF m 17 (la2 o0 o1 (0 : UInt64) 0) [(.ref o0), (.double (0 : UInt64))])) rfl rfl (hb hby d6_17)
  refine gob st3 ?_
  show gO (tF T3 m 20 (la2 o0 o1 (0 : UInt64) 0) [(.ref w_w), (.double (0 : UInt64))])
  refine gob (fun _ k => XS.iload X3.here hx rfl (hb hby d6_20) rfl k) ?_
  show gO (tF T3 m 22 (la2 o0 o1 (0 : UInt64) 0) [(.int 0), (.ref w_w), (.double (0 : UInt64))])
  obtain ⟨cl4, Ar4, aq4, S4, N4, H4, G4⟩ := id V_y
  have hin4 : ¬ ((0 : Int32) < 0 ∨ cl4.slots.size ≤ ((0 : Int32)).toNatClampNeg) := inb_of S4 ⟨by decide, by decide⟩
  refine gob (X3.daload hx (j := (0 : Int32)) (v := (.double y_0)) (by rw [e3]; exact Ar4.1) (State.isArrayOf_alike hZ.alike Ar4.2.1) Ar4.2.2 hin4 (Has.at H4 hin4 rfl) (g := (mkF m 22 (la2 o0 o1 (0 : UInt64) 0) [(.int 0), (.ref w_w), (.double (0 : UInt64))])) rfl rfl (hb hby d6_22)) ?_
  show gO (tF T3 m 23 (la2 o0 o1 (0 : UInt64) 0) [(.double y_0), (.double (0 : UInt64))])
  refine gob (fun _ k => XS.aloadN X3.here hx rfl (hb hby d6_23) rfl rfl k) ?_
  show gO (tF T3 m 24 (la2 o0 o1 (0 : UInt64) 0) [(.ref o1), (.double y_0), (.double (0 : UInt64))])
  refine gob (fun _ k => XS.aloadN X3.here hx rfl (hb hby d6_24) rfl rfl k) ?_
  show gO (tF T3 m 25 (la2 o0 o1 (0 : UInt64) 0) [(.ref o0), (.ref o1), (.double y_0), (.double (0 : UInt64))])
  obtain ⟨T5, X5, e5, st5⟩ := getF X3 hx hZ hown (host := "") (Or.inl (hW hw 23 rfl)) Via.refl e3 F_dofs (g := (mkF m 25 (la2 o0 o1 (0 : UInt64) 0) [(.ref o0), (.ref o1), (.double y_0), (.double (0 : UInt64))])) rfl rfl (hb hby d6_25)
  refine gob st5 ?_
  show gO (tF T5 m 28 (la2 o0 o1 (0 : UInt64) 0) [(.ref w_d), (.ref o1), (.double y_0), (.double (0 : UInt64))])
  refine gob (fun _ k => XS.iload X5.here hx rfl (hb hby d6_28) rfl k) ?_
  show gO (tF T5 m 30 (la2 o0 o1 (0 : UInt64) 0) [(.int 0), (.ref w_d), (.ref o1), (.double y_0), (.double (0 : UInt64))])
  obtain ⟨cl6, Ar6, aq6, S6, N6, H6, G6⟩ := id V_d
  have hin6 : ¬ ((0 : Int32) < 0 ∨ cl6.slots.size ≤ ((0 : Int32)).toNatClampNeg) := inb_of S6 ⟨by decide, by decide⟩
  refine gob (X5.iaload hx (j := (0 : Int32)) (v := (.int 0)) (by rw [e5]; exact Ar6.1) (State.isArrayOf_alike hZ.alike Ar6.2.1) Ar6.2.2 hin6 (Has.at H6 hin6 rfl) (g := (mkF m 30 (la2 o0 o1 (0 : UInt64) 0) [(.int 0), (.ref w_d), (.ref o1), (.double y_0), (.double (0 : UInt64))])) rfl rfl (hb hby d6_30)) ?_
  show gO (tF T5 m 31 (la2 o0 o1 (0 : UInt64) 0) [(.int 0), (.ref o1), (.double y_0), (.double (0 : UInt64))])
  obtain ⟨cl7, Ar7, aq7, S7, N7, H7, G7⟩ := id V_z
  have hin7 : ¬ ((0 : Int32) < 0 ∨ cl7.slots.size ≤ ((0 : Int32)).toNatClampNeg) := inb_of S7 ⟨by decide, by decide⟩
  refine gob (X5.daload hx (j := (0 : Int32)) (v := (.double z_0)) (by rw [e5]; exact Ar7.1) (State.isArrayOf_alike hZ.alike Ar7.2.1) Ar7.2.2 hin7 (Has.at H7 hin7 rfl) (g := (mkF m 31 (la2 o0 o1 (0 : UInt64) 0) [(.int 0), (.ref o1), (.double y_0), (.double (0 : UInt64))])) rfl rfl (hb hby d6_31)) ?_
  show gO (tF T5 m 32 (la2 o0 o1 (0 : UInt64) 0) [(.double z_0), (.double y_0), (.double (0 : UInt64))])
  have mg8 : Mag64 1090 (FP.dmul y_0 z_0) := own_dmul m_y_0 m_z_0 (by decide) (by decide) (by decide)
  refine gob (fun _ k => XS.dmulS X5.here hx rfl (hb hby d6_32) rfl (v := (FP.dmul y_0 z_0)) (mg8.fin (by decide)).noNaN rfl k) ?_
  show gO (tF T5 m 33 (la2 o0 o1 (0 : UInt64) 0) [(.double (FP.dmul y_0 z_0)), (.double (0 : UInt64))])
  have mg9 : Mag64 1092 (FP.dadd (0 : UInt64) (FP.dmul y_0 z_0)) := own_dadd (K := 1090) (own_m0.mono (by decide)) (mg8.mono (by decide)) (by decide) (by decide)
  refine gob (fun _ k => XS.daddS X5.here hx rfl (hb hby d6_33) rfl (v := (FP.dadd (0 : UInt64) (FP.dmul y_0 z_0))) (mg9.fin (by decide)).noNaN rfl k) ?_
  show gO (tF T5 m 34 (la2 o0 o1 (0 : UInt64) 0) [(.double (FP.dadd (0 : UInt64) (FP.dmul y_0 z_0)))])
  refine gob (fun _ k => XS.dstoreN X5.here hx rfl (hb hby d6_34) rfl (l' := (la2 o0 o1 (FP.dadd (0 : UInt64) (FP.dmul y_0 z_0)) 0)) rfl k) ?_
  show gO (tF T5 m 35 (la2 o0 o1 (FP.dadd (0 : UInt64) (FP.dmul y_0 z_0)) 0) [])
  refine gob (fun _ k => XS.iinc X5.here hx rfl (hb hby d6_35) rfl (l' := (la2 o0 o1 (FP.dadd (0 : UInt64) (FP.dmul y_0 z_0)) 1)) rfl k) ?_
  show gO (tF T5 m 38 (la2 o0 o1 (FP.dadd (0 : UInt64) (FP.dmul y_0 z_0)) 1) [])
  refine gob (fun _ k => XS.goto X5.here hx rfl (pc0 := 38) (pc' := 5) rfl (hb hby d6_38) (by decide) (by decide) k) ?_
  show gO (tF T5 m 5 (la2 o0 o1 (FP.dadd (0 : UInt64) (FP.dmul y_0 z_0)) 1) [])
  refine gob (fun _ k => XS.iload X5.here hx rfl (hb hby d6_5) rfl k) ?_
  show gO (tF T5 m 7 (la2 o0 o1 (FP.dadd (0 : UInt64) (FP.dmul y_0 z_0)) 1) [(.int 1)])
  refine gob (fun _ k => XS.aloadN X5.here hx rfl (hb hby d6_7) rfl rfl k) ?_
  show gO (tF T5 m 8 (la2 o0 o1 (FP.dadd (0 : UInt64) (FP.dmul y_0 z_0)) 1) [(.ref o0), (.int 1)])
  obtain ⟨T10, X10, e10, st10⟩ := getF X5 hx hZ hown (host := "") (Or.inl (hW hw 23 rfl)) Via.refl e5 F_dofs (g := (mkF m 8 (la2 o0 o1 (FP.dadd (0 : UInt64) (FP.dmul y_0 z_0)) 1) [(.ref o0), (.int 1)])) rfl rfl (hb hby d6_8)
  refine gob st10 ?_
  show gO (tF T10 m 11 (la2 o0 o1 (FP.dadd (0 : UInt64) (FP.dmul y_0 z_0)) 1) [(.ref w_d), (.int 1)])
  obtain ⟨cl11, Ar11, aq11, S11, N11, H11, G11⟩ := id V_d
  refine gob (X10.arraylength hx (by rw [e10]; exact Ar11.1) (State.isArrayOf_alike hZ.alike Ar11.2.1) (g := (mkF m 11 (la2 o0 o1 (FP.dadd (0 : UInt64) (FP.dmul y_0 z_0)) 1) [(.ref w_d), (.int 1)])) rfl rfl (hb hby d6_11)) ?_
  rw [len_of S11 N11]
  show gO (tF T10 m 12 (la2 o0 o1 (FP.dadd (0 : UInt64) (FP.dmul y_0 z_0)) 1) [(.int 3), (.int 1)])
  refine gob (fun _ k => XS.icmpNo X10.here hx rfl (hb hby d6_12) rfl (tlt (by decide : (1 : Int32) < (3 : Int32))).2.1 k) ?_
  show gO (tF T10 m 15 (la2 o0 o1 (FP.dadd (0 : UInt64) (FP.dmul y_0 z_0)) 1) [])
  refine gob (fun _ k => XS.dloadN X10.here hx rfl (hb hby d6_15) rfl k) ?_
  show gO (tF T10 m 16 (la2 o0 o1 (FP.dadd (0 : UInt64) (FP.dmul y_0 z_0)) 1) [(.double (FP.dadd (0 : UInt64) (FP.dmul y_0 z_0)))])
  refine gob (fun _ k => XS.aloadN X10.here hx rfl (hb hby d6_16) rfl rfl k) ?_
  show gO (tF T10 m 17 (la2 o0 o1 (FP.dadd (0 : UInt64) (FP.dmul y_0 z_0)) 1) [(.ref o0), (.double (FP.dadd (0 : UInt64) (FP.dmul y_0 z_0)))])
  obtain ⟨T12, X12, e12, st12⟩ := getF X10 hx hZ hown (host := "") (Or.inl (hW hw 25 rfl)) Via.refl e10 F_weights (g := (mkF m 17 (la2 o0 o1 (FP.dadd (0 : UInt64) (FP.dmul y_0 z_0)) 1) [(.ref o0), (.double (FP.dadd (0 : UInt64) (FP.dmul y_0 z_0)))])) rfl rfl (hb hby d6_17)
  refine gob st12 ?_
  show gO (tF T12 m 20 (la2 o0 o1 (FP.dadd (0 : UInt64) (FP.dmul y_0 z_0)) 1) [(.ref w_w), (.double (FP.dadd (0 : UInt64) (FP.dmul y_0 z_0)))])
  refine gob (fun _ k => XS.iload X12.here hx rfl (hb hby d6_20) rfl k) ?_
  show gO (tF T12 m 22 (la2 o0 o1 (FP.dadd (0 : UInt64) (FP.dmul y_0 z_0)) 1) [(.int 1), (.ref w_w), (.double (FP.dadd (0 : UInt64) (FP.dmul y_0 z_0)))])
  obtain ⟨cl13, Ar13, aq13, S13, N13, H13, G13⟩ := id V_y
  have hin13 : ¬ ((1 : Int32) < 0 ∨ cl13.slots.size ≤ ((1 : Int32)).toNatClampNeg) := inb_of S13 ⟨by decide, by decide⟩
  refine gob (X12.daload hx (j := (1 : Int32)) (v := (.double y_1)) (by rw [e12]; exact Ar13.1) (State.isArrayOf_alike hZ.alike Ar13.2.1) Ar13.2.2 hin13 (Has.at H13 hin13 rfl) (g := (mkF m 22 (la2 o0 o1 (FP.dadd (0 : UInt64) (FP.dmul y_0 z_0)) 1) [(.int 1), (.ref w_w), (.double (FP.dadd (0 : UInt64) (FP.dmul y_0 z_0)))])) rfl rfl (hb hby d6_22)) ?_
  show gO (tF T12 m 23 (la2 o0 o1 (FP.dadd (0 : UInt64) (FP.dmul y_0 z_0)) 1) [(.double y_1), (.double (FP.dadd (0 : UInt64) (FP.dmul y_0 z_0)))])
  refine gob (fun _ k => XS.aloadN X12.here hx rfl (hb hby d6_23) rfl rfl k) ?_
  show gO (tF T12 m 24 (la2 o0 o1 (FP.dadd (0 : UInt64) (FP.dmul y_0 z_0)) 1) [(.ref o1), (.double y_1), (.double (FP.dadd (0 : UInt64) (FP.dmul y_0 z_0)))])
  refine gob (fun _ k => XS.aloadN X12.here hx rfl (hb hby d6_24) rfl rfl k) ?_
  show gO (tF T12 m 25 (la2 o0 o1 (FP.dadd (0 : UInt64) (FP.dmul y_0 z_0)) 1) [(.ref o0), (.ref o1), (.double y_1), (.double (FP.dadd (0 : UInt64) (FP.dmul y_0 z_0)))])
  obtain ⟨T14, X14, e14, st14⟩ := getF X12 hx hZ hown (host := "") (Or.inl (hW hw 23 rfl)) Via.refl e12 F_dofs (g := (mkF m 25 (la2 o0 o1 (FP.dadd (0 : UInt64) (FP.dmul y_0 z_0)) 1) [(.ref o0), (.ref o1), (.double y_1), (.double (FP.dadd (0 : UInt64) (FP.dmul y_0 z_0)))])) rfl rfl (hb hby d6_25)
  refine gob st14 ?_
  show gO (tF T14 m 28 (la2 o0 o1 (FP.dadd (0 : UInt64) (FP.dmul y_0 z_0)) 1) [(.ref w_d), (.ref o1), (.double y_1), (.double (FP.dadd (0 : UInt64) (FP.dmul y_0 z_0)))])
  refine gob (fun _ k => XS.iload X14.here hx rfl (hb hby d6_28) rfl k) ?_
  show gO (tF T14 m 30 (la2 o0 o1 (FP.dadd (0 : UInt64) (FP.dmul y_0 z_0)) 1) [(.int 1), (.ref w_d), (.ref o1), (.double y_1), (.double (FP.dadd (0 : UInt64) (FP.dmul y_0 z_0)))])
  obtain ⟨cl15, Ar15, aq15, S15, N15, H15, G15⟩ := id V_d
  have hin15 : ¬ ((1 : Int32) < 0 ∨ cl15.slots.size ≤ ((1 : Int32)).toNatClampNeg) := inb_of S15 ⟨by decide, by decide⟩
  refine gob (X14.iaload hx (j := (1 : Int32)) (v := (.int 2)) (by rw [e14]; exact Ar15.1) (State.isArrayOf_alike hZ.alike Ar15.2.1) Ar15.2.2 hin15 (Has.at H15 hin15 rfl) (g := (mkF m 30 (la2 o0 o1 (FP.dadd (0 : UInt64) (FP.dmul y_0 z_0)) 1) [(.int 1), (.ref w_d), (.ref o1), (.double y_1), (.double (FP.dadd (0 : UInt64) (FP.dmul y_0 z_0)))])) rfl rfl (hb hby d6_30)) ?_
  show gO (tF T14 m 31 (la2 o0 o1 (FP.dadd (0 : UInt64) (FP.dmul y_0 z_0)) 1) [(.int 2), (.ref o1), (.double y_1), (.double (FP.dadd (0 : UInt64) (FP.dmul y_0 z_0)))])
  obtain ⟨cl16, Ar16, aq16, S16, N16, H16, G16⟩ := id V_z
  have hin16 : ¬ ((2 : Int32) < 0 ∨ cl16.slots.size ≤ ((2 : Int32)).toNatClampNeg) := inb_of S16 ⟨by decide, by decide⟩
  refine gob (X14.daload hx (j := (2 : Int32)) (v := (.double z_2)) (by rw [e14]; exact Ar16.1) (State.isArrayOf_alike hZ.alike Ar16.2.1) Ar16.2.2 hin16 (Has.at H16 hin16 rfl) (g := (mkF m 31 (la2 o0 o1 (FP.dadd (0 : UInt64) (FP.dmul y_0 z_0)) 1) [(.int 2), (.ref o1), (.double y_1), (.double (FP.dadd (0 : UInt64) (FP.dmul y_0 z_0)))])) rfl rfl (hb hby d6_31)) ?_
  show gO (tF T14 m 32 (la2 o0 o1 (FP.dadd (0 : UInt64) (FP.dmul y_0 z_0)) 1) [(.double z_2), (.double y_1), (.double (FP.dadd (0 : UInt64) (FP.dmul y_0 z_0)))])
  have mg17 : Mag64 1090 (FP.dmul y_1 z_2) := own_dmul m_y_1 m_z_2 (by decide) (by decide) (by decide)
  refine gob (fun _ k => XS.dmulS X14.here hx rfl (hb hby d6_32) rfl (v := (FP.dmul y_1 z_2)) (mg17.fin (by decide)).noNaN rfl k) ?_
  show gO (tF T14 m 33 (la2 o0 o1 (FP.dadd (0 : UInt64) (FP.dmul y_0 z_0)) 1) [(.double (FP.dmul y_1 z_2)), (.double (FP.dadd (0 : UInt64) (FP.dmul y_0 z_0)))])
  have mg18 : Mag64 1094 (FP.dadd (FP.dadd (0 : UInt64) (FP.dmul y_0 z_0)) (FP.dmul y_1 z_2)) := own_dadd (K := 1092) (mg9.mono (by decide)) (mg17.mono (by decide)) (by decide) (by decide)
  refine gob (fun _ k => XS.daddS X14.here hx rfl (hb hby d6_33) rfl (v := (FP.dadd (FP.dadd (0 : UInt64) (FP.dmul y_0 z_0)) (FP.dmul y_1 z_2))) (mg18.fin (by decide)).noNaN rfl k) ?_
  show gO (tF T14 m 34 (la2 o0 o1 (FP.dadd (0 : UInt64) (FP.dmul y_0 z_0)) 1) [(.double (FP.dadd (FP.dadd (0 : UInt64) (FP.dmul y_0 z_0)) (FP.dmul y_1 z_2)))])
  refine gob (fun _ k => XS.dstoreN X14.here hx rfl (hb hby d6_34) rfl (l' := (la2 o0 o1 (FP.dadd (FP.dadd (0 : UInt64) (FP.dmul y_0 z_0)) (FP.dmul y_1 z_2)) 1)) rfl k) ?_
  show gO (tF T14 m 35 (la2 o0 o1 (FP.dadd (FP.dadd (0 : UInt64) (FP.dmul y_0 z_0)) (FP.dmul y_1 z_2)) 1) [])
  refine gob (fun _ k => XS.iinc X14.here hx rfl (hb hby d6_35) rfl (l' := (la2 o0 o1 (FP.dadd (FP.dadd (0 : UInt64) (FP.dmul y_0 z_0)) (FP.dmul y_1 z_2)) 2)) rfl k) ?_
  show gO (tF T14 m 38 (la2 o0 o1 (FP.dadd (FP.dadd (0 : UInt64) (FP.dmul y_0 z_0)) (FP.dmul y_1 z_2)) 2) [])
  refine gob (fun _ k => XS.goto X14.here hx rfl (pc0 := 38) (pc' := 5) rfl (hb hby d6_38) (by decide) (by decide) k) ?_
  show gO (tF T14 m 5 (la2 o0 o1 (FP.dadd (FP.dadd (0 : UInt64) (FP.dmul y_0 z_0)) (FP.dmul y_1 z_2)) 2) [])
  refine gob (fun _ k => XS.iload X14.here hx rfl (hb hby d6_5) rfl k) ?_
  show gO (tF T14 m 7 (la2 o0 o1 (FP.dadd (FP.dadd (0 : UInt64) (FP.dmul y_0 z_0)) (FP.dmul y_1 z_2)) 2) [(.int 2)])
  refine gob (fun _ k => XS.aloadN X14.here hx rfl (hb hby d6_7) rfl rfl k) ?_
  show gO (tF T14 m 8 (la2 o0 o1 (FP.dadd (FP.dadd (0 : UInt64) (FP.dmul y_0 z_0)) (FP.dmul y_1 z_2)) 2) [(.ref o0), (.int 2)])
  obtain ⟨T19, X19, e19, st19⟩ := getF X14 hx hZ hown (host := "") (Or.inl (hW hw 23 rfl)) Via.refl e14 F_dofs (g := (mkF m 8 (la2 o0 o1 (FP.dadd (FP.dadd (0 : UInt64) (FP.dmul y_0 z_0)) (FP.dmul y_1 z_2)) 2) [(.ref o0), (.int 2)])) rfl rfl (hb hby d6_8)
  refine gob st19 ?_
  show gO (tF T19 m 11 (la2 o0 o1 (FP.dadd (FP.dadd (0 : UInt64) (FP.dmul y_0 z_0)) (FP.dmul y_1 z_2)) 2) [(.ref w_d), (.int 2)])
  obtain ⟨cl20, Ar20, aq20, S20, N20, H20, G20⟩ := id V_d
  refine gob (X19.arraylength hx (by rw [e19]; exact Ar20.1) (State.isArrayOf_alike hZ.alike Ar20.2.1) (g := (mkF m 11 (la2 o0 o1 (FP.dadd (FP.dadd (0 : UInt64) (FP.dmul y_0 z_0)) (FP.dmul y_1 z_2)) 2) [(.ref w_d), (.int 2)])) rfl rfl (hb hby d6_11)) ?_
  rw [len_of S20 N20]
  show gO (tF T19 m 12 (la2 o0 o1 (FP.dadd (FP.dadd (0 : UInt64) (FP.dmul y_0 z_0)) (FP.dmul y_1 z_2)) 2) [(.int 3), (.int 2)])
  refine gob (fun _ k => XS.icmpNo X19.here hx rfl (hb hby d6_12) rfl (tlt (by decide : (2 : Int32) < (3 : Int32))).2.1 k) ?_
  show gO (tF T19 m 15 (la2 o0 o1 (FP.dadd (FP.dadd (0 : UInt64) (FP.dmul y_0 z_0)) (FP.dmul y_1 z_2)) 2) [])
  refine gob (fun _ k => XS.dloadN X19.here hx rfl (hb hby d6_15) rfl k) ?_
  show gO (tF T19 m 16 (la2 o0 o1 (FP.dadd (FP.dadd (0 : UInt64) (FP.dmul y_0 z_0)) (FP.dmul y_1 z_2)) 2) [(.double (FP.dadd (FP.dadd (0 : UInt64) (FP.dmul y_0 z_0)) (FP.dmul y_1 z_2)))])
  refine gob (fun _ k => XS.aloadN X19.here hx rfl (hb hby d6_16) rfl rfl k) ?_
  show gO (tF T19 m 17 (la2 o0 o1 (FP.dadd (FP.dadd (0 : UInt64) (FP.dmul y_0 z_0)) (FP.dmul y_1 z_2)) 2) [(.ref o0), (.double (FP.dadd (FP.dadd (0 : UInt64) (FP.dmul y_0 z_0)) (FP.dmul y_1 z_2)))])
  obtain ⟨T21, X21, e21, st21⟩ := getF X19 hx hZ hown (host := "") (Or.inl (hW hw 25 rfl)) Via.refl e19 F_weights (g := (mkF m 17 (la2 o0 o1 (FP.dadd (FP.dadd (0 : UInt64) (FP.dmul y_0 z_0)) (FP.dmul y_1 z_2)) 2) [(.ref o0), (.double (FP.dadd (FP.dadd (0 : UInt64) (FP.dmul y_0 z_0)) (FP.dmul y_1 z_2)))])) rfl rfl (hb hby d6_17)
  refine gob st21 ?_
  show gO (tF T21 m 20 (la2 o0 o1 (FP.dadd (FP.dadd (0 : UInt64) (FP.dmul y_0 z_0)) (FP.dmul y_1 z_2)) 2) [(.ref w_w), (.double (FP.dadd (FP.dadd (0 : UInt64) (FP.dmul y_0 z_0)) (FP.dmul y_1 z_2)))])
  refine gob (fun _ k => XS.iload X21.here hx rfl (hb hby d6_20) rfl k) ?_
  show gO (tF T21 m 22 (la2 o0 o1 (FP.dadd (FP.dadd (0 : UInt64) (FP.dmul y_0 z_0)) (FP.dmul y_1 z_2)) 2) [(.int 2), (.ref w_w), (.double (FP.dadd (FP.dadd (0 : UInt64) (FP.dmul y_0 z_0)) (FP.dmul y_1 z_2)))])
  obtain ⟨cl22, Ar22, aq22, S22, N22, H22, G22⟩ := id V_y
  have hin22 : ¬ ((2 : Int32) < 0 ∨ cl22.slots.size ≤ ((2 : Int32)).toNatClampNeg) := inb_of S22 ⟨by decide, by decide⟩
  refine gob (X21.daload hx (j := (2 : Int32)) (v := (.double y_2)) (by rw [e21]; exact Ar22.1) (State.isArrayOf_alike hZ.alike Ar22.2.1) Ar22.2.2 hin22 (Has.at H22 hin22 rfl) (g := (mkF m 22 (la2 o0 o1 (FP.dadd (FP.dadd (0 : UInt64) (FP.dmul y_0 z_0)) (FP.dmul y_1 z_2)) 2) [(.int 2), (.ref w_w), (.double (FP.dadd (FP.dadd (0 : UInt64) (FP.dmul y_0 z_0)) (FP.dmul y_1 z_2)))])) rfl rfl (hb hby d6_22)) ?_
  show gO (tF T21 m 23 (la2 o0 o1 (FP.dadd (FP.dadd (0 : UInt64) (FP.dmul y_0 z_0)) (FP.dmul y_1 z_2)) 2) [(.double y_2), (.double (FP.dadd (FP.dadd (0 : UInt64) (FP.dmul y_0 z_0)) (FP.dmul y_1 z_2)))])
  refine gob (fun _ k => XS.aloadN X21.here hx rfl (hb hby d6_23) rfl rfl k) ?_
  show gO (tF T21 m 24 (la2 o0 o1 (FP.dadd (FP.dadd (0 : UInt64) (FP.dmul y_0 z_0)) (FP.dmul y_1 z_2)) 2) [(.ref o1), (.double y_2), (.double (FP.dadd (FP.dadd (0 : UInt64) (FP.dmul y_0 z_0)) (FP.dmul y_1 z_2)))])
  refine gob (fun _ k => XS.aloadN X21.here hx rfl (hb hby d6_24) rfl rfl k) ?_
  show gO (tF T21 m 25 (la2 o0 o1 (FP.dadd (FP.dadd (0 : UInt64) (FP.dmul y_0 z_0)) (FP.dmul y_1 z_2)) 2) [(.ref o0), (.ref o1), (.double y_2), (.double (FP.dadd (FP.dadd (0 : UInt64) (FP.dmul y_0 z_0)) (FP.dmul y_1 z_2)))])
  obtain ⟨T23, X23, e23, st23⟩ := getF X21 hx hZ hown (host := "") (Or.inl (hW hw 23 rfl)) Via.refl e21 F_dofs (g := (mkF m 25 (la2 o0 o1 (FP.dadd (FP.dadd (0 : UInt64) (FP.dmul y_0 z_0)) (FP.dmul y_1 z_2)) 2) [(.ref o0), (.ref o1), (.double y_2), (.double (FP.dadd (FP.dadd (0 : UInt64) (FP.dmul y_0 z_0)) (FP.dmul y_1 z_2)))])) rfl rfl (hb hby d6_25)
  refine gob st23 ?_
  show gO (tF T23 m 28 (la2 o0 o1 (FP.dadd (FP.dadd (0 : UInt64) (FP.dmul y_0 z_0)) (FP.dmul y_1 z_2)) 2) [(.ref w_d), (.ref o1), (.double y_2), (.double (FP.dadd (FP.dadd (0 : UInt64) (FP.dmul y_0 z_0)) (FP.dmul y_1 z_2)))])
  refine gob (fun _ k => XS.iload X23.here hx rfl (hb hby d6_28) rfl k) ?_
  show gO (tF T23 m 30 (la2 o0 o1 (FP.dadd (FP.dadd (0 : UInt64) (FP.dmul y_0 z_0)) (FP.dmul y_1 z_2)) 2) [(.int 2), (.ref w_d), (.ref o1), (.double y_2), (.double (FP.dadd (FP.dadd (0 : UInt64) (FP.dmul y_0 z_0)) (FP.dmul y_1 z_2)))])
  obtain ⟨cl24, Ar24, aq24, S24, N24, H24, G24⟩ := id V_d
  have hin24 : ¬ ((2 : Int32) < 0 ∨ cl24.slots.size ≤ ((2 : Int32)).toNatClampNeg) := inb_of S24 ⟨by decide, by decide⟩
  refine gob (X23.iaload hx (j := (2 : Int32)) (v := (.int 3)) (by rw [e23]; exact Ar24.1) (State.isArrayOf_alike hZ.alike Ar24.2.1) Ar24.2.2 hin24 (Has.at H24 hin24 rfl) (g := (mkF m 30 (la2 o0 o1 (FP.dadd (FP.dadd (0 : UInt64) (FP.dmul y_0 z_0)) (FP.dmul y_1 z_2)) 2) [(.int 2), (.ref w_d), (.ref o1), (.double y_2), (.double (FP.dadd (FP.dadd (0 : UInt64) (FP.dmul y_0 z_0)) (FP.dmul y_1 z_2)))])) rfl rfl (hb hby d6_30)) ?_
  show gO (tF T23 m 31 (la2 o0 o1 (FP.dadd (FP.dadd (0 : UInt64) (FP.dmul y_0 z_0)) (FP.dmul y_1 z_2)) 2) [(.int 3), (.ref o1), (.double y_2), (.double (FP.dadd (FP.dadd (0 : UInt64) (FP.dmul y_0 z_0)) (FP.dmul y_1 z_2)))])
  obtain ⟨cl25, Ar25, aq25, S25, N25, H25, G25⟩ := id V_z
  have hin25 : ¬ ((3 : Int32) < 0 ∨ cl25.slots.size ≤ ((3 : Int32)).toNatClampNeg) := inb_of S25 ⟨by decide, by decide⟩
  refine gob (X23.daload hx (j := (3 : Int32)) (v := (.double z_3)) (by rw [e23]; exact Ar25.1) (State.isArrayOf_alike hZ.alike Ar25.2.1) Ar25.2.2 hin25 (Has.at H25 hin25 rfl) (g := (mkF m 31 (la2 o0 o1 (FP.dadd (FP.dadd (0 : UInt64) (FP.dmul y_0 z_0)) (FP.dmul y_1 z_2)) 2) [(.int 3), (.ref o1), (.double y_2), (.double (FP.dadd (FP.dadd (0 : UInt64) (FP.dmul y_0 z_0)) (FP.dmul y_1 z_2)))])) rfl rfl (hb hby d6_31)) ?_
  show gO (tF T23 m 32 (la2 o0 o1 (FP.dadd (FP.dadd (0 : UInt64) (FP.dmul y_0 z_0)) (FP.dmul y_1 z_2)) 2) [(.double z_3), (.double y_2), (.double (FP.dadd (FP.dadd (0 : UInt64) (FP.dmul y_0 z_0)) (FP.dmul y_1 z_2)))])
  have mg26 : Mag64 1090 (FP.dmul y_2 z_3) := own_dmul m_y_2 m_z_3 (by decide) (by decide) (by decide)
  refine gob (fun _ k => XS.dmulS X23.here hx rfl (hb hby d6_32) rfl (v := (FP.dmul y_2 z_3)) (mg26.fin (by decide)).noNaN rfl k) ?_
  show gO (tF T23 m 33 (la2 o0 o1 (FP.dadd (FP.dadd (0 : UInt64) (FP.dmul y_0 z_0)) (FP.dmul y_1 z_2)) 2) [(.double (FP.dmul y_2 z_3)), (.double (FP.dadd (FP.dadd (0 : UInt64) (FP.dmul y_0 z_0)) (FP.dmul y_1 z_2)))])
  have mg27 : Mag64 1096 (FP.dadd (FP.dadd (FP.dadd (0 : UInt64) (FP.dmul y_0 z_0)) (FP.dmul y_1 z_2)) (FP.dmul y_2 z_3)) := own_dadd (K := 1094) (mg18.mono (by decide)) (mg26.mono (by decide)) (by decide) (by decide)
  refine gob (fun _ k => XS.daddS X23.here hx rfl (hb hby d6_33) rfl (v := (FP.dadd (FP.dadd (FP.dadd (0 : UInt64) (FP.dmul y_0 z_0)) (FP.dmul y_1 z_2)) (FP.dmul y_2 z_3))) (mg27.fin (by decide)).noNaN rfl k) ?_
  show gO (tF T23 m 34 (la2 o0 o1 (FP.dadd (FP.dadd (0 : UInt64) (FP.dmul y_0 z_0)) (FP.dmul y_1 z_2)) 2) [(.double (FP.dadd (FP.dadd (FP.dadd (0 : UInt64) (FP.dmul y_0 z_0)) (FP.dmul y_1 z_2)) (FP.dmul y_2 z_3)))])
  refine gob (fun _ k => XS.dstoreN X23.here hx rfl (hb hby d6_34) rfl (l' := (la2 o0 o1 (FP.dadd (FP.dadd (FP.dadd (0 : UInt64) (FP.dmul y_0 z_0)) (FP.dmul y_1 z_2)) (FP.dmul y_2 z_3)) 2)) rfl k) ?_
  show gO (tF T23 m 35 (la2 o0 o1 (FP.dadd (FP.dadd (FP.dadd (0 : UInt64) (FP.dmul y_0 z_0)) (FP.dmul y_1 z_2)) (FP.dmul y_2 z_3)) 2) [])
  refine gob (fun _ k => XS.iinc X23.here hx rfl (hb hby d6_35) rfl (l' := (la2 o0 o1 (FP.dadd (FP.dadd (FP.dadd (0 : UInt64) (FP.dmul y_0 z_0)) (FP.dmul y_1 z_2)) (FP.dmul y_2 z_3)) 3)) rfl k) ?_
  show gO (tF T23 m 38 (la2 o0 o1 (FP.dadd (FP.dadd (FP.dadd (0 : UInt64) (FP.dmul y_0 z_0)) (FP.dmul y_1 z_2)) (FP.dmul y_2 z_3)) 3) [])
  refine gob (fun _ k => XS.goto X23.here hx rfl (pc0 := 38) (pc' := 5) rfl (hb hby d6_38) (by decide) (by decide) k) ?_
  show gO (tF T23 m 5 (la2 o0 o1 (FP.dadd (FP.dadd (FP.dadd (0 : UInt64) (FP.dmul y_0 z_0)) (FP.dmul y_1 z_2)) (FP.dmul y_2 z_3)) 3) [])
  refine gob (fun _ k => XS.iload X23.here hx rfl (hb hby d6_5) rfl k) ?_
  show gO (tF T23 m 7 (la2 o0 o1 (FP.dadd (FP.dadd (FP.dadd (0 : UInt64) (FP.dmul y_0 z_0)) (FP.dmul y_1 z_2)) (FP.dmul y_2 z_3)) 3) [(.int 3)])
  refine gob (fun _ k => XS.aloadN X23.here hx rfl (hb hby d6_7) rfl rfl k) ?_
  show gO (tF T23 m 8 (la2 o0 o1 (FP.dadd (FP.dadd (FP.dadd (0 : UInt64) (FP.dmul y_0 z_0)) (FP.dmul y_1 z_2)) (FP.dmul y_2 z_3)) 3) [(.ref o0), (.int 3)])
  obtain ⟨T28, X28, e28, st28⟩ := getF X23 hx hZ hown (host := "") (Or.inl (hW hw 23 rfl)) Via.refl e23 F_dofs (g := (mkF m 8 (la2 o0 o1 (FP.dadd (FP.dadd (FP.dadd (0 : UInt64) (FP.dmul y_0 z_0)) (FP.dmul y_1 z_2)) (FP.dmul y_2 z_3)) 3) [(.ref o0), (.int 3)])) rfl rfl (hb hby d6_8)
  refine gob st28 ?_
  show gO (tF T28 m 11 (la2 o0 o1 (FP.dadd (FP.dadd (FP.dadd (0 : UInt64) (FP.dmul y_0 z_0)) (FP.dmul y_1 z_2)) (FP.dmul y_2 z_3)) 3) [(.ref w_d), (.int 3)])
  obtain ⟨cl29, Ar29, aq29, S29, N29, H29, G29⟩ := id V_d
  refine gob (X28.arraylength hx (by rw [e28]; exact Ar29.1) (State.isArrayOf_alike hZ.alike Ar29.2.1) (g := (mkF m 11 (la2 o0 o1 (FP.dadd (FP.dadd (FP.dadd (0 : UInt64) (FP.dmul y_0 z_0)) (FP.dmul y_1 z_2)) (FP.dmul y_2 z_3)) 3) [(.ref w_d), (.int 3)])) rfl rfl (hb hby d6_11)) ?_
  rw [len_of S29 N29]
  show gO (tF T28 m 12 (la2 o0 o1 (FP.dadd (FP.dadd (FP.dadd (0 : UInt64) (FP.dmul y_0 z_0)) (FP.dmul y_1 z_2)) (FP.dmul y_2 z_3)) 3) [(.int 3), (.int 3)])
  refine gob (fun _ k => XS.icmpYes X28.here hx rfl (pc0 := 12) (pc' := 41) rfl (hb hby d6_12) rfl (flt (by decide : ¬ ((3 : Int32) < (3 : Int32)))).2.1 (by decide) (by decide) k) ?_
  show gO (tF T28 m 41 (la2 o0 o1 (FP.dadd (FP.dadd (FP.dadd (0 : UInt64) (FP.dmul y_0 z_0)) (FP.dmul y_1 z_2)) (FP.dmul y_2 z_3)) 3) [])
  refine gob (fun _ k => XS.dloadN X28.here hx rfl (hb hby d6_41) rfl k) ?_
  show gO (tF T28 m 42 (la2 o0 o1 (FP.dadd (FP.dadd (FP.dadd (0 : UInt64) (FP.dmul y_0 z_0)) (FP.dmul y_1 z_2)) (FP.dmul y_2 z_3)) 3) [(.double (FP.dadd (FP.dadd (FP.dadd (0 : UInt64) (FP.dmul y_0 z_0)) (FP.dmul y_1 z_2)) (FP.dmul y_2 z_3)))])
  refine goD X28 hx hlk Bd.returns (hb hby d6_42) ?_ (by decide) (by decide)
  show Qof_023 Z o0 o1 w_d w_w k_d k_y y_0 y_1 y_2 k_z z_0 z_1 z_2 z_3 h0 n0 (some (.double (FP.dadd (FP.dadd (FP.dadd (0 : UInt64) (FP.dmul y_0 z_0)) (FP.dmul y_1 z_2)) (FP.dmul y_2 z_3)))) T28.heap _
  exact ⟨(FP.dadd (FP.dadd (FP.dadd (0 : UInt64) (FP.dmul y_0 z_0)) (FP.dmul y_1 z_2)) (FP.dmul y_2 z_3)), rfl, rfl, N0, e28⟩
theorem ef_of_123 (m : MethodId) (x0 : Addr) (x1 : Addr) : entryFrame m #[(.ref x0), (.ref x1)] 5 = mkF m 0 #[.val (.ref x0), .val (.ref x1), .unset, .unset, .unset] [] := by first | (simp [entryFrame, mkF, argsToLocals, Value.category]; done) | rfl
def Qof_123 (Z : State) (o0 : Addr) (o1 : Addr) (w_d : Addr) (w_w : Addr) (k_d : ClassId) (k_y : ClassId) (y_0 : UInt64) (y_1 : UInt64) (y_2 : UInt64) (k_z : ClassId) (z_0 : UInt64) (z_1 : UInt64) (z_2 : UInt64) (z_3 : UInt64) (h0 : Heap) (n0 : Nat) (v : Option Value) (h : Heap) (L : List Loc) : Prop := ∃ r : UInt64, v = some (.double r) ∧ ((r = (FP.dadd (FP.dadd (FP.dadd (0 : UInt64) (FP.dmul y_0 z_1)) (FP.dmul y_1 z_2)) (FP.dmul y_2 z_3)))) ∧ Fr n0 L ∧ h = h0
set_option maxRecDepth 65536 in
set_option maxHeartbeats 40000000 in
theorem rmof_123 (l : Launch) (Z : State) (a0 : Array Value) (hw : ∀ d ∈ tables_1, d.before a0 Z = true) (ws : List Jvm.Cond) (o0 : Addr) (o1 : Addr) (w_d : Addr) (w_w : Addr) (k_d : ClassId) (k_y : ClassId) (y_0 : UInt64) (y_1 : UInt64) (y_2 : UInt64) (k_z : ClassId) (z_0 : UInt64) (z_1 : UInt64) (z_2 : UInt64) (z_3 : UInt64) (h0 : Heap) (n0 : Nat) (Z0 : n0 ≤ h0.size) (F_dofs : Fld Z h0 o0 "com/example/fenda/fenda/analysis/Combination" "dofs" "[I" (.ref w_d)) (F_weights : Fld Z h0 o0 "com/example/fenda/fenda/analysis/Combination" "weights" "[D" (.ref w_w)) (V_d : Arv Z h0 w_d k_d .int (3 : Int32) [(.int 1), (.int 2), (.int 3)] (.int 0)) (m_y_0 : Mag64 1056 y_0) (m_y_1 : Mag64 1056 y_1) (m_y_2 : Mag64 1056 y_2) (V_y : Arv Z h0 w_w k_y .double (3 : Int32) [(.double y_0), (.double y_1), (.double y_2)] (.double 0)) (m_z_0 : Mag64 1056 z_0) (m_z_1 : Mag64 1056 z_1) (m_z_2 : Mag64 1056 z_2) (m_z_3 : Mag64 1056 z_3) (V_z : Arv Z h0 o1 k_z .double (4 : Int32) [(.double z_0), (.double z_1), (.double z_2), (.double z_3)] (.double 0)) :
    MetFree l (⟨"com/example/fenda/fenda/analysis/Combination", "of", "([D)D"⟩ : MethodName) (head1 (Jvm.Cond.code (⟨"com/example/fenda/fenda/analysis/Combination", "of", "([D)D"⟩ : MethodName) prog_3_method_2_code 5 (some .double) :: ws) ({ frames := 0, cells := 0, slots := 0, locals := 0 } : Room)) (fun a U => a = #[(.ref o0), (.ref o1)] ∧ Z.Warmed39 U.vm ∧ U.heap = h0) (fun _ _ _ _ _ => True) (fun _ U o U' => ∃ v L, o = .returned v ∧ Qof_123 Z o0 o1 w_d w_w k_d k_y y_0 y_1 y_2 k_z z_0 z_1 z_2 z_3 h0 n0 v U'.heap L ∧ FrameEnd U o U' L ({ frames := 0, cells := 0, slots := 0, locals := 0 } : Room).cells ({ frames := 0, cells := 0, slots := 0, locals := 0 } : Room).slots) := by
  refine MetFree.of_bodySF (plainFor_of_name (by first | (simp [plainName, overriddenIn]; done) | decide +kernel)) hisR ?_
  intro p e s m args below meth c s₁ Bd hml0 hP hK
  obtain ⟨rfl, hZ, hh⟩ := hP
  have hx := Bd.exec
  have hby := Bd.bytes
  have hml : c.maxLocals = 5 := hml0
  have hown : s.vm.findClass "com/example/fenda/fenda/analysis/Combination" = some m.cls := findClass_of_methodNamed Bd.named
  have hnm := (name_of_methodNamed Bd.named Bd.method).1
  have hlk := BodyLoose.notSynchronized Bd
  have X0 : Stand p l e ({ frames := 0, cells := 0, slots := 0, locals := 0 } : Room) s m #[(.ref o0), (.ref o1)] below meth c s₁ [] 0 0 := Stand.of_body Bd
  have e0 : s₁.heap = h0 := by rw [← hh, Bd.state]; rfl
  have N0 := Fr.nil n0
  show Go p e below s (Qof_123 Z o0 o1 w_d w_w k_d k_y y_0 y_1 y_2 k_z z_0 z_1 z_2 z_3 h0 n0) 0 0 (s₁.setTop (entryFrame m #[(.ref o0), (.ref o1)] 5))
  rw [ef_of_123]
  show gO (tF s₁ m 0 (la0 o0 o1) [])
  refine gob (fun _ k => XS.dconst0 X0.here hx rfl (hb hby d6_0) (v := (0 : UInt64)) (by decide +kernel) k) ?_
  show gO (tF s₁ m 1 (la0 o0 o1) [(.double (0 : UInt64))])
  refine gob (fun _ k => XS.dstoreN X0.here hx rfl (hb hby d6_1) rfl (l' := (la1 o0 o1 (0 : UInt64))) rfl k) ?_
  show gO (tF s₁ m 2 (la1 o0 o1 (0 : UInt64)) [])
  refine gob (fun _ k => XS.iconst X0.here hx rfl (hb hby d6_2) k) ?_
  show gO (tF s₁ m 3 (la1 o0 o1 (0 : UInt64)) [(.int 0)])
  refine gob (fun _ k => XS.istore X0.here hx rfl (hb hby d6_3) rfl (l' := (la2 o0 o1 (0 : UInt64) 0)) rfl k) ?_
  show gO (tF s₁ m 5 (la2 o0 o1 (0 : UInt64) 0) [])
  refine gob (fun _ k => XS.iload X0.here hx rfl (hb hby d6_5) rfl k) ?_
  show gO (tF s₁ m 7 (la2 o0 o1 (0 : UInt64) 0) [(.int 0)])
  refine gob (fun _ k => XS.aloadN X0.here hx rfl (hb hby d6_7) rfl rfl k) ?_
  show gO (tF s₁ m 8 (la2 o0 o1 (0 : UInt64) 0) [(.ref o0), (.int 0)])
  obtain ⟨T1, X1, e1, st1⟩ := getF X0 hx hZ hown (host := "") (Or.inl (hW hw 23 rfl)) Via.refl e0 F_dofs (g := (mkF m 8 (la2 o0 o1 (0 : UInt64) 0) [(.ref o0), (.int 0)])) rfl rfl (hb hby d6_8)
  refine gob st1 ?_
  show gO (tF T1 m 11 (la2 o0 o1 (0 : UInt64) 0) [(.ref w_d), (.int 0)])
  obtain ⟨cl2, Ar2, aq2, S2, N2, H2, G2⟩ := id V_d
  refine gob (X1.arraylength hx (by rw [e1]; exact Ar2.1) (State.isArrayOf_alike hZ.alike Ar2.2.1) (g := (mkF m 11 (la2 o0 o1 (0 : UInt64) 0) [(.ref w_d), (.int 0)])) rfl rfl (hb hby d6_11)) ?_
  rw [len_of S2 N2]
  show gO (tF T1 m 12 (la2 o0 o1 (0 : UInt64) 0) [(.int 3), (.int 0)])
  refine gob (fun _ k => XS.icmpNo X1.here hx rfl (hb hby d6_12) rfl (tlt (by decide : (0 : Int32) < (3 : Int32))).2.1 k) ?_
  show gO (tF T1 m 15 (la2 o0 o1 (0 : UInt64) 0) [])
  refine gob (fun _ k => XS.dloadN X1.here hx rfl (hb hby d6_15) rfl k) ?_
  show gO (tF T1 m 16 (la2 o0 o1 (0 : UInt64) 0) [(.double (0 : UInt64))])
  refine gob (fun _ k => XS.aloadN X1.here hx rfl (hb hby d6_16) rfl rfl k) ?_
  show gO (tF T1 m 17 (la2 o0 o1 (0 : UInt64) 0) [(.ref o0), (.double (0 : UInt64))])
  obtain ⟨T3, X3, e3, st3⟩ := getF X1 hx hZ hown (host := "") (Or.inl (hW hw 25 rfl)) Via.refl e1 F_weights (g := (mkF m 17 (la2 o0 o1 (0 : UInt64) 0) [(.ref o0), (.double (0 : UInt64))])) rfl rfl (hb hby d6_17)
  refine gob st3 ?_
  show gO (tF T3 m 20 (la2 o0 o1 (0 : UInt64) 0) [(.ref w_w), (.double (0 : UInt64))])
  refine gob (fun _ k => XS.iload X3.here hx rfl (hb hby d6_20) rfl k) ?_
  show gO (tF T3 m 22 (la2 o0 o1 (0 : UInt64) 0) [(.int 0), (.ref w_w), (.double (0 : UInt64))])
  obtain ⟨cl4, Ar4, aq4, S4, N4, H4, G4⟩ := id V_y
  have hin4 : ¬ ((0 : Int32) < 0 ∨ cl4.slots.size ≤ ((0 : Int32)).toNatClampNeg) := inb_of S4 ⟨by decide, by decide⟩
  refine gob (X3.daload hx (j := (0 : Int32)) (v := (.double y_0)) (by rw [e3]; exact Ar4.1) (State.isArrayOf_alike hZ.alike Ar4.2.1) Ar4.2.2 hin4 (Has.at H4 hin4 rfl) (g := (mkF m 22 (la2 o0 o1 (0 : UInt64) 0) [(.int 0), (.ref w_w), (.double (0 : UInt64))])) rfl rfl (hb hby d6_22)) ?_
  show gO (tF T3 m 23 (la2 o0 o1 (0 : UInt64) 0) [(.double y_0), (.double (0 : UInt64))])
  refine gob (fun _ k => XS.aloadN X3.here hx rfl (hb hby d6_23) rfl rfl k) ?_
  show gO (tF T3 m 24 (la2 o0 o1 (0 : UInt64) 0) [(.ref o1), (.double y_0), (.double (0 : UInt64))])
  refine gob (fun _ k => XS.aloadN X3.here hx rfl (hb hby d6_24) rfl rfl k) ?_
  show gO (tF T3 m 25 (la2 o0 o1 (0 : UInt64) 0) [(.ref o0), (.ref o1), (.double y_0), (.double (0 : UInt64))])
  obtain ⟨T5, X5, e5, st5⟩ := getF X3 hx hZ hown (host := "") (Or.inl (hW hw 23 rfl)) Via.refl e3 F_dofs (g := (mkF m 25 (la2 o0 o1 (0 : UInt64) 0) [(.ref o0), (.ref o1), (.double y_0), (.double (0 : UInt64))])) rfl rfl (hb hby d6_25)
  refine gob st5 ?_
  show gO (tF T5 m 28 (la2 o0 o1 (0 : UInt64) 0) [(.ref w_d), (.ref o1), (.double y_0), (.double (0 : UInt64))])
  refine gob (fun _ k => XS.iload X5.here hx rfl (hb hby d6_28) rfl k) ?_
  show gO (tF T5 m 30 (la2 o0 o1 (0 : UInt64) 0) [(.int 0), (.ref w_d), (.ref o1), (.double y_0), (.double (0 : UInt64))])
  obtain ⟨cl6, Ar6, aq6, S6, N6, H6, G6⟩ := id V_d
  have hin6 : ¬ ((0 : Int32) < 0 ∨ cl6.slots.size ≤ ((0 : Int32)).toNatClampNeg) := inb_of S6 ⟨by decide, by decide⟩
  refine gob (X5.iaload hx (j := (0 : Int32)) (v := (.int 1)) (by rw [e5]; exact Ar6.1) (State.isArrayOf_alike hZ.alike Ar6.2.1) Ar6.2.2 hin6 (Has.at H6 hin6 rfl) (g := (mkF m 30 (la2 o0 o1 (0 : UInt64) 0) [(.int 0), (.ref w_d), (.ref o1), (.double y_0), (.double (0 : UInt64))])) rfl rfl (hb hby d6_30)) ?_
  show gO (tF T5 m 31 (la2 o0 o1 (0 : UInt64) 0) [(.int 1), (.ref o1), (.double y_0), (.double (0 : UInt64))])
  obtain ⟨cl7, Ar7, aq7, S7, N7, H7, G7⟩ := id V_z
  have hin7 : ¬ ((1 : Int32) < 0 ∨ cl7.slots.size ≤ ((1 : Int32)).toNatClampNeg) := inb_of S7 ⟨by decide, by decide⟩
  refine gob (X5.daload hx (j := (1 : Int32)) (v := (.double z_1)) (by rw [e5]; exact Ar7.1) (State.isArrayOf_alike hZ.alike Ar7.2.1) Ar7.2.2 hin7 (Has.at H7 hin7 rfl) (g := (mkF m 31 (la2 o0 o1 (0 : UInt64) 0) [(.int 1), (.ref o1), (.double y_0), (.double (0 : UInt64))])) rfl rfl (hb hby d6_31)) ?_
  show gO (tF T5 m 32 (la2 o0 o1 (0 : UInt64) 0) [(.double z_1), (.double y_0), (.double (0 : UInt64))])
  have mg8 : Mag64 1090 (FP.dmul y_0 z_1) := own_dmul m_y_0 m_z_1 (by decide) (by decide) (by decide)
  refine gob (fun _ k => XS.dmulS X5.here hx rfl (hb hby d6_32) rfl (v := (FP.dmul y_0 z_1)) (mg8.fin (by decide)).noNaN rfl k) ?_
  show gO (tF T5 m 33 (la2 o0 o1 (0 : UInt64) 0) [(.double (FP.dmul y_0 z_1)), (.double (0 : UInt64))])
  have mg9 : Mag64 1092 (FP.dadd (0 : UInt64) (FP.dmul y_0 z_1)) := own_dadd (K := 1090) (own_m0.mono (by decide)) (mg8.mono (by decide)) (by decide) (by decide)
  refine gob (fun _ k => XS.daddS X5.here hx rfl (hb hby d6_33) rfl (v := (FP.dadd (0 : UInt64) (FP.dmul y_0 z_1))) (mg9.fin (by decide)).noNaN rfl k) ?_
  show gO (tF T5 m 34 (la2 o0 o1 (0 : UInt64) 0) [(.double (FP.dadd (0 : UInt64) (FP.dmul y_0 z_1)))])
  refine gob (fun _ k => XS.dstoreN X5.here hx rfl (hb hby d6_34) rfl (l' := (la2 o0 o1 (FP.dadd (0 : UInt64) (FP.dmul y_0 z_1)) 0)) rfl k) ?_
  show gO (tF T5 m 35 (la2 o0 o1 (FP.dadd (0 : UInt64) (FP.dmul y_0 z_1)) 0) [])
  refine gob (fun _ k => XS.iinc X5.here hx rfl (hb hby d6_35) rfl (l' := (la2 o0 o1 (FP.dadd (0 : UInt64) (FP.dmul y_0 z_1)) 1)) rfl k) ?_
  show gO (tF T5 m 38 (la2 o0 o1 (FP.dadd (0 : UInt64) (FP.dmul y_0 z_1)) 1) [])
  refine gob (fun _ k => XS.goto X5.here hx rfl (pc0 := 38) (pc' := 5) rfl (hb hby d6_38) (by decide) (by decide) k) ?_
  show gO (tF T5 m 5 (la2 o0 o1 (FP.dadd (0 : UInt64) (FP.dmul y_0 z_1)) 1) [])
  refine gob (fun _ k => XS.iload X5.here hx rfl (hb hby d6_5) rfl k) ?_
  show gO (tF T5 m 7 (la2 o0 o1 (FP.dadd (0 : UInt64) (FP.dmul y_0 z_1)) 1) [(.int 1)])
  refine gob (fun _ k => XS.aloadN X5.here hx rfl (hb hby d6_7) rfl rfl k) ?_
  show gO (tF T5 m 8 (la2 o0 o1 (FP.dadd (0 : UInt64) (FP.dmul y_0 z_1)) 1) [(.ref o0), (.int 1)])
  obtain ⟨T10, X10, e10, st10⟩ := getF X5 hx hZ hown (host := "") (Or.inl (hW hw 23 rfl)) Via.refl e5 F_dofs (g := (mkF m 8 (la2 o0 o1 (FP.dadd (0 : UInt64) (FP.dmul y_0 z_1)) 1) [(.ref o0), (.int 1)])) rfl rfl (hb hby d6_8)
  refine gob st10 ?_
  show gO (tF T10 m 11 (la2 o0 o1 (FP.dadd (0 : UInt64) (FP.dmul y_0 z_1)) 1) [(.ref w_d), (.int 1)])
  obtain ⟨cl11, Ar11, aq11, S11, N11, H11, G11⟩ := id V_d
  refine gob (X10.arraylength hx (by rw [e10]; exact Ar11.1) (State.isArrayOf_alike hZ.alike Ar11.2.1) (g := (mkF m 11 (la2 o0 o1 (FP.dadd (0 : UInt64) (FP.dmul y_0 z_1)) 1) [(.ref w_d), (.int 1)])) rfl rfl (hb hby d6_11)) ?_
  rw [len_of S11 N11]
  show gO (tF T10 m 12 (la2 o0 o1 (FP.dadd (0 : UInt64) (FP.dmul y_0 z_1)) 1) [(.int 3), (.int 1)])
  refine gob (fun _ k => XS.icmpNo X10.here hx rfl (hb hby d6_12) rfl (tlt (by decide : (1 : Int32) < (3 : Int32))).2.1 k) ?_
  show gO (tF T10 m 15 (la2 o0 o1 (FP.dadd (0 : UInt64) (FP.dmul y_0 z_1)) 1) [])
  refine gob (fun _ k => XS.dloadN X10.here hx rfl (hb hby d6_15) rfl k) ?_
  show gO (tF T10 m 16 (la2 o0 o1 (FP.dadd (0 : UInt64) (FP.dmul y_0 z_1)) 1) [(.double (FP.dadd (0 : UInt64) (FP.dmul y_0 z_1)))])
  refine gob (fun _ k => XS.aloadN X10.here hx rfl (hb hby d6_16) rfl rfl k) ?_
  show gO (tF T10 m 17 (la2 o0 o1 (FP.dadd (0 : UInt64) (FP.dmul y_0 z_1)) 1) [(.ref o0), (.double (FP.dadd (0 : UInt64) (FP.dmul y_0 z_1)))])
  obtain ⟨T12, X12, e12, st12⟩ := getF X10 hx hZ hown (host := "") (Or.inl (hW hw 25 rfl)) Via.refl e10 F_weights (g := (mkF m 17 (la2 o0 o1 (FP.dadd (0 : UInt64) (FP.dmul y_0 z_1)) 1) [(.ref o0), (.double (FP.dadd (0 : UInt64) (FP.dmul y_0 z_1)))])) rfl rfl (hb hby d6_17)
  refine gob st12 ?_
  show gO (tF T12 m 20 (la2 o0 o1 (FP.dadd (0 : UInt64) (FP.dmul y_0 z_1)) 1) [(.ref w_w), (.double (FP.dadd (0 : UInt64) (FP.dmul y_0 z_1)))])
  refine gob (fun _ k => XS.iload X12.here hx rfl (hb hby d6_20) rfl k) ?_
  show gO (tF T12 m 22 (la2 o0 o1 (FP.dadd (0 : UInt64) (FP.dmul y_0 z_1)) 1) [(.int 1), (.ref w_w), (.double (FP.dadd (0 : UInt64) (FP.dmul y_0 z_1)))])
  obtain ⟨cl13, Ar13, aq13, S13, N13, H13, G13⟩ := id V_y
  have hin13 : ¬ ((1 : Int32) < 0 ∨ cl13.slots.size ≤ ((1 : Int32)).toNatClampNeg) := inb_of S13 ⟨by decide, by decide⟩
  refine gob (X12.daload hx (j := (1 : Int32)) (v := (.double y_1)) (by rw [e12]; exact Ar13.1) (State.isArrayOf_alike hZ.alike Ar13.2.1) Ar13.2.2 hin13 (Has.at H13 hin13 rfl) (g := (mkF m 22 (la2 o0 o1 (FP.dadd (0 : UInt64) (FP.dmul y_0 z_1)) 1) [(.int 1), (.ref w_w), (.double (FP.dadd (0 : UInt64) (FP.dmul y_0 z_1)))])) rfl rfl (hb hby d6_22)) ?_
  show gO (tF T12 m 23 (la2 o0 o1 (FP.dadd (0 : UInt64) (FP.dmul y_0 z_1)) 1) [(.double y_1), (.double (FP.dadd (0 : UInt64) (FP.dmul y_0 z_1)))])
  refine gob (fun _ k => XS.aloadN X12.here hx rfl (hb hby d6_23) rfl rfl k) ?_
  show gO (tF T12 m 24 (la2 o0 o1 (FP.dadd (0 : UInt64) (FP.dmul y_0 z_1)) 1) [(.ref o1), (.double y_1), (.double (FP.dadd (0 : UInt64) (FP.dmul y_0 z_1)))])
  refine gob (fun _ k => XS.aloadN X12.here hx rfl (hb hby d6_24) rfl rfl k) ?_
  show gO (tF T12 m 25 (la2 o0 o1 (FP.dadd (0 : UInt64) (FP.dmul y_0 z_1)) 1) [(.ref o0), (.ref o1), (.double y_1), (.double (FP.dadd (0 : UInt64) (FP.dmul y_0 z_1)))])
  obtain ⟨T14, X14, e14, st14⟩ := getF X12 hx hZ hown (host := "") (Or.inl (hW hw 23 rfl)) Via.refl e12 F_dofs (g := (mkF m 25 (la2 o0 o1 (FP.dadd (0 : UInt64) (FP.dmul y_0 z_1)) 1) [(.ref o0), (.ref o1), (.double y_1), (.double (FP.dadd (0 : UInt64) (FP.dmul y_0 z_1)))])) rfl rfl (hb hby d6_25)
  refine gob st14 ?_
  show gO (tF T14 m 28 (la2 o0 o1 (FP.dadd (0 : UInt64) (FP.dmul y_0 z_1)) 1) [(.ref w_d), (.ref o1), (.double y_1), (.double (FP.dadd (0 : UInt64) (FP.dmul y_0 z_1)))])
  refine gob (fun _ k => XS.iload X14.here hx rfl (hb hby d6_28) rfl k) ?_
  show gO (tF T14 m 30 (la2 o0 o1 (FP.dadd (0 : UInt64) (FP.dmul y_0 z_1)) 1) [(.int 1), (.ref w_d), (.ref o1), (.double y_1), (.double (FP.dadd (0 : UInt64) (FP.dmul y_0 z_1)))])
  obtain ⟨cl15, Ar15, aq15, S15, N15, H15, G15⟩ := id V_d
  have hin15 : ¬ ((1 : Int32) < 0 ∨ cl15.slots.size ≤ ((1 : Int32)).toNatClampNeg) := inb_of S15 ⟨by decide, by decide⟩
  refine gob (X14.iaload hx (j := (1 : Int32)) (v := (.int 2)) (by rw [e14]; exact Ar15.1) (State.isArrayOf_alike hZ.alike Ar15.2.1) Ar15.2.2 hin15 (Has.at H15 hin15 rfl) (g := (mkF m 30 (la2 o0 o1 (FP.dadd (0 : UInt64) (FP.dmul y_0 z_1)) 1) [(.int 1), (.ref w_d), (.ref o1), (.double y_1), (.double (FP.dadd (0 : UInt64) (FP.dmul y_0 z_1)))])) rfl rfl (hb hby d6_30)) ?_
  show gO (tF T14 m 31 (la2 o0 o1 (FP.dadd (0 : UInt64) (FP.dmul y_0 z_1)) 1) [(.int 2), (.ref o1), (.double y_1), (.double (FP.dadd (0 : UInt64) (FP.dmul y_0 z_1)))])
  obtain ⟨cl16, Ar16, aq16, S16, N16, H16, G16⟩ := id V_z
  have hin16 : ¬ ((2 : Int32) < 0 ∨ cl16.slots.size ≤ ((2 : Int32)).toNatClampNeg) := inb_of S16 ⟨by decide, by decide⟩
  refine gob (X14.daload hx (j := (2 : Int32)) (v := (.double z_2)) (by rw [e14]; exact Ar16.1) (State.isArrayOf_alike hZ.alike Ar16.2.1) Ar16.2.2 hin16 (Has.at H16 hin16 rfl) (g := (mkF m 31 (la2 o0 o1 (FP.dadd (0 : UInt64) (FP.dmul y_0 z_1)) 1) [(.int 2), (.ref o1), (.double y_1), (.double (FP.dadd (0 : UInt64) (FP.dmul y_0 z_1)))])) rfl rfl (hb hby d6_31)) ?_
  show gO (tF T14 m 32 (la2 o0 o1 (FP.dadd (0 : UInt64) (FP.dmul y_0 z_1)) 1) [(.double z_2), (.double y_1), (.double (FP.dadd (0 : UInt64) (FP.dmul y_0 z_1)))])
  have mg17 : Mag64 1090 (FP.dmul y_1 z_2) := own_dmul m_y_1 m_z_2 (by decide) (by decide) (by decide)
  refine gob (fun _ k => XS.dmulS X14.here hx rfl (hb hby d6_32) rfl (v := (FP.dmul y_1 z_2)) (mg17.fin (by decide)).noNaN rfl k) ?_
  show gO (tF T14 m 33 (la2 o0 o1 (FP.dadd (0 : UInt64) (FP.dmul y_0 z_1)) 1) [(.double (FP.dmul y_1 z_2)), (.double (FP.dadd (0 : UInt64) (FP.dmul y_0 z_1)))])
  have mg18 : Mag64 1094 (FP.dadd (FP.dadd (0 : UInt64) (FP.dmul y_0 z_1)) (FP.dmul y_1 z_2)) := own_dadd (K := 1092) (mg9.mono (by decide)) (mg17.mono (by decide)) (by decide) (by decide)
  refine gob (fun _ k => XS.daddS X14.here hx rfl (hb hby d6_33) rfl (v := (FP.dadd (FP.dadd (0 : UInt64) (FP.dmul y_0 z_1)) (FP.dmul y_1 z_2))) (mg18.fin (by decide)).noNaN rfl k) ?_
  show gO (tF T14 m 34 (la2 o0 o1 (FP.dadd (0 : UInt64) (FP.dmul y_0 z_1)) 1) [(.double (FP.dadd (FP.dadd (0 : UInt64) (FP.dmul y_0 z_1)) (FP.dmul y_1 z_2)))])
  refine gob (fun _ k => XS.dstoreN X14.here hx rfl (hb hby d6_34) rfl (l' := (la2 o0 o1 (FP.dadd (FP.dadd (0 : UInt64) (FP.dmul y_0 z_1)) (FP.dmul y_1 z_2)) 1)) rfl k) ?_
  show gO (tF T14 m 35 (la2 o0 o1 (FP.dadd (FP.dadd (0 : UInt64) (FP.dmul y_0 z_1)) (FP.dmul y_1 z_2)) 1) [])
  refine gob (fun _ k => XS.iinc X14.here hx rfl (hb hby d6_35) rfl (l' := (la2 o0 o1 (FP.dadd (FP.dadd (0 : UInt64) (FP.dmul y_0 z_1)) (FP.dmul y_1 z_2)) 2)) rfl k) ?_
  show gO (tF T14 m 38 (la2 o0 o1 (FP.dadd (FP.dadd (0 : UInt64) (FP.dmul y_0 z_1)) (FP.dmul y_1 z_2)) 2) [])
  refine gob (fun _ k => XS.goto X14.here hx rfl (pc0 := 38) (pc' := 5) rfl (hb hby d6_38) (by decide) (by decide) k) ?_
  show gO (tF T14 m 5 (la2 o0 o1 (FP.dadd (FP.dadd (0 : UInt64) (FP.dmul y_0 z_1)) (FP.dmul y_1 z_2)) 2) [])
  refine gob (fun _ k => XS.iload X14.here hx rfl (hb hby d6_5) rfl k) ?_
  show gO (tF T14 m 7 (la2 o0 o1 (FP.dadd (FP.dadd (0 : UInt64) (FP.dmul y_0 z_1)) (FP.dmul y_1 z_2)) 2) [(.int 2)])
  refine gob (fun _ k => XS.aloadN X14.here hx rfl (hb hby d6_7) rfl rfl k) ?_
  show gO (tF T14 m 8 (la2 o0 o1 (FP.dadd (FP.dadd (0 : UInt64) (FP.dmul y_0 z_1)) (FP.dmul y_1 z_2)) 2) [(.ref o0), (.int 2)])
  obtain ⟨T19, X19, e19, st19⟩ := getF X14 hx hZ hown (host := "") (Or.inl (hW hw 23 rfl)) Via.refl e14 F_dofs (g := (mkF m 8 (la2 o0 o1 (FP.dadd (FP.dadd (0 : UInt64) (FP.dmul y_0 z_1)) (FP.dmul y_1 z_2)) 2) [(.ref o0), (.int 2)])) rfl rfl (hb hby d6_8)
  refine gob st19 ?_
  show gO (tF T19 m 11 (la2 o0 o1 (FP.dadd (FP.dadd (0 : UInt64) (FP.dmul y_0 z_1)) (FP.dmul y_1 z_2)) 2) [(.ref w_d), (.int 2)])
  obtain ⟨cl20, Ar20, aq20, S20, N20, H20, G20⟩ := id V_d
  refine gob (X19.arraylength hx (by rw [e19]; exact Ar20.1) (State.isArrayOf_alike hZ.alike Ar20.2.1) (g := (mkF m 11 (la2 o0 o1 (FP.dadd (FP.dadd (0 : UInt64) (FP.dmul y_0 z_1)) (FP.dmul y_1 z_2)) 2) [(.ref w_d), (.int 2)])) rfl rfl (hb hby d6_11)) ?_
  rw [len_of S20 N20]
  show gO (tF T19 m 12 (la2 o0 o1 (FP.dadd (FP.dadd (0 : UInt64) (FP.dmul y_0 z_1)) (FP.dmul y_1 z_2)) 2) [(.int 3), (.int 2)])
  refine gob (fun _ k => XS.icmpNo X19.here hx rfl (hb hby d6_12) rfl (tlt (by decide : (2 : Int32) < (3 : Int32))).2.1 k) ?_
  show gO (tF T19 m 15 (la2 o0 o1 (FP.dadd (FP.dadd (0 : UInt64) (FP.dmul y_0 z_1)) (FP.dmul y_1 z_2)) 2) [])
  refine gob (fun _ k => XS.dloadN X19.here hx rfl (hb hby d6_15) rfl k) ?_
  show gO (tF T19 m 16 (la2 o0 o1 (FP.dadd (FP.dadd (0 : UInt64) (FP.dmul y_0 z_1)) (FP.dmul y_1 z_2)) 2) [(.double (FP.dadd (FP.dadd (0 : UInt64) (FP.dmul y_0 z_1)) (FP.dmul y_1 z_2)))])
  refine gob (fun _ k => XS.aloadN X19.here hx rfl (hb hby d6_16) rfl rfl k) ?_
  show gO (tF T19 m 17 (la2 o0 o1 (FP.dadd (FP.dadd (0 : UInt64) (FP.dmul y_0 z_1)) (FP.dmul y_1 z_2)) 2) [(.ref o0), (.double (FP.dadd (FP.dadd (0 : UInt64) (FP.dmul y_0 z_1)) (FP.dmul y_1 z_2)))])
  obtain ⟨T21, X21, e21, st21⟩ := getF X19 hx hZ hown (host := "") (Or.inl (hW hw 25 rfl)) Via.refl e19 F_weights (g := (mkF m 17 (la2 o0 o1 (FP.dadd (FP.dadd (0 : UInt64) (FP.dmul y_0 z_1)) (FP.dmul y_1 z_2)) 2) [(.ref o0), (.double (FP.dadd (FP.dadd (0 : UInt64) (FP.dmul y_0 z_1)) (FP.dmul y_1 z_2)))])) rfl rfl (hb hby d6_17)
  refine gob st21 ?_
  show gO (tF T21 m 20 (la2 o0 o1 (FP.dadd (FP.dadd (0 : UInt64) (FP.dmul y_0 z_1)) (FP.dmul y_1 z_2)) 2) [(.ref w_w), (.double (FP.dadd (FP.dadd (0 : UInt64) (FP.dmul y_0 z_1)) (FP.dmul y_1 z_2)))])
  refine gob (fun _ k => XS.iload X21.here hx rfl (hb hby d6_20) rfl k) ?_
  show gO (tF T21 m 22 (la2 o0 o1 (FP.dadd (FP.dadd (0 : UInt64) (FP.dmul y_0 z_1)) (FP.dmul y_1 z_2)) 2) [(.int 2), (.ref w_w), (.double (FP.dadd (FP.dadd (0 : UInt64) (FP.dmul y_0 z_1)) (FP.dmul y_1 z_2)))])
  obtain ⟨cl22, Ar22, aq22, S22, N22, H22, G22⟩ := id V_y
  have hin22 : ¬ ((2 : Int32) < 0 ∨ cl22.slots.size ≤ ((2 : Int32)).toNatClampNeg) := inb_of S22 ⟨by decide, by decide⟩
  refine gob (X21.daload hx (j := (2 : Int32)) (v := (.double y_2)) (by rw [e21]; exact Ar22.1) (State.isArrayOf_alike hZ.alike Ar22.2.1) Ar22.2.2 hin22 (Has.at H22 hin22 rfl) (g := (mkF m 22 (la2 o0 o1 (FP.dadd (FP.dadd (0 : UInt64) (FP.dmul y_0 z_1)) (FP.dmul y_1 z_2)) 2) [(.int 2), (.ref w_w), (.double (FP.dadd (FP.dadd (0 : UInt64) (FP.dmul y_0 z_1)) (FP.dmul y_1 z_2)))])) rfl rfl (hb hby d6_22)) ?_
  show gO (tF T21 m 23 (la2 o0 o1 (FP.dadd (FP.dadd (0 : UInt64) (FP.dmul y_0 z_1)) (FP.dmul y_1 z_2)) 2) [(.double y_2), (.double (FP.dadd (FP.dadd (0 : UInt64) (FP.dmul y_0 z_1)) (FP.dmul y_1 z_2)))])
  refine gob (fun _ k => XS.aloadN X21.here hx rfl (hb hby d6_23) rfl rfl k) ?_
  show gO (tF T21 m 24 (la2 o0 o1 (FP.dadd (FP.dadd (0 : UInt64) (FP.dmul y_0 z_1)) (FP.dmul y_1 z_2)) 2) [(.ref o1), (.double y_2), (.double (FP.dadd (FP.dadd (0 : UInt64) (FP.dmul y_0 z_1)) (FP.dmul y_1 z_2)))])
  refine gob (fun _ k => XS.aloadN X21.here hx rfl (hb hby d6_24) rfl rfl k) ?_
  show gO (tF T21 m 25 (la2 o0 o1 (FP.dadd (FP.dadd (0 : UInt64) (FP.dmul y_0 z_1)) (FP.dmul y_1 z_2)) 2) [(.ref o0), (.ref o1), (.double y_2), (.double (FP.dadd (FP.dadd (0 : UInt64) (FP.dmul y_0 z_1)) (FP.dmul y_1 z_2)))])
  obtain ⟨T23, X23, e23, st23⟩ := getF X21 hx hZ hown (host := "") (Or.inl (hW hw 23 rfl)) Via.refl e21 F_dofs (g := (mkF m 25 (la2 o0 o1 (FP.dadd (FP.dadd (0 : UInt64) (FP.dmul y_0 z_1)) (FP.dmul y_1 z_2)) 2) [(.ref o0), (.ref o1), (.double y_2), (.double (FP.dadd (FP.dadd (0 : UInt64) (FP.dmul y_0 z_1)) (FP.dmul y_1 z_2)))])) rfl rfl (hb hby d6_25)
  refine gob st23 ?_
  show gO (tF T23 m 28 (la2 o0 o1 (FP.dadd (FP.dadd (0 : UInt64) (FP.dmul y_0 z_1)) (FP.dmul y_1 z_2)) 2) [(.ref w_d), (.ref o1), (.double y_2), (.double (FP.dadd (FP.dadd (0 : UInt64) (FP.dmul y_0 z_1)) (FP.dmul y_1 z_2)))])
  refine gob (fun _ k => XS.iload X23.here hx rfl (hb hby d6_28) rfl k) ?_
  show gO (tF T23 m 30 (la2 o0 o1 (FP.dadd (FP.dadd (0 : UInt64) (FP.dmul y_0 z_1)) (FP.dmul y_1 z_2)) 2) [(.int 2), (.ref w_d), (.ref o1), (.double y_2), (.double (FP.dadd (FP.dadd (0 : UInt64) (FP.dmul y_0 z_1)) (FP.dmul y_1 z_2)))])
  obtain ⟨cl24, Ar24, aq24, S24, N24, H24, G24⟩ := id V_d
  have hin24 : ¬ ((2 : Int32) < 0 ∨ cl24.slots.size ≤ ((2 : Int32)).toNatClampNeg) := inb_of S24 ⟨by decide, by decide⟩
  refine gob (X23.iaload hx (j := (2 : Int32)) (v := (.int 3)) (by rw [e23]; exact Ar24.1) (State.isArrayOf_alike hZ.alike Ar24.2.1) Ar24.2.2 hin24 (Has.at H24 hin24 rfl) (g := (mkF m 30 (la2 o0 o1 (FP.dadd (FP.dadd (0 : UInt64) (FP.dmul y_0 z_1)) (FP.dmul y_1 z_2)) 2) [(.int 2), (.ref w_d), (.ref o1), (.double y_2), (.double (FP.dadd (FP.dadd (0 : UInt64) (FP.dmul y_0 z_1)) (FP.dmul y_1 z_2)))])) rfl rfl (hb hby d6_30)) ?_
  show gO (tF T23 m 31 (la2 o0 o1 (FP.dadd (FP.dadd (0 : UInt64) (FP.dmul y_0 z_1)) (FP.dmul y_1 z_2)) 2) [(.int 3), (.ref o1), (.double y_2), (.double (FP.dadd (FP.dadd (0 : UInt64) (FP.dmul y_0 z_1)) (FP.dmul y_1 z_2)))])
  obtain ⟨cl25, Ar25, aq25, S25, N25, H25, G25⟩ := id V_z
  have hin25 : ¬ ((3 : Int32) < 0 ∨ cl25.slots.size ≤ ((3 : Int32)).toNatClampNeg) := inb_of S25 ⟨by decide, by decide⟩
  refine gob (X23.daload hx (j := (3 : Int32)) (v := (.double z_3)) (by rw [e23]; exact Ar25.1) (State.isArrayOf_alike hZ.alike Ar25.2.1) Ar25.2.2 hin25 (Has.at H25 hin25 rfl) (g := (mkF m 31 (la2 o0 o1 (FP.dadd (FP.dadd (0 : UInt64) (FP.dmul y_0 z_1)) (FP.dmul y_1 z_2)) 2) [(.int 3), (.ref o1), (.double y_2), (.double (FP.dadd (FP.dadd (0 : UInt64) (FP.dmul y_0 z_1)) (FP.dmul y_1 z_2)))])) rfl rfl (hb hby d6_31)) ?_
  show gO (tF T23 m 32 (la2 o0 o1 (FP.dadd (FP.dadd (0 : UInt64) (FP.dmul y_0 z_1)) (FP.dmul y_1 z_2)) 2) [(.double z_3), (.double y_2), (.double (FP.dadd (FP.dadd (0 : UInt64) (FP.dmul y_0 z_1)) (FP.dmul y_1 z_2)))])
  have mg26 : Mag64 1090 (FP.dmul y_2 z_3) := own_dmul m_y_2 m_z_3 (by decide) (by decide) (by decide)
  refine gob (fun _ k => XS.dmulS X23.here hx rfl (hb hby d6_32) rfl (v := (FP.dmul y_2 z_3)) (mg26.fin (by decide)).noNaN rfl k) ?_
  show gO (tF T23 m 33 (la2 o0 o1 (FP.dadd (FP.dadd (0 : UInt64) (FP.dmul y_0 z_1)) (FP.dmul y_1 z_2)) 2) [(.double (FP.dmul y_2 z_3)), (.double (FP.dadd (FP.dadd (0 : UInt64) (FP.dmul y_0 z_1)) (FP.dmul y_1 z_2)))])
  have mg27 : Mag64 1096 (FP.dadd (FP.dadd (FP.dadd (0 : UInt64) (FP.dmul y_0 z_1)) (FP.dmul y_1 z_2)) (FP.dmul y_2 z_3)) := own_dadd (K := 1094) (mg18.mono (by decide)) (mg26.mono (by decide)) (by decide) (by decide)
  refine gob (fun _ k => XS.daddS X23.here hx rfl (hb hby d6_33) rfl (v := (FP.dadd (FP.dadd (FP.dadd (0 : UInt64) (FP.dmul y_0 z_1)) (FP.dmul y_1 z_2)) (FP.dmul y_2 z_3))) (mg27.fin (by decide)).noNaN rfl k) ?_
  show gO (tF T23 m 34 (la2 o0 o1 (FP.dadd (FP.dadd (0 : UInt64) (FP.dmul y_0 z_1)) (FP.dmul y_1 z_2)) 2) [(.double (FP.dadd (FP.dadd (FP.dadd (0 : UInt64) (FP.dmul y_0 z_1)) (FP.dmul y_1 z_2)) (FP.dmul y_2 z_3)))])
  refine gob (fun _ k => XS.dstoreN X23.here hx rfl (hb hby d6_34) rfl (l' := (la2 o0 o1 (FP.dadd (FP.dadd (FP.dadd (0 : UInt64) (FP.dmul y_0 z_1)) (FP.dmul y_1 z_2)) (FP.dmul y_2 z_3)) 2)) rfl k) ?_
  show gO (tF T23 m 35 (la2 o0 o1 (FP.dadd (FP.dadd (FP.dadd (0 : UInt64) (FP.dmul y_0 z_1)) (FP.dmul y_1 z_2)) (FP.dmul y_2 z_3)) 2) [])
  refine gob (fun _ k => XS.iinc X23.here hx rfl (hb hby d6_35) rfl (l' := (la2 o0 o1 (FP.dadd (FP.dadd (FP.dadd (0 : UInt64) (FP.dmul y_0 z_1)) (FP.dmul y_1 z_2)) (FP.dmul y_2 z_3)) 3)) rfl k) ?_
  show gO (tF T23 m 38 (la2 o0 o1 (FP.dadd (FP.dadd (FP.dadd (0 : UInt64) (FP.dmul y_0 z_1)) (FP.dmul y_1 z_2)) (FP.dmul y_2 z_3)) 3) [])
  refine gob (fun _ k => XS.goto X23.here hx rfl (pc0 := 38) (pc' := 5) rfl (hb hby d6_38) (by decide) (by decide) k) ?_
  show gO (tF T23 m 5 (la2 o0 o1 (FP.dadd (FP.dadd (FP.dadd (0 : UInt64) (FP.dmul y_0 z_1)) (FP.dmul y_1 z_2)) (FP.dmul y_2 z_3)) 3) [])
  refine gob (fun _ k => XS.iload X23.here hx rfl (hb hby d6_5) rfl k) ?_
  show gO (tF T23 m 7 (la2 o0 o1 (FP.dadd (FP.dadd (FP.dadd (0 : UInt64) (FP.dmul y_0 z_1)) (FP.dmul y_1 z_2)) (FP.dmul y_2 z_3)) 3) [(.int 3)])
  refine gob (fun _ k => XS.aloadN X23.here hx rfl (hb hby d6_7) rfl rfl k) ?_
  show gO (tF T23 m 8 (la2 o0 o1 (FP.dadd (FP.dadd (FP.dadd (0 : UInt64) (FP.dmul y_0 z_1)) (FP.dmul y_1 z_2)) (FP.dmul y_2 z_3)) 3) [(.ref o0), (.int 3)])
  obtain ⟨T28, X28, e28, st28⟩ := getF X23 hx hZ hown (host := "") (Or.inl (hW hw 23 rfl)) Via.refl e23 F_dofs (g := (mkF m 8 (la2 o0 o1 (FP.dadd (FP.dadd (FP.dadd (0 : UInt64) (FP.dmul y_0 z_1)) (FP.dmul y_1 z_2)) (FP.dmul y_2 z_3)) 3) [(.ref o0), (.int 3)])) rfl rfl (hb hby d6_8)
  refine gob st28 ?_
  show gO (tF T28 m 11 (la2 o0 o1 (FP.dadd (FP.dadd (FP.dadd (0 : UInt64) (FP.dmul y_0 z_1)) (FP.dmul y_1 z_2)) (FP.dmul y_2 z_3)) 3) [(.ref w_d), (.int 3)])
  obtain ⟨cl29, Ar29, aq29, S29, N29, H29, G29⟩ := id V_d
  refine gob (X28.arraylength hx (by rw [e28]; exact Ar29.1) (State.isArrayOf_alike hZ.alike Ar29.2.1) (g := (mkF m 11 (la2 o0 o1 (FP.dadd (FP.dadd (FP.dadd (0 : UInt64) (FP.dmul y_0 z_1)) (FP.dmul y_1 z_2)) (FP.dmul y_2 z_3)) 3) [(.ref w_d), (.int 3)])) rfl rfl (hb hby d6_11)) ?_
  rw [len_of S29 N29]
  show gO (tF T28 m 12 (la2 o0 o1 (FP.dadd (FP.dadd (FP.dadd (0 : UInt64) (FP.dmul y_0 z_1)) (FP.dmul y_1 z_2)) (FP.dmul y_2 z_3)) 3) [(.int 3), (.int 3)])
  refine gob (fun _ k => XS.icmpYes X28.here hx rfl (pc0 := 12) (pc' := 41) rfl (hb hby d6_12) rfl (flt (by decide : ¬ ((3 : Int32) < (3 : Int32)))).2.1 (by decide) (by decide) k) ?_
  show gO (tF T28 m 41 (la2 o0 o1 (FP.dadd (FP.dadd (FP.dadd (0 : UInt64) (FP.dmul y_0 z_1)) (FP.dmul y_1 z_2)) (FP.dmul y_2 z_3)) 3) [])
  refine gob (fun _ k => XS.dloadN X28.here hx rfl (hb hby d6_41) rfl k) ?_
  show gO (tF T28 m 42 (la2 o0 o1 (FP.dadd (FP.dadd (FP.dadd (0 : UInt64) (FP.dmul y_0 z_1)) (FP.dmul y_1 z_2)) (FP.dmul y_2 z_3)) 3) [(.double (FP.dadd (FP.dadd (FP.dadd (0 : UInt64) (FP.dmul y_0 z_1)) (FP.dmul y_1 z_2)) (FP.dmul y_2 z_3)))])
  refine goD X28 hx hlk Bd.returns (hb hby d6_42) ?_ (by decide) (by decide)
  show Qof_123 Z o0 o1 w_d w_w k_d k_y y_0 y_1 y_2 k_z z_0 z_1 z_2 z_3 h0 n0 (some (.double (FP.dadd (FP.dadd (FP.dadd (0 : UInt64) (FP.dmul y_0 z_1)) (FP.dmul y_1 z_2)) (FP.dmul y_2 z_3)))) T28.heap _
  exact ⟨(FP.dadd (FP.dadd (FP.dadd (0 : UInt64) (FP.dmul y_0 z_1)) (FP.dmul y_1 z_2)) (FP.dmul y_2 z_3)), rfl, rfl, N0, e28⟩
theorem ef_of_0123 (m : MethodId) (x0 : Addr) (x1 : Addr) : entryFrame m #[(.ref x0), (.ref x1)] 5 = mkF m 0 #[.val (.ref x0), .val (.ref x1), .unset, .unset, .unset] [] := by first | (simp [entryFrame, mkF, argsToLocals, Value.category]; done) | rfl
def Qof_0123 (Z : State) (o0 : Addr) (o1 : Addr) (w_d : Addr) (w_w : Addr) (k_d : ClassId) (k_y : ClassId) (y_0 : UInt64) (y_1 : UInt64) (y_2 : UInt64) (y_3 : UInt64) (k_z : ClassId) (z_0 : UInt64) (z_1 : UInt64) (z_2 : UInt64) (z_3 : UInt64) (h0 : Heap) (n0 : Nat) (v : Option Value) (h : Heap) (L : List Loc) : Prop := ∃ r : UInt64, v = some (.double r) ∧ ((r = (FP.dadd (FP.dadd (FP.dadd (FP.dadd (0 : UInt64) (FP.dmul y_0 z_0)) (FP.dmul y_1 z_1)) (FP.dmul y_2 z_2)) (FP.dmul y_3 z_3)))) ∧ Fr n0 L ∧ h = h0
set_option maxRecDepth 65536 in
set_option maxHeartbeats 40000000 in
theorem rmof_0123 (l : Launch) (Z : State) (a0 : Array Value) (hw : ∀ d ∈ tables_1, d.before a0 Z = true) (ws : List Jvm.Cond) (o0 : Addr) (o1 : Addr) (w_d : Addr) (w_w : Addr) (k_d : ClassId) (k_y : ClassId) (y_0 : UInt64) (y_1 : UInt64) (y_2 : UInt64) (y_3 : UInt64) (k_z : ClassId) (z_0 : UInt64) (z_1 : UInt64) (z_2 : UInt64) (z_3 : UInt64) (h0 : Heap) (n0 : Nat) (Z0 : n0 ≤ h0.size) (F_dofs : Fld Z h0 o0 "com/example/fenda/fenda/analysis/Combination" "dofs" "[I" (.ref w_d)) (F_weights : Fld Z h0 o0 "com/example/fenda/fenda/analysis/Combination" "weights" "[D" (.ref w_w)) (V_d : Arv Z h0 w_d k_d .int (4 : Int32) [(.int 0), (.int 1), (.int 2), (.int 3)] (.int 0)) (m_y_0 : Mag64 1056 y_0) (m_y_1 : Mag64 1056 y_1) (m_y_2 : Mag64 1056 y_2) (m_y_3 : Mag64 1056 y_3) (V_y : Arv Z h0 w_w k_y .double (4 : Int32) [(.double y_0), (.double y_1), (.double y_2), (.double y_3)] (.double 0)) (m_z_0 : Mag64 1056 z_0) (m_z_1 : Mag64 1056 z_1) (m_z_2 : Mag64 1056 z_2) (m_z_3 : Mag64 1056 z_3) (V_z : Arv Z h0 o1 k_z .double (4 : Int32) [(.double z_0), (.double z_1), (.double z_2), (.double z_3)] (.double 0)) :
    MetFree l (⟨"com/example/fenda/fenda/analysis/Combination", "of", "([D)D"⟩ : MethodName) (head1 (Jvm.Cond.code (⟨"com/example/fenda/fenda/analysis/Combination", "of", "([D)D"⟩ : MethodName) prog_3_method_2_code 5 (some .double) :: ws) ({ frames := 0, cells := 0, slots := 0, locals := 0 } : Room)) (fun a U => a = #[(.ref o0), (.ref o1)] ∧ Z.Warmed39 U.vm ∧ U.heap = h0) (fun _ _ _ _ _ => True) (fun _ U o U' => ∃ v L, o = .returned v ∧ Qof_0123 Z o0 o1 w_d w_w k_d k_y y_0 y_1 y_2 y_3 k_z z_0 z_1 z_2 z_3 h0 n0 v U'.heap L ∧ FrameEnd U o U' L ({ frames := 0, cells := 0, slots := 0, locals := 0 } : Room).cells ({ frames := 0, cells := 0, slots := 0, locals := 0 } : Room).slots) := by
  refine MetFree.of_bodySF (plainFor_of_name (by first | (simp [plainName, overriddenIn]; done) | decide +kernel)) hisR ?_
  intro p e s m args below meth c s₁ Bd hml0 hP hK
  obtain ⟨rfl, hZ, hh⟩ := hP
  have hx := Bd.exec
  have hby := Bd.bytes
  have hml : c.maxLocals = 5 := hml0
  have hown : s.vm.findClass "com/example/fenda/fenda/analysis/Combination" = some m.cls := findClass_of_methodNamed Bd.named
  have hnm := (name_of_methodNamed Bd.named Bd.method).1
  have hlk := BodyLoose.notSynchronized Bd
  have X0 : Stand p l e ({ frames := 0, cells := 0, slots := 0, locals := 0 } : Room) s m #[(.ref o0), (.ref o1)] below meth c s₁ [] 0 0 := Stand.of_body Bd
  have e0 : s₁.heap = h0 := by rw [← hh, Bd.state]; rfl
  have N0 := Fr.nil n0
  show Go p e below s (Qof_0123 Z o0 o1 w_d w_w k_d k_y y_0 y_1 y_2 y_3 k_z z_0 z_1 z_2 z_3 h0 n0) 0 0 (s₁.setTop (entryFrame m #[(.ref o0), (.ref o1)] 5))
  rw [ef_of_0123]
  show gO (tF s₁ m 0 (la0 o0 o1) [])
  refine gob (fun _ k => XS.dconst0 X0.here hx rfl (hb hby d6_0) (v := (0 : UInt64)) (by decide +kernel) k) ?_
  show gO (tF s₁ m 1 (la0 o0 o1) [(.double (0 : UInt64))])
  refine gob (fun _ k => XS.dstoreN X0.here hx rfl (hb hby d6_1) rfl (l' := (la1 o0 o1 (0 : UInt64))) rfl k) ?_
  show gO (tF s₁ m 2 (la1 o0 o1 (0 : UInt64)) [])
  refine gob (fun _ k => XS.iconst X0.here hx rfl (hb hby d6_2) k) ?_
  show gO (tF s₁ m 3 (la1 o0 o1 (0 : UInt64)) [(.int 0)])
  refine gob (fun _ k => XS.istore X0.here hx rfl (hb hby d6_3) rfl (l' := (la2 o0 o1 (0 : UInt64) 0)) rfl k) ?_
  show gO (tF s₁ m 5 (la2 o0 o1 (0 : UInt64) 0) [])
  refine gob (fun _ k => XS.iload X0.here hx rfl (hb hby d6_5) rfl k) ?_
  show gO (tF s₁ m 7 (la2 o0 o1 (0 : UInt64) 0) [(.int 0)])
  refine gob (fun _ k => XS.aloadN X0.here hx rfl (hb hby d6_7) rfl rfl k) ?_
  show gO (tF s₁ m 8 (la2 o0 o1 (0 : UInt64) 0) [(.ref o0), (.int 0)])
  obtain ⟨T1, X1, e1, st1⟩ := getF X0 hx hZ hown (host := "") (Or.inl (hW hw 23 rfl)) Via.refl e0 F_dofs (g := (mkF m 8 (la2 o0 o1 (0 : UInt64) 0) [(.ref o0), (.int 0)])) rfl rfl (hb hby d6_8)
  refine gob st1 ?_
  show gO (tF T1 m 11 (la2 o0 o1 (0 : UInt64) 0) [(.ref w_d), (.int 0)])
  obtain ⟨cl2, Ar2, aq2, S2, N2, H2, G2⟩ := id V_d
  refine gob (X1.arraylength hx (by rw [e1]; exact Ar2.1) (State.isArrayOf_alike hZ.alike Ar2.2.1) (g := (mkF m 11 (la2 o0 o1 (0 : UInt64) 0) [(.ref w_d), (.int 0)])) rfl rfl (hb hby d6_11)) ?_
  rw [len_of S2 N2]
  show gO (tF T1 m 12 (la2 o0 o1 (0 : UInt64) 0) [(.int 4), (.int 0)])
  refine gob (fun _ k => XS.icmpNo X1.here hx rfl (hb hby d6_12) rfl (tlt (by decide : (0 : Int32) < (4 : Int32))).2.1 k) ?_
  show gO (tF T1 m 15 (la2 o0 o1 (0 : UInt64) 0) [])
  refine gob (fun _ k => XS.dloadN X1.here hx rfl (hb hby d6_15) rfl k) ?_
  show gO (tF T1 m 16 (la2 o0 o1 (0 : UInt64) 0) [(.double (0 : UInt64))])
  refine gob (fun _ k => XS.aloadN X1.here hx rfl (hb hby d6_16) rfl rfl k) ?_
  show gO (tF T1 m 17 (la2 o0 o1 (0 : UInt64) 0) [(.ref o0), (.double (0 : UInt64))])
  obtain ⟨T3, X3, e3, st3⟩ := getF X1 hx hZ hown (host := "") (Or.inl (hW hw 25 rfl)) Via.refl e1 F_weights (g := (mkF m 17 (la2 o0 o1 (0 : UInt64) 0) [(.ref o0), (.double (0 : UInt64))])) rfl rfl (hb hby d6_17)
  refine gob st3 ?_
  show gO (tF T3 m 20 (la2 o0 o1 (0 : UInt64) 0) [(.ref w_w), (.double (0 : UInt64))])
  refine gob (fun _ k => XS.iload X3.here hx rfl (hb hby d6_20) rfl k) ?_
  show gO (tF T3 m 22 (la2 o0 o1 (0 : UInt64) 0) [(.int 0), (.ref w_w), (.double (0 : UInt64))])
  obtain ⟨cl4, Ar4, aq4, S4, N4, H4, G4⟩ := id V_y
  have hin4 : ¬ ((0 : Int32) < 0 ∨ cl4.slots.size ≤ ((0 : Int32)).toNatClampNeg) := inb_of S4 ⟨by decide, by decide⟩
  refine gob (X3.daload hx (j := (0 : Int32)) (v := (.double y_0)) (by rw [e3]; exact Ar4.1) (State.isArrayOf_alike hZ.alike Ar4.2.1) Ar4.2.2 hin4 (Has.at H4 hin4 rfl) (g := (mkF m 22 (la2 o0 o1 (0 : UInt64) 0) [(.int 0), (.ref w_w), (.double (0 : UInt64))])) rfl rfl (hb hby d6_22)) ?_
  show gO (tF T3 m 23 (la2 o0 o1 (0 : UInt64) 0) [(.double y_0), (.double (0 : UInt64))])
  refine gob (fun _ k => XS.aloadN X3.here hx rfl (hb hby d6_23) rfl rfl k) ?_
  show gO (tF T3 m 24 (la2 o0 o1 (0 : UInt64) 0) [(.ref o1), (.double y_0), (.double (0 : UInt64))])
  refine gob (fun _ k => XS.aloadN X3.here hx rfl (hb hby d6_24) rfl rfl k) ?_
  show gO (tF T3 m 25 (la2 o0 o1 (0 : UInt64) 0) [(.ref o0), (.ref o1), (.double y_0), (.double (0 : UInt64))])
  obtain ⟨T5, X5, e5, st5⟩ := getF X3 hx hZ hown (host := "") (Or.inl (hW hw 23 rfl)) Via.refl e3 F_dofs (g := (mkF m 25 (la2 o0 o1 (0 : UInt64) 0) [(.ref o0), (.ref o1), (.double y_0), (.double (0 : UInt64))])) rfl rfl (hb hby d6_25)
  refine gob st5 ?_
  show gO (tF T5 m 28 (la2 o0 o1 (0 : UInt64) 0) [(.ref w_d), (.ref o1), (.double y_0), (.double (0 : UInt64))])
  refine gob (fun _ k => XS.iload X5.here hx rfl (hb hby d6_28) rfl k) ?_
  show gO (tF T5 m 30 (la2 o0 o1 (0 : UInt64) 0) [(.int 0), (.ref w_d), (.ref o1), (.double y_0), (.double (0 : UInt64))])
  obtain ⟨cl6, Ar6, aq6, S6, N6, H6, G6⟩ := id V_d
  have hin6 : ¬ ((0 : Int32) < 0 ∨ cl6.slots.size ≤ ((0 : Int32)).toNatClampNeg) := inb_of S6 ⟨by decide, by decide⟩
  refine gob (X5.iaload hx (j := (0 : Int32)) (v := (.int 0)) (by rw [e5]; exact Ar6.1) (State.isArrayOf_alike hZ.alike Ar6.2.1) Ar6.2.2 hin6 (Has.at H6 hin6 rfl) (g := (mkF m 30 (la2 o0 o1 (0 : UInt64) 0) [(.int 0), (.ref w_d), (.ref o1), (.double y_0), (.double (0 : UInt64))])) rfl rfl (hb hby d6_30)) ?_
  show gO (tF T5 m 31 (la2 o0 o1 (0 : UInt64) 0) [(.int 0), (.ref o1), (.double y_0), (.double (0 : UInt64))])
  obtain ⟨cl7, Ar7, aq7, S7, N7, H7, G7⟩ := id V_z
  have hin7 : ¬ ((0 : Int32) < 0 ∨ cl7.slots.size ≤ ((0 : Int32)).toNatClampNeg) := inb_of S7 ⟨by decide, by decide⟩
  refine gob (X5.daload hx (j := (0 : Int32)) (v := (.double z_0)) (by rw [e5]; exact Ar7.1) (State.isArrayOf_alike hZ.alike Ar7.2.1) Ar7.2.2 hin7 (Has.at H7 hin7 rfl) (g := (mkF m 31 (la2 o0 o1 (0 : UInt64) 0) [(.int 0), (.ref o1), (.double y_0), (.double (0 : UInt64))])) rfl rfl (hb hby d6_31)) ?_
  show gO (tF T5 m 32 (la2 o0 o1 (0 : UInt64) 0) [(.double z_0), (.double y_0), (.double (0 : UInt64))])
  have mg8 : Mag64 1090 (FP.dmul y_0 z_0) := own_dmul m_y_0 m_z_0 (by decide) (by decide) (by decide)
  refine gob (fun _ k => XS.dmulS X5.here hx rfl (hb hby d6_32) rfl (v := (FP.dmul y_0 z_0)) (mg8.fin (by decide)).noNaN rfl k) ?_
  show gO (tF T5 m 33 (la2 o0 o1 (0 : UInt64) 0) [(.double (FP.dmul y_0 z_0)), (.double (0 : UInt64))])
  have mg9 : Mag64 1092 (FP.dadd (0 : UInt64) (FP.dmul y_0 z_0)) := own_dadd (K := 1090) (own_m0.mono (by decide)) (mg8.mono (by decide)) (by decide) (by decide)
  refine gob (fun _ k => XS.daddS X5.here hx rfl (hb hby d6_33) rfl (v := (FP.dadd (0 : UInt64) (FP.dmul y_0 z_0))) (mg9.fin (by decide)).noNaN rfl k) ?_
  show gO (tF T5 m 34 (la2 o0 o1 (0 : UInt64) 0) [(.double (FP.dadd (0 : UInt64) (FP.dmul y_0 z_0)))])
  refine gob (fun _ k => XS.dstoreN X5.here hx rfl (hb hby d6_34) rfl (l' := (la2 o0 o1 (FP.dadd (0 : UInt64) (FP.dmul y_0 z_0)) 0)) rfl k) ?_
  show gO (tF T5 m 35 (la2 o0 o1 (FP.dadd (0 : UInt64) (FP.dmul y_0 z_0)) 0) [])
  refine gob (fun _ k => XS.iinc X5.here hx rfl (hb hby d6_35) rfl (l' := (la2 o0 o1 (FP.dadd (0 : UInt64) (FP.dmul y_0 z_0)) 1)) rfl k) ?_
  show gO (tF T5 m 38 (la2 o0 o1 (FP.dadd (0 : UInt64) (FP.dmul y_0 z_0)) 1) [])
  refine gob (fun _ k => XS.goto X5.here hx rfl (pc0 := 38) (pc' := 5) rfl (hb hby d6_38) (by decide) (by decide) k) ?_
  show gO (tF T5 m 5 (la2 o0 o1 (FP.dadd (0 : UInt64) (FP.dmul y_0 z_0)) 1) [])
  refine gob (fun _ k => XS.iload X5.here hx rfl (hb hby d6_5) rfl k) ?_
  show gO (tF T5 m 7 (la2 o0 o1 (FP.dadd (0 : UInt64) (FP.dmul y_0 z_0)) 1) [(.int 1)])
  refine gob (fun _ k => XS.aloadN X5.here hx rfl (hb hby d6_7) rfl rfl k) ?_
  show gO (tF T5 m 8 (la2 o0 o1 (FP.dadd (0 : UInt64) (FP.dmul y_0 z_0)) 1) [(.ref o0), (.int 1)])
  obtain ⟨T10, X10, e10, st10⟩ := getF X5 hx hZ hown (host := "") (Or.inl (hW hw 23 rfl)) Via.refl e5 F_dofs (g := (mkF m 8 (la2 o0 o1 (FP.dadd (0 : UInt64) (FP.dmul y_0 z_0)) 1) [(.ref o0), (.int 1)])) rfl rfl (hb hby d6_8)
  refine gob st10 ?_
  show gO (tF T10 m 11 (la2 o0 o1 (FP.dadd (0 : UInt64) (FP.dmul y_0 z_0)) 1) [(.ref w_d), (.int 1)])
  obtain ⟨cl11, Ar11, aq11, S11, N11, H11, G11⟩ := id V_d
  refine gob (X10.arraylength hx (by rw [e10]; exact Ar11.1) (State.isArrayOf_alike hZ.alike Ar11.2.1) (g := (mkF m 11 (la2 o0 o1 (FP.dadd (0 : UInt64) (FP.dmul y_0 z_0)) 1) [(.ref w_d), (.int 1)])) rfl rfl (hb hby d6_11)) ?_
  rw [len_of S11 N11]
  show gO (tF T10 m 12 (la2 o0 o1 (FP.dadd (0 : UInt64) (FP.dmul y_0 z_0)) 1) [(.int 4), (.int 1)])
  refine gob (fun _ k => XS.icmpNo X10.here hx rfl (hb hby d6_12) rfl (tlt (by decide : (1 : Int32) < (4 : Int32))).2.1 k) ?_
  show gO (tF T10 m 15 (la2 o0 o1 (FP.dadd (0 : UInt64) (FP.dmul y_0 z_0)) 1) [])
  refine gob (fun _ k => XS.dloadN X10.here hx rfl (hb hby d6_15) rfl k) ?_
  show gO (tF T10 m 16 (la2 o0 o1 (FP.dadd (0 : UInt64) (FP.dmul y_0 z_0)) 1) [(.double (FP.dadd (0 : UInt64) (FP.dmul y_0 z_0)))])
  refine gob (fun _ k => XS.aloadN X10.here hx rfl (hb hby d6_16) rfl rfl k) ?_
  show gO (tF T10 m 17 (la2 o0 o1 (FP.dadd (0 : UInt64) (FP.dmul y_0 z_0)) 1) [(.ref o0), (.double (FP.dadd (0 : UInt64) (FP.dmul y_0 z_0)))])
  obtain ⟨T12, X12, e12, st12⟩ := getF X10 hx hZ hown (host := "") (Or.inl (hW hw 25 rfl)) Via.refl e10 F_weights (g := (mkF m 17 (la2 o0 o1 (FP.dadd (0 : UInt64) (FP.dmul y_0 z_0)) 1) [(.ref o0), (.double (FP.dadd (0 : UInt64) (FP.dmul y_0 z_0)))])) rfl rfl (hb hby d6_17)
  refine gob st12 ?_
  show gO (tF T12 m 20 (la2 o0 o1 (FP.dadd (0 : UInt64) (FP.dmul y_0 z_0)) 1) [(.ref w_w), (.double (FP.dadd (0 : UInt64) (FP.dmul y_0 z_0)))])
  refine gob (fun _ k => XS.iload X12.here hx rfl (hb hby d6_20) rfl k) ?_
  show gO (tF T12 m 22 (la2 o0 o1 (FP.dadd (0 : UInt64) (FP.dmul y_0 z_0)) 1) [(.int 1), (.ref w_w), (.double (FP.dadd (0 : UInt64) (FP.dmul y_0 z_0)))])
  obtain ⟨cl13, Ar13, aq13, S13, N13, H13, G13⟩ := id V_y
  have hin13 : ¬ ((1 : Int32) < 0 ∨ cl13.slots.size ≤ ((1 : Int32)).toNatClampNeg) := inb_of S13 ⟨by decide, by decide⟩
  refine gob (X12.daload hx (j := (1 : Int32)) (v := (.double y_1)) (by rw [e12]; exact Ar13.1) (State.isArrayOf_alike hZ.alike Ar13.2.1) Ar13.2.2 hin13 (Has.at H13 hin13 rfl) (g := (mkF m 22 (la2 o0 o1 (FP.dadd (0 : UInt64) (FP.dmul y_0 z_0)) 1) [(.int 1), (.ref w_w), (.double (FP.dadd (0 : UInt64) (FP.dmul y_0 z_0)))])) rfl rfl (hb hby d6_22)) ?_
  show gO (tF T12 m 23 (la2 o0 o1 (FP.dadd (0 : UInt64) (FP.dmul y_0 z_0)) 1) [(.double y_1), (.double (FP.dadd (0 : UInt64) (FP.dmul y_0 z_0)))])
  refine gob (fun _ k => XS.aloadN X12.here hx rfl (hb hby d6_23) rfl rfl k) ?_
  show gO (tF T12 m 24 (la2 o0 o1 (FP.dadd (0 : UInt64) (FP.dmul y_0 z_0)) 1) [(.ref o1), (.double y_1), (.double (FP.dadd (0 : UInt64) (FP.dmul y_0 z_0)))])
  refine gob (fun _ k => XS.aloadN X12.here hx rfl (hb hby d6_24) rfl rfl k) ?_
  show gO (tF T12 m 25 (la2 o0 o1 (FP.dadd (0 : UInt64) (FP.dmul y_0 z_0)) 1) [(.ref o0), (.ref o1), (.double y_1), (.double (FP.dadd (0 : UInt64) (FP.dmul y_0 z_0)))])
  obtain ⟨T14, X14, e14, st14⟩ := getF X12 hx hZ hown (host := "") (Or.inl (hW hw 23 rfl)) Via.refl e12 F_dofs (g := (mkF m 25 (la2 o0 o1 (FP.dadd (0 : UInt64) (FP.dmul y_0 z_0)) 1) [(.ref o0), (.ref o1), (.double y_1), (.double (FP.dadd (0 : UInt64) (FP.dmul y_0 z_0)))])) rfl rfl (hb hby d6_25)
  refine gob st14 ?_
  show gO (tF T14 m 28 (la2 o0 o1 (FP.dadd (0 : UInt64) (FP.dmul y_0 z_0)) 1) [(.ref w_d), (.ref o1), (.double y_1), (.double (FP.dadd (0 : UInt64) (FP.dmul y_0 z_0)))])
  refine gob (fun _ k => XS.iload X14.here hx rfl (hb hby d6_28) rfl k) ?_
  show gO (tF T14 m 30 (la2 o0 o1 (FP.dadd (0 : UInt64) (FP.dmul y_0 z_0)) 1) [(.int 1), (.ref w_d), (.ref o1), (.double y_1), (.double (FP.dadd (0 : UInt64) (FP.dmul y_0 z_0)))])
  obtain ⟨cl15, Ar15, aq15, S15, N15, H15, G15⟩ := id V_d
  have hin15 : ¬ ((1 : Int32) < 0 ∨ cl15.slots.size ≤ ((1 : Int32)).toNatClampNeg) := inb_of S15 ⟨by decide, by decide⟩
  refine gob (X14.iaload hx (j := (1 : Int32)) (v := (.int 1)) (by rw [e14]; exact Ar15.1) (State.isArrayOf_alike hZ.alike Ar15.2.1) Ar15.2.2 hin15 (Has.at H15 hin15 rfl) (g := (mkF m 30 (la2 o0 o1 (FP.dadd (0 : UInt64) (FP.dmul y_0 z_0)) 1) [(.int 1), (.ref w_d), (.ref o1), (.double y_1), (.double (FP.dadd (0 : UInt64) (FP.dmul y_0 z_0)))])) rfl rfl (hb hby d6_30)) ?_
  show gO (tF T14 m 31 (la2 o0 o1 (FP.dadd (0 : UInt64) (FP.dmul y_0 z_0)) 1) [(.int 1), (.ref o1), (.double y_1), (.double (FP.dadd (0 : UInt64) (FP.dmul y_0 z_0)))])
  obtain ⟨cl16, Ar16, aq16, S16, N16, H16, G16⟩ := id V_z
  have hin16 : ¬ ((1 : Int32) < 0 ∨ cl16.slots.size ≤ ((1 : Int32)).toNatClampNeg) := inb_of S16 ⟨by decide, by decide⟩
  refine gob (X14.daload hx (j := (1 : Int32)) (v := (.double z_1)) (by rw [e14]; exact Ar16.1) (State.isArrayOf_alike hZ.alike Ar16.2.1) Ar16.2.2 hin16 (Has.at H16 hin16 rfl) (g := (mkF m 31 (la2 o0 o1 (FP.dadd (0 : UInt64) (FP.dmul y_0 z_0)) 1) [(.int 1), (.ref o1), (.double y_1), (.double (FP.dadd (0 : UInt64) (FP.dmul y_0 z_0)))])) rfl rfl (hb hby d6_31)) ?_
  show gO (tF T14 m 32 (la2 o0 o1 (FP.dadd (0 : UInt64) (FP.dmul y_0 z_0)) 1) [(.double z_1), (.double y_1), (.double (FP.dadd (0 : UInt64) (FP.dmul y_0 z_0)))])
  have mg17 : Mag64 1090 (FP.dmul y_1 z_1) := own_dmul m_y_1 m_z_1 (by decide) (by decide) (by decide)
  refine gob (fun _ k => XS.dmulS X14.here hx rfl (hb hby d6_32) rfl (v := (FP.dmul y_1 z_1)) (mg17.fin (by decide)).noNaN rfl k) ?_
  show gO (tF T14 m 33 (la2 o0 o1 (FP.dadd (0 : UInt64) (FP.dmul y_0 z_0)) 1) [(.double (FP.dmul y_1 z_1)), (.double (FP.dadd (0 : UInt64) (FP.dmul y_0 z_0)))])
  have mg18 : Mag64 1094 (FP.dadd (FP.dadd (0 : UInt64) (FP.dmul y_0 z_0)) (FP.dmul y_1 z_1)) := own_dadd (K := 1092) (mg9.mono (by decide)) (mg17.mono (by decide)) (by decide) (by decide)
  refine gob (fun _ k => XS.daddS X14.here hx rfl (hb hby d6_33) rfl (v := (FP.dadd (FP.dadd (0 : UInt64) (FP.dmul y_0 z_0)) (FP.dmul y_1 z_1))) (mg18.fin (by decide)).noNaN rfl k) ?_
  show gO (tF T14 m 34 (la2 o0 o1 (FP.dadd (0 : UInt64) (FP.dmul y_0 z_0)) 1) [(.double (FP.dadd (FP.dadd (0 : UInt64) (FP.dmul y_0 z_0)) (FP.dmul y_1 z_1)))])
  refine gob (fun _ k => XS.dstoreN X14.here hx rfl (hb hby d6_34) rfl (l' := (la2 o0 o1 (FP.dadd (FP.dadd (0 : UInt64) (FP.dmul y_0 z_0)) (FP.dmul y_1 z_1)) 1)) rfl k) ?_
  show gO (tF T14 m 35 (la2 o0 o1 (FP.dadd (FP.dadd (0 : UInt64) (FP.dmul y_0 z_0)) (FP.dmul y_1 z_1)) 1) [])
  refine gob (fun _ k => XS.iinc X14.here hx rfl (hb hby d6_35) rfl (l' := (la2 o0 o1 (FP.dadd (FP.dadd (0 : UInt64) (FP.dmul y_0 z_0)) (FP.dmul y_1 z_1)) 2)) rfl k) ?_
  show gO (tF T14 m 38 (la2 o0 o1 (FP.dadd (FP.dadd (0 : UInt64) (FP.dmul y_0 z_0)) (FP.dmul y_1 z_1)) 2) [])
  refine gob (fun _ k => XS.goto X14.here hx rfl (pc0 := 38) (pc' := 5) rfl (hb hby d6_38) (by decide) (by decide) k) ?_
  show gO (tF T14 m 5 (la2 o0 o1 (FP.dadd (FP.dadd (0 : UInt64) (FP.dmul y_0 z_0)) (FP.dmul y_1 z_1)) 2) [])
  refine gob (fun _ k => XS.iload X14.here hx rfl (hb hby d6_5) rfl k) ?_
  show gO (tF T14 m 7 (la2 o0 o1 (FP.dadd (FP.dadd (0 : UInt64) (FP.dmul y_0 z_0)) (FP.dmul y_1 z_1)) 2) [(.int 2)])
  refine gob (fun _ k => XS.aloadN X14.here hx rfl (hb hby d6_7) rfl rfl k) ?_
  show gO (tF T14 m 8 (la2 o0 o1 (FP.dadd (FP.dadd (0 : UInt64) (FP.dmul y_0 z_0)) (FP.dmul y_1 z_1)) 2) [(.ref o0), (.int 2)])
  obtain ⟨T19, X19, e19, st19⟩ := getF X14 hx hZ hown (host := "") (Or.inl (hW hw 23 rfl)) Via.refl e14 F_dofs (g := (mkF m 8 (la2 o0 o1 (FP.dadd (FP.dadd (0 : UInt64) (FP.dmul y_0 z_0)) (FP.dmul y_1 z_1)) 2) [(.ref o0), (.int 2)])) rfl rfl (hb hby d6_8)
  refine gob st19 ?_
  show gO (tF T19 m 11 (la2 o0 o1 (FP.dadd (FP.dadd (0 : UInt64) (FP.dmul y_0 z_0)) (FP.dmul y_1 z_1)) 2) [(.ref w_d), (.int 2)])
  obtain ⟨cl20, Ar20, aq20, S20, N20, H20, G20⟩ := id V_d
  refine gob (X19.arraylength hx (by rw [e19]; exact Ar20.1) (State.isArrayOf_alike hZ.alike Ar20.2.1) (g := (mkF m 11 (la2 o0 o1 (FP.dadd (FP.dadd (0 : UInt64) (FP.dmul y_0 z_0)) (FP.dmul y_1 z_1)) 2) [(.ref w_d), (.int 2)])) rfl rfl (hb hby d6_11)) ?_
  rw [len_of S20 N20]
  show gO (tF T19 m 12 (la2 o0 o1 (FP.dadd (FP.dadd (0 : UInt64) (FP.dmul y_0 z_0)) (FP.dmul y_1 z_1)) 2) [(.int 4), (.int 2)])
  refine gob (fun _ k => XS.icmpNo X19.here hx rfl (hb hby d6_12) rfl (tlt (by decide : (2 : Int32) < (4 : Int32))).2.1 k) ?_
  show gO (tF T19 m 15 (la2 o0 o1 (FP.dadd (FP.dadd (0 : UInt64) (FP.dmul y_0 z_0)) (FP.dmul y_1 z_1)) 2) [])
  refine gob (fun _ k => XS.dloadN X19.here hx rfl (hb hby d6_15) rfl k) ?_
  show gO (tF T19 m 16 (la2 o0 o1 (FP.dadd (FP.dadd (0 : UInt64) (FP.dmul y_0 z_0)) (FP.dmul y_1 z_1)) 2) [(.double (FP.dadd (FP.dadd (0 : UInt64) (FP.dmul y_0 z_0)) (FP.dmul y_1 z_1)))])
  refine gob (fun _ k => XS.aloadN X19.here hx rfl (hb hby d6_16) rfl rfl k) ?_
  show gO (tF T19 m 17 (la2 o0 o1 (FP.dadd (FP.dadd (0 : UInt64) (FP.dmul y_0 z_0)) (FP.dmul y_1 z_1)) 2) [(.ref o0), (.double (FP.dadd (FP.dadd (0 : UInt64) (FP.dmul y_0 z_0)) (FP.dmul y_1 z_1)))])
  obtain ⟨T21, X21, e21, st21⟩ := getF X19 hx hZ hown (host := "") (Or.inl (hW hw 25 rfl)) Via.refl e19 F_weights (g := (mkF m 17 (la2 o0 o1 (FP.dadd (FP.dadd (0 : UInt64) (FP.dmul y_0 z_0)) (FP.dmul y_1 z_1)) 2) [(.ref o0), (.double (FP.dadd (FP.dadd (0 : UInt64) (FP.dmul y_0 z_0)) (FP.dmul y_1 z_1)))])) rfl rfl (hb hby d6_17)
  refine gob st21 ?_
  show gO (tF T21 m 20 (la2 o0 o1 (FP.dadd (FP.dadd (0 : UInt64) (FP.dmul y_0 z_0)) (FP.dmul y_1 z_1)) 2) [(.ref w_w), (.double (FP.dadd (FP.dadd (0 : UInt64) (FP.dmul y_0 z_0)) (FP.dmul y_1 z_1)))])
  refine gob (fun _ k => XS.iload X21.here hx rfl (hb hby d6_20) rfl k) ?_
  show gO (tF T21 m 22 (la2 o0 o1 (FP.dadd (FP.dadd (0 : UInt64) (FP.dmul y_0 z_0)) (FP.dmul y_1 z_1)) 2) [(.int 2), (.ref w_w), (.double (FP.dadd (FP.dadd (0 : UInt64) (FP.dmul y_0 z_0)) (FP.dmul y_1 z_1)))])
  obtain ⟨cl22, Ar22, aq22, S22, N22, H22, G22⟩ := id V_y
  have hin22 : ¬ ((2 : Int32) < 0 ∨ cl22.slots.size ≤ ((2 : Int32)).toNatClampNeg) := inb_of S22 ⟨by decide, by decide⟩
  refine gob (X21.daload hx (j := (2 : Int32)) (v := (.double y_2)) (by rw [e21]; exact Ar22.1) (State.isArrayOf_alike hZ.alike Ar22.2.1) Ar22.2.2 hin22 (Has.at H22 hin22 rfl) (g := (mkF m 22 (la2 o0 o1 (FP.dadd (FP.dadd (0 : UInt64) (FP.dmul y_0 z_0)) (FP.dmul y_1 z_1)) 2) [(.int 2), (.ref w_w), (.double (FP.dadd (FP.dadd (0 : UInt64) (FP.dmul y_0 z_0)) (FP.dmul y_1 z_1)))])) rfl rfl (hb hby d6_22)) ?_
  show gO (tF T21 m 23 (la2 o0 o1 (FP.dadd (FP.dadd (0 : UInt64) (FP.dmul y_0 z_0)) (FP.dmul y_1 z_1)) 2) [(.double y_2), (.double (FP.dadd (FP.dadd (0 : UInt64) (FP.dmul y_0 z_0)) (FP.dmul y_1 z_1)))])
  refine gob (fun _ k => XS.aloadN X21.here hx rfl (hb hby d6_23) rfl rfl k) ?_
  show gO (tF T21 m 24 (la2 o0 o1 (FP.dadd (FP.dadd (0 : UInt64) (FP.dmul y_0 z_0)) (FP.dmul y_1 z_1)) 2) [(.ref o1), (.double y_2), (.double (FP.dadd (FP.dadd (0 : UInt64) (FP.dmul y_0 z_0)) (FP.dmul y_1 z_1)))])
  refine gob (fun _ k => XS.aloadN X21.here hx rfl (hb hby d6_24) rfl rfl k) ?_
  show gO (tF T21 m 25 (la2 o0 o1 (FP.dadd (FP.dadd (0 : UInt64) (FP.dmul y_0 z_0)) (FP.dmul y_1 z_1)) 2) [(.ref o0), (.ref o1), (.double y_2), (.double (FP.dadd (FP.dadd (0 : UInt64) (FP.dmul y_0 z_0)) (FP.dmul y_1 z_1)))])
  obtain ⟨T23, X23, e23, st23⟩ := getF X21 hx hZ hown (host := "") (Or.inl (hW hw 23 rfl)) Via.refl e21 F_dofs (g := (mkF m 25 (la2 o0 o1 (FP.dadd (FP.dadd (0 : UInt64) (FP.dmul y_0 z_0)) (FP.dmul y_1 z_1)) 2) [(.ref o0), (.ref o1), (.double y_2), (.double (FP.dadd (FP.dadd (0 : UInt64) (FP.dmul y_0 z_0)) (FP.dmul y_1 z_1)))])) rfl rfl (hb hby d6_25)
  refine gob st23 ?_
  show gO (tF T23 m 28 (la2 o0 o1 (FP.dadd (FP.dadd (0 : UInt64) (FP.dmul y_0 z_0)) (FP.dmul y_1 z_1)) 2) [(.ref w_d), (.ref o1), (.double y_2), (.double (FP.dadd (FP.dadd (0 : UInt64) (FP.dmul y_0 z_0)) (FP.dmul y_1 z_1)))])
  refine gob (fun _ k => XS.iload X23.here hx rfl (hb hby d6_28) rfl k) ?_
  show gO (tF T23 m 30 (la2 o0 o1 (FP.dadd (FP.dadd (0 : UInt64) (FP.dmul y_0 z_0)) (FP.dmul y_1 z_1)) 2) [(.int 2), (.ref w_d), (.ref o1), (.double y_2), (.double (FP.dadd (FP.dadd (0 : UInt64) (FP.dmul y_0 z_0)) (FP.dmul y_1 z_1)))])
  obtain ⟨cl24, Ar24, aq24, S24, N24, H24, G24⟩ := id V_d
  have hin24 : ¬ ((2 : Int32) < 0 ∨ cl24.slots.size ≤ ((2 : Int32)).toNatClampNeg) := inb_of S24 ⟨by decide, by decide⟩
  refine gob (X23.iaload hx (j := (2 : Int32)) (v := (.int 2)) (by rw [e23]; exact Ar24.1) (State.isArrayOf_alike hZ.alike Ar24.2.1) Ar24.2.2 hin24 (Has.at H24 hin24 rfl) (g := (mkF m 30 (la2 o0 o1 (FP.dadd (FP.dadd (0 : UInt64) (FP.dmul y_0 z_0)) (FP.dmul y_1 z_1)) 2) [(.int 2), (.ref w_d), (.ref o1), (.double y_2), (.double (FP.dadd (FP.dadd (0 : UInt64) (FP.dmul y_0 z_0)) (FP.dmul y_1 z_1)))])) rfl rfl (hb hby d6_30)) ?_
  show gO (tF T23 m 31 (la2 o0 o1 (FP.dadd (FP.dadd (0 : UInt64) (FP.dmul y_0 z_0)) (FP.dmul y_1 z_1)) 2) [(.int 2), (.ref o1), (.double y_2), (.double (FP.dadd (FP.dadd (0 : UInt64) (FP.dmul y_0 z_0)) (FP.dmul y_1 z_1)))])
  obtain ⟨cl25, Ar25, aq25, S25, N25, H25, G25⟩ := id V_z
  have hin25 : ¬ ((2 : Int32) < 0 ∨ cl25.slots.size ≤ ((2 : Int32)).toNatClampNeg) := inb_of S25 ⟨by decide, by decide⟩
  refine gob (X23.daload hx (j := (2 : Int32)) (v := (.double z_2)) (by rw [e23]; exact Ar25.1) (State.isArrayOf_alike hZ.alike Ar25.2.1) Ar25.2.2 hin25 (Has.at H25 hin25 rfl) (g := (mkF m 31 (la2 o0 o1 (FP.dadd (FP.dadd (0 : UInt64) (FP.dmul y_0 z_0)) (FP.dmul y_1 z_1)) 2) [(.int 2), (.ref o1), (.double y_2), (.double (FP.dadd (FP.dadd (0 : UInt64) (FP.dmul y_0 z_0)) (FP.dmul y_1 z_1)))])) rfl rfl (hb hby d6_31)) ?_
  show gO (tF T23 m 32 (la2 o0 o1 (FP.dadd (FP.dadd (0 : UInt64) (FP.dmul y_0 z_0)) (FP.dmul y_1 z_1)) 2) [(.double z_2), (.double y_2), (.double (FP.dadd (FP.dadd (0 : UInt64) (FP.dmul y_0 z_0)) (FP.dmul y_1 z_1)))])
  have mg26 : Mag64 1090 (FP.dmul y_2 z_2) := own_dmul m_y_2 m_z_2 (by decide) (by decide) (by decide)
  refine gob (fun _ k => XS.dmulS X23.here hx rfl (hb hby d6_32) rfl (v := (FP.dmul y_2 z_2)) (mg26.fin (by decide)).noNaN rfl k) ?_
  show gO (tF T23 m 33 (la2 o0 o1 (FP.dadd (FP.dadd (0 : UInt64) (FP.dmul y_0 z_0)) (FP.dmul y_1 z_1)) 2) [(.double (FP.dmul y_2 z_2)), (.double (FP.dadd (FP.dadd (0 : UInt64) (FP.dmul y_0 z_0)) (FP.dmul y_1 z_1)))])
  have mg27 : Mag64 1096 (FP.dadd (FP.dadd (FP.dadd (0 : UInt64) (FP.dmul y_0 z_0)) (FP.dmul y_1 z_1)) (FP.dmul y_2 z_2)) := own_dadd (K := 1094) (mg18.mono (by decide)) (mg26.mono (by decide)) (by decide) (by decide)
  refine gob (fun _ k => XS.daddS X23.here hx rfl (hb hby d6_33) rfl (v := (FP.dadd (FP.dadd (FP.dadd (0 : UInt64) (FP.dmul y_0 z_0)) (FP.dmul y_1 z_1)) (FP.dmul y_2 z_2))) (mg27.fin (by decide)).noNaN rfl k) ?_
  show gO (tF T23 m 34 (la2 o0 o1 (FP.dadd (FP.dadd (0 : UInt64) (FP.dmul y_0 z_0)) (FP.dmul y_1 z_1)) 2) [(.double (FP.dadd (FP.dadd (FP.dadd (0 : UInt64) (FP.dmul y_0 z_0)) (FP.dmul y_1 z_1)) (FP.dmul y_2 z_2)))])
  refine gob (fun _ k => XS.dstoreN X23.here hx rfl (hb hby d6_34) rfl (l' := (la2 o0 o1 (FP.dadd (FP.dadd (FP.dadd (0 : UInt64) (FP.dmul y_0 z_0)) (FP.dmul y_1 z_1)) (FP.dmul y_2 z_2)) 2)) rfl k) ?_
  show gO (tF T23 m 35 (la2 o0 o1 (FP.dadd (FP.dadd (FP.dadd (0 : UInt64) (FP.dmul y_0 z_0)) (FP.dmul y_1 z_1)) (FP.dmul y_2 z_2)) 2) [])
  refine gob (fun _ k => XS.iinc X23.here hx rfl (hb hby d6_35) rfl (l' := (la2 o0 o1 (FP.dadd (FP.dadd (FP.dadd (0 : UInt64) (FP.dmul y_0 z_0)) (FP.dmul y_1 z_1)) (FP.dmul y_2 z_2)) 3)) rfl k) ?_
  show gO (tF T23 m 38 (la2 o0 o1 (FP.dadd (FP.dadd (FP.dadd (0 : UInt64) (FP.dmul y_0 z_0)) (FP.dmul y_1 z_1)) (FP.dmul y_2 z_2)) 3) [])
  refine gob (fun _ k => XS.goto X23.here hx rfl (pc0 := 38) (pc' := 5) rfl (hb hby d6_38) (by decide) (by decide) k) ?_
  show gO (tF T23 m 5 (la2 o0 o1 (FP.dadd (FP.dadd (FP.dadd (0 : UInt64) (FP.dmul y_0 z_0)) (FP.dmul y_1 z_1)) (FP.dmul y_2 z_2)) 3) [])
  refine gob (fun _ k => XS.iload X23.here hx rfl (hb hby d6_5) rfl k) ?_
  show gO (tF T23 m 7 (la2 o0 o1 (FP.dadd (FP.dadd (FP.dadd (0 : UInt64) (FP.dmul y_0 z_0)) (FP.dmul y_1 z_1)) (FP.dmul y_2 z_2)) 3) [(.int 3)])
  refine gob (fun _ k => XS.aloadN X23.here hx rfl (hb hby d6_7) rfl rfl k) ?_
  show gO (tF T23 m 8 (la2 o0 o1 (FP.dadd (FP.dadd (FP.dadd (0 : UInt64) (FP.dmul y_0 z_0)) (FP.dmul y_1 z_1)) (FP.dmul y_2 z_2)) 3) [(.ref o0), (.int 3)])
  obtain ⟨T28, X28, e28, st28⟩ := getF X23 hx hZ hown (host := "") (Or.inl (hW hw 23 rfl)) Via.refl e23 F_dofs (g := (mkF m 8 (la2 o0 o1 (FP.dadd (FP.dadd (FP.dadd (0 : UInt64) (FP.dmul y_0 z_0)) (FP.dmul y_1 z_1)) (FP.dmul y_2 z_2)) 3) [(.ref o0), (.int 3)])) rfl rfl (hb hby d6_8)
  refine gob st28 ?_
  show gO (tF T28 m 11 (la2 o0 o1 (FP.dadd (FP.dadd (FP.dadd (0 : UInt64) (FP.dmul y_0 z_0)) (FP.dmul y_1 z_1)) (FP.dmul y_2 z_2)) 3) [(.ref w_d), (.int 3)])
  obtain ⟨cl29, Ar29, aq29, S29, N29, H29, G29⟩ := id V_d
  refine gob (X28.arraylength hx (by rw [e28]; exact Ar29.1) (State.isArrayOf_alike hZ.alike Ar29.2.1) (g := (mkF m 11 (la2 o0 o1 (FP.dadd (FP.dadd (FP.dadd (0 : UInt64) (FP.dmul y_0 z_0)) (FP.dmul y_1 z_1)) (FP.dmul y_2 z_2)) 3) [(.ref w_d), (.int 3)])) rfl rfl (hb hby d6_11)) ?_
  rw [len_of S29 N29]
  show gO (tF T28 m 12 (la2 o0 o1 (FP.dadd (FP.dadd (FP.dadd (0 : UInt64) (FP.dmul y_0 z_0)) (FP.dmul y_1 z_1)) (FP.dmul y_2 z_2)) 3) [(.int 4), (.int 3)])
  refine gob (fun _ k => XS.icmpNo X28.here hx rfl (hb hby d6_12) rfl (tlt (by decide : (3 : Int32) < (4 : Int32))).2.1 k) ?_
  show gO (tF T28 m 15 (la2 o0 o1 (FP.dadd (FP.dadd (FP.dadd (0 : UInt64) (FP.dmul y_0 z_0)) (FP.dmul y_1 z_1)) (FP.dmul y_2 z_2)) 3) [])
  refine gob (fun _ k => XS.dloadN X28.here hx rfl (hb hby d6_15) rfl k) ?_
  show gO (tF T28 m 16 (la2 o0 o1 (FP.dadd (FP.dadd (FP.dadd (0 : UInt64) (FP.dmul y_0 z_0)) (FP.dmul y_1 z_1)) (FP.dmul y_2 z_2)) 3) [(.double (FP.dadd (FP.dadd (FP.dadd (0 : UInt64) (FP.dmul y_0 z_0)) (FP.dmul y_1 z_1)) (FP.dmul y_2 z_2)))])
  refine gob (fun _ k => XS.aloadN X28.here hx rfl (hb hby d6_16) rfl rfl k) ?_
  show gO (tF T28 m 17 (la2 o0 o1 (FP.dadd (FP.dadd (FP.dadd (0 : UInt64) (FP.dmul y_0 z_0)) (FP.dmul y_1 z_1)) (FP.dmul y_2 z_2)) 3) [(.ref o0), (.double (FP.dadd (FP.dadd (FP.dadd (0 : UInt64) (FP.dmul y_0 z_0)) (FP.dmul y_1 z_1)) (FP.dmul y_2 z_2)))])
  obtain ⟨T30, X30, e30, st30⟩ := getF X28 hx hZ hown (host := "") (Or.inl (hW hw 25 rfl)) Via.refl e28 F_weights (g := (mkF m 17 (la2 o0 o1 (FP.dadd (FP.dadd (FP.dadd (0 : UInt64) (FP.dmul y_0 z_0)) (FP.dmul y_1 z_1)) (FP.dmul y_2 z_2)) 3) [(.ref o0), (.double (FP.dadd (FP.dadd (FP.dadd (0 : UInt64) (FP.dmul y_0 z_0)) (FP.dmul y_1 z_1)) (FP.dmul y_2 z_2)))])) rfl rfl (hb hby d6_17)
  refine gob st30 ?_
  show gO (tF T30 m 20 (la2 o0 o1 (FP.dadd (FP.dadd (FP.dadd (0 : UInt64) (FP.dmul y_0 z_0)) (FP.dmul y_1 z_1)) (FP.dmul y_2 z_2)) 3) [(.ref w_w), (.double (FP.dadd (FP.dadd (FP.dadd (0 : UInt64) (FP.dmul y_0 z_0)) (FP.dmul y_1 z_1)) (FP.dmul y_2 z_2)))])
  refine gob (fun _ k => XS.iload X30.here hx rfl (hb hby d6_20) rfl k) ?_
  show gO (tF T30 m 22 (la2 o0 o1 (FP.dadd (FP.dadd (FP.dadd (0 : UInt64) (FP.dmul y_0 z_0)) (FP.dmul y_1 z_1)) (FP.dmul y_2 z_2)) 3) [(.int 3), (.ref w_w), (.double (FP.dadd (FP.dadd (FP.dadd (0 : UInt64) (FP.dmul y_0 z_0)) (FP.dmul y_1 z_1)) (FP.dmul y_2 z_2)))])
  obtain ⟨cl31, Ar31, aq31, S31, N31, H31, G31⟩ := id V_y
  have hin31 : ¬ ((3 : Int32) < 0 ∨ cl31.slots.size ≤ ((3 : Int32)).toNatClampNeg) := inb_of S31 ⟨by decide, by decide⟩
  refine gob (X30.daload hx (j := (3 : Int32)) (v := (.double y_3)) (by rw [e30]; exact Ar31.1) (State.isArrayOf_alike hZ.alike Ar31.2.1) Ar31.2.2 hin31 (Has.at H31 hin31 rfl) (g := (mkF m 22 (la2 o0 o1 (FP.dadd (FP.dadd (FP.dadd (0 : UInt64) (FP.dmul y_0 z_0)) (FP.dmul y_1 z_1)) (FP.dmul y_2 z_2)) 3) [(.int 3), (.ref w_w), (.double (FP.dadd (FP.dadd (FP.dadd (0 : UInt64) (FP.dmul y_0 z_0)) (FP.dmul y_1 z_1)) (FP.dmul y_2 z_2)))])) rfl rfl (hb hby d6_22)) ?_
  show gO (tF T30 m 23 (la2 o0 o1 (FP.dadd (FP.dadd (FP.dadd (0 : UInt64) (FP.dmul y_0 z_0)) (FP.dmul y_1 z_1)) (FP.dmul y_2 z_2)) 3) [(.double y_3), (.double (FP.dadd (FP.dadd (FP.dadd (0 : UInt64) (FP.dmul y_0 z_0)) (FP.dmul y_1 z_1)) (FP.dmul y_2 z_2)))])
  refine gob (fun _ k => XS.aloadN X30.here hx rfl (hb hby d6_23) rfl rfl k) ?_
  show gO (tF T30 m 24 (la2 o0 o1 (FP.dadd (FP.dadd (FP.dadd (0 : UInt64) (FP.dmul y_0 z_0)) (FP.dmul y_1 z_1)) (FP.dmul y_2 z_2)) 3) [(.ref o1), (.double y_3), (.double (FP.dadd (FP.dadd (FP.dadd (0 : UInt64) (FP.dmul y_0 z_0)) (FP.dmul y_1 z_1)) (FP.dmul y_2 z_2)))])
  refine gob (fun _ k => XS.aloadN X30.here hx rfl (hb hby d6_24) rfl rfl k) ?_
  show gO (tF T30 m 25 (la2 o0 o1 (FP.dadd (FP.dadd (FP.dadd (0 : UInt64) (FP.dmul y_0 z_0)) (FP.dmul y_1 z_1)) (FP.dmul y_2 z_2)) 3) [(.ref o0), (.ref o1), (.double y_3), (.double (FP.dadd (FP.dadd (FP.dadd (0 : UInt64) (FP.dmul y_0 z_0)) (FP.dmul y_1 z_1)) (FP.dmul y_2 z_2)))])
  obtain ⟨T32, X32, e32, st32⟩ := getF X30 hx hZ hown (host := "") (Or.inl (hW hw 23 rfl)) Via.refl e30 F_dofs (g := (mkF m 25 (la2 o0 o1 (FP.dadd (FP.dadd (FP.dadd (0 : UInt64) (FP.dmul y_0 z_0)) (FP.dmul y_1 z_1)) (FP.dmul y_2 z_2)) 3) [(.ref o0), (.ref o1), (.double y_3), (.double (FP.dadd (FP.dadd (FP.dadd (0 : UInt64) (FP.dmul y_0 z_0)) (FP.dmul y_1 z_1)) (FP.dmul y_2 z_2)))])) rfl rfl (hb hby d6_25)
  refine gob st32 ?_
  show gO (tF T32 m 28 (la2 o0 o1 (FP.dadd (FP.dadd (FP.dadd (0 : UInt64) (FP.dmul y_0 z_0)) (FP.dmul y_1 z_1)) (FP.dmul y_2 z_2)) 3) [(.ref w_d), (.ref o1), (.double y_3), (.double (FP.dadd (FP.dadd (FP.dadd (0 : UInt64) (FP.dmul y_0 z_0)) (FP.dmul y_1 z_1)) (FP.dmul y_2 z_2)))])
  refine gob (fun _ k => XS.iload X32.here hx rfl (hb hby d6_28) rfl k) ?_
  show gO (tF T32 m 30 (la2 o0 o1 (FP.dadd (FP.dadd (FP.dadd (0 : UInt64) (FP.dmul y_0 z_0)) (FP.dmul y_1 z_1)) (FP.dmul y_2 z_2)) 3) [(.int 3), (.ref w_d), (.ref o1), (.double y_3), (.double (FP.dadd (FP.dadd (FP.dadd (0 : UInt64) (FP.dmul y_0 z_0)) (FP.dmul y_1 z_1)) (FP.dmul y_2 z_2)))])
  obtain ⟨cl33, Ar33, aq33, S33, N33, H33, G33⟩ := id V_d
  have hin33 : ¬ ((3 : Int32) < 0 ∨ cl33.slots.size ≤ ((3 : Int32)).toNatClampNeg) := inb_of S33 ⟨by decide, by decide⟩
  refine gob (X32.iaload hx (j := (3 : Int32)) (v := (.int 3)) (by rw [e32]; exact Ar33.1) (State.isArrayOf_alike hZ.alike Ar33.2.1) Ar33.2.2 hin33 (Has.at H33 hin33 rfl) (g := (mkF m 30 (la2 o0 o1 (FP.dadd (FP.dadd (FP.dadd (0 : UInt64) (FP.dmul y_0 z_0)) (FP.dmul y_1 z_1)) (FP.dmul y_2 z_2)) 3) [(.int 3), (.ref w_d), (.ref o1), (.double y_3), (.double (FP.dadd (FP.dadd (FP.dadd (0 : UInt64) (FP.dmul y_0 z_0)) (FP.dmul y_1 z_1)) (FP.dmul y_2 z_2)))])) rfl rfl (hb hby d6_30)) ?_
  show gO (tF T32 m 31 (la2 o0 o1 (FP.dadd (FP.dadd (FP.dadd (0 : UInt64) (FP.dmul y_0 z_0)) (FP.dmul y_1 z_1)) (FP.dmul y_2 z_2)) 3) [(.int 3), (.ref o1), (.double y_3), (.double (FP.dadd (FP.dadd (FP.dadd (0 : UInt64) (FP.dmul y_0 z_0)) (FP.dmul y_1 z_1)) (FP.dmul y_2 z_2)))])
  obtain ⟨cl34, Ar34, aq34, S34, N34, H34, G34⟩ := id V_z
  have hin34 : ¬ ((3 : Int32) < 0 ∨ cl34.slots.size ≤ ((3 : Int32)).toNatClampNeg) := inb_of S34 ⟨by decide, by decide⟩
  refine gob (X32.daload hx (j := (3 : Int32)) (v := (.double z_3)) (by rw [e32]; exact Ar34.1) (State.isArrayOf_alike hZ.alike Ar34.2.1) Ar34.2.2 hin34 (Has.at H34 hin34 rfl) (g := (mkF m 31 (la2 o0 o1 (FP.dadd (FP.dadd (FP.dadd (0 : UInt64) (FP.dmul y_0 z_0)) (FP.dmul y_1 z_1)) (FP.dmul y_2 z_2)) 3) [(.int 3), (.ref o1), (.double y_3), (.double (FP.dadd (FP.dadd (FP.dadd (0 : UInt64) (FP.dmul y_0 z_0)) (FP.dmul y_1 z_1)) (FP.dmul y_2 z_2)))])) rfl rfl (hb hby d6_31)) ?_
  show gO (tF T32 m 32 (la2 o0 o1 (FP.dadd (FP.dadd (FP.dadd (0 : UInt64) (FP.dmul y_0 z_0)) (FP.dmul y_1 z_1)) (FP.dmul y_2 z_2)) 3) [(.double z_3), (.double y_3), (.double (FP.dadd (FP.dadd (FP.dadd (0 : UInt64) (FP.dmul y_0 z_0)) (FP.dmul y_1 z_1)) (FP.dmul y_2 z_2)))])
  have mg35 : Mag64 1090 (FP.dmul y_3 z_3) := own_dmul m_y_3 m_z_3 (by decide) (by decide) (by decide)
  refine gob (fun _ k => XS.dmulS X32.here hx rfl (hb hby d6_32) rfl (v := (FP.dmul y_3 z_3)) (mg35.fin (by decide)).noNaN rfl k) ?_
  show gO (tF T32 m 33 (la2 o0 o1 (FP.dadd (FP.dadd (FP.dadd (0 : UInt64) (FP.dmul y_0 z_0)) (FP.dmul y_1 z_1)) (FP.dmul y_2 z_2)) 3) [(.double (FP.dmul y_3 z_3)), (.double (FP.dadd (FP.dadd (FP.dadd (0 : UInt64) (FP.dmul y_0 z_0)) (FP.dmul y_1 z_1)) (FP.dmul y_2 z_2)))])
  have mg36 : Mag64 1098 (FP.dadd (FP.dadd (FP.dadd (FP.dadd (0 : UInt64) (FP.dmul y_0 z_0)) (FP.dmul y_1 z_1)) (FP.dmul y_2 z_2)) (FP.dmul y_3 z_3)) := own_dadd (K := 1096) (mg27.mono (by decide)) (mg35.mono (by decide)) (by decide) (by decide)
  refine gob (fun _ k => XS.daddS X32.here hx rfl (hb hby d6_33) rfl (v := (FP.dadd (FP.dadd (FP.dadd (FP.dadd (0 : UInt64) (FP.dmul y_0 z_0)) (FP.dmul y_1 z_1)) (FP.dmul y_2 z_2)) (FP.dmul y_3 z_3))) (mg36.fin (by decide)).noNaN rfl k) ?_
  show gO (tF T32 m 34 (la2 o0 o1 (FP.dadd (FP.dadd (FP.dadd (0 : UInt64) (FP.dmul y_0 z_0)) (FP.dmul y_1 z_1)) (FP.dmul y_2 z_2)) 3) [(.double (FP.dadd (FP.dadd (FP.dadd (FP.dadd (0 : UInt64) (FP.dmul y_0 z_0)) (FP.dmul y_1 z_1)) (FP.dmul y_2 z_2)) (FP.dmul y_3 z_3)))])
  refine gob (fun _ k => XS.dstoreN X32.here hx rfl (hb hby d6_34) rfl (l' := (la2 o0 o1 (FP.dadd (FP.dadd (FP.dadd (FP.dadd (0 : UInt64) (FP.dmul y_0 z_0)) (FP.dmul y_1 z_1)) (FP.dmul y_2 z_2)) (FP.dmul y_3 z_3)) 3)) rfl k) ?_
  show gO (tF T32 m 35 (la2 o0 o1 (FP.dadd (FP.dadd (FP.dadd (FP.dadd (0 : UInt64) (FP.dmul y_0 z_0)) (FP.dmul y_1 z_1)) (FP.dmul y_2 z_2)) (FP.dmul y_3 z_3)) 3) [])
  refine gob (fun _ k => XS.iinc X32.here hx rfl (hb hby d6_35) rfl (l' := (la2 o0 o1 (FP.dadd (FP.dadd (FP.dadd (FP.dadd (0 : UInt64) (FP.dmul y_0 z_0)) (FP.dmul y_1 z_1)) (FP.dmul y_2 z_2)) (FP.dmul y_3 z_3)) 4)) rfl k) ?_
  show gO (tF T32 m 38 (la2 o0 o1 (FP.dadd (FP.dadd (FP.dadd (FP.dadd (0 : UInt64) (FP.dmul y_0 z_0)) (FP.dmul y_1 z_1)) (FP.dmul y_2 z_2)) (FP.dmul y_3 z_3)) 4) [])
  refine gob (fun _ k => XS.goto X32.here hx rfl (pc0 := 38) (pc' := 5) rfl (hb hby d6_38) (by decide) (by decide) k) ?_
  show gO (tF T32 m 5 (la2 o0 o1 (FP.dadd (FP.dadd (FP.dadd (FP.dadd (0 : UInt64) (FP.dmul y_0 z_0)) (FP.dmul y_1 z_1)) (FP.dmul y_2 z_2)) (FP.dmul y_3 z_3)) 4) [])
  refine gob (fun _ k => XS.iload X32.here hx rfl (hb hby d6_5) rfl k) ?_
  show gO (tF T32 m 7 (la2 o0 o1 (FP.dadd (FP.dadd (FP.dadd (FP.dadd (0 : UInt64) (FP.dmul y_0 z_0)) (FP.dmul y_1 z_1)) (FP.dmul y_2 z_2)) (FP.dmul y_3 z_3)) 4) [(.int 4)])
  refine gob (fun _ k => XS.aloadN X32.here hx rfl (hb hby d6_7) rfl rfl k) ?_
  show gO (tF T32 m 8 (la2 o0 o1 (FP.dadd (FP.dadd (FP.dadd (FP.dadd (0 : UInt64) (FP.dmul y_0 z_0)) (FP.dmul y_1 z_1)) (FP.dmul y_2 z_2)) (FP.dmul y_3 z_3)) 4) [(.ref o0), (.int 4)])
  obtain ⟨T37, X37, e37, st37⟩ := getF X32 hx hZ hown (host := "") (Or.inl (hW hw 23 rfl)) Via.refl e32 F_dofs (g := (mkF m 8 (la2 o0 o1 (FP.dadd (FP.dadd (FP.dadd (FP.dadd (0 : UInt64) (FP.dmul y_0 z_0)) (FP.dmul y_1 z_1)) (FP.dmul y_2 z_2)) (FP.dmul y_3 z_3)) 4) [(.ref o0), (.int 4)])) rfl rfl (hb hby d6_8)
  refine gob st37 ?_
  show gO (tF T37 m 11 (la2 o0 o1 (FP.dadd (FP.dadd (FP.dadd (FP.dadd (0 : UInt64) (FP.dmul y_0 z_0)) (FP.dmul y_1 z_1)) (FP.dmul y_2 z_2)) (FP.dmul y_3 z_3)) 4) [(.ref w_d), (.int 4)])
  obtain ⟨cl38, Ar38, aq38, S38, N38, H38, G38⟩ := id V_d
  refine gob (X37.arraylength hx (by rw [e37]; exact Ar38.1) (State.isArrayOf_alike hZ.alike Ar38.2.1) (g := (mkF m 11 (la2 o0 o1 (FP.dadd (FP.dadd (FP.dadd (FP.dadd (0 : UInt64) (FP.dmul y_0 z_0)) (FP.dmul y_1 z_1)) (FP.dmul y_2 z_2)) (FP.dmul y_3 z_3)) 4) [(.ref w_d), (.int 4)])) rfl rfl (hb hby d6_11)) ?_
  rw [len_of S38 N38]
  show gO (tF T37 m 12 (la2 o0 o1 (FP.dadd (FP.dadd (FP.dadd (FP.dadd (0 : UInt64) (FP.dmul y_0 z_0)) (FP.dmul y_1 z_1)) (FP.dmul y_2 z_2)) (FP.dmul y_3 z_3)) 4) [(.int 4), (.int 4)])
  refine gob (fun _ k => XS.icmpYes X37.here hx rfl (pc0 := 12) (pc' := 41) rfl (hb hby d6_12) rfl (flt (by decide : ¬ ((4 : Int32) < (4 : Int32)))).2.1 (by decide) (by decide) k) ?_
  show gO (tF T37 m 41 (la2 o0 o1 (FP.dadd (FP.dadd (FP.dadd (FP.dadd (0 : UInt64) (FP.dmul y_0 z_0)) (FP.dmul y_1 z_1)) (FP.dmul y_2 z_2)) (FP.dmul y_3 z_3)) 4) [])
  refine gob (fun _ k => XS.dloadN X37.here hx rfl (hb hby d6_41) rfl k) ?_
  show gO (tF T37 m 42 (la2 o0 o1 (FP.dadd (FP.dadd (FP.dadd (FP.dadd (0 : UInt64) (FP.dmul y_0 z_0)) (FP.dmul y_1 z_1)) (FP.dmul y_2 z_2)) (FP.dmul y_3 z_3)) 4) [(.double (FP.dadd (FP.dadd (FP.dadd (FP.dadd (0 : UInt64) (FP.dmul y_0 z_0)) (FP.dmul y_1 z_1)) (FP.dmul y_2 z_2)) (FP.dmul y_3 z_3)))])
  refine goD X37 hx hlk Bd.returns (hb hby d6_42) ?_ (by decide) (by decide)
  show Qof_0123 Z o0 o1 w_d w_w k_d k_y y_0 y_1 y_2 y_3 k_z z_0 z_1 z_2 z_3 h0 n0 (some (.double (FP.dadd (FP.dadd (FP.dadd (FP.dadd (0 : UInt64) (FP.dmul y_0 z_0)) (FP.dmul y_1 z_1)) (FP.dmul y_2 z_2)) (FP.dmul y_3 z_3)))) T37.heap _
  exact ⟨(FP.dadd (FP.dadd (FP.dadd (FP.dadd (0 : UInt64) (FP.dmul y_0 z_0)) (FP.dmul y_1 z_1)) (FP.dmul y_2 z_2)) (FP.dmul y_3 z_3)), rfl, rfl, N0, e37⟩
theorem pd_1 : parseMethodDescriptor "([II)[I" = some ⟨[(.array .int), .int], some (.array .int)⟩ := by decide +kernel
theorem pd_2 : parseMethodDescriptor "([DI)[D" = some ⟨[(.array .double), .int], some (.array .double)⟩ := by decide +kernel
theorem pd_3 : parseMethodDescriptor "([I[D)V" = some ⟨[(.array .int), (.array .double)], none⟩ := by decide +kernel
theorem pd_4 : parseMethodDescriptor "([D)D" = some ⟨[(.array .double)], some .double⟩ := by decide +kernel
theorem ef_0 (m : MethodId) (x0 : Int32) (x1 : Int64) (x2 : Int64) (x3 : Int64) (x4 : Int64) : entryFrame m #[(.int x0), (.long x1), (.long x2), (.long x3), (.long x4)] maxLocals = mkF m 0 #[.val (.int x0), .val (.long x1), .second, .val (.long x2), .second, .val (.long x3), .second, .val (.long x4), .second, .unset, .unset, .unset, .unset, .unset, .unset, .unset, .unset, .unset, .unset, .unset, .unset] [] := by first | (simp [entryFrame, mkF, argsToLocals, Value.category, maxLocals]; done) | rfl
def Q0 (Z : State) (p0 : Int32) (q1 : Int64) (q2 : Int64) (q3 : Int64) (q4 : Int64) (h0 : Heap) (n0 : Nat) (v : Option Value) (h : Heap) (L : List Loc) : Prop := v = some (.int 1) ∧ Fr n0 L
set_option maxRecDepth 65536 in
set_option maxHeartbeats 40000000 in
theorem rm0 (l : Launch) (Z : State) (a0 : Array Value) (hw : ∀ d ∈ tables_1, d.before a0 Z = true) (ws : List Jvm.Cond) (p0 : Int32) (q1 : Int64) (q2 : Int64) (q3 : Int64) (q4 : Int64) (h0 : Heap) (n0 : Nat) (Z0 : n0 ≤ h0.size) :
    MetFree l x (head1 (Jvm.Cond.code x code maxLocals ret :: ws) room_1) (fun a U => a = #[(.int p0), (.long q1), (.long q2), (.long q3), (.long q4)] ∧ Z.Warmed39 U.vm ∧ U.heap = h0) (fun _ _ _ _ _ => True) (fun _ U o U' => ∃ v L, o = .returned v ∧ Q0 Z p0 q1 q2 q3 q4 h0 n0 v U'.heap L ∧ FrameEnd U o U' L 24 128) := by
  refine MetFree.of_bodySF (plainFor_of_name (by first | (simp [plainName, overriddenIn]; done) | decide +kernel)) hisR ?_
  intro p e s m args below meth c s₁ Bd hml0 hP hK
  obtain ⟨rfl, hZ, hh⟩ := hP
  have hx := Bd.exec
  have hby := Bd.bytes
  have hml : c.maxLocals = 21 := hml0
  have hown : s.vm.findClass "com/example/fenda/fenda/analysis/CombinationOfPinLaw" = some m.cls := findClass_of_methodNamed Bd.named
  have hnm := (name_of_methodNamed Bd.named Bd.method).1
  have hlk := BodyLoose.notSynchronized Bd
  have X0 : Stand p l e room_1 s m #[(.int p0), (.long q1), (.long q2), (.long q3), (.long q4)] below meth c s₁ [] 0 0 := Stand.of_body Bd
  have e0 : s₁.heap = h0 := by rw [← hh, Bd.state]; rfl
  have N0 := Fr.nil n0
  show Go p e below s (Q0 Z p0 q1 q2 q3 q4 h0 n0) 24 128 (s₁.setTop (entryFrame m #[(.int p0), (.long q1), (.long q2), (.long q3), (.long q4)] maxLocals))
  rw [ef_0]
  show gO (tF s₁ m 0 (la3 p0 q1 q2 q3 q4) [])
  refine gob (fun _ k => XS.iloadN X0.here hx rfl (hb hby at_0) rfl k) ?_
  show gO (tF s₁ m 1 (la3 p0 q1 q2 q3 q4) [(.int p0)])
  refine gob (fun _ k => XS.bipush X0.here hx rfl (hb hby at_1) k) ?_
  show gO (tF s₁ m 3 (la3 p0 q1 q2 q3 q4) [(.int 15), (.int p0)])
  refine gob (fun _ k => XS.iand X0.here hx rfl (hb hby at_3) rfl k) ?_
  show gO (tF s₁ m 4 (la3 p0 q1 q2 q3 q4) [(.int (p0 &&& (15 : Int32)))])
  refine gob (fun _ k => XS.istore X0.here hx rfl (hb hby at_4) rfl (l' := (la4 p0 q1 q2 q3 q4 (p0 &&& (15 : Int32)))) rfl k) ?_
  show gO (tF s₁ m 6 (la4 p0 q1 q2 q3 q4 (p0 &&& (15 : Int32))) [])
  generalize hx1 : (p0 &&& (15 : Int32)) = x1
  show gO (tF s₁ m 6 (la4 p0 q1 q2 q3 q4 x1) [])
  refine gob (fun _ k => XS.iconst X0.here hx rfl (hb hby at_6) k) ?_
  show gO (tF s₁ m 7 (la4 p0 q1 q2 q3 q4 x1) [(.int 4)])
  obtain ⟨T2, h2, k2, X2, e2, E2, A2, st2⟩ := newP X0 hx hZ (hW hw 0 rfl) e0 (g := (mkF m 7 (la4 p0 q1 q2 q3 q4 x1) [(.int 4)])) rfl (hb hby at_7) rfl (by decide) (cap := 4) (by decide) (by decide) (by decide) (by decide)
  obtain ⟨b2, g2⟩ : ∃ z, z = h0.size := ⟨_, rfl⟩
  rw [← g2] at A2 st2
  have g3 : n0 ≤ b2 := Nat.le_trans Z0 (Nat.le_of_eq g2.symm)
  have z4 : n0 ≤ h2.size := Nat.le_trans Z0 E2.1
  have V2 : Arv Z h2 b2 k2 .double (4 : Int32) [(.double 0), (.double 0), (.double 0), (.double 0)] (.double 0) := (Arv.new A2 (by decide)).pad (pad_rep [] (.double 0) 4)
  refine gob st2 ?_
  replace X2 := castX X2 (rfl : _ = 1) (rfl : _ = 4)
  show gO (tF T2 m 9 (la4 p0 q1 q2 q3 q4 x1) [(.ref b2)])
  refine gob (fun _ k => XS.dup X2.here hx rfl (hb hby at_9) rfl rfl k) ?_
  show gO (tF T2 m 10 (la4 p0 q1 q2 q3 q4 x1) [(.ref b2), (.ref b2)])
  refine gob (fun _ k => XS.iconst X2.here hx rfl (hb hby at_10) k) ?_
  show gO (tF T2 m 11 (la4 p0 q1 q2 q3 q4 x1) [(.int 0), (.ref b2), (.ref b2)])
  refine gob (fun _ k => XS.lloadN X2.here hx rfl (hb hby at_11) rfl k) ?_
  show gO (tF T2 m 12 (la4 p0 q1 q2 q3 q4 x1) [(.long q1), (.int 0), (.ref b2), (.ref b2)])
  refine gob (fun _ k => XS.l2i X2.here hx rfl (hb hby at_12) rfl k) ?_
  show gO (tF T2 m 13 (la4 p0 q1 q2 q3 q4 x1) [(.int (q1.toInt32)), (.int 0), (.ref b2), (.ref b2)])
  refine gob (fun _ k => XS.i2dS X2.here hx rfl (hb hby at_13) rfl (v := (FP.i2d (q1.toInt32))) rfl k) ?_
  show gO (tF T2 m 14 (la4 p0 q1 q2 q3 q4 x1) [(.double (FP.i2d (q1.toInt32))), (.int 0), (.ref b2), (.ref b2)])
  obtain ⟨y5_, hy5_⟩ : ∃ z, z = (FP.i2d (q1.toInt32)) := ⟨_, rfl⟩
  have my5_ : Mag64 1056 y5_ := by rw [hy5_]; exact i2d_mag _
  rw [← hy5_]
  show gO (tF T2 m 14 (la4 p0 q1 q2 q3 q4 x1) [(.double y5_), (.int 0), (.ref b2), (.ref b2)])
  obtain ⟨cl6, Ar6, aq6, S6, N6, H6, G6⟩ := id V2
  have hin6 : ¬ ((0 : Int32) < 0 ∨ cl6.slots.size ≤ ((0 : Int32)).toNatClampNeg) := inb_of S6 ⟨by decide, by decide⟩
  obtain ⟨T7, h7, X7, e7, W7, st7⟩ := stD X2 hx hZ e2 Ar6 (j := (0 : Int32)) hin6 (g := (mkF m 14 (la4 p0 q1 q2 q3 q4 x1) [(.double y5_), (.int 0), (.ref b2), (.ref b2)])) rfl rfl (hb hby at_14)
  refine gob st7 ?_
  have z8 : n0 ≤ h7.size := Nat.le_trans z4 (Keep.of_wr W7).1
  have N7 := Fr.snoc X7 N0 g3
  have V7 : Arv Z h7 b2 k2 .double (4 : Int32) [(.double y5_), (.double 0), (.double 0), (.double 0)] (.double 0) := Arv.set Ar6 aq6 S6 N6 H6 G6 rfl W7 0 rfl (Nat.le_of_ble_eq_true rfl)
  show gO (tF T7 m 15 (la4 p0 q1 q2 q3 q4 x1) [(.ref b2)])
  refine gob (fun _ k => XS.dup X7.here hx rfl (hb hby at_15) rfl rfl k) ?_
  show gO (tF T7 m 16 (la4 p0 q1 q2 q3 q4 x1) [(.ref b2), (.ref b2)])
  refine gob (fun _ k => XS.iconst X7.here hx rfl (hb hby at_16) k) ?_
  show gO (tF T7 m 17 (la4 p0 q1 q2 q3 q4 x1) [(.int 1), (.ref b2), (.ref b2)])
  refine gob (fun _ k => XS.lloadN X7.here hx rfl (hb hby at_17) rfl k) ?_
  show gO (tF T7 m 18 (la4 p0 q1 q2 q3 q4 x1) [(.long q1), (.int 1), (.ref b2), (.ref b2)])
  refine gob (fun _ k => XS.bipush X7.here hx rfl (hb hby at_18) k) ?_
  show gO (tF T7 m 20 (la4 p0 q1 q2 q3 q4 x1) [(.int 32), (.long q1), (.int 1), (.ref b2), (.ref b2)])
  refine gob (fun _ k => XS.lushr X7.here hx rfl (hb hby at_20) rfl k) ?_
  show gO (tF T7 m 21 (la4 p0 q1 q2 q3 q4 x1) [(.long ((q1.toUInt64 >>> ((32 : Int32) &&& 0x3f).toInt64.toUInt64).toInt64)), (.int 1), (.ref b2), (.ref b2)])
  refine gob (fun _ k => XS.l2i X7.here hx rfl (hb hby at_21) rfl k) ?_
  show gO (tF T7 m 22 (la4 p0 q1 q2 q3 q4 x1) [(.int (((q1.toUInt64 >>> ((32 : Int32) &&& 0x3f).toInt64.toUInt64).toInt64).toInt32)), (.int 1), (.ref b2), (.ref b2)])
  refine gob (fun _ k => XS.i2dS X7.here hx rfl (hb hby at_22) rfl (v := (FP.i2d (((q1.toUInt64 >>> ((32 : Int32) &&& 0x3f).toInt64.toUInt64).toInt64).toInt32))) rfl k) ?_
  show gO (tF T7 m 23 (la4 p0 q1 q2 q3 q4 x1) [(.double (FP.i2d (((q1.toUInt64 >>> ((32 : Int32) &&& 0x3f).toInt64.toUInt64).toInt64).toInt32))), (.int 1), (.ref b2), (.ref b2)])
  obtain ⟨y9_, hy9_⟩ : ∃ z, z = (FP.i2d (((q1.toUInt64 >>> ((32 : Int32) &&& 0x3f).toInt64.toUInt64).toInt64).toInt32)) := ⟨_, rfl⟩
  have my9_ : Mag64 1056 y9_ := by rw [hy9_]; exact i2d_mag _
  rw [← hy9_]
  show gO (tF T7 m 23 (la4 p0 q1 q2 q3 q4 x1) [(.double y9_), (.int 1), (.ref b2), (.ref b2)])
  obtain ⟨cl10, Ar10, aq10, S10, N10, H10, G10⟩ := id V7
  have hin10 : ¬ ((1 : Int32) < 0 ∨ cl10.slots.size ≤ ((1 : Int32)).toNatClampNeg) := inb_of S10 ⟨by decide, by decide⟩
  obtain ⟨T11, h11, X11, e11, W11, st11⟩ := stD X7 hx hZ e7 Ar10 (j := (1 : Int32)) hin10 (g := (mkF m 23 (la4 p0 q1 q2 q3 q4 x1) [(.double y9_), (.int 1), (.ref b2), (.ref b2)])) rfl rfl (hb hby at_23)
  refine gob st11 ?_
  have z12 : n0 ≤ h11.size := Nat.le_trans z8 (Keep.of_wr W11).1
  have N11 := Fr.snoc X11 N7 g3
  have V11 : Arv Z h11 b2 k2 .double (4 : Int32) [(.double y5_), (.double y9_), (.double 0), (.double 0)] (.double 0) := Arv.set Ar10 aq10 S10 N10 H10 G10 rfl W11 1 rfl (Nat.le_of_ble_eq_true rfl)
  show gO (tF T11 m 24 (la4 p0 q1 q2 q3 q4 x1) [(.ref b2)])
  refine gob (fun _ k => XS.dup X11.here hx rfl (hb hby at_24) rfl rfl k) ?_
  show gO (tF T11 m 25 (la4 p0 q1 q2 q3 q4 x1) [(.ref b2), (.ref b2)])
  refine gob (fun _ k => XS.iconst X11.here hx rfl (hb hby at_25) k) ?_
  show gO (tF T11 m 26 (la4 p0 q1 q2 q3 q4 x1) [(.int 2), (.ref b2), (.ref b2)])
  refine gob (fun _ k => XS.lloadN X11.here hx rfl (hb hby at_26) rfl k) ?_
  show gO (tF T11 m 27 (la4 p0 q1 q2 q3 q4 x1) [(.long q2), (.int 2), (.ref b2), (.ref b2)])
  refine gob (fun _ k => XS.l2i X11.here hx rfl (hb hby at_27) rfl k) ?_
  show gO (tF T11 m 28 (la4 p0 q1 q2 q3 q4 x1) [(.int (q2.toInt32)), (.int 2), (.ref b2), (.ref b2)])
  refine gob (fun _ k => XS.i2dS X11.here hx rfl (hb hby at_28) rfl (v := (FP.i2d (q2.toInt32))) rfl k) ?_
  show gO (tF T11 m 29 (la4 p0 q1 q2 q3 q4 x1) [(.double (FP.i2d (q2.toInt32))), (.int 2), (.ref b2), (.ref b2)])
  obtain ⟨y13_, hy13_⟩ : ∃ z, z = (FP.i2d (q2.toInt32)) := ⟨_, rfl⟩
  have my13_ : Mag64 1056 y13_ := by rw [hy13_]; exact i2d_mag _
  rw [← hy13_]
  show gO (tF T11 m 29 (la4 p0 q1 q2 q3 q4 x1) [(.double y13_), (.int 2), (.ref b2), (.ref b2)])
  obtain ⟨cl14, Ar14, aq14, S14, N14, H14, G14⟩ := id V11
  have hin14 : ¬ ((2 : Int32) < 0 ∨ cl14.slots.size ≤ ((2 : Int32)).toNatClampNeg) := inb_of S14 ⟨by decide, by decide⟩
  obtain ⟨T15, h15, X15, e15, W15, st15⟩ := stD X11 hx hZ e11 Ar14 (j := (2 : Int32)) hin14 (g := (mkF m 29 (la4 p0 q1 q2 q3 q4 x1) [(.double y13_), (.int 2), (.ref b2), (.ref b2)])) rfl rfl (hb hby at_29)
  refine gob st15 ?_
  have z16 : n0 ≤ h15.size := Nat.le_trans z12 (Keep.of_wr W15).1
  have N15 := Fr.snoc X15 N11 g3
  have V15 : Arv Z h15 b2 k2 .double (4 : Int32) [(.double y5_), (.double y9_), (.double y13_), (.double 0)] (.double 0) := Arv.set Ar14 aq14 S14 N14 H14 G14 rfl W15 2 rfl (Nat.le_of_ble_eq_true rfl)
  show gO (tF T15 m 30 (la4 p0 q1 q2 q3 q4 x1) [(.ref b2)])
  refine gob (fun _ k => XS.dup X15.here hx rfl (hb hby at_30) rfl rfl k) ?_
  show gO (tF T15 m 31 (la4 p0 q1 q2 q3 q4 x1) [(.ref b2), (.ref b2)])
  refine gob (fun _ k => XS.iconst X15.here hx rfl (hb hby at_31) k) ?_
  show gO (tF T15 m 32 (la4 p0 q1 q2 q3 q4 x1) [(.int 3), (.ref b2), (.ref b2)])
  refine gob (fun _ k => XS.lloadN X15.here hx rfl (hb hby at_32) rfl k) ?_
  show gO (tF T15 m 33 (la4 p0 q1 q2 q3 q4 x1) [(.long q2), (.int 3), (.ref b2), (.ref b2)])
  refine gob (fun _ k => XS.bipush X15.here hx rfl (hb hby at_33) k) ?_
  show gO (tF T15 m 35 (la4 p0 q1 q2 q3 q4 x1) [(.int 32), (.long q2), (.int 3), (.ref b2), (.ref b2)])
  refine gob (fun _ k => XS.lushr X15.here hx rfl (hb hby at_35) rfl k) ?_
  show gO (tF T15 m 36 (la4 p0 q1 q2 q3 q4 x1) [(.long ((q2.toUInt64 >>> ((32 : Int32) &&& 0x3f).toInt64.toUInt64).toInt64)), (.int 3), (.ref b2), (.ref b2)])
  refine gob (fun _ k => XS.l2i X15.here hx rfl (hb hby at_36) rfl k) ?_
  show gO (tF T15 m 37 (la4 p0 q1 q2 q3 q4 x1) [(.int (((q2.toUInt64 >>> ((32 : Int32) &&& 0x3f).toInt64.toUInt64).toInt64).toInt32)), (.int 3), (.ref b2), (.ref b2)])
  refine gob (fun _ k => XS.i2dS X15.here hx rfl (hb hby at_37) rfl (v := (FP.i2d (((q2.toUInt64 >>> ((32 : Int32) &&& 0x3f).toInt64.toUInt64).toInt64).toInt32))) rfl k) ?_
  show gO (tF T15 m 38 (la4 p0 q1 q2 q3 q4 x1) [(.double (FP.i2d (((q2.toUInt64 >>> ((32 : Int32) &&& 0x3f).toInt64.toUInt64).toInt64).toInt32))), (.int 3), (.ref b2), (.ref b2)])
  obtain ⟨y17_, hy17_⟩ : ∃ z, z = (FP.i2d (((q2.toUInt64 >>> ((32 : Int32) &&& 0x3f).toInt64.toUInt64).toInt64).toInt32)) := ⟨_, rfl⟩
  have my17_ : Mag64 1056 y17_ := by rw [hy17_]; exact i2d_mag _
  rw [← hy17_]
  show gO (tF T15 m 38 (la4 p0 q1 q2 q3 q4 x1) [(.double y17_), (.int 3), (.ref b2), (.ref b2)])
  obtain ⟨cl18, Ar18, aq18, S18, N18, H18, G18⟩ := id V15
  have hin18 : ¬ ((3 : Int32) < 0 ∨ cl18.slots.size ≤ ((3 : Int32)).toNatClampNeg) := inb_of S18 ⟨by decide, by decide⟩
  obtain ⟨T19, h19, X19, e19, W19, st19⟩ := stD X15 hx hZ e15 Ar18 (j := (3 : Int32)) hin18 (g := (mkF m 38 (la4 p0 q1 q2 q3 q4 x1) [(.double y17_), (.int 3), (.ref b2), (.ref b2)])) rfl rfl (hb hby at_38)
  refine gob st19 ?_
  have z20 : n0 ≤ h19.size := Nat.le_trans z16 (Keep.of_wr W19).1
  have N19 := Fr.snoc X19 N15 g3
  have V19 : Arv Z h19 b2 k2 .double (4 : Int32) [(.double y5_), (.double y9_), (.double y13_), (.double y17_)] (.double 0) := Arv.set Ar18 aq18 S18 N18 H18 G18 rfl W19 3 rfl (Nat.le_of_ble_eq_true rfl)
  show gO (tF T19 m 39 (la4 p0 q1 q2 q3 q4 x1) [(.ref b2)])
  refine gob (fun _ k => XS.astore X19.here hx rfl (hb hby at_39) rfl rfl (l' := (la5 p0 q1 q2 q3 q4 x1 b2)) rfl k) ?_
  show gO (tF T19 m 41 (la5 p0 q1 q2 q3 q4 x1 b2) [])
  refine gob (fun _ k => XS.iconst X19.here hx rfl (hb hby at_41) k) ?_
  show gO (tF T19 m 42 (la5 p0 q1 q2 q3 q4 x1 b2) [(.int 4)])
  obtain ⟨T21, h21, k21, X21, e21, E21, A21, st21⟩ := newP X19 hx hZ (hW hw 0 rfl) e19 (g := (mkF m 42 (la5 p0 q1 q2 q3 q4 x1 b2) [(.int 4)])) rfl (hb hby at_42) rfl (by decide) (cap := 4) (by decide) (by decide) (by decide) (by decide)
  obtain ⟨b21, g21⟩ : ∃ z, z = h19.size := ⟨_, rfl⟩
  rw [← g21] at A21 st21
  have n22 : b2 ≠ b21 := Nat.ne_of_lt (Nat.lt_of_lt_of_le V19.lt (Nat.le_of_eq g21.symm))
  have g23 : n0 ≤ b21 := Nat.le_trans z20 (Nat.le_of_eq g21.symm)
  have z24 : n0 ≤ h21.size := Nat.le_trans z20 E21.1
  have V21 : Arv Z h21 b21 k21 .double (4 : Int32) [(.double 0), (.double 0), (.double 0), (.double 0)] (.double 0) := (Arv.new A21 (by decide)).pad (pad_rep [] (.double 0) 4)
  refine gob st21 ?_
  replace X21 := castX X21 (rfl : _ = 2) (rfl : _ = 8)
  show gO (tF T21 m 44 (la5 p0 q1 q2 q3 q4 x1 b2) [(.ref b21)])
  refine gob (fun _ k => XS.dup X21.here hx rfl (hb hby at_44) rfl rfl k) ?_
  show gO (tF T21 m 45 (la5 p0 q1 q2 q3 q4 x1 b2) [(.ref b21), (.ref b21)])
  refine gob (fun _ k => XS.iconst X21.here hx rfl (hb hby at_45) k) ?_
  show gO (tF T21 m 46 (la5 p0 q1 q2 q3 q4 x1 b2) [(.int 0), (.ref b21), (.ref b21)])
  refine gob (fun _ k => XS.lload X21.here hx rfl (hb hby at_46) rfl k) ?_
  show gO (tF T21 m 48 (la5 p0 q1 q2 q3 q4 x1 b2) [(.long q3), (.int 0), (.ref b21), (.ref b21)])
  refine gob (fun _ k => XS.l2i X21.here hx rfl (hb hby at_48) rfl k) ?_
  show gO (tF T21 m 49 (la5 p0 q1 q2 q3 q4 x1 b2) [(.int (q3.toInt32)), (.int 0), (.ref b21), (.ref b21)])
  refine gob (fun _ k => XS.i2dS X21.here hx rfl (hb hby at_49) rfl (v := (FP.i2d (q3.toInt32))) rfl k) ?_
  show gO (tF T21 m 50 (la5 p0 q1 q2 q3 q4 x1 b2) [(.double (FP.i2d (q3.toInt32))), (.int 0), (.ref b21), (.ref b21)])
  obtain ⟨y25_, hy25_⟩ : ∃ z, z = (FP.i2d (q3.toInt32)) := ⟨_, rfl⟩
  have my25_ : Mag64 1056 y25_ := by rw [hy25_]; exact i2d_mag _
  rw [← hy25_]
  show gO (tF T21 m 50 (la5 p0 q1 q2 q3 q4 x1 b2) [(.double y25_), (.int 0), (.ref b21), (.ref b21)])
  obtain ⟨cl26, Ar26, aq26, S26, N26, H26, G26⟩ := id V21
  have hin26 : ¬ ((0 : Int32) < 0 ∨ cl26.slots.size ≤ ((0 : Int32)).toNatClampNeg) := inb_of S26 ⟨by decide, by decide⟩
  obtain ⟨T27, h27, X27, e27, W27, st27⟩ := stD X21 hx hZ e21 Ar26 (j := (0 : Int32)) hin26 (g := (mkF m 50 (la5 p0 q1 q2 q3 q4 x1 b2) [(.double y25_), (.int 0), (.ref b21), (.ref b21)])) rfl rfl (hb hby at_50)
  refine gob st27 ?_
  have z28 : n0 ≤ h27.size := Nat.le_trans z24 (Keep.of_wr W27).1
  have N27 := Fr.snoc X27 N19 g23
  have V27 : Arv Z h27 b21 k21 .double (4 : Int32) [(.double y25_), (.double 0), (.double 0), (.double 0)] (.double 0) := Arv.set Ar26 aq26 S26 N26 H26 G26 rfl W27 0 rfl (Nat.le_of_ble_eq_true rfl)
  show gO (tF T27 m 51 (la5 p0 q1 q2 q3 q4 x1 b2) [(.ref b21)])
  refine gob (fun _ k => XS.dup X27.here hx rfl (hb hby at_51) rfl rfl k) ?_
  show gO (tF T27 m 52 (la5 p0 q1 q2 q3 q4 x1 b2) [(.ref b21), (.ref b21)])
  refine gob (fun _ k => XS.iconst X27.here hx rfl (hb hby at_52) k) ?_
  show gO (tF T27 m 53 (la5 p0 q1 q2 q3 q4 x1 b2) [(.int 1), (.ref b21), (.ref b21)])
  refine gob (fun _ k => XS.lload X27.here hx rfl (hb hby at_53) rfl k) ?_
  show gO (tF T27 m 55 (la5 p0 q1 q2 q3 q4 x1 b2) [(.long q3), (.int 1), (.ref b21), (.ref b21)])
  refine gob (fun _ k => XS.bipush X27.here hx rfl (hb hby at_55) k) ?_
  show gO (tF T27 m 57 (la5 p0 q1 q2 q3 q4 x1 b2) [(.int 32), (.long q3), (.int 1), (.ref b21), (.ref b21)])
  refine gob (fun _ k => XS.lushr X27.here hx rfl (hb hby at_57) rfl k) ?_
  show gO (tF T27 m 58 (la5 p0 q1 q2 q3 q4 x1 b2) [(.long ((q3.toUInt64 >>> ((32 : Int32) &&& 0x3f).toInt64.toUInt64).toInt64)), (.int 1), (.ref b21), (.ref b21)])
  refine gob (fun _ k => XS.l2i X27.here hx rfl (hb hby at_58) rfl k) ?_
  show gO (tF T27 m 59 (la5 p0 q1 q2 q3 q4 x1 b2) [(.int (((q3.toUInt64 >>> ((32 : Int32) &&& 0x3f).toInt64.toUInt64).toInt64).toInt32)), (.int 1), (.ref b21), (.ref b21)])
  refine gob (fun _ k => XS.i2dS X27.here hx rfl (hb hby at_59) rfl (v := (FP.i2d (((q3.toUInt64 >>> ((32 : Int32) &&& 0x3f).toInt64.toUInt64).toInt64).toInt32))) rfl k) ?_
  show gO (tF T27 m 60 (la5 p0 q1 q2 q3 q4 x1 b2) [(.double (FP.i2d (((q3.toUInt64 >>> ((32 : Int32) &&& 0x3f).toInt64.toUInt64).toInt64).toInt32))), (.int 1), (.ref b21), (.ref b21)])
  obtain ⟨y29_, hy29_⟩ : ∃ z, z = (FP.i2d (((q3.toUInt64 >>> ((32 : Int32) &&& 0x3f).toInt64.toUInt64).toInt64).toInt32)) := ⟨_, rfl⟩
  have my29_ : Mag64 1056 y29_ := by rw [hy29_]; exact i2d_mag _
  rw [← hy29_]
  show gO (tF T27 m 60 (la5 p0 q1 q2 q3 q4 x1 b2) [(.double y29_), (.int 1), (.ref b21), (.ref b21)])
  obtain ⟨cl30, Ar30, aq30, S30, N30, H30, G30⟩ := id V27
  have hin30 : ¬ ((1 : Int32) < 0 ∨ cl30.slots.size ≤ ((1 : Int32)).toNatClampNeg) := inb_of S30 ⟨by decide, by decide⟩
  obtain ⟨T31, h31, X31, e31, W31, st31⟩ := stD X27 hx hZ e27 Ar30 (j := (1 : Int32)) hin30 (g := (mkF m 60 (la5 p0 q1 q2 q3 q4 x1 b2) [(.double y29_), (.int 1), (.ref b21), (.ref b21)])) rfl rfl (hb hby at_60)
  refine gob st31 ?_
  have z32 : n0 ≤ h31.size := Nat.le_trans z28 (Keep.of_wr W31).1
  have N31 := Fr.snoc X31 N27 g23
  have V31 : Arv Z h31 b21 k21 .double (4 : Int32) [(.double y25_), (.double y29_), (.double 0), (.double 0)] (.double 0) := Arv.set Ar30 aq30 S30 N30 H30 G30 rfl W31 1 rfl (Nat.le_of_ble_eq_true rfl)
  show gO (tF T31 m 61 (la5 p0 q1 q2 q3 q4 x1 b2) [(.ref b21)])
  refine gob (fun _ k => XS.dup X31.here hx rfl (hb hby at_61) rfl rfl k) ?_
  show gO (tF T31 m 62 (la5 p0 q1 q2 q3 q4 x1 b2) [(.ref b21), (.ref b21)])
  refine gob (fun _ k => XS.iconst X31.here hx rfl (hb hby at_62) k) ?_
  show gO (tF T31 m 63 (la5 p0 q1 q2 q3 q4 x1 b2) [(.int 2), (.ref b21), (.ref b21)])
  refine gob (fun _ k => XS.lload X31.here hx rfl (hb hby at_63) rfl k) ?_
  show gO (tF T31 m 65 (la5 p0 q1 q2 q3 q4 x1 b2) [(.long q4), (.int 2), (.ref b21), (.ref b21)])
  refine gob (fun _ k => XS.l2i X31.here hx rfl (hb hby at_65) rfl k) ?_
  show gO (tF T31 m 66 (la5 p0 q1 q2 q3 q4 x1 b2) [(.int (q4.toInt32)), (.int 2), (.ref b21), (.ref b21)])
  refine gob (fun _ k => XS.i2dS X31.here hx rfl (hb hby at_66) rfl (v := (FP.i2d (q4.toInt32))) rfl k) ?_
  show gO (tF T31 m 67 (la5 p0 q1 q2 q3 q4 x1 b2) [(.double (FP.i2d (q4.toInt32))), (.int 2), (.ref b21), (.ref b21)])
  obtain ⟨y33_, hy33_⟩ : ∃ z, z = (FP.i2d (q4.toInt32)) := ⟨_, rfl⟩
  have my33_ : Mag64 1056 y33_ := by rw [hy33_]; exact i2d_mag _
  rw [← hy33_]
  show gO (tF T31 m 67 (la5 p0 q1 q2 q3 q4 x1 b2) [(.double y33_), (.int 2), (.ref b21), (.ref b21)])
  obtain ⟨cl34, Ar34, aq34, S34, N34, H34, G34⟩ := id V31
  have hin34 : ¬ ((2 : Int32) < 0 ∨ cl34.slots.size ≤ ((2 : Int32)).toNatClampNeg) := inb_of S34 ⟨by decide, by decide⟩
  obtain ⟨T35, h35, X35, e35, W35, st35⟩ := stD X31 hx hZ e31 Ar34 (j := (2 : Int32)) hin34 (g := (mkF m 67 (la5 p0 q1 q2 q3 q4 x1 b2) [(.double y33_), (.int 2), (.ref b21), (.ref b21)])) rfl rfl (hb hby at_67)
  refine gob st35 ?_
  have z36 : n0 ≤ h35.size := Nat.le_trans z32 (Keep.of_wr W35).1
  have N35 := Fr.snoc X35 N31 g23
  have V35 : Arv Z h35 b21 k21 .double (4 : Int32) [(.double y25_), (.double y29_), (.double y33_), (.double 0)] (.double 0) := Arv.set Ar34 aq34 S34 N34 H34 G34 rfl W35 2 rfl (Nat.le_of_ble_eq_true rfl)
  show gO (tF T35 m 68 (la5 p0 q1 q2 q3 q4 x1 b2) [(.ref b21)])
  refine gob (fun _ k => XS.dup X35.here hx rfl (hb hby at_68) rfl rfl k) ?_
  show gO (tF T35 m 69 (la5 p0 q1 q2 q3 q4 x1 b2) [(.ref b21), (.ref b21)])
  refine gob (fun _ k => XS.iconst X35.here hx rfl (hb hby at_69) k) ?_
  show gO (tF T35 m 70 (la5 p0 q1 q2 q3 q4 x1 b2) [(.int 3), (.ref b21), (.ref b21)])
  refine gob (fun _ k => XS.lload X35.here hx rfl (hb hby at_70) rfl k) ?_
  show gO (tF T35 m 72 (la5 p0 q1 q2 q3 q4 x1 b2) [(.long q4), (.int 3), (.ref b21), (.ref b21)])
  refine gob (fun _ k => XS.bipush X35.here hx rfl (hb hby at_72) k) ?_
  show gO (tF T35 m 74 (la5 p0 q1 q2 q3 q4 x1 b2) [(.int 32), (.long q4), (.int 3), (.ref b21), (.ref b21)])
  refine gob (fun _ k => XS.lushr X35.here hx rfl (hb hby at_74) rfl k) ?_
  show gO (tF T35 m 75 (la5 p0 q1 q2 q3 q4 x1 b2) [(.long ((q4.toUInt64 >>> ((32 : Int32) &&& 0x3f).toInt64.toUInt64).toInt64)), (.int 3), (.ref b21), (.ref b21)])
  refine gob (fun _ k => XS.l2i X35.here hx rfl (hb hby at_75) rfl k) ?_
  show gO (tF T35 m 76 (la5 p0 q1 q2 q3 q4 x1 b2) [(.int (((q4.toUInt64 >>> ((32 : Int32) &&& 0x3f).toInt64.toUInt64).toInt64).toInt32)), (.int 3), (.ref b21), (.ref b21)])
  refine gob (fun _ k => XS.i2dS X35.here hx rfl (hb hby at_76) rfl (v := (FP.i2d (((q4.toUInt64 >>> ((32 : Int32) &&& 0x3f).toInt64.toUInt64).toInt64).toInt32))) rfl k) ?_
  show gO (tF T35 m 77 (la5 p0 q1 q2 q3 q4 x1 b2) [(.double (FP.i2d (((q4.toUInt64 >>> ((32 : Int32) &&& 0x3f).toInt64.toUInt64).toInt64).toInt32))), (.int 3), (.ref b21), (.ref b21)])
  obtain ⟨y37_, hy37_⟩ : ∃ z, z = (FP.i2d (((q4.toUInt64 >>> ((32 : Int32) &&& 0x3f).toInt64.toUInt64).toInt64).toInt32)) := ⟨_, rfl⟩
  have my37_ : Mag64 1056 y37_ := by rw [hy37_]; exact i2d_mag _
  rw [← hy37_]
  show gO (tF T35 m 77 (la5 p0 q1 q2 q3 q4 x1 b2) [(.double y37_), (.int 3), (.ref b21), (.ref b21)])
  obtain ⟨cl38, Ar38, aq38, S38, N38, H38, G38⟩ := id V35
  have hin38 : ¬ ((3 : Int32) < 0 ∨ cl38.slots.size ≤ ((3 : Int32)).toNatClampNeg) := inb_of S38 ⟨by decide, by decide⟩
  obtain ⟨T39, h39, X39, e39, W39, st39⟩ := stD X35 hx hZ e35 Ar38 (j := (3 : Int32)) hin38 (g := (mkF m 77 (la5 p0 q1 q2 q3 q4 x1 b2) [(.double y37_), (.int 3), (.ref b21), (.ref b21)])) rfl rfl (hb hby at_77)
  refine gob st39 ?_
  have z40 : n0 ≤ h39.size := Nat.le_trans z36 (Keep.of_wr W39).1
  have N39 := Fr.snoc X39 N35 g23
  have V39 : Arv Z h39 b21 k21 .double (4 : Int32) [(.double y25_), (.double y29_), (.double y33_), (.double y37_)] (.double 0) := Arv.set Ar38 aq38 S38 N38 H38 G38 rfl W39 3 rfl (Nat.le_of_ble_eq_true rfl)
  show gO (tF T39 m 78 (la5 p0 q1 q2 q3 q4 x1 b2) [(.ref b21)])
  refine gob (fun _ k => XS.astore X39.here hx rfl (hb hby at_78) rfl rfl (l' := (la6 p0 q1 q2 q3 q4 x1 b2 b21)) rfl k) ?_
  show gO (tF T39 m 80 (la6 p0 q1 q2 q3 q4 x1 b2 b21) [])
  refine gob (fun _ k => XS.iconst X39.here hx rfl (hb hby at_80) k) ?_
  show gO (tF T39 m 81 (la6 p0 q1 q2 q3 q4 x1 b2 b21) [(.int 4)])
  obtain ⟨T41, h41, k41, X41, e41, E41, A41, st41⟩ := newP X39 hx hZ (hW hw 1 rfl) e39 (g := (mkF m 81 (la6 p0 q1 q2 q3 q4 x1 b2 b21) [(.int 4)])) rfl (hb hby at_81) rfl (by decide) (cap := 4) (by decide) (by decide) (by decide) (by decide)
  obtain ⟨b41, g41⟩ : ∃ z, z = h39.size := ⟨_, rfl⟩
  rw [← g41] at A41 st41
  have c42 := (((((V19.ext E21).other W27 n22).other W31 n22).other W35 n22).other W39 n22)
  have n43 : b2 ≠ b41 := Nat.ne_of_lt (Nat.lt_of_lt_of_le c42.lt (Nat.le_of_eq g41.symm))
  have n44 : b21 ≠ b41 := Nat.ne_of_lt (Nat.lt_of_lt_of_le V39.lt (Nat.le_of_eq g41.symm))
  have g45 : n0 ≤ b41 := Nat.le_trans z40 (Nat.le_of_eq g41.symm)
  have z46 : n0 ≤ h41.size := Nat.le_trans z40 E41.1
  have V41 : Arv Z h41 b41 k41 .int (4 : Int32) [(.int 0), (.int 0), (.int 0), (.int 0)] (.int 0) := (Arv.new A41 (by decide)).pad (pad_rep [] (.int 0) 4)
  refine gob st41 ?_
  replace X41 := castX X41 (rfl : _ = 3) (rfl : _ = 12)
  show gO (tF T41 m 83 (la6 p0 q1 q2 q3 q4 x1 b2 b21) [(.ref b41)])
  refine gob (fun _ k => XS.astore X41.here hx rfl (hb hby at_83) rfl rfl (l' := (la7 p0 q1 q2 q3 q4 x1 b2 b21 b41)) rfl k) ?_
  show gO (tF T41 m 85 (la7 p0 q1 q2 q3 q4 x1 b2 b21 b41) [])
  refine gob (fun _ k => XS.iconst X41.here hx rfl (hb hby at_85) k) ?_
  show gO (tF T41 m 86 (la7 p0 q1 q2 q3 q4 x1 b2 b21 b41) [(.int 0)])
  refine gob (fun _ k => XS.istore X41.here hx rfl (hb hby at_86) rfl (l' := (la8 p0 q1 q2 q3 q4 x1 b2 b21 b41 0)) rfl k) ?_
  show gO (tF T41 m 88 (la8 p0 q1 q2 q3 q4 x1 b2 b21 b41 0) [])
  refine gob (fun _ k => XS.iload X41.here hx rfl (hb hby at_88) rfl k) ?_
  show gO (tF T41 m 90 (la8 p0 q1 q2 q3 q4 x1 b2 b21 b41 0) [(.int x1)])
  refine gob (fun _ k => XS.iconst X41.here hx rfl (hb hby at_90) k) ?_
  show gO (tF T41 m 91 (la8 p0 q1 q2 q3 q4 x1 b2 b21 b41 0) [(.int 1), (.int x1)])
  refine gob (fun _ k => XS.iand X41.here hx rfl (hb hby at_91) rfl k) ?_
  show gO (tF T41 m 92 (la8 p0 q1 q2 q3 q4 x1 b2 b21 b41 0) [(.int (x1 &&& (1 : Int32)))])
  by_cases hc92_47 : (x1 &&& (1 : Int32)) = (0 : Int32)
  · skip
    refine gob (fun _ k => XS.ifYes X41.here hx rfl (pc0 := 92) (pc' := 104) rfl (hb hby at_92) rfl ((if0 _ _).trans (teq hc92_47).1) (by decide) (by decide) k) ?_
    show gO (tF T41 m 104 (la8 p0 q1 q2 q3 q4 x1 b2 b21 b41 0) [])
    refine gob (fun _ k => XS.iload X41.here hx rfl (hb hby at_104) rfl k) ?_
    show gO (tF T41 m 106 (la8 p0 q1 q2 q3 q4 x1 b2 b21 b41 0) [(.int x1)])
    refine gob (fun _ k => XS.iconst X41.here hx rfl (hb hby at_106) k) ?_
    show gO (tF T41 m 107 (la8 p0 q1 q2 q3 q4 x1 b2 b21 b41 0) [(.int 2), (.int x1)])
    refine gob (fun _ k => XS.iand X41.here hx rfl (hb hby at_107) rfl k) ?_
    show gO (tF T41 m 108 (la8 p0 q1 q2 q3 q4 x1 b2 b21 b41 0) [(.int (x1 &&& (2 : Int32)))])
    by_cases hc108_48 : (x1 &&& (2 : Int32)) = (0 : Int32)
    · skip
      refine gob (fun _ k => XS.ifYes X41.here hx rfl (pc0 := 108) (pc' := 120) rfl (hb hby at_108) rfl ((if0 _ _).trans (teq hc108_48).1) (by decide) (by decide) k) ?_
      show gO (tF T41 m 120 (la8 p0 q1 q2 q3 q4 x1 b2 b21 b41 0) [])
      refine gob (fun _ k => XS.iload X41.here hx rfl (hb hby at_120) rfl k) ?_
      show gO (tF T41 m 122 (la8 p0 q1 q2 q3 q4 x1 b2 b21 b41 0) [(.int x1)])
      refine gob (fun _ k => XS.iconst X41.here hx rfl (hb hby at_122) k) ?_
      show gO (tF T41 m 123 (la8 p0 q1 q2 q3 q4 x1 b2 b21 b41 0) [(.int 4), (.int x1)])
      refine gob (fun _ k => XS.iand X41.here hx rfl (hb hby at_123) rfl k) ?_
      show gO (tF T41 m 124 (la8 p0 q1 q2 q3 q4 x1 b2 b21 b41 0) [(.int (x1 &&& (4 : Int32)))])
      by_cases hc124_49 : (x1 &&& (4 : Int32)) = (0 : Int32)
      · skip
        refine gob (fun _ k => XS.ifYes X41.here hx rfl (pc0 := 124) (pc' := 136) rfl (hb hby at_124) rfl ((if0 _ _).trans (teq hc124_49).1) (by decide) (by decide) k) ?_
        show gO (tF T41 m 136 (la8 p0 q1 q2 q3 q4 x1 b2 b21 b41 0) [])
        refine gob (fun _ k => XS.iload X41.here hx rfl (hb hby at_136) rfl k) ?_
        show gO (tF T41 m 138 (la8 p0 q1 q2 q3 q4 x1 b2 b21 b41 0) [(.int x1)])
        refine gob (fun _ k => XS.bipush X41.here hx rfl (hb hby at_138) k) ?_
        show gO (tF T41 m 140 (la8 p0 q1 q2 q3 q4 x1 b2 b21 b41 0) [(.int 8), (.int x1)])
        refine gob (fun _ k => XS.iand X41.here hx rfl (hb hby at_140) rfl k) ?_
        show gO (tF T41 m 141 (la8 p0 q1 q2 q3 q4 x1 b2 b21 b41 0) [(.int (x1 &&& (8 : Int32)))])
        by_cases hc141_50 : (x1 &&& (8 : Int32)) = (0 : Int32)
        · skip
          refine gob (fun _ k => XS.ifYes X41.here hx rfl (pc0 := 141) (pc' := 153) rfl (hb hby at_141) rfl ((if0 _ _).trans (teq hc141_50).1) (by decide) (by decide) k) ?_
          show gO (tF T41 m 153 (la8 p0 q1 q2 q3 q4 x1 b2 b21 b41 0) [])
          refine gob (fun _ k => XS.aload X41.here hx rfl (hb hby at_153) rfl rfl k) ?_
          show gO (tF T41 m 155 (la8 p0 q1 q2 q3 q4 x1 b2 b21 b41 0) [(.ref b41)])
          refine gob (fun _ k => XS.iload X41.here hx rfl (hb hby at_155) rfl k) ?_
          show gO (tF T41 m 157 (la8 p0 q1 q2 q3 q4 x1 b2 b21 b41 0) [(.int 0), (.ref b41)])
          obtain ⟨_, _, ⟨T51, L51, k51, n51⟩, -, X51, ⟨Lc51, hQ51, l51, y51, z51⟩, st51⟩ := Jvm.LawKit.callS X41 hx (y := (⟨"com/example/fenda/fenda/analysis/CombinationOfPinLaw", "prefixInt", "([II)[I"⟩ : MethodName)) hown (mvT hZ (hW hw 2 rfl)) (mvT hZ (hW hw 3 rfl)) (mvT hZ (hW hw 4 rfl)) (mvT hZ (hW hw 5 rfl)) (by decide) (backOf (W := 0) (rmpi0 l Z a0 hw [] b41 k41 (0 : Int32) (0 : Int32) (0 : Int32) (0 : Int32) h41 n0 z46 V41) hZ (hW hw 5 rfl) (hW hw 4 rfl) (by decide) (by decide)) (g := (mkF m 157 (la8 p0 q1 q2 q3 q4 x1 b2 b21 b41 0) [(.int 0), (.ref b41)])) rfl (by rw [hml]; rfl) (argsL := [(.ref b41), (.int 0)]) (rest := []) (lenOf pd_1 rfl) rfl (by show 2 * 0 + _ ≤ _; exact Nat.le_of_eq rfl) (hb hby at_157) (fun _ _ => ⟨rfl, e41, (by decide : 3 + 1 ≤ _), (by decide : 12 + 0 ≤ _)⟩)
          dsimp only [Pt.U, Pt.locs, Pt.cells, Pt.slots] at X51 l51 y51 z51 st51 hQ51
          replace X51 := castX X51 (y51.trans (rfl : _ = 4)) (z51.trans (rfl : _ = 12))
          obtain ⟨b52, k53, rfl, Nq51, K51, hz54, F55⟩ := hQ51
          have N51 : Fr n0 L51 := l51 ▸ Fr.app N39 Nq51
          have c57 := (c42.ext E41)
          have n56 : b2 ≠ b52 := Nat.ne_of_lt (Nat.lt_of_lt_of_le c57.lt hz54)
          have c59 := (V39.ext E41)
          have n58 : b21 ≠ b52 := Nat.ne_of_lt (Nat.lt_of_lt_of_le c59.lt hz54)
          have n60 : b41 ≠ b52 := Nat.ne_of_lt (Nat.lt_of_lt_of_le V41.lt hz54)
          have g61 : n0 ≤ b52 := Nat.le_trans z46 hz54
          have z62 : n0 ≤ T51.heap.size := Nat.le_trans z46 K51.1
          refine gob st51 ?_
          show gO (tF T51 m 160 (la8 p0 q1 q2 q3 q4 x1 b2 b21 b41 0) [(.ref b52)])
          refine gob (fun _ k => XS.astore X51.here hx rfl (hb hby at_160) rfl rfl (l' := (la9 p0 q1 q2 q3 q4 x1 b2 b21 b41 0 b52)) rfl k) ?_
          show gO (tF T51 m 162 (la9 p0 q1 q2 q3 q4 x1 b2 b21 b41 0 b52) [])
          refine gob (fun _ k => XS.aload X51.here hx rfl (hb hby at_162) rfl rfl k) ?_
          show gO (tF T51 m 164 (la9 p0 q1 q2 q3 q4 x1 b2 b21 b41 0 b52) [(.ref b21)])
          refine gob (fun _ k => XS.iload X51.here hx rfl (hb hby at_164) rfl k) ?_
          show gO (tF T51 m 166 (la9 p0 q1 q2 q3 q4 x1 b2 b21 b41 0 b52) [(.int 0), (.ref b21)])
          have c64 := (c59.keep K51 nin0)
          obtain ⟨_, _, ⟨T63, L63, k63, n63⟩, -, X63, ⟨Lc63, hQ63, l63, y63, z63⟩, st63⟩ := Jvm.LawKit.callS X51 hx (y := (⟨"com/example/fenda/fenda/analysis/CombinationOfPinLaw", "prefixDouble", "([DI)[D"⟩ : MethodName)) hown (mvT hZ (hW hw 6 rfl)) (mvT hZ (hW hw 7 rfl)) (mvT hZ (hW hw 4 rfl)) (mvT hZ (hW hw 8 rfl)) (by decide) (backOf (W := 0) (rmpd0 l Z a0 hw [] b21 k21 y25_ y29_ y33_ y37_ T51.heap n0 z62 c64) hZ (hW hw 8 rfl) (hW hw 4 rfl) (by decide) (by decide)) (g := (mkF m 166 (la9 p0 q1 q2 q3 q4 x1 b2 b21 b41 0 b52) [(.int 0), (.ref b21)])) rfl (by rw [hml]; rfl) (argsL := [(.ref b21), (.int 0)]) (rest := []) (lenOf pd_2 rfl) rfl (by show 2 * 0 + _ ≤ _; exact Nat.le_of_eq rfl) (hb hby at_166) (fun _ _ => ⟨rfl, (rfl : T51.heap = _), (by decide : 4 + 1 ≤ _), (by decide : 12 + 0 ≤ _)⟩)
          dsimp only [Pt.U, Pt.locs, Pt.cells, Pt.slots] at X63 l63 y63 z63 st63 hQ63
          replace X63 := castX X63 (y63.trans (rfl : _ = 5)) (z63.trans (rfl : _ = 12))
          obtain ⟨b65, k66, rfl, Nq63, K63, hz67, F68⟩ := hQ63
          have N63 : Fr n0 L63 := l63 ▸ Fr.app N51 Nq63
          have c70 := (c57.keep K51 nin0)
          have n69 : b2 ≠ b65 := Nat.ne_of_lt (Nat.lt_of_lt_of_le c70.lt hz67)
          have n71 : b21 ≠ b65 := Nat.ne_of_lt (Nat.lt_of_lt_of_le c64.lt hz67)
          have c73 := (V41.keep K51 nin0)
          have n72 : b41 ≠ b65 := Nat.ne_of_lt (Nat.lt_of_lt_of_le c73.lt hz67)
          have n74 : b52 ≠ b65 := Nat.ne_of_lt (Nat.lt_of_lt_of_le F55.lt hz67)
          have g75 : n0 ≤ b65 := Nat.le_trans z62 hz67
          have z76 : n0 ≤ T63.heap.size := Nat.le_trans z62 K63.1
          refine gob st63 ?_
          show gO (tF T63 m 169 (la9 p0 q1 q2 q3 q4 x1 b2 b21 b41 0 b52) [(.ref b65)])
          refine gob (fun _ k => XS.astore X63.here hx rfl (hb hby at_169) rfl rfl (l' := (la10 p0 q1 q2 q3 q4 x1 b2 b21 b41 0 b52 b65)) rfl k) ?_
          show gO (tF T63 m 171 (la10 p0 q1 q2 q3 q4 x1 b2 b21 b41 0 b52 b65) [])
          refine gob (fun _ k => XS.dconst0 X63.here hx rfl (hb hby at_171) (v := (0 : UInt64)) (by decide +kernel) k) ?_
          show gO (tF T63 m 172 (la10 p0 q1 q2 q3 q4 x1 b2 b21 b41 0 b52 b65) [(.double (0 : UInt64))])
          refine gob (fun _ k => XS.dstore X63.here hx rfl (hb hby at_172) rfl (l' := (la11 p0 q1 q2 q3 q4 x1 b2 b21 b41 0 b52 b65 (0 : UInt64))) rfl k) ?_
          show gO (tF T63 m 174 (la11 p0 q1 q2 q3 q4 x1 b2 b21 b41 0 b52 b65 (0 : UInt64)) [])
          refine gob (fun _ k => XS.iload X63.here hx rfl (hb hby at_174) rfl k) ?_
          show gO (tF T63 m 176 (la11 p0 q1 q2 q3 q4 x1 b2 b21 b41 0 b52 b65 (0 : UInt64)) [(.int 0)])
          refine gob (fun _ k => XS.ifYes X63.here hx rfl (pc0 := 176) (pc' := 196) rfl (hb hby at_176) rfl ((if0 _ _).trans (flt (by decide : ¬ ((0 : Int32) < (0 : Int32)))).2.2.2) (by decide) (by decide) k) ?_
          show gO (tF T63 m 196 (la11 p0 q1 q2 q3 q4 x1 b2 b21 b41 0 b52 b65 (0 : UInt64)) [])
          refine gob (fun _ k => XS.iload X63.here hx rfl (hb hby at_196) rfl k) ?_
          show gO (tF T63 m 198 (la11 p0 q1 q2 q3 q4 x1 b2 b21 b41 0 b52 b65 (0 : UInt64)) [(.int 0)])
          refine gob (fun _ k => XS.iconst X63.here hx rfl (hb hby at_198) k) ?_
          show gO (tF T63 m 199 (la11 p0 q1 q2 q3 q4 x1 b2 b21 b41 0 b52 b65 (0 : UInt64)) [(.int 1), (.int 0)])
          refine gob (fun _ k => XS.icmpYes X63.here hx rfl (pc0 := 199) (pc' := 219) rfl (hb hby at_199) rfl (flt (by decide : ¬ ((1 : Int32) < (0 : Int32)))).2.2.2 (by decide) (by decide) k) ?_
          show gO (tF T63 m 219 (la11 p0 q1 q2 q3 q4 x1 b2 b21 b41 0 b52 b65 (0 : UInt64)) [])
          refine gob (fun _ k => XS.iload X63.here hx rfl (hb hby at_219) rfl k) ?_
          show gO (tF T63 m 221 (la11 p0 q1 q2 q3 q4 x1 b2 b21 b41 0 b52 b65 (0 : UInt64)) [(.int 0)])
          refine gob (fun _ k => XS.iconst X63.here hx rfl (hb hby at_221) k) ?_
          show gO (tF T63 m 222 (la11 p0 q1 q2 q3 q4 x1 b2 b21 b41 0 b52 b65 (0 : UInt64)) [(.int 2), (.int 0)])
          refine gob (fun _ k => XS.icmpYes X63.here hx rfl (pc0 := 222) (pc' := 242) rfl (hb hby at_222) rfl (flt (by decide : ¬ ((2 : Int32) < (0 : Int32)))).2.2.2 (by decide) (by decide) k) ?_
          show gO (tF T63 m 242 (la11 p0 q1 q2 q3 q4 x1 b2 b21 b41 0 b52 b65 (0 : UInt64)) [])
          refine gob (fun _ k => XS.iload X63.here hx rfl (hb hby at_242) rfl k) ?_
          show gO (tF T63 m 244 (la11 p0 q1 q2 q3 q4 x1 b2 b21 b41 0 b52 b65 (0 : UInt64)) [(.int 0)])
          refine gob (fun _ k => XS.iconst X63.here hx rfl (hb hby at_244) k) ?_
          show gO (tF T63 m 245 (la11 p0 q1 q2 q3 q4 x1 b2 b21 b41 0 b52 b65 (0 : UInt64)) [(.int 3), (.int 0)])
          refine gob (fun _ k => XS.icmpYes X63.here hx rfl (pc0 := 245) (pc' := 265) rfl (hb hby at_245) rfl (flt (by decide : ¬ ((3 : Int32) < (0 : Int32)))).2.2.2 (by decide) (by decide) k) ?_
          show gO (tF T63 m 265 (la11 p0 q1 q2 q3 q4 x1 b2 b21 b41 0 b52 b65 (0 : UInt64)) [])
          obtain ⟨T77, h77, X77, e77, E77, A77, D77, -, st77⟩ := newO X63 hx hZ hown (hW hw 9 rfl) (hW hw 10 rfl) (hW hw 11 rfl) (rfl : T63.heap = _) (g := (mkF m 265 (la11 p0 q1 q2 q3 q4 x1 b2 b21 b41 0 b52 b65 (0 : UInt64)) [])) rfl (hb hby at_265) (by decide) (by decide)
          obtain ⟨b77, g77⟩ : ∃ z, z = T63.heap.size := ⟨_, rfl⟩
          rw [← g77] at A77 D77 st77
          have c78 := (c70.keep K63 nin0)
          have n79 : b2 ≠ b77 := Nat.ne_of_lt (Nat.lt_of_lt_of_le c78.lt (Nat.le_of_eq g77.symm))
          have c80 := (c64.keep K63 nin0)
          have n81 : b21 ≠ b77 := Nat.ne_of_lt (Nat.lt_of_lt_of_le c80.lt (Nat.le_of_eq g77.symm))
          have c82 := (c73.keep K63 nin0)
          have n83 : b41 ≠ b77 := Nat.ne_of_lt (Nat.lt_of_lt_of_le c82.lt (Nat.le_of_eq g77.symm))
          have c84 := (F55.keep K63 nin0)
          have n85 : b52 ≠ b77 := Nat.ne_of_lt (Nat.lt_of_lt_of_le c84.lt (Nat.le_of_eq g77.symm))
          have n86 : b65 ≠ b77 := Nat.ne_of_lt (Nat.lt_of_lt_of_le F68.lt (Nat.le_of_eq g77.symm))
          have g87 : n0 ≤ b77 := Nat.le_trans z76 (Nat.le_of_eq g77.symm)
          have z88 : n0 ≤ h77.size := Nat.le_trans z76 E77.1
          have F77_dofs : Fld Z h77 b77 "com/example/fenda/fenda/analysis/Combination" "dofs" "[I" .null := D77 (Or.inr (hW hw 24 rfl)) (ty := (.array .int)) (by decide)
          have F77_weights : Fld Z h77 b77 "com/example/fenda/fenda/analysis/Combination" "weights" "[D" .null := D77 (Or.inr (hW hw 26 rfl)) (ty := (.array .double)) (by decide)
          refine gob st77 ?_
          replace X77 := castX X77 (rfl : _ = 6) (rfl : _ = 14)
          show gO (tF T77 m 268 (la11 p0 q1 q2 q3 q4 x1 b2 b21 b41 0 b52 b65 (0 : UInt64)) [(.ref b77)])
          refine gob (fun _ k => XS.dup X77.here hx rfl (hb hby at_268) rfl rfl k) ?_
          show gO (tF T77 m 269 (la11 p0 q1 q2 q3 q4 x1 b2 b21 b41 0 b52 b65 (0 : UInt64)) [(.ref b77), (.ref b77)])
          refine gob (fun _ k => XS.aload X77.here hx rfl (hb hby at_269) rfl rfl k) ?_
          show gO (tF T77 m 271 (la11 p0 q1 q2 q3 q4 x1 b2 b21 b41 0 b52 b65 (0 : UInt64)) [(.ref b52), (.ref b77), (.ref b77)])
          refine gob (fun _ k => XS.aload X77.here hx rfl (hb hby at_271) rfl rfl k) ?_
          show gO (tF T77 m 273 (la11 p0 q1 q2 q3 q4 x1 b2 b21 b41 0 b52 b65 (0 : UInt64)) [(.ref b65), (.ref b52), (.ref b77), (.ref b77)])
          obtain ⟨_, _, ⟨T89, L89, k89, n89⟩, -, X89, ⟨Lc89, hQ89, l89, y89, z89⟩, st89⟩ := X77.specialBack hx (y := (⟨"com/example/fenda/fenda/analysis/Combination", "<init>", "([I[D)V"⟩ : MethodName)) rfl hown (mvT hZ (hW hw 12 rfl)) (mvT hZ (hW hw 13 rfl)) (mvT hZ (hW hw 14 rfl)) (by decide) (backOf (W := 1) (rm3 l Z a0 hw [] b77 b52 b65 h77 n0 z88 A77 F77_dofs g87 F77_weights) hZ (hW hw 14 rfl) (hW hw 11 rfl) (by decide) (by decide)) (g := (mkF m 273 (la11 p0 q1 q2 q3 q4 x1 b2 b21 b41 0 b52 b65 (0 : UInt64)) [(.ref b65), (.ref b52), (.ref b77), (.ref b77)])) rfl (by rw [hml]; rfl) (Steps.refl _) (a := b77) (argsL := [(.ref b52), (.ref b65)]) (rest := [(.ref b77)]) (lenOf pd_3 rfl) rfl (by show 2 * 0 + _ ≤ _; exact Nat.le_of_eq rfl) (hb hby at_273) (fun _ _ => ⟨rfl, e77, (by decide : 6 + 0 ≤ _), (by decide : 14 + 0 ≤ _)⟩)
          dsimp only [Pt.U, Pt.locs, Pt.cells, Pt.slots] at X89 l89 y89 z89 st89 hQ89
          replace X89 := castX X89 (y89.trans (rfl : _ = 6)) (z89.trans (rfl : _ = 14))
          obtain ⟨rfl, Nq89, K89, F90, F91⟩ := hQ89
          have N89 : Fr n0 L89 := l89 ▸ Fr.app N63 Nq89
          have z92 : n0 ≤ T89.heap.size := Nat.le_trans z88 K89.1
          refine gob (fun _ k => st89.trans k) ?_
          show gO (tF T89 m 276 (la11 p0 q1 q2 q3 q4 x1 b2 b21 b41 0 b52 b65 (0 : UInt64)) [(.ref b77)])
          refine gob (fun _ k => XS.astore X89.here hx rfl (hb hby at_276) rfl rfl (l' := (la12 p0 q1 q2 q3 q4 x1 b2 b21 b41 0 b52 b65 (0 : UInt64) b77)) rfl k) ?_
          show gO (tF T89 m 278 (la12 p0 q1 q2 q3 q4 x1 b2 b21 b41 0 b52 b65 (0 : UInt64) b77) [])
          refine gob (fun _ k => XS.aload X89.here hx rfl (hb hby at_278) rfl rfl k) ?_
          show gO (tF T89 m 280 (la12 p0 q1 q2 q3 q4 x1 b2 b21 b41 0 b52 b65 (0 : UInt64) b77) [(.ref b77)])
          refine gob (fun _ k => XS.aload X89.here hx rfl (hb hby at_280) rfl rfl k) ?_
          show gO (tF T89 m 282 (la12 p0 q1 q2 q3 q4 x1 b2 b21 b41 0 b52 b65 (0 : UInt64) b77) [(.ref b2), (.ref b77)])
          have c94 := ((c84.ext E77).keep K89 (ninS n85 nin0))
          have c95 := ((F68.ext E77).keep K89 (ninS n86 nin0))
          have c96 := ((c78.ext E77).keep K89 (ninS n79 nin0))
          have c97 := (A77.keep K89)
          obtain ⟨cq93, kq93, q93a, q93b, q93c⟩ := isOf hZ (rfl : T89.heap = _) c97
          obtain ⟨_, _, ⟨T93, L93, k93, n93⟩, -, X93, ⟨Lc93, hQ93, l93, y93, z93⟩, st93⟩ := X89.virtualBack hx (y := (⟨"com/example/fenda/fenda/analysis/Combination", "of", "([D)D"⟩ : MethodName)) (z := (⟨"com/example/fenda/fenda/analysis/Combination", "of", "([D)D"⟩ : MethodName)) hown (mvT hZ (hW hw 27 rfl)) (mvT hZ (hW hw 28 rfl)) (notFace_of_selects (args := #[]) (mvT hZ (hW hw 30 rfl))) (mvT hZ (hW hw 30 rfl)) (mvT hZ (hW hw 29 rfl)) (by decide) (backOf (W := 0) (rmof_ l Z a0 hw [] b77 b2 b52 b65 k53 k66 k2 y5_ y9_ y13_ y17_ T89.heap n0 z92 F90 F91 c94 c95 my5_ my9_ my13_ my17_ c96) hZ (hW hw 31 rfl) (hW hw 11 rfl) (by decide) (by decide)) q93a q93c (g := (mkF m 282 (la12 p0 q1 q2 q3 q4 x1 b2 b21 b41 0 b52 b65 (0 : UInt64) b77) [(.ref b2), (.ref b77)])) rfl (by rw [hml]; rfl) (Steps.refl _) (argsL := [(.ref b2)]) (rest := []) (lenOf pd_4 rfl) rfl (by show 2 * 0 + _ ≤ _; exact Nat.le_of_eq rfl) (hb hby at_282) (fun _ _ => ⟨rfl, (rfl : T89.heap = _), (by decide : 6 + 0 ≤ _), (by decide : 14 + 0 ≤ _)⟩)
          dsimp only [Pt.U, Pt.locs, Pt.cells, Pt.slots] at X93 l93 y93 z93 st93 hQ93
          replace X93 := castX X93 (y93.trans (rfl : _ = 6)) (z93.trans (rfl : _ = 14))
          obtain ⟨r93, rfl, hr93, Nq93, e93⟩ := hQ93
          have N93 : Fr n0 L93 := l93 ▸ Fr.app N89 Nq93
          refine gob (fun _ k => st93.trans k) ?_
          show gO (tF T93 m 285 (la12 p0 q1 q2 q3 q4 x1 b2 b21 b41 0 b52 b65 (0 : UInt64) b77) [(.double r93)])
          refine gob (fun _ k => XS.dstore X93.here hx rfl (hb hby at_285) rfl (l' := (la13 p0 q1 q2 q3 q4 x1 b2 b21 b41 0 b52 b65 (0 : UInt64) b77 r93)) rfl k) ?_
          show gO (tF T93 m 287 (la13 p0 q1 q2 q3 q4 x1 b2 b21 b41 0 b52 b65 (0 : UInt64) b77 r93) [])
          refine gob (fun _ k => XS.dload X93.here hx rfl (hb hby at_287) rfl k) ?_
          show gO (tF T93 m 289 (la13 p0 q1 q2 q3 q4 x1 b2 b21 b41 0 b52 b65 (0 : UInt64) b77 r93) [(.double r93)])
          refine gob (fun _ k => XS.dload X93.here hx rfl (hb hby at_289) rfl k) ?_
          show gO (tF T93 m 291 (la13 p0 q1 q2 q3 q4 x1 b2 b21 b41 0 b52 b65 (0 : UInt64) b77 r93) [(.double (0 : UInt64)), (.double r93)])
          refine gob (fun _ k => XS.dcmpS X93.here hx rfl (hb hby at_291) rfl (v := (0 : Int32)) (dcmpV_eq hr93 (by rw [hr93]; exact (own_m0.fin (by decide)).noNaN) .l) k) ?_
          show gO (tF T93 m 292 (la13 p0 q1 q2 q3 q4 x1 b2 b21 b41 0 b52 b65 (0 : UInt64) b77 r93) [(.int 0)])
          refine gob (fun _ k => XS.ifNo X93.here hx rfl (hb hby at_292) rfl ((if0 _ _).trans (teq (by decide : (0 : Int32) = (0 : Int32))).2) k) ?_
          show gO (tF T93 m 295 (la13 p0 q1 q2 q3 q4 x1 b2 b21 b41 0 b52 b65 (0 : UInt64) b77 r93) [])
          refine gob (fun _ k => XS.iconst X93.here hx rfl (hb hby at_295) k) ?_
          show gO (tF T93 m 296 (la13 p0 q1 q2 q3 q4 x1 b2 b21 b41 0 b52 b65 (0 : UInt64) b77 r93) [(.int 1)])
          refine gob (fun _ k => XS.goto X93.here hx rfl (pc0 := 296) (pc' := 300) rfl (hb hby at_296) (by decide) (by decide) k) ?_
          show gO (tF T93 m 300 (la13 p0 q1 q2 q3 q4 x1 b2 b21 b41 0 b52 b65 (0 : UInt64) b77 r93) [(.int 1)])
          refine goZ X93 hx hlk (t := .boolean) Bd.returns (by simp) (hb hby at_300) (z' := (1 : Int32)) rfl ?_ (by decide) (by decide)
          show Q0 Z p0 q1 q2 q3 q4 h0 n0 (some (.int (1 : Int32))) T93.heap _
          exact ⟨rfl, N93⟩
        · skip
          refine gob (fun _ k => XS.ifNo X41.here hx rfl (hb hby at_141) rfl ((if0 _ _).trans (feq hc141_50).1) k) ?_
          show gO (tF T41 m 144 (la8 p0 q1 q2 q3 q4 x1 b2 b21 b41 0) [])
          refine gob (fun _ k => XS.aload X41.here hx rfl (hb hby at_144) rfl rfl k) ?_
          show gO (tF T41 m 146 (la8 p0 q1 q2 q3 q4 x1 b2 b21 b41 0) [(.ref b41)])
          refine gob (fun _ k => XS.iload X41.here hx rfl (hb hby at_146) rfl k) ?_
          show gO (tF T41 m 148 (la8 p0 q1 q2 q3 q4 x1 b2 b21 b41 0) [(.int 0), (.ref b41)])
          refine gob (fun _ k => XS.iconst X41.here hx rfl (hb hby at_148) k) ?_
          show gO (tF T41 m 149 (la8 p0 q1 q2 q3 q4 x1 b2 b21 b41 0) [(.int 3), (.int 0), (.ref b41)])
          obtain ⟨cl98, Ar98, aq98, S98, N98, H98, G98⟩ := id V41
          have hin98 : ¬ ((0 : Int32) < 0 ∨ cl98.slots.size ≤ ((0 : Int32)).toNatClampNeg) := inb_of S98 ⟨by decide, by decide⟩
          obtain ⟨T99, h99, X99, e99, W99, st99⟩ := stI X41 hx hZ e41 Ar98 (j := (0 : Int32)) hin98 (g := (mkF m 149 (la8 p0 q1 q2 q3 q4 x1 b2 b21 b41 0) [(.int 3), (.int 0), (.ref b41)])) rfl rfl (hb hby at_149)
          refine gob st99 ?_
          have z100 : n0 ≤ h99.size := Nat.le_trans z46 (Keep.of_wr W99).1
          have N99 := Fr.snoc X99 N39 g45
          have V99 : Arv Z h99 b41 k41 .int (4 : Int32) [(.int 3), (.int 0), (.int 0), (.int 0)] (.int 0) := Arv.set Ar98 aq98 S98 N98 H98 G98 rfl W99 0 rfl (Nat.le_of_ble_eq_true rfl)
          show gO (tF T99 m 150 (la8 p0 q1 q2 q3 q4 x1 b2 b21 b41 0) [])
          refine gob (fun _ k => XS.iinc X99.here hx rfl (hb hby at_150) rfl (l' := (la8 p0 q1 q2 q3 q4 x1 b2 b21 b41 1)) rfl k) ?_
          show gO (tF T99 m 153 (la8 p0 q1 q2 q3 q4 x1 b2 b21 b41 1) [])
          refine gob (fun _ k => XS.aload X99.here hx rfl (hb hby at_153) rfl rfl k) ?_
          show gO (tF T99 m 155 (la8 p0 q1 q2 q3 q4 x1 b2 b21 b41 1) [(.ref b41)])
          refine gob (fun _ k => XS.iload X99.here hx rfl (hb hby at_155) rfl k) ?_
          show gO (tF T99 m 157 (la8 p0 q1 q2 q3 q4 x1 b2 b21 b41 1) [(.int 1), (.ref b41)])
          obtain ⟨_, _, ⟨T101, L101, k101, n101⟩, -, X101, ⟨Lc101, hQ101, l101, y101, z101⟩, st101⟩ := Jvm.LawKit.callS X99 hx (y := (⟨"com/example/fenda/fenda/analysis/CombinationOfPinLaw", "prefixInt", "([II)[I"⟩ : MethodName)) hown (mvT hZ (hW hw 2 rfl)) (mvT hZ (hW hw 3 rfl)) (mvT hZ (hW hw 4 rfl)) (mvT hZ (hW hw 5 rfl)) (by decide) (backOf (W := 0) (rmpi1 l Z a0 hw [] b41 k41 (3 : Int32) (0 : Int32) (0 : Int32) (0 : Int32) h99 n0 z100 V99) hZ (hW hw 5 rfl) (hW hw 4 rfl) (by decide) (by decide)) (g := (mkF m 157 (la8 p0 q1 q2 q3 q4 x1 b2 b21 b41 1) [(.int 1), (.ref b41)])) rfl (by rw [hml]; rfl) (argsL := [(.ref b41), (.int 1)]) (rest := []) (lenOf pd_1 rfl) rfl (by show 2 * 0 + _ ≤ _; exact Nat.le_of_eq rfl) (hb hby at_157) (fun _ _ => ⟨rfl, e99, (by decide : 3 + 1 ≤ _), (by decide : 12 + 1 ≤ _)⟩)
          dsimp only [Pt.U, Pt.locs, Pt.cells, Pt.slots] at X101 l101 y101 z101 st101 hQ101
          replace X101 := castX X101 (y101.trans (rfl : _ = 4)) (z101.trans (rfl : _ = 13))
          obtain ⟨b102, k103, rfl, Nq101, K101, hz104, F105⟩ := hQ101
          have N101 : Fr n0 L101 := l101 ▸ Fr.app N99 Nq101
          have c107 := ((c42.ext E41).other W99 n43)
          have n106 : b2 ≠ b102 := Nat.ne_of_lt (Nat.lt_of_lt_of_le c107.lt hz104)
          have c109 := ((V39.ext E41).other W99 n44)
          have n108 : b21 ≠ b102 := Nat.ne_of_lt (Nat.lt_of_lt_of_le c109.lt hz104)
          have n110 : b41 ≠ b102 := Nat.ne_of_lt (Nat.lt_of_lt_of_le V99.lt hz104)
          have g111 : n0 ≤ b102 := Nat.le_trans z100 hz104
          have z112 : n0 ≤ T101.heap.size := Nat.le_trans z100 K101.1
          refine gob st101 ?_
          show gO (tF T101 m 160 (la8 p0 q1 q2 q3 q4 x1 b2 b21 b41 1) [(.ref b102)])
          refine gob (fun _ k => XS.astore X101.here hx rfl (hb hby at_160) rfl rfl (l' := (la9 p0 q1 q2 q3 q4 x1 b2 b21 b41 1 b102)) rfl k) ?_
          show gO (tF T101 m 162 (la9 p0 q1 q2 q3 q4 x1 b2 b21 b41 1 b102) [])
          refine gob (fun _ k => XS.aload X101.here hx rfl (hb hby at_162) rfl rfl k) ?_
          show gO (tF T101 m 164 (la9 p0 q1 q2 q3 q4 x1 b2 b21 b41 1 b102) [(.ref b21)])
          refine gob (fun _ k => XS.iload X101.here hx rfl (hb hby at_164) rfl k) ?_
          show gO (tF T101 m 166 (la9 p0 q1 q2 q3 q4 x1 b2 b21 b41 1 b102) [(.int 1), (.ref b21)])
          have c114 := (c109.keep K101 nin0)
          obtain ⟨_, _, ⟨T113, L113, k113, n113⟩, -, X113, ⟨Lc113, hQ113, l113, y113, z113⟩, st113⟩ := Jvm.LawKit.callS X101 hx (y := (⟨"com/example/fenda/fenda/analysis/CombinationOfPinLaw", "prefixDouble", "([DI)[D"⟩ : MethodName)) hown (mvT hZ (hW hw 6 rfl)) (mvT hZ (hW hw 7 rfl)) (mvT hZ (hW hw 4 rfl)) (mvT hZ (hW hw 8 rfl)) (by decide) (backOf (W := 0) (rmpd1 l Z a0 hw [] b21 k21 y25_ y29_ y33_ y37_ T101.heap n0 z112 c114) hZ (hW hw 8 rfl) (hW hw 4 rfl) (by decide) (by decide)) (g := (mkF m 166 (la9 p0 q1 q2 q3 q4 x1 b2 b21 b41 1 b102) [(.int 1), (.ref b21)])) rfl (by rw [hml]; rfl) (argsL := [(.ref b21), (.int 1)]) (rest := []) (lenOf pd_2 rfl) rfl (by show 2 * 0 + _ ≤ _; exact Nat.le_of_eq rfl) (hb hby at_166) (fun _ _ => ⟨rfl, (rfl : T101.heap = _), (by decide : 4 + 1 ≤ _), (by decide : 13 + 1 ≤ _)⟩)
          dsimp only [Pt.U, Pt.locs, Pt.cells, Pt.slots] at X113 l113 y113 z113 st113 hQ113
          replace X113 := castX X113 (y113.trans (rfl : _ = 5)) (z113.trans (rfl : _ = 14))
          obtain ⟨b115, k116, rfl, Nq113, K113, hz117, F118⟩ := hQ113
          have N113 : Fr n0 L113 := l113 ▸ Fr.app N101 Nq113
          have c120 := (c107.keep K101 nin0)
          have n119 : b2 ≠ b115 := Nat.ne_of_lt (Nat.lt_of_lt_of_le c120.lt hz117)
          have n121 : b21 ≠ b115 := Nat.ne_of_lt (Nat.lt_of_lt_of_le c114.lt hz117)
          have c123 := (V99.keep K101 nin0)
          have n122 : b41 ≠ b115 := Nat.ne_of_lt (Nat.lt_of_lt_of_le c123.lt hz117)
          have n124 : b102 ≠ b115 := Nat.ne_of_lt (Nat.lt_of_lt_of_le F105.lt hz117)
          have g125 : n0 ≤ b115 := Nat.le_trans z112 hz117
          have z126 : n0 ≤ T113.heap.size := Nat.le_trans z112 K113.1
          refine gob st113 ?_
          show gO (tF T113 m 169 (la9 p0 q1 q2 q3 q4 x1 b2 b21 b41 1 b102) [(.ref b115)])
          refine gob (fun _ k => XS.astore X113.here hx rfl (hb hby at_169) rfl rfl (l' := (la10 p0 q1 q2 q3 q4 x1 b2 b21 b41 1 b102 b115)) rfl k) ?_
          show gO (tF T113 m 171 (la10 p0 q1 q2 q3 q4 x1 b2 b21 b41 1 b102 b115) [])
          refine gob (fun _ k => XS.dconst0 X113.here hx rfl (hb hby at_171) (v := (0 : UInt64)) (by decide +kernel) k) ?_
          show gO (tF T113 m 172 (la10 p0 q1 q2 q3 q4 x1 b2 b21 b41 1 b102 b115) [(.double (0 : UInt64))])
          refine gob (fun _ k => XS.dstore X113.here hx rfl (hb hby at_172) rfl (l' := (la11 p0 q1 q2 q3 q4 x1 b2 b21 b41 1 b102 b115 (0 : UInt64))) rfl k) ?_
          show gO (tF T113 m 174 (la11 p0 q1 q2 q3 q4 x1 b2 b21 b41 1 b102 b115 (0 : UInt64)) [])
          refine gob (fun _ k => XS.iload X113.here hx rfl (hb hby at_174) rfl k) ?_
          show gO (tF T113 m 176 (la11 p0 q1 q2 q3 q4 x1 b2 b21 b41 1 b102 b115 (0 : UInt64)) [(.int 1)])
          refine gob (fun _ k => XS.ifNo X113.here hx rfl (hb hby at_176) rfl ((if0 _ _).trans (tlt (by decide : (0 : Int32) < (1 : Int32))).2.2.2) k) ?_
          show gO (tF T113 m 179 (la11 p0 q1 q2 q3 q4 x1 b2 b21 b41 1 b102 b115 (0 : UInt64)) [])
          refine gob (fun _ k => XS.dload X113.here hx rfl (hb hby at_179) rfl k) ?_
          show gO (tF T113 m 181 (la11 p0 q1 q2 q3 q4 x1 b2 b21 b41 1 b102 b115 (0 : UInt64)) [(.double (0 : UInt64))])
          refine gob (fun _ k => XS.aload X113.here hx rfl (hb hby at_181) rfl rfl k) ?_
          show gO (tF T113 m 183 (la11 p0 q1 q2 q3 q4 x1 b2 b21 b41 1 b102 b115 (0 : UInt64)) [(.ref b21), (.double (0 : UInt64))])
          refine gob (fun _ k => XS.iconst X113.here hx rfl (hb hby at_183) k) ?_
          show gO (tF T113 m 184 (la11 p0 q1 q2 q3 q4 x1 b2 b21 b41 1 b102 b115 (0 : UInt64)) [(.int 0), (.ref b21), (.double (0 : UInt64))])
          have c128 := (c114.keep K113 nin0)
          obtain ⟨cl127, Ar127, aq127, S127, N127, H127, G127⟩ := id c128
          have hin127 : ¬ ((0 : Int32) < 0 ∨ cl127.slots.size ≤ ((0 : Int32)).toNatClampNeg) := inb_of S127 ⟨by decide, by decide⟩
          refine gob (X113.daload hx (j := (0 : Int32)) (v := (.double y25_)) (by rw [(rfl : T113.heap = _)]; exact Ar127.1) (State.isArrayOf_alike hZ.alike Ar127.2.1) Ar127.2.2 hin127 (Has.at H127 hin127 rfl) (g := (mkF m 184 (la11 p0 q1 q2 q3 q4 x1 b2 b21 b41 1 b102 b115 (0 : UInt64)) [(.int 0), (.ref b21), (.double (0 : UInt64))])) rfl rfl (hb hby at_184)) ?_
          show gO (tF T113 m 185 (la11 p0 q1 q2 q3 q4 x1 b2 b21 b41 1 b102 b115 (0 : UInt64)) [(.double y25_), (.double (0 : UInt64))])
          refine gob (fun _ k => XS.aload X113.here hx rfl (hb hby at_185) rfl rfl k) ?_
          show gO (tF T113 m 187 (la11 p0 q1 q2 q3 q4 x1 b2 b21 b41 1 b102 b115 (0 : UInt64)) [(.ref b2), (.double y25_), (.double (0 : UInt64))])
          refine gob (fun _ k => XS.aload X113.here hx rfl (hb hby at_187) rfl rfl k) ?_
          show gO (tF T113 m 189 (la11 p0 q1 q2 q3 q4 x1 b2 b21 b41 1 b102 b115 (0 : UInt64)) [(.ref b41), (.ref b2), (.double y25_), (.double (0 : UInt64))])
          refine gob (fun _ k => XS.iconst X113.here hx rfl (hb hby at_189) k) ?_
          show gO (tF T113 m 190 (la11 p0 q1 q2 q3 q4 x1 b2 b21 b41 1 b102 b115 (0 : UInt64)) [(.int 0), (.ref b41), (.ref b2), (.double y25_), (.double (0 : UInt64))])
          have c130 := (c123.keep K113 nin0)
          obtain ⟨cl129, Ar129, aq129, S129, N129, H129, G129⟩ := id c130
          have hin129 : ¬ ((0 : Int32) < 0 ∨ cl129.slots.size ≤ ((0 : Int32)).toNatClampNeg) := inb_of S129 ⟨by decide, by decide⟩
          refine gob (X113.iaload hx (j := (0 : Int32)) (v := (.int 3)) (by rw [(rfl : T113.heap = _)]; exact Ar129.1) (State.isArrayOf_alike hZ.alike Ar129.2.1) Ar129.2.2 hin129 (Has.at H129 hin129 rfl) (g := (mkF m 190 (la11 p0 q1 q2 q3 q4 x1 b2 b21 b41 1 b102 b115 (0 : UInt64)) [(.int 0), (.ref b41), (.ref b2), (.double y25_), (.double (0 : UInt64))])) rfl rfl (hb hby at_190)) ?_
          show gO (tF T113 m 191 (la11 p0 q1 q2 q3 q4 x1 b2 b21 b41 1 b102 b115 (0 : UInt64)) [(.int 3), (.ref b2), (.double y25_), (.double (0 : UInt64))])
          have c132 := (c120.keep K113 nin0)
          obtain ⟨cl131, Ar131, aq131, S131, N131, H131, G131⟩ := id c132
          have hin131 : ¬ ((3 : Int32) < 0 ∨ cl131.slots.size ≤ ((3 : Int32)).toNatClampNeg) := inb_of S131 ⟨by decide, by decide⟩
          refine gob (X113.daload hx (j := (3 : Int32)) (v := (.double y17_)) (by rw [(rfl : T113.heap = _)]; exact Ar131.1) (State.isArrayOf_alike hZ.alike Ar131.2.1) Ar131.2.2 hin131 (Has.at H131 hin131 rfl) (g := (mkF m 191 (la11 p0 q1 q2 q3 q4 x1 b2 b21 b41 1 b102 b115 (0 : UInt64)) [(.int 3), (.ref b2), (.double y25_), (.double (0 : UInt64))])) rfl rfl (hb hby at_191)) ?_
          show gO (tF T113 m 192 (la11 p0 q1 q2 q3 q4 x1 b2 b21 b41 1 b102 b115 (0 : UInt64)) [(.double y17_), (.double y25_), (.double (0 : UInt64))])
          have mg133 : Mag64 1090 (FP.dmul y25_ y17_) := own_dmul my25_ my17_ (by decide) (by decide) (by decide)
          refine gob (fun _ k => XS.dmulS X113.here hx rfl (hb hby at_192) rfl (v := (FP.dmul y25_ y17_)) (mg133.fin (by decide)).noNaN rfl k) ?_
          show gO (tF T113 m 193 (la11 p0 q1 q2 q3 q4 x1 b2 b21 b41 1 b102 b115 (0 : UInt64)) [(.double (FP.dmul y25_ y17_)), (.double (0 : UInt64))])
          have mg134 : Mag64 1092 (FP.dadd (0 : UInt64) (FP.dmul y25_ y17_)) := own_dadd (K := 1090) (own_m0.mono (by decide)) (mg133.mono (by decide)) (by decide) (by decide)
          refine gob (fun _ k => XS.daddS X113.here hx rfl (hb hby at_193) rfl (v := (FP.dadd (0 : UInt64) (FP.dmul y25_ y17_))) (mg134.fin (by decide)).noNaN rfl k) ?_
          show gO (tF T113 m 194 (la11 p0 q1 q2 q3 q4 x1 b2 b21 b41 1 b102 b115 (0 : UInt64)) [(.double (FP.dadd (0 : UInt64) (FP.dmul y25_ y17_)))])
          obtain ⟨u135_, hu135_⟩ : ∃ z, z = (FP.dadd (0 : UInt64) (FP.dmul y25_ y17_)) := ⟨_, rfl⟩
          have mu135_ : Mag64 1092 u135_ := by rw [hu135_]; exact mg134
          rw [← hu135_]
          show gO (tF T113 m 194 (la11 p0 q1 q2 q3 q4 x1 b2 b21 b41 1 b102 b115 (0 : UInt64)) [(.double u135_)])
          refine gob (fun _ k => XS.dstore X113.here hx rfl (hb hby at_194) rfl (l' := (la11 p0 q1 q2 q3 q4 x1 b2 b21 b41 1 b102 b115 u135_)) rfl k) ?_
          show gO (tF T113 m 196 (la11 p0 q1 q2 q3 q4 x1 b2 b21 b41 1 b102 b115 u135_) [])
          refine gob (fun _ k => XS.iload X113.here hx rfl (hb hby at_196) rfl k) ?_
          show gO (tF T113 m 198 (la11 p0 q1 q2 q3 q4 x1 b2 b21 b41 1 b102 b115 u135_) [(.int 1)])
          refine gob (fun _ k => XS.iconst X113.here hx rfl (hb hby at_198) k) ?_
          show gO (tF T113 m 199 (la11 p0 q1 q2 q3 q4 x1 b2 b21 b41 1 b102 b115 u135_) [(.int 1), (.int 1)])
          refine gob (fun _ k => XS.icmpYes X113.here hx rfl (pc0 := 199) (pc' := 219) rfl (hb hby at_199) rfl (flt (by decide : ¬ ((1 : Int32) < (1 : Int32)))).2.2.2 (by decide) (by decide) k) ?_
          show gO (tF T113 m 219 (la11 p0 q1 q2 q3 q4 x1 b2 b21 b41 1 b102 b115 u135_) [])
          refine gob (fun _ k => XS.iload X113.here hx rfl (hb hby at_219) rfl k) ?_
          show gO (tF T113 m 221 (la11 p0 q1 q2 q3 q4 x1 b2 b21 b41 1 b102 b115 u135_) [(.int 1)])
          refine gob (fun _ k => XS.iconst X113.here hx rfl (hb hby at_221) k) ?_
          show gO (tF T113 m 222 (la11 p0 q1 q2 q3 q4 x1 b2 b21 b41 1 b102 b115 u135_) [(.int 2), (.int 1)])
          refine gob (fun _ k => XS.icmpYes X113.here hx rfl (pc0 := 222) (pc' := 242) rfl (hb hby at_222) rfl (flt (by decide : ¬ ((2 : Int32) < (1 : Int32)))).2.2.2 (by decide) (by decide) k) ?_
          show gO (tF T113 m 242 (la11 p0 q1 q2 q3 q4 x1 b2 b21 b41 1 b102 b115 u135_) [])
          refine gob (fun _ k => XS.iload X113.here hx rfl (hb hby at_242) rfl k) ?_
          show gO (tF T113 m 244 (la11 p0 q1 q2 q3 q4 x1 b2 b21 b41 1 b102 b115 u135_) [(.int 1)])
          refine gob (fun _ k => XS.iconst X113.here hx rfl (hb hby at_244) k) ?_
          show gO (tF T113 m 245 (la11 p0 q1 q2 q3 q4 x1 b2 b21 b41 1 b102 b115 u135_) [(.int 3), (.int 1)])
          refine gob (fun _ k => XS.icmpYes X113.here hx rfl (pc0 := 245) (pc' := 265) rfl (hb hby at_245) rfl (flt (by decide : ¬ ((3 : Int32) < (1 : Int32)))).2.2.2 (by decide) (by decide) k) ?_
          show gO (tF T113 m 265 (la11 p0 q1 q2 q3 q4 x1 b2 b21 b41 1 b102 b115 u135_) [])
          obtain ⟨T136, h136, X136, e136, E136, A136, D136, -, st136⟩ := newO X113 hx hZ hown (hW hw 9 rfl) (hW hw 10 rfl) (hW hw 11 rfl) (rfl : T113.heap = _) (g := (mkF m 265 (la11 p0 q1 q2 q3 q4 x1 b2 b21 b41 1 b102 b115 u135_) [])) rfl (hb hby at_265) (by decide) (by decide)
          obtain ⟨b136, g136⟩ : ∃ z, z = T113.heap.size := ⟨_, rfl⟩
          rw [← g136] at A136 D136 st136
          have n137 : b2 ≠ b136 := Nat.ne_of_lt (Nat.lt_of_lt_of_le c132.lt (Nat.le_of_eq g136.symm))
          have n138 : b21 ≠ b136 := Nat.ne_of_lt (Nat.lt_of_lt_of_le c128.lt (Nat.le_of_eq g136.symm))
          have n139 : b41 ≠ b136 := Nat.ne_of_lt (Nat.lt_of_lt_of_le c130.lt (Nat.le_of_eq g136.symm))
          have c140 := (F105.keep K113 nin0)
          have n141 : b102 ≠ b136 := Nat.ne_of_lt (Nat.lt_of_lt_of_le c140.lt (Nat.le_of_eq g136.symm))
          have n142 : b115 ≠ b136 := Nat.ne_of_lt (Nat.lt_of_lt_of_le F118.lt (Nat.le_of_eq g136.symm))
          have g143 : n0 ≤ b136 := Nat.le_trans z126 (Nat.le_of_eq g136.symm)
          have z144 : n0 ≤ h136.size := Nat.le_trans z126 E136.1
          have F136_dofs : Fld Z h136 b136 "com/example/fenda/fenda/analysis/Combination" "dofs" "[I" .null := D136 (Or.inr (hW hw 24 rfl)) (ty := (.array .int)) (by decide)
          have F136_weights : Fld Z h136 b136 "com/example/fenda/fenda/analysis/Combination" "weights" "[D" .null := D136 (Or.inr (hW hw 26 rfl)) (ty := (.array .double)) (by decide)
          refine gob st136 ?_
          replace X136 := castX X136 (rfl : _ = 6) (rfl : _ = 16)
          show gO (tF T136 m 268 (la11 p0 q1 q2 q3 q4 x1 b2 b21 b41 1 b102 b115 u135_) [(.ref b136)])
          refine gob (fun _ k => XS.dup X136.here hx rfl (hb hby at_268) rfl rfl k) ?_
          show gO (tF T136 m 269 (la11 p0 q1 q2 q3 q4 x1 b2 b21 b41 1 b102 b115 u135_) [(.ref b136), (.ref b136)])
          refine gob (fun _ k => XS.aload X136.here hx rfl (hb hby at_269) rfl rfl k) ?_
          show gO (tF T136 m 271 (la11 p0 q1 q2 q3 q4 x1 b2 b21 b41 1 b102 b115 u135_) [(.ref b102), (.ref b136), (.ref b136)])
          refine gob (fun _ k => XS.aload X136.here hx rfl (hb hby at_271) rfl rfl k) ?_
          show gO (tF T136 m 273 (la11 p0 q1 q2 q3 q4 x1 b2 b21 b41 1 b102 b115 u135_) [(.ref b115), (.ref b102), (.ref b136), (.ref b136)])
          obtain ⟨_, _, ⟨T145, L145, k145, n145⟩, -, X145, ⟨Lc145, hQ145, l145, y145, z145⟩, st145⟩ := X136.specialBack hx (y := (⟨"com/example/fenda/fenda/analysis/Combination", "<init>", "([I[D)V"⟩ : MethodName)) rfl hown (mvT hZ (hW hw 12 rfl)) (mvT hZ (hW hw 13 rfl)) (mvT hZ (hW hw 14 rfl)) (by decide) (backOf (W := 1) (rm3 l Z a0 hw [] b136 b102 b115 h136 n0 z144 A136 F136_dofs g143 F136_weights) hZ (hW hw 14 rfl) (hW hw 11 rfl) (by decide) (by decide)) (g := (mkF m 273 (la11 p0 q1 q2 q3 q4 x1 b2 b21 b41 1 b102 b115 u135_) [(.ref b115), (.ref b102), (.ref b136), (.ref b136)])) rfl (by rw [hml]; rfl) (Steps.refl _) (a := b136) (argsL := [(.ref b102), (.ref b115)]) (rest := [(.ref b136)]) (lenOf pd_3 rfl) rfl (by show 2 * 0 + _ ≤ _; exact Nat.le_of_eq rfl) (hb hby at_273) (fun _ _ => ⟨rfl, e136, (by decide : 6 + 0 ≤ _), (by decide : 16 + 0 ≤ _)⟩)
          dsimp only [Pt.U, Pt.locs, Pt.cells, Pt.slots] at X145 l145 y145 z145 st145 hQ145
          replace X145 := castX X145 (y145.trans (rfl : _ = 6)) (z145.trans (rfl : _ = 16))
          obtain ⟨rfl, Nq145, K145, F146, F147⟩ := hQ145
          have N145 : Fr n0 L145 := l145 ▸ Fr.app N113 Nq145
          have z148 : n0 ≤ T145.heap.size := Nat.le_trans z144 K145.1
          refine gob (fun _ k => st145.trans k) ?_
          show gO (tF T145 m 276 (la11 p0 q1 q2 q3 q4 x1 b2 b21 b41 1 b102 b115 u135_) [(.ref b136)])
          refine gob (fun _ k => XS.astore X145.here hx rfl (hb hby at_276) rfl rfl (l' := (la12 p0 q1 q2 q3 q4 x1 b2 b21 b41 1 b102 b115 u135_ b136)) rfl k) ?_
          show gO (tF T145 m 278 (la12 p0 q1 q2 q3 q4 x1 b2 b21 b41 1 b102 b115 u135_ b136) [])
          refine gob (fun _ k => XS.aload X145.here hx rfl (hb hby at_278) rfl rfl k) ?_
          show gO (tF T145 m 280 (la12 p0 q1 q2 q3 q4 x1 b2 b21 b41 1 b102 b115 u135_ b136) [(.ref b136)])
          refine gob (fun _ k => XS.aload X145.here hx rfl (hb hby at_280) rfl rfl k) ?_
          show gO (tF T145 m 282 (la12 p0 q1 q2 q3 q4 x1 b2 b21 b41 1 b102 b115 u135_ b136) [(.ref b2), (.ref b136)])
          have c150 := ((c140.ext E136).keep K145 (ninS n141 nin0))
          have c151 := ((F118.ext E136).keep K145 (ninS n142 nin0))
          have c152 := ((c132.ext E136).keep K145 (ninS n137 nin0))
          have c153 := (A136.keep K145)
          obtain ⟨cq149, kq149, q149a, q149b, q149c⟩ := isOf hZ (rfl : T145.heap = _) c153
          obtain ⟨_, _, ⟨T149, L149, k149, n149⟩, -, X149, ⟨Lc149, hQ149, l149, y149, z149⟩, st149⟩ := X145.virtualBack hx (y := (⟨"com/example/fenda/fenda/analysis/Combination", "of", "([D)D"⟩ : MethodName)) (z := (⟨"com/example/fenda/fenda/analysis/Combination", "of", "([D)D"⟩ : MethodName)) hown (mvT hZ (hW hw 27 rfl)) (mvT hZ (hW hw 28 rfl)) (notFace_of_selects (args := #[]) (mvT hZ (hW hw 30 rfl))) (mvT hZ (hW hw 30 rfl)) (mvT hZ (hW hw 29 rfl)) (by decide) (backOf (W := 0) (rmof_3 l Z a0 hw [] b136 b2 b102 b115 k103 k116 y25_ k2 y5_ y9_ y13_ y17_ T145.heap n0 z148 F146 F147 c150 my25_ c151 my5_ my9_ my13_ my17_ c152) hZ (hW hw 31 rfl) (hW hw 11 rfl) (by decide) (by decide)) q149a q149c (g := (mkF m 282 (la12 p0 q1 q2 q3 q4 x1 b2 b21 b41 1 b102 b115 u135_ b136) [(.ref b2), (.ref b136)])) rfl (by rw [hml]; rfl) (Steps.refl _) (argsL := [(.ref b2)]) (rest := []) (lenOf pd_4 rfl) rfl (by show 2 * 0 + _ ≤ _; exact Nat.le_of_eq rfl) (hb hby at_282) (fun _ _ => ⟨rfl, (rfl : T145.heap = _), (by decide : 6 + 0 ≤ _), (by decide : 16 + 0 ≤ _)⟩)
          dsimp only [Pt.U, Pt.locs, Pt.cells, Pt.slots] at X149 l149 y149 z149 st149 hQ149
          replace X149 := castX X149 (y149.trans (rfl : _ = 6)) (z149.trans (rfl : _ = 16))
          obtain ⟨r149, rfl, hr149, Nq149, e149⟩ := hQ149
          have N149 : Fr n0 L149 := l149 ▸ Fr.app N145 Nq149
          refine gob (fun _ k => st149.trans k) ?_
          show gO (tF T149 m 285 (la12 p0 q1 q2 q3 q4 x1 b2 b21 b41 1 b102 b115 u135_ b136) [(.double r149)])
          refine gob (fun _ k => XS.dstore X149.here hx rfl (hb hby at_285) rfl (l' := (la13 p0 q1 q2 q3 q4 x1 b2 b21 b41 1 b102 b115 u135_ b136 r149)) rfl k) ?_
          show gO (tF T149 m 287 (la13 p0 q1 q2 q3 q4 x1 b2 b21 b41 1 b102 b115 u135_ b136 r149) [])
          refine gob (fun _ k => XS.dload X149.here hx rfl (hb hby at_287) rfl k) ?_
          show gO (tF T149 m 289 (la13 p0 q1 q2 q3 q4 x1 b2 b21 b41 1 b102 b115 u135_ b136 r149) [(.double r149)])
          refine gob (fun _ k => XS.dload X149.here hx rfl (hb hby at_289) rfl k) ?_
          show gO (tF T149 m 291 (la13 p0 q1 q2 q3 q4 x1 b2 b21 b41 1 b102 b115 u135_ b136 r149) [(.double u135_), (.double r149)])
          have hqr149 : r149 = u135_ := hr149.trans (by rw [hu135_])
          refine gob (fun _ k => XS.dcmpS X149.here hx rfl (hb hby at_291) rfl (v := (0 : Int32)) (dcmpV_eq hqr149 (by rw [hqr149]; exact (mu135_.fin (by decide)).noNaN) .l) k) ?_
          show gO (tF T149 m 292 (la13 p0 q1 q2 q3 q4 x1 b2 b21 b41 1 b102 b115 u135_ b136 r149) [(.int 0)])
          refine gob (fun _ k => XS.ifNo X149.here hx rfl (hb hby at_292) rfl ((if0 _ _).trans (teq (by decide : (0 : Int32) = (0 : Int32))).2) k) ?_
          show gO (tF T149 m 295 (la13 p0 q1 q2 q3 q4 x1 b2 b21 b41 1 b102 b115 u135_ b136 r149) [])
          refine gob (fun _ k => XS.iconst X149.here hx rfl (hb hby at_295) k) ?_
          show gO (tF T149 m 296 (la13 p0 q1 q2 q3 q4 x1 b2 b21 b41 1 b102 b115 u135_ b136 r149) [(.int 1)])
          refine gob (fun _ k => XS.goto X149.here hx rfl (pc0 := 296) (pc' := 300) rfl (hb hby at_296) (by decide) (by decide) k) ?_
          show gO (tF T149 m 300 (la13 p0 q1 q2 q3 q4 x1 b2 b21 b41 1 b102 b115 u135_ b136 r149) [(.int 1)])
          refine goZ X149 hx hlk (t := .boolean) Bd.returns (by simp) (hb hby at_300) (z' := (1 : Int32)) rfl ?_ (by decide) (by decide)
          show Q0 Z p0 q1 q2 q3 q4 h0 n0 (some (.int (1 : Int32))) T149.heap _
          exact ⟨rfl, N149⟩
      · skip
        refine gob (fun _ k => XS.ifNo X41.here hx rfl (hb hby at_124) rfl ((if0 _ _).trans (feq hc124_49).1) k) ?_
        show gO (tF T41 m 127 (la8 p0 q1 q2 q3 q4 x1 b2 b21 b41 0) [])
        refine gob (fun _ k => XS.aload X41.here hx rfl (hb hby at_127) rfl rfl k) ?_
        show gO (tF T41 m 129 (la8 p0 q1 q2 q3 q4 x1 b2 b21 b41 0) [(.ref b41)])
        refine gob (fun _ k => XS.iload X41.here hx rfl (hb hby at_129) rfl k) ?_
        show gO (tF T41 m 131 (la8 p0 q1 q2 q3 q4 x1 b2 b21 b41 0) [(.int 0), (.ref b41)])
        refine gob (fun _ k => XS.iconst X41.here hx rfl (hb hby at_131) k) ?_
        show gO (tF T41 m 132 (la8 p0 q1 q2 q3 q4 x1 b2 b21 b41 0) [(.int 2), (.int 0), (.ref b41)])
        obtain ⟨cl154, Ar154, aq154, S154, N154, H154, G154⟩ := id V41
        have hin154 : ¬ ((0 : Int32) < 0 ∨ cl154.slots.size ≤ ((0 : Int32)).toNatClampNeg) := inb_of S154 ⟨by decide, by decide⟩
        obtain ⟨T155, h155, X155, e155, W155, st155⟩ := stI X41 hx hZ e41 Ar154 (j := (0 : Int32)) hin154 (g := (mkF m 132 (la8 p0 q1 q2 q3 q4 x1 b2 b21 b41 0) [(.int 2), (.int 0), (.ref b41)])) rfl rfl (hb hby at_132)
        refine gob st155 ?_
        have z156 : n0 ≤ h155.size := Nat.le_trans z46 (Keep.of_wr W155).1
        have N155 := Fr.snoc X155 N39 g45
        have V155 : Arv Z h155 b41 k41 .int (4 : Int32) [(.int 2), (.int 0), (.int 0), (.int 0)] (.int 0) := Arv.set Ar154 aq154 S154 N154 H154 G154 rfl W155 0 rfl (Nat.le_of_ble_eq_true rfl)
        show gO (tF T155 m 133 (la8 p0 q1 q2 q3 q4 x1 b2 b21 b41 0) [])
        refine gob (fun _ k => XS.iinc X155.here hx rfl (hb hby at_133) rfl (l' := (la8 p0 q1 q2 q3 q4 x1 b2 b21 b41 1)) rfl k) ?_
        show gO (tF T155 m 136 (la8 p0 q1 q2 q3 q4 x1 b2 b21 b41 1) [])
        refine gob (fun _ k => XS.iload X155.here hx rfl (hb hby at_136) rfl k) ?_
        show gO (tF T155 m 138 (la8 p0 q1 q2 q3 q4 x1 b2 b21 b41 1) [(.int x1)])
        refine gob (fun _ k => XS.bipush X155.here hx rfl (hb hby at_138) k) ?_
        show gO (tF T155 m 140 (la8 p0 q1 q2 q3 q4 x1 b2 b21 b41 1) [(.int 8), (.int x1)])
        refine gob (fun _ k => XS.iand X155.here hx rfl (hb hby at_140) rfl k) ?_
        show gO (tF T155 m 141 (la8 p0 q1 q2 q3 q4 x1 b2 b21 b41 1) [(.int (x1 &&& (8 : Int32)))])
        by_cases hc141_157 : (x1 &&& (8 : Int32)) = (0 : Int32)
        · skip
          refine gob (fun _ k => XS.ifYes X155.here hx rfl (pc0 := 141) (pc' := 153) rfl (hb hby at_141) rfl ((if0 _ _).trans (teq hc141_157).1) (by decide) (by decide) k) ?_
          show gO (tF T155 m 153 (la8 p0 q1 q2 q3 q4 x1 b2 b21 b41 1) [])
          refine gob (fun _ k => XS.aload X155.here hx rfl (hb hby at_153) rfl rfl k) ?_
          show gO (tF T155 m 155 (la8 p0 q1 q2 q3 q4 x1 b2 b21 b41 1) [(.ref b41)])
          refine gob (fun _ k => XS.iload X155.here hx rfl (hb hby at_155) rfl k) ?_
          show gO (tF T155 m 157 (la8 p0 q1 q2 q3 q4 x1 b2 b21 b41 1) [(.int 1), (.ref b41)])
          obtain ⟨_, _, ⟨T158, L158, k158, n158⟩, -, X158, ⟨Lc158, hQ158, l158, y158, z158⟩, st158⟩ := Jvm.LawKit.callS X155 hx (y := (⟨"com/example/fenda/fenda/analysis/CombinationOfPinLaw", "prefixInt", "([II)[I"⟩ : MethodName)) hown (mvT hZ (hW hw 2 rfl)) (mvT hZ (hW hw 3 rfl)) (mvT hZ (hW hw 4 rfl)) (mvT hZ (hW hw 5 rfl)) (by decide) (backOf (W := 0) (rmpi1 l Z a0 hw [] b41 k41 (2 : Int32) (0 : Int32) (0 : Int32) (0 : Int32) h155 n0 z156 V155) hZ (hW hw 5 rfl) (hW hw 4 rfl) (by decide) (by decide)) (g := (mkF m 157 (la8 p0 q1 q2 q3 q4 x1 b2 b21 b41 1) [(.int 1), (.ref b41)])) rfl (by rw [hml]; rfl) (argsL := [(.ref b41), (.int 1)]) (rest := []) (lenOf pd_1 rfl) rfl (by show 2 * 0 + _ ≤ _; exact Nat.le_of_eq rfl) (hb hby at_157) (fun _ _ => ⟨rfl, e155, (by decide : 3 + 1 ≤ _), (by decide : 12 + 1 ≤ _)⟩)
          dsimp only [Pt.U, Pt.locs, Pt.cells, Pt.slots] at X158 l158 y158 z158 st158 hQ158
          replace X158 := castX X158 (y158.trans (rfl : _ = 4)) (z158.trans (rfl : _ = 13))
          obtain ⟨b159, k160, rfl, Nq158, K158, hz161, F162⟩ := hQ158
          have N158 : Fr n0 L158 := l158 ▸ Fr.app N155 Nq158
          have c164 := ((c42.ext E41).other W155 n43)
          have n163 : b2 ≠ b159 := Nat.ne_of_lt (Nat.lt_of_lt_of_le c164.lt hz161)
          have c166 := ((V39.ext E41).other W155 n44)
          have n165 : b21 ≠ b159 := Nat.ne_of_lt (Nat.lt_of_lt_of_le c166.lt hz161)
          have n167 : b41 ≠ b159 := Nat.ne_of_lt (Nat.lt_of_lt_of_le V155.lt hz161)
          have g168 : n0 ≤ b159 := Nat.le_trans z156 hz161
          have z169 : n0 ≤ T158.heap.size := Nat.le_trans z156 K158.1
          refine gob st158 ?_
          show gO (tF T158 m 160 (la8 p0 q1 q2 q3 q4 x1 b2 b21 b41 1) [(.ref b159)])
          refine gob (fun _ k => XS.astore X158.here hx rfl (hb hby at_160) rfl rfl (l' := (la9 p0 q1 q2 q3 q4 x1 b2 b21 b41 1 b159)) rfl k) ?_
          show gO (tF T158 m 162 (la9 p0 q1 q2 q3 q4 x1 b2 b21 b41 1 b159) [])
          refine gob (fun _ k => XS.aload X158.here hx rfl (hb hby at_162) rfl rfl k) ?_
          show gO (tF T158 m 164 (la9 p0 q1 q2 q3 q4 x1 b2 b21 b41 1 b159) [(.ref b21)])
          refine gob (fun _ k => XS.iload X158.here hx rfl (hb hby at_164) rfl k) ?_
          show gO (tF T158 m 166 (la9 p0 q1 q2 q3 q4 x1 b2 b21 b41 1 b159) [(.int 1), (.ref b21)])
          have c171 := (c166.keep K158 nin0)
          obtain ⟨_, _, ⟨T170, L170, k170, n170⟩, -, X170, ⟨Lc170, hQ170, l170, y170, z170⟩, st170⟩ := Jvm.LawKit.callS X158 hx (y := (⟨"com/example/fenda/fenda/analysis/CombinationOfPinLaw", "prefixDouble", "([DI)[D"⟩ : MethodName)) hown (mvT hZ (hW hw 6 rfl)) (mvT hZ (hW hw 7 rfl)) (mvT hZ (hW hw 4 rfl)) (mvT hZ (hW hw 8 rfl)) (by decide) (backOf (W := 0) (rmpd1 l Z a0 hw [] b21 k21 y25_ y29_ y33_ y37_ T158.heap n0 z169 c171) hZ (hW hw 8 rfl) (hW hw 4 rfl) (by decide) (by decide)) (g := (mkF m 166 (la9 p0 q1 q2 q3 q4 x1 b2 b21 b41 1 b159) [(.int 1), (.ref b21)])) rfl (by rw [hml]; rfl) (argsL := [(.ref b21), (.int 1)]) (rest := []) (lenOf pd_2 rfl) rfl (by show 2 * 0 + _ ≤ _; exact Nat.le_of_eq rfl) (hb hby at_166) (fun _ _ => ⟨rfl, (rfl : T158.heap = _), (by decide : 4 + 1 ≤ _), (by decide : 13 + 1 ≤ _)⟩)
          dsimp only [Pt.U, Pt.locs, Pt.cells, Pt.slots] at X170 l170 y170 z170 st170 hQ170
          replace X170 := castX X170 (y170.trans (rfl : _ = 5)) (z170.trans (rfl : _ = 14))
          obtain ⟨b172, k173, rfl, Nq170, K170, hz174, F175⟩ := hQ170
          have N170 : Fr n0 L170 := l170 ▸ Fr.app N158 Nq170
          have c177 := (c164.keep K158 nin0)
          have n176 : b2 ≠ b172 := Nat.ne_of_lt (Nat.lt_of_lt_of_le c177.lt hz174)
          have n178 : b21 ≠ b172 := Nat.ne_of_lt (Nat.lt_of_lt_of_le c171.lt hz174)
          have c180 := (V155.keep K158 nin0)
          have n179 : b41 ≠ b172 := Nat.ne_of_lt (Nat.lt_of_lt_of_le c180.lt hz174)
          have n181 : b159 ≠ b172 := Nat.ne_of_lt (Nat.lt_of_lt_of_le F162.lt hz174)
          have g182 : n0 ≤ b172 := Nat.le_trans z169 hz174
          have z183 : n0 ≤ T170.heap.size := Nat.le_trans z169 K170.1
          refine gob st170 ?_
          show gO (tF T170 m 169 (la9 p0 q1 q2 q3 q4 x1 b2 b21 b41 1 b159) [(.ref b172)])
          refine gob (fun _ k => XS.astore X170.here hx rfl (hb hby at_169) rfl rfl (l' := (la10 p0 q1 q2 q3 q4 x1 b2 b21 b41 1 b159 b172)) rfl k) ?_
          show gO (tF T170 m 171 (la10 p0 q1 q2 q3 q4 x1 b2 b21 b41 1 b159 b172) [])
          refine gob (fun _ k => XS.dconst0 X170.here hx rfl (hb hby at_171) (v := (0 : UInt64)) (by decide +kernel) k) ?_
          show gO (tF T170 m 172 (la10 p0 q1 q2 q3 q4 x1 b2 b21 b41 1 b159 b172) [(.double (0 : UInt64))])
          refine gob (fun _ k => XS.dstore X170.here hx rfl (hb hby at_172) rfl (l' := (la11 p0 q1 q2 q3 q4 x1 b2 b21 b41 1 b159 b172 (0 : UInt64))) rfl k) ?_
          show gO (tF T170 m 174 (la11 p0 q1 q2 q3 q4 x1 b2 b21 b41 1 b159 b172 (0 : UInt64)) [])
          refine gob (fun _ k => XS.iload X170.here hx rfl (hb hby at_174) rfl k) ?_
          show gO (tF T170 m 176 (la11 p0 q1 q2 q3 q4 x1 b2 b21 b41 1 b159 b172 (0 : UInt64)) [(.int 1)])
          refine gob (fun _ k => XS.ifNo X170.here hx rfl (hb hby at_176) rfl ((if0 _ _).trans (tlt (by decide : (0 : Int32) < (1 : Int32))).2.2.2) k) ?_
          show gO (tF T170 m 179 (la11 p0 q1 q2 q3 q4 x1 b2 b21 b41 1 b159 b172 (0 : UInt64)) [])
          refine gob (fun _ k => XS.dload X170.here hx rfl (hb hby at_179) rfl k) ?_
          show gO (tF T170 m 181 (la11 p0 q1 q2 q3 q4 x1 b2 b21 b41 1 b159 b172 (0 : UInt64)) [(.double (0 : UInt64))])
          refine gob (fun _ k => XS.aload X170.here hx rfl (hb hby at_181) rfl rfl k) ?_
          show gO (tF T170 m 183 (la11 p0 q1 q2 q3 q4 x1 b2 b21 b41 1 b159 b172 (0 : UInt64)) [(.ref b21), (.double (0 : UInt64))])
          refine gob (fun _ k => XS.iconst X170.here hx rfl (hb hby at_183) k) ?_
          show gO (tF T170 m 184 (la11 p0 q1 q2 q3 q4 x1 b2 b21 b41 1 b159 b172 (0 : UInt64)) [(.int 0), (.ref b21), (.double (0 : UInt64))])
          have c185 := (c171.keep K170 nin0)
          obtain ⟨cl184, Ar184, aq184, S184, N184, H184, G184⟩ := id c185
          have hin184 : ¬ ((0 : Int32) < 0 ∨ cl184.slots.size ≤ ((0 : Int32)).toNatClampNeg) := inb_of S184 ⟨by decide, by decide⟩
          refine gob (X170.daload hx (j := (0 : Int32)) (v := (.double y25_)) (by rw [(rfl : T170.heap = _)]; exact Ar184.1) (State.isArrayOf_alike hZ.alike Ar184.2.1) Ar184.2.2 hin184 (Has.at H184 hin184 rfl) (g := (mkF m 184 (la11 p0 q1 q2 q3 q4 x1 b2 b21 b41 1 b159 b172 (0 : UInt64)) [(.int 0), (.ref b21), (.double (0 : UInt64))])) rfl rfl (hb hby at_184)) ?_
          show gO (tF T170 m 185 (la11 p0 q1 q2 q3 q4 x1 b2 b21 b41 1 b159 b172 (0 : UInt64)) [(.double y25_), (.double (0 : UInt64))])
          refine gob (fun _ k => XS.aload X170.here hx rfl (hb hby at_185) rfl rfl k) ?_
          show gO (tF T170 m 187 (la11 p0 q1 q2 q3 q4 x1 b2 b21 b41 1 b159 b172 (0 : UInt64)) [(.ref b2), (.double y25_), (.double (0 : UInt64))])
          refine gob (fun _ k => XS.aload X170.here hx rfl (hb hby at_187) rfl rfl k) ?_
          show gO (tF T170 m 189 (la11 p0 q1 q2 q3 q4 x1 b2 b21 b41 1 b159 b172 (0 : UInt64)) [(.ref b41), (.ref b2), (.double y25_), (.double (0 : UInt64))])
          refine gob (fun _ k => XS.iconst X170.here hx rfl (hb hby at_189) k) ?_
          show gO (tF T170 m 190 (la11 p0 q1 q2 q3 q4 x1 b2 b21 b41 1 b159 b172 (0 : UInt64)) [(.int 0), (.ref b41), (.ref b2), (.double y25_), (.double (0 : UInt64))])
          have c187 := (c180.keep K170 nin0)
          obtain ⟨cl186, Ar186, aq186, S186, N186, H186, G186⟩ := id c187
          have hin186 : ¬ ((0 : Int32) < 0 ∨ cl186.slots.size ≤ ((0 : Int32)).toNatClampNeg) := inb_of S186 ⟨by decide, by decide⟩
          refine gob (X170.iaload hx (j := (0 : Int32)) (v := (.int 2)) (by rw [(rfl : T170.heap = _)]; exact Ar186.1) (State.isArrayOf_alike hZ.alike Ar186.2.1) Ar186.2.2 hin186 (Has.at H186 hin186 rfl) (g := (mkF m 190 (la11 p0 q1 q2 q3 q4 x1 b2 b21 b41 1 b159 b172 (0 : UInt64)) [(.int 0), (.ref b41), (.ref b2), (.double y25_), (.double (0 : UInt64))])) rfl rfl (hb hby at_190)) ?_
          show gO (tF T170 m 191 (la11 p0 q1 q2 q3 q4 x1 b2 b21 b41 1 b159 b172 (0 : UInt64)) [(.int 2), (.ref b2), (.double y25_), (.double (0 : UInt64))])
          have c189 := (c177.keep K170 nin0)
          obtain ⟨cl188, Ar188, aq188, S188, N188, H188, G188⟩ := id c189
          have hin188 : ¬ ((2 : Int32) < 0 ∨ cl188.slots.size ≤ ((2 : Int32)).toNatClampNeg) := inb_of S188 ⟨by decide, by decide⟩
          refine gob (X170.daload hx (j := (2 : Int32)) (v := (.double y13_)) (by rw [(rfl : T170.heap = _)]; exact Ar188.1) (State.isArrayOf_alike hZ.alike Ar188.2.1) Ar188.2.2 hin188 (Has.at H188 hin188 rfl) (g := (mkF m 191 (la11 p0 q1 q2 q3 q4 x1 b2 b21 b41 1 b159 b172 (0 : UInt64)) [(.int 2), (.ref b2), (.double y25_), (.double (0 : UInt64))])) rfl rfl (hb hby at_191)) ?_
          show gO (tF T170 m 192 (la11 p0 q1 q2 q3 q4 x1 b2 b21 b41 1 b159 b172 (0 : UInt64)) [(.double y13_), (.double y25_), (.double (0 : UInt64))])
          have mg190 : Mag64 1090 (FP.dmul y25_ y13_) := own_dmul my25_ my13_ (by decide) (by decide) (by decide)
          refine gob (fun _ k => XS.dmulS X170.here hx rfl (hb hby at_192) rfl (v := (FP.dmul y25_ y13_)) (mg190.fin (by decide)).noNaN rfl k) ?_
          show gO (tF T170 m 193 (la11 p0 q1 q2 q3 q4 x1 b2 b21 b41 1 b159 b172 (0 : UInt64)) [(.double (FP.dmul y25_ y13_)), (.double (0 : UInt64))])
          have mg191 : Mag64 1092 (FP.dadd (0 : UInt64) (FP.dmul y25_ y13_)) := own_dadd (K := 1090) (own_m0.mono (by decide)) (mg190.mono (by decide)) (by decide) (by decide)
          refine gob (fun _ k => XS.daddS X170.here hx rfl (hb hby at_193) rfl (v := (FP.dadd (0 : UInt64) (FP.dmul y25_ y13_))) (mg191.fin (by decide)).noNaN rfl k) ?_
          show gO (tF T170 m 194 (la11 p0 q1 q2 q3 q4 x1 b2 b21 b41 1 b159 b172 (0 : UInt64)) [(.double (FP.dadd (0 : UInt64) (FP.dmul y25_ y13_)))])
          obtain ⟨u192_, hu192_⟩ : ∃ z, z = (FP.dadd (0 : UInt64) (FP.dmul y25_ y13_)) := ⟨_, rfl⟩
          have mu192_ : Mag64 1092 u192_ := by rw [hu192_]; exact mg191
          rw [← hu192_]
          show gO (tF T170 m 194 (la11 p0 q1 q2 q3 q4 x1 b2 b21 b41 1 b159 b172 (0 : UInt64)) [(.double u192_)])
          refine gob (fun _ k => XS.dstore X170.here hx rfl (hb hby at_194) rfl (l' := (la11 p0 q1 q2 q3 q4 x1 b2 b21 b41 1 b159 b172 u192_)) rfl k) ?_
          show gO (tF T170 m 196 (la11 p0 q1 q2 q3 q4 x1 b2 b21 b41 1 b159 b172 u192_) [])
          refine gob (fun _ k => XS.iload X170.here hx rfl (hb hby at_196) rfl k) ?_
          show gO (tF T170 m 198 (la11 p0 q1 q2 q3 q4 x1 b2 b21 b41 1 b159 b172 u192_) [(.int 1)])
          refine gob (fun _ k => XS.iconst X170.here hx rfl (hb hby at_198) k) ?_
          show gO (tF T170 m 199 (la11 p0 q1 q2 q3 q4 x1 b2 b21 b41 1 b159 b172 u192_) [(.int 1), (.int 1)])
          refine gob (fun _ k => XS.icmpYes X170.here hx rfl (pc0 := 199) (pc' := 219) rfl (hb hby at_199) rfl (flt (by decide : ¬ ((1 : Int32) < (1 : Int32)))).2.2.2 (by decide) (by decide) k) ?_
          show gO (tF T170 m 219 (la11 p0 q1 q2 q3 q4 x1 b2 b21 b41 1 b159 b172 u192_) [])
          refine gob (fun _ k => XS.iload X170.here hx rfl (hb hby at_219) rfl k) ?_
          show gO (tF T170 m 221 (la11 p0 q1 q2 q3 q4 x1 b2 b21 b41 1 b159 b172 u192_) [(.int 1)])
          refine gob (fun _ k => XS.iconst X170.here hx rfl (hb hby at_221) k) ?_
          show gO (tF T170 m 222 (la11 p0 q1 q2 q3 q4 x1 b2 b21 b41 1 b159 b172 u192_) [(.int 2), (.int 1)])
          refine gob (fun _ k => XS.icmpYes X170.here hx rfl (pc0 := 222) (pc' := 242) rfl (hb hby at_222) rfl (flt (by decide : ¬ ((2 : Int32) < (1 : Int32)))).2.2.2 (by decide) (by decide) k) ?_
          show gO (tF T170 m 242 (la11 p0 q1 q2 q3 q4 x1 b2 b21 b41 1 b159 b172 u192_) [])
          refine gob (fun _ k => XS.iload X170.here hx rfl (hb hby at_242) rfl k) ?_
          show gO (tF T170 m 244 (la11 p0 q1 q2 q3 q4 x1 b2 b21 b41 1 b159 b172 u192_) [(.int 1)])
          refine gob (fun _ k => XS.iconst X170.here hx rfl (hb hby at_244) k) ?_
          show gO (tF T170 m 245 (la11 p0 q1 q2 q3 q4 x1 b2 b21 b41 1 b159 b172 u192_) [(.int 3), (.int 1)])
          refine gob (fun _ k => XS.icmpYes X170.here hx rfl (pc0 := 245) (pc' := 265) rfl (hb hby at_245) rfl (flt (by decide : ¬ ((3 : Int32) < (1 : Int32)))).2.2.2 (by decide) (by decide) k) ?_
          show gO (tF T170 m 265 (la11 p0 q1 q2 q3 q4 x1 b2 b21 b41 1 b159 b172 u192_) [])
          obtain ⟨T193, h193, X193, e193, E193, A193, D193, -, st193⟩ := newO X170 hx hZ hown (hW hw 9 rfl) (hW hw 10 rfl) (hW hw 11 rfl) (rfl : T170.heap = _) (g := (mkF m 265 (la11 p0 q1 q2 q3 q4 x1 b2 b21 b41 1 b159 b172 u192_) [])) rfl (hb hby at_265) (by decide) (by decide)
          obtain ⟨b193, g193⟩ : ∃ z, z = T170.heap.size := ⟨_, rfl⟩
          rw [← g193] at A193 D193 st193
          have n194 : b2 ≠ b193 := Nat.ne_of_lt (Nat.lt_of_lt_of_le c189.lt (Nat.le_of_eq g193.symm))
          have n195 : b21 ≠ b193 := Nat.ne_of_lt (Nat.lt_of_lt_of_le c185.lt (Nat.le_of_eq g193.symm))
          have n196 : b41 ≠ b193 := Nat.ne_of_lt (Nat.lt_of_lt_of_le c187.lt (Nat.le_of_eq g193.symm))
          have c197 := (F162.keep K170 nin0)
          have n198 : b159 ≠ b193 := Nat.ne_of_lt (Nat.lt_of_lt_of_le c197.lt (Nat.le_of_eq g193.symm))
          have n199 : b172 ≠ b193 := Nat.ne_of_lt (Nat.lt_of_lt_of_le F175.lt (Nat.le_of_eq g193.symm))
          have g200 : n0 ≤ b193 := Nat.le_trans z183 (Nat.le_of_eq g193.symm)
          have z201 : n0 ≤ h193.size := Nat.le_trans z183 E193.1
          have F193_dofs : Fld Z h193 b193 "com/example/fenda/fenda/analysis/Combination" "dofs" "[I" .null := D193 (Or.inr (hW hw 24 rfl)) (ty := (.array .int)) (by decide)
          have F193_weights : Fld Z h193 b193 "com/example/fenda/fenda/analysis/Combination" "weights" "[D" .null := D193 (Or.inr (hW hw 26 rfl)) (ty := (.array .double)) (by decide)
          refine gob st193 ?_
          replace X193 := castX X193 (rfl : _ = 6) (rfl : _ = 16)
          show gO (tF T193 m 268 (la11 p0 q1 q2 q3 q4 x1 b2 b21 b41 1 b159 b172 u192_) [(.ref b193)])
          refine gob (fun _ k => XS.dup X193.here hx rfl (hb hby at_268) rfl rfl k) ?_
          show gO (tF T193 m 269 (la11 p0 q1 q2 q3 q4 x1 b2 b21 b41 1 b159 b172 u192_) [(.ref b193), (.ref b193)])
          refine gob (fun _ k => XS.aload X193.here hx rfl (hb hby at_269) rfl rfl k) ?_
          show gO (tF T193 m 271 (la11 p0 q1 q2 q3 q4 x1 b2 b21 b41 1 b159 b172 u192_) [(.ref b159), (.ref b193), (.ref b193)])
          refine gob (fun _ k => XS.aload X193.here hx rfl (hb hby at_271) rfl rfl k) ?_
          show gO (tF T193 m 273 (la11 p0 q1 q2 q3 q4 x1 b2 b21 b41 1 b159 b172 u192_) [(.ref b172), (.ref b159), (.ref b193), (.ref b193)])
          obtain ⟨_, _, ⟨T202, L202, k202, n202⟩, -, X202, ⟨Lc202, hQ202, l202, y202, z202⟩, st202⟩ := X193.specialBack hx (y := (⟨"com/example/fenda/fenda/analysis/Combination", "<init>", "([I[D)V"⟩ : MethodName)) rfl hown (mvT hZ (hW hw 12 rfl)) (mvT hZ (hW hw 13 rfl)) (mvT hZ (hW hw 14 rfl)) (by decide) (backOf (W := 1) (rm3 l Z a0 hw [] b193 b159 b172 h193 n0 z201 A193 F193_dofs g200 F193_weights) hZ (hW hw 14 rfl) (hW hw 11 rfl) (by decide) (by decide)) (g := (mkF m 273 (la11 p0 q1 q2 q3 q4 x1 b2 b21 b41 1 b159 b172 u192_) [(.ref b172), (.ref b159), (.ref b193), (.ref b193)])) rfl (by rw [hml]; rfl) (Steps.refl _) (a := b193) (argsL := [(.ref b159), (.ref b172)]) (rest := [(.ref b193)]) (lenOf pd_3 rfl) rfl (by show 2 * 0 + _ ≤ _; exact Nat.le_of_eq rfl) (hb hby at_273) (fun _ _ => ⟨rfl, e193, (by decide : 6 + 0 ≤ _), (by decide : 16 + 0 ≤ _)⟩)
          dsimp only [Pt.U, Pt.locs, Pt.cells, Pt.slots] at X202 l202 y202 z202 st202 hQ202
          replace X202 := castX X202 (y202.trans (rfl : _ = 6)) (z202.trans (rfl : _ = 16))
          obtain ⟨rfl, Nq202, K202, F203, F204⟩ := hQ202
          have N202 : Fr n0 L202 := l202 ▸ Fr.app N170 Nq202
          have z205 : n0 ≤ T202.heap.size := Nat.le_trans z201 K202.1
          refine gob (fun _ k => st202.trans k) ?_
          show gO (tF T202 m 276 (la11 p0 q1 q2 q3 q4 x1 b2 b21 b41 1 b159 b172 u192_) [(.ref b193)])
          refine gob (fun _ k => XS.astore X202.here hx rfl (hb hby at_276) rfl rfl (l' := (la12 p0 q1 q2 q3 q4 x1 b2 b21 b41 1 b159 b172 u192_ b193)) rfl k) ?_
          show gO (tF T202 m 278 (la12 p0 q1 q2 q3 q4 x1 b2 b21 b41 1 b159 b172 u192_ b193) [])
          refine gob (fun _ k => XS.aload X202.here hx rfl (hb hby at_278) rfl rfl k) ?_
          show gO (tF T202 m 280 (la12 p0 q1 q2 q3 q4 x1 b2 b21 b41 1 b159 b172 u192_ b193) [(.ref b193)])
          refine gob (fun _ k => XS.aload X202.here hx rfl (hb hby at_280) rfl rfl k) ?_
          show gO (tF T202 m 282 (la12 p0 q1 q2 q3 q4 x1 b2 b21 b41 1 b159 b172 u192_ b193) [(.ref b2), (.ref b193)])
          have c207 := ((c197.ext E193).keep K202 (ninS n198 nin0))
          have c208 := ((F175.ext E193).keep K202 (ninS n199 nin0))
          have c209 := ((c189.ext E193).keep K202 (ninS n194 nin0))
          have c210 := (A193.keep K202)
          obtain ⟨cq206, kq206, q206a, q206b, q206c⟩ := isOf hZ (rfl : T202.heap = _) c210
          obtain ⟨_, _, ⟨T206, L206, k206, n206⟩, -, X206, ⟨Lc206, hQ206, l206, y206, z206⟩, st206⟩ := X202.virtualBack hx (y := (⟨"com/example/fenda/fenda/analysis/Combination", "of", "([D)D"⟩ : MethodName)) (z := (⟨"com/example/fenda/fenda/analysis/Combination", "of", "([D)D"⟩ : MethodName)) hown (mvT hZ (hW hw 27 rfl)) (mvT hZ (hW hw 28 rfl)) (notFace_of_selects (args := #[]) (mvT hZ (hW hw 30 rfl))) (mvT hZ (hW hw 30 rfl)) (mvT hZ (hW hw 29 rfl)) (by decide) (backOf (W := 0) (rmof_2 l Z a0 hw [] b193 b2 b159 b172 k160 k173 y25_ k2 y5_ y9_ y13_ y17_ T202.heap n0 z205 F203 F204 c207 my25_ c208 my5_ my9_ my13_ my17_ c209) hZ (hW hw 31 rfl) (hW hw 11 rfl) (by decide) (by decide)) q206a q206c (g := (mkF m 282 (la12 p0 q1 q2 q3 q4 x1 b2 b21 b41 1 b159 b172 u192_ b193) [(.ref b2), (.ref b193)])) rfl (by rw [hml]; rfl) (Steps.refl _) (argsL := [(.ref b2)]) (rest := []) (lenOf pd_4 rfl) rfl (by show 2 * 0 + _ ≤ _; exact Nat.le_of_eq rfl) (hb hby at_282) (fun _ _ => ⟨rfl, (rfl : T202.heap = _), (by decide : 6 + 0 ≤ _), (by decide : 16 + 0 ≤ _)⟩)
          dsimp only [Pt.U, Pt.locs, Pt.cells, Pt.slots] at X206 l206 y206 z206 st206 hQ206
          replace X206 := castX X206 (y206.trans (rfl : _ = 6)) (z206.trans (rfl : _ = 16))
          obtain ⟨r206, rfl, hr206, Nq206, e206⟩ := hQ206
          have N206 : Fr n0 L206 := l206 ▸ Fr.app N202 Nq206
          refine gob (fun _ k => st206.trans k) ?_
          show gO (tF T206 m 285 (la12 p0 q1 q2 q3 q4 x1 b2 b21 b41 1 b159 b172 u192_ b193) [(.double r206)])
          refine gob (fun _ k => XS.dstore X206.here hx rfl (hb hby at_285) rfl (l' := (la13 p0 q1 q2 q3 q4 x1 b2 b21 b41 1 b159 b172 u192_ b193 r206)) rfl k) ?_
          show gO (tF T206 m 287 (la13 p0 q1 q2 q3 q4 x1 b2 b21 b41 1 b159 b172 u192_ b193 r206) [])
          refine gob (fun _ k => XS.dload X206.here hx rfl (hb hby at_287) rfl k) ?_
          show gO (tF T206 m 289 (la13 p0 q1 q2 q3 q4 x1 b2 b21 b41 1 b159 b172 u192_ b193 r206) [(.double r206)])
          refine gob (fun _ k => XS.dload X206.here hx rfl (hb hby at_289) rfl k) ?_
          show gO (tF T206 m 291 (la13 p0 q1 q2 q3 q4 x1 b2 b21 b41 1 b159 b172 u192_ b193 r206) [(.double u192_), (.double r206)])
          have hqr206 : r206 = u192_ := hr206.trans (by rw [hu192_])
          refine gob (fun _ k => XS.dcmpS X206.here hx rfl (hb hby at_291) rfl (v := (0 : Int32)) (dcmpV_eq hqr206 (by rw [hqr206]; exact (mu192_.fin (by decide)).noNaN) .l) k) ?_
          show gO (tF T206 m 292 (la13 p0 q1 q2 q3 q4 x1 b2 b21 b41 1 b159 b172 u192_ b193 r206) [(.int 0)])
          refine gob (fun _ k => XS.ifNo X206.here hx rfl (hb hby at_292) rfl ((if0 _ _).trans (teq (by decide : (0 : Int32) = (0 : Int32))).2) k) ?_
          show gO (tF T206 m 295 (la13 p0 q1 q2 q3 q4 x1 b2 b21 b41 1 b159 b172 u192_ b193 r206) [])
          refine gob (fun _ k => XS.iconst X206.here hx rfl (hb hby at_295) k) ?_
          show gO (tF T206 m 296 (la13 p0 q1 q2 q3 q4 x1 b2 b21 b41 1 b159 b172 u192_ b193 r206) [(.int 1)])
          refine gob (fun _ k => XS.goto X206.here hx rfl (pc0 := 296) (pc' := 300) rfl (hb hby at_296) (by decide) (by decide) k) ?_
          show gO (tF T206 m 300 (la13 p0 q1 q2 q3 q4 x1 b2 b21 b41 1 b159 b172 u192_ b193 r206) [(.int 1)])
          refine goZ X206 hx hlk (t := .boolean) Bd.returns (by simp) (hb hby at_300) (z' := (1 : Int32)) rfl ?_ (by decide) (by decide)
          show Q0 Z p0 q1 q2 q3 q4 h0 n0 (some (.int (1 : Int32))) T206.heap _
          exact ⟨rfl, N206⟩
        · skip
          refine gob (fun _ k => XS.ifNo X155.here hx rfl (hb hby at_141) rfl ((if0 _ _).trans (feq hc141_157).1) k) ?_
          show gO (tF T155 m 144 (la8 p0 q1 q2 q3 q4 x1 b2 b21 b41 1) [])
          refine gob (fun _ k => XS.aload X155.here hx rfl (hb hby at_144) rfl rfl k) ?_
          show gO (tF T155 m 146 (la8 p0 q1 q2 q3 q4 x1 b2 b21 b41 1) [(.ref b41)])
          refine gob (fun _ k => XS.iload X155.here hx rfl (hb hby at_146) rfl k) ?_
          show gO (tF T155 m 148 (la8 p0 q1 q2 q3 q4 x1 b2 b21 b41 1) [(.int 1), (.ref b41)])
          refine gob (fun _ k => XS.iconst X155.here hx rfl (hb hby at_148) k) ?_
          show gO (tF T155 m 149 (la8 p0 q1 q2 q3 q4 x1 b2 b21 b41 1) [(.int 3), (.int 1), (.ref b41)])
          obtain ⟨cl211, Ar211, aq211, S211, N211, H211, G211⟩ := id V155
          have hin211 : ¬ ((1 : Int32) < 0 ∨ cl211.slots.size ≤ ((1 : Int32)).toNatClampNeg) := inb_of S211 ⟨by decide, by decide⟩
          obtain ⟨T212, h212, X212, e212, W212, st212⟩ := stI X155 hx hZ e155 Ar211 (j := (1 : Int32)) hin211 (g := (mkF m 149 (la8 p0 q1 q2 q3 q4 x1 b2 b21 b41 1) [(.int 3), (.int 1), (.ref b41)])) rfl rfl (hb hby at_149)
          refine gob st212 ?_
          have z213 : n0 ≤ h212.size := Nat.le_trans z156 (Keep.of_wr W212).1
          have N212 := Fr.snoc X212 N155 g45
          have V212 : Arv Z h212 b41 k41 .int (4 : Int32) [(.int 2), (.int 3), (.int 0), (.int 0)] (.int 0) := Arv.set Ar211 aq211 S211 N211 H211 G211 rfl W212 1 rfl (Nat.le_of_ble_eq_true rfl)
          show gO (tF T212 m 150 (la8 p0 q1 q2 q3 q4 x1 b2 b21 b41 1) [])
          refine gob (fun _ k => XS.iinc X212.here hx rfl (hb hby at_150) rfl (l' := (la8 p0 q1 q2 q3 q4 x1 b2 b21 b41 2)) rfl k) ?_
          show gO (tF T212 m 153 (la8 p0 q1 q2 q3 q4 x1 b2 b21 b41 2) [])
          refine gob (fun _ k => XS.aload X212.here hx rfl (hb hby at_153) rfl rfl k) ?_
          show gO (tF T212 m 155 (la8 p0 q1 q2 q3 q4 x1 b2 b21 b41 2) [(.ref b41)])
          refine gob (fun _ k => XS.iload X212.here hx rfl (hb hby at_155) rfl k) ?_
          show gO (tF T212 m 157 (la8 p0 q1 q2 q3 q4 x1 b2 b21 b41 2) [(.int 2), (.ref b41)])
          obtain ⟨_, _, ⟨T214, L214, k214, n214⟩, -, X214, ⟨Lc214, hQ214, l214, y214, z214⟩, st214⟩ := Jvm.LawKit.callS X212 hx (y := (⟨"com/example/fenda/fenda/analysis/CombinationOfPinLaw", "prefixInt", "([II)[I"⟩ : MethodName)) hown (mvT hZ (hW hw 2 rfl)) (mvT hZ (hW hw 3 rfl)) (mvT hZ (hW hw 4 rfl)) (mvT hZ (hW hw 5 rfl)) (by decide) (backOf (W := 0) (rmpi2 l Z a0 hw [] b41 k41 (2 : Int32) (3 : Int32) (0 : Int32) (0 : Int32) h212 n0 z213 V212) hZ (hW hw 5 rfl) (hW hw 4 rfl) (by decide) (by decide)) (g := (mkF m 157 (la8 p0 q1 q2 q3 q4 x1 b2 b21 b41 2) [(.int 2), (.ref b41)])) rfl (by rw [hml]; rfl) (argsL := [(.ref b41), (.int 2)]) (rest := []) (lenOf pd_1 rfl) rfl (by show 2 * 0 + _ ≤ _; exact Nat.le_of_eq rfl) (hb hby at_157) (fun _ _ => ⟨rfl, e212, (by decide : 3 + 1 ≤ _), (by decide : 12 + 2 ≤ _)⟩)
          dsimp only [Pt.U, Pt.locs, Pt.cells, Pt.slots] at X214 l214 y214 z214 st214 hQ214
          replace X214 := castX X214 (y214.trans (rfl : _ = 4)) (z214.trans (rfl : _ = 14))
          obtain ⟨b215, k216, rfl, Nq214, K214, hz217, F218⟩ := hQ214
          have N214 : Fr n0 L214 := l214 ▸ Fr.app N212 Nq214
          have c220 := (((c42.ext E41).other W155 n43).other W212 n43)
          have n219 : b2 ≠ b215 := Nat.ne_of_lt (Nat.lt_of_lt_of_le c220.lt hz217)
          have c222 := (((V39.ext E41).other W155 n44).other W212 n44)
          have n221 : b21 ≠ b215 := Nat.ne_of_lt (Nat.lt_of_lt_of_le c222.lt hz217)
          have n223 : b41 ≠ b215 := Nat.ne_of_lt (Nat.lt_of_lt_of_le V212.lt hz217)
          have g224 : n0 ≤ b215 := Nat.le_trans z213 hz217
          have z225 : n0 ≤ T214.heap.size := Nat.le_trans z213 K214.1
          refine gob st214 ?_
          show gO (tF T214 m 160 (la8 p0 q1 q2 q3 q4 x1 b2 b21 b41 2) [(.ref b215)])
          refine gob (fun _ k => XS.astore X214.here hx rfl (hb hby at_160) rfl rfl (l' := (la9 p0 q1 q2 q3 q4 x1 b2 b21 b41 2 b215)) rfl k) ?_
          show gO (tF T214 m 162 (la9 p0 q1 q2 q3 q4 x1 b2 b21 b41 2 b215) [])
          refine gob (fun _ k => XS.aload X214.here hx rfl (hb hby at_162) rfl rfl k) ?_
          show gO (tF T214 m 164 (la9 p0 q1 q2 q3 q4 x1 b2 b21 b41 2 b215) [(.ref b21)])
          refine gob (fun _ k => XS.iload X214.here hx rfl (hb hby at_164) rfl k) ?_
          show gO (tF T214 m 166 (la9 p0 q1 q2 q3 q4 x1 b2 b21 b41 2 b215) [(.int 2), (.ref b21)])
          have c227 := (c222.keep K214 nin0)
          obtain ⟨_, _, ⟨T226, L226, k226, n226⟩, -, X226, ⟨Lc226, hQ226, l226, y226, z226⟩, st226⟩ := Jvm.LawKit.callS X214 hx (y := (⟨"com/example/fenda/fenda/analysis/CombinationOfPinLaw", "prefixDouble", "([DI)[D"⟩ : MethodName)) hown (mvT hZ (hW hw 6 rfl)) (mvT hZ (hW hw 7 rfl)) (mvT hZ (hW hw 4 rfl)) (mvT hZ (hW hw 8 rfl)) (by decide) (backOf (W := 0) (rmpd2 l Z a0 hw [] b21 k21 y25_ y29_ y33_ y37_ T214.heap n0 z225 c227) hZ (hW hw 8 rfl) (hW hw 4 rfl) (by decide) (by decide)) (g := (mkF m 166 (la9 p0 q1 q2 q3 q4 x1 b2 b21 b41 2 b215) [(.int 2), (.ref b21)])) rfl (by rw [hml]; rfl) (argsL := [(.ref b21), (.int 2)]) (rest := []) (lenOf pd_2 rfl) rfl (by show 2 * 0 + _ ≤ _; exact Nat.le_of_eq rfl) (hb hby at_166) (fun _ _ => ⟨rfl, (rfl : T214.heap = _), (by decide : 4 + 1 ≤ _), (by decide : 14 + 2 ≤ _)⟩)
          dsimp only [Pt.U, Pt.locs, Pt.cells, Pt.slots] at X226 l226 y226 z226 st226 hQ226
          replace X226 := castX X226 (y226.trans (rfl : _ = 5)) (z226.trans (rfl : _ = 16))
          obtain ⟨b228, k229, rfl, Nq226, K226, hz230, F231⟩ := hQ226
          have N226 : Fr n0 L226 := l226 ▸ Fr.app N214 Nq226
          have c233 := (c220.keep K214 nin0)
          have n232 : b2 ≠ b228 := Nat.ne_of_lt (Nat.lt_of_lt_of_le c233.lt hz230)
          have n234 : b21 ≠ b228 := Nat.ne_of_lt (Nat.lt_of_lt_of_le c227.lt hz230)
          have c236 := (V212.keep K214 nin0)
          have n235 : b41 ≠ b228 := Nat.ne_of_lt (Nat.lt_of_lt_of_le c236.lt hz230)
          have n237 : b215 ≠ b228 := Nat.ne_of_lt (Nat.lt_of_lt_of_le F218.lt hz230)
          have g238 : n0 ≤ b228 := Nat.le_trans z225 hz230
          have z239 : n0 ≤ T226.heap.size := Nat.le_trans z225 K226.1
          refine gob st226 ?_
          show gO (tF T226 m 169 (la9 p0 q1 q2 q3 q4 x1 b2 b21 b41 2 b215) [(.ref b228)])
          refine gob (fun _ k => XS.astore X226.here hx rfl (hb hby at_169) rfl rfl (l' := (la10 p0 q1 q2 q3 q4 x1 b2 b21 b41 2 b215 b228)) rfl k) ?_
          show gO (tF T226 m 171 (la10 p0 q1 q2 q3 q4 x1 b2 b21 b41 2 b215 b228) [])
          refine gob (fun _ k => XS.dconst0 X226.here hx rfl (hb hby at_171) (v := (0 : UInt64)) (by decide +kernel) k) ?_
          show gO (tF T226 m 172 (la10 p0 q1 q2 q3 q4 x1 b2 b21 b41 2 b215 b228) [(.double (0 : UInt64))])
          refine gob (fun _ k => XS.dstore X226.here hx rfl (hb hby at_172) rfl (l' := (la11 p0 q1 q2 q3 q4 x1 b2 b21 b41 2 b215 b228 (0 : UInt64))) rfl k) ?_
          show gO (tF T226 m 174 (la11 p0 q1 q2 q3 q4 x1 b2 b21 b41 2 b215 b228 (0 : UInt64)) [])
          refine gob (fun _ k => XS.iload X226.here hx rfl (hb hby at_174) rfl k) ?_
          show gO (tF T226 m 176 (la11 p0 q1 q2 q3 q4 x1 b2 b21 b41 2 b215 b228 (0 : UInt64)) [(.int 2)])
          refine gob (fun _ k => XS.ifNo X226.here hx rfl (hb hby at_176) rfl ((if0 _ _).trans (tlt (by decide : (0 : Int32) < (2 : Int32))).2.2.2) k) ?_
          show gO (tF T226 m 179 (la11 p0 q1 q2 q3 q4 x1 b2 b21 b41 2 b215 b228 (0 : UInt64)) [])
          refine gob (fun _ k => XS.dload X226.here hx rfl (hb hby at_179) rfl k) ?_
          show gO (tF T226 m 181 (la11 p0 q1 q2 q3 q4 x1 b2 b21 b41 2 b215 b228 (0 : UInt64)) [(.double (0 : UInt64))])
          refine gob (fun _ k => XS.aload X226.here hx rfl (hb hby at_181) rfl rfl k) ?_
          show gO (tF T226 m 183 (la11 p0 q1 q2 q3 q4 x1 b2 b21 b41 2 b215 b228 (0 : UInt64)) [(.ref b21), (.double (0 : UInt64))])
          refine gob (fun _ k => XS.iconst X226.here hx rfl (hb hby at_183) k) ?_
          show gO (tF T226 m 184 (la11 p0 q1 q2 q3 q4 x1 b2 b21 b41 2 b215 b228 (0 : UInt64)) [(.int 0), (.ref b21), (.double (0 : UInt64))])
          have c241 := (c227.keep K226 nin0)
          obtain ⟨cl240, Ar240, aq240, S240, N240, H240, G240⟩ := id c241
          have hin240 : ¬ ((0 : Int32) < 0 ∨ cl240.slots.size ≤ ((0 : Int32)).toNatClampNeg) := inb_of S240 ⟨by decide, by decide⟩
          refine gob (X226.daload hx (j := (0 : Int32)) (v := (.double y25_)) (by rw [(rfl : T226.heap = _)]; exact Ar240.1) (State.isArrayOf_alike hZ.alike Ar240.2.1) Ar240.2.2 hin240 (Has.at H240 hin240 rfl) (g := (mkF m 184 (la11 p0 q1 q2 q3 q4 x1 b2 b21 b41 2 b215 b228 (0 : UInt64)) [(.int 0), (.ref b21), (.double (0 : UInt64))])) rfl rfl (hb hby at_184)) ?_
          show gO (tF T226 m 185 (la11 p0 q1 q2 q3 q4 x1 b2 b21 b41 2 b215 b228 (0 : UInt64)) [(.double y25_), (.double (0 : UInt64))])
          refine gob (fun _ k => XS.aload X226.here hx rfl (hb hby at_185) rfl rfl k) ?_
          show gO (tF T226 m 187 (la11 p0 q1 q2 q3 q4 x1 b2 b21 b41 2 b215 b228 (0 : UInt64)) [(.ref b2), (.double y25_), (.double (0 : UInt64))])
          refine gob (fun _ k => XS.aload X226.here hx rfl (hb hby at_187) rfl rfl k) ?_
          show gO (tF T226 m 189 (la11 p0 q1 q2 q3 q4 x1 b2 b21 b41 2 b215 b228 (0 : UInt64)) [(.ref b41), (.ref b2), (.double y25_), (.double (0 : UInt64))])
          refine gob (fun _ k => XS.iconst X226.here hx rfl (hb hby at_189) k) ?_
          show gO (tF T226 m 190 (la11 p0 q1 q2 q3 q4 x1 b2 b21 b41 2 b215 b228 (0 : UInt64)) [(.int 0), (.ref b41), (.ref b2), (.double y25_), (.double (0 : UInt64))])
          have c243 := (c236.keep K226 nin0)
          obtain ⟨cl242, Ar242, aq242, S242, N242, H242, G242⟩ := id c243
          have hin242 : ¬ ((0 : Int32) < 0 ∨ cl242.slots.size ≤ ((0 : Int32)).toNatClampNeg) := inb_of S242 ⟨by decide, by decide⟩
          refine gob (X226.iaload hx (j := (0 : Int32)) (v := (.int 2)) (by rw [(rfl : T226.heap = _)]; exact Ar242.1) (State.isArrayOf_alike hZ.alike Ar242.2.1) Ar242.2.2 hin242 (Has.at H242 hin242 rfl) (g := (mkF m 190 (la11 p0 q1 q2 q3 q4 x1 b2 b21 b41 2 b215 b228 (0 : UInt64)) [(.int 0), (.ref b41), (.ref b2), (.double y25_), (.double (0 : UInt64))])) rfl rfl (hb hby at_190)) ?_
          show gO (tF T226 m 191 (la11 p0 q1 q2 q3 q4 x1 b2 b21 b41 2 b215 b228 (0 : UInt64)) [(.int 2), (.ref b2), (.double y25_), (.double (0 : UInt64))])
          have c245 := (c233.keep K226 nin0)
          obtain ⟨cl244, Ar244, aq244, S244, N244, H244, G244⟩ := id c245
          have hin244 : ¬ ((2 : Int32) < 0 ∨ cl244.slots.size ≤ ((2 : Int32)).toNatClampNeg) := inb_of S244 ⟨by decide, by decide⟩
          refine gob (X226.daload hx (j := (2 : Int32)) (v := (.double y13_)) (by rw [(rfl : T226.heap = _)]; exact Ar244.1) (State.isArrayOf_alike hZ.alike Ar244.2.1) Ar244.2.2 hin244 (Has.at H244 hin244 rfl) (g := (mkF m 191 (la11 p0 q1 q2 q3 q4 x1 b2 b21 b41 2 b215 b228 (0 : UInt64)) [(.int 2), (.ref b2), (.double y25_), (.double (0 : UInt64))])) rfl rfl (hb hby at_191)) ?_
          show gO (tF T226 m 192 (la11 p0 q1 q2 q3 q4 x1 b2 b21 b41 2 b215 b228 (0 : UInt64)) [(.double y13_), (.double y25_), (.double (0 : UInt64))])
          have mg246 : Mag64 1090 (FP.dmul y25_ y13_) := own_dmul my25_ my13_ (by decide) (by decide) (by decide)
          refine gob (fun _ k => XS.dmulS X226.here hx rfl (hb hby at_192) rfl (v := (FP.dmul y25_ y13_)) (mg246.fin (by decide)).noNaN rfl k) ?_
          show gO (tF T226 m 193 (la11 p0 q1 q2 q3 q4 x1 b2 b21 b41 2 b215 b228 (0 : UInt64)) [(.double (FP.dmul y25_ y13_)), (.double (0 : UInt64))])
          have mg247 : Mag64 1092 (FP.dadd (0 : UInt64) (FP.dmul y25_ y13_)) := own_dadd (K := 1090) (own_m0.mono (by decide)) (mg246.mono (by decide)) (by decide) (by decide)
          refine gob (fun _ k => XS.daddS X226.here hx rfl (hb hby at_193) rfl (v := (FP.dadd (0 : UInt64) (FP.dmul y25_ y13_))) (mg247.fin (by decide)).noNaN rfl k) ?_
          show gO (tF T226 m 194 (la11 p0 q1 q2 q3 q4 x1 b2 b21 b41 2 b215 b228 (0 : UInt64)) [(.double (FP.dadd (0 : UInt64) (FP.dmul y25_ y13_)))])
          obtain ⟨u248_, hu248_⟩ : ∃ z, z = (FP.dadd (0 : UInt64) (FP.dmul y25_ y13_)) := ⟨_, rfl⟩
          have mu248_ : Mag64 1092 u248_ := by rw [hu248_]; exact mg247
          rw [← hu248_]
          show gO (tF T226 m 194 (la11 p0 q1 q2 q3 q4 x1 b2 b21 b41 2 b215 b228 (0 : UInt64)) [(.double u248_)])
          refine gob (fun _ k => XS.dstore X226.here hx rfl (hb hby at_194) rfl (l' := (la11 p0 q1 q2 q3 q4 x1 b2 b21 b41 2 b215 b228 u248_)) rfl k) ?_
          show gO (tF T226 m 196 (la11 p0 q1 q2 q3 q4 x1 b2 b21 b41 2 b215 b228 u248_) [])
          refine gob (fun _ k => XS.iload X226.here hx rfl (hb hby at_196) rfl k) ?_
          show gO (tF T226 m 198 (la11 p0 q1 q2 q3 q4 x1 b2 b21 b41 2 b215 b228 u248_) [(.int 2)])
          refine gob (fun _ k => XS.iconst X226.here hx rfl (hb hby at_198) k) ?_
          show gO (tF T226 m 199 (la11 p0 q1 q2 q3 q4 x1 b2 b21 b41 2 b215 b228 u248_) [(.int 1), (.int 2)])
          refine gob (fun _ k => XS.icmpNo X226.here hx rfl (hb hby at_199) rfl (tlt (by decide : (1 : Int32) < (2 : Int32))).2.2.2 k) ?_
          show gO (tF T226 m 202 (la11 p0 q1 q2 q3 q4 x1 b2 b21 b41 2 b215 b228 u248_) [])
          refine gob (fun _ k => XS.dload X226.here hx rfl (hb hby at_202) rfl k) ?_
          show gO (tF T226 m 204 (la11 p0 q1 q2 q3 q4 x1 b2 b21 b41 2 b215 b228 u248_) [(.double u248_)])
          refine gob (fun _ k => XS.aload X226.here hx rfl (hb hby at_204) rfl rfl k) ?_
          show gO (tF T226 m 206 (la11 p0 q1 q2 q3 q4 x1 b2 b21 b41 2 b215 b228 u248_) [(.ref b21), (.double u248_)])
          refine gob (fun _ k => XS.iconst X226.here hx rfl (hb hby at_206) k) ?_
          show gO (tF T226 m 207 (la11 p0 q1 q2 q3 q4 x1 b2 b21 b41 2 b215 b228 u248_) [(.int 1), (.ref b21), (.double u248_)])
          obtain ⟨cl249, Ar249, aq249, S249, N249, H249, G249⟩ := id c241
          have hin249 : ¬ ((1 : Int32) < 0 ∨ cl249.slots.size ≤ ((1 : Int32)).toNatClampNeg) := inb_of S249 ⟨by decide, by decide⟩
          refine gob (X226.daload hx (j := (1 : Int32)) (v := (.double y29_)) (by rw [(rfl : T226.heap = _)]; exact Ar249.1) (State.isArrayOf_alike hZ.alike Ar249.2.1) Ar249.2.2 hin249 (Has.at H249 hin249 rfl) (g := (mkF m 207 (la11 p0 q1 q2 q3 q4 x1 b2 b21 b41 2 b215 b228 u248_) [(.int 1), (.ref b21), (.double u248_)])) rfl rfl (hb hby at_207)) ?_
          show gO (tF T226 m 208 (la11 p0 q1 q2 q3 q4 x1 b2 b21 b41 2 b215 b228 u248_) [(.double y29_), (.double u248_)])
          refine gob (fun _ k => XS.aload X226.here hx rfl (hb hby at_208) rfl rfl k) ?_
          show gO (tF T226 m 210 (la11 p0 q1 q2 q3 q4 x1 b2 b21 b41 2 b215 b228 u248_) [(.ref b2), (.double y29_), (.double u248_)])
          refine gob (fun _ k => XS.aload X226.here hx rfl (hb hby at_210) rfl rfl k) ?_
          show gO (tF T226 m 212 (la11 p0 q1 q2 q3 q4 x1 b2 b21 b41 2 b215 b228 u248_) [(.ref b41), (.ref b2), (.double y29_), (.double u248_)])
          refine gob (fun _ k => XS.iconst X226.here hx rfl (hb hby at_212) k) ?_
          show gO (tF T226 m 213 (la11 p0 q1 q2 q3 q4 x1 b2 b21 b41 2 b215 b228 u248_) [(.int 1), (.ref b41), (.ref b2), (.double y29_), (.double u248_)])
          obtain ⟨cl250, Ar250, aq250, S250, N250, H250, G250⟩ := id c243
          have hin250 : ¬ ((1 : Int32) < 0 ∨ cl250.slots.size ≤ ((1 : Int32)).toNatClampNeg) := inb_of S250 ⟨by decide, by decide⟩
          refine gob (X226.iaload hx (j := (1 : Int32)) (v := (.int 3)) (by rw [(rfl : T226.heap = _)]; exact Ar250.1) (State.isArrayOf_alike hZ.alike Ar250.2.1) Ar250.2.2 hin250 (Has.at H250 hin250 rfl) (g := (mkF m 213 (la11 p0 q1 q2 q3 q4 x1 b2 b21 b41 2 b215 b228 u248_) [(.int 1), (.ref b41), (.ref b2), (.double y29_), (.double u248_)])) rfl rfl (hb hby at_213)) ?_
          show gO (tF T226 m 214 (la11 p0 q1 q2 q3 q4 x1 b2 b21 b41 2 b215 b228 u248_) [(.int 3), (.ref b2), (.double y29_), (.double u248_)])
          obtain ⟨cl251, Ar251, aq251, S251, N251, H251, G251⟩ := id c245
          have hin251 : ¬ ((3 : Int32) < 0 ∨ cl251.slots.size ≤ ((3 : Int32)).toNatClampNeg) := inb_of S251 ⟨by decide, by decide⟩
          refine gob (X226.daload hx (j := (3 : Int32)) (v := (.double y17_)) (by rw [(rfl : T226.heap = _)]; exact Ar251.1) (State.isArrayOf_alike hZ.alike Ar251.2.1) Ar251.2.2 hin251 (Has.at H251 hin251 rfl) (g := (mkF m 214 (la11 p0 q1 q2 q3 q4 x1 b2 b21 b41 2 b215 b228 u248_) [(.int 3), (.ref b2), (.double y29_), (.double u248_)])) rfl rfl (hb hby at_214)) ?_
          show gO (tF T226 m 215 (la11 p0 q1 q2 q3 q4 x1 b2 b21 b41 2 b215 b228 u248_) [(.double y17_), (.double y29_), (.double u248_)])
          have mg252 : Mag64 1090 (FP.dmul y29_ y17_) := own_dmul my29_ my17_ (by decide) (by decide) (by decide)
          refine gob (fun _ k => XS.dmulS X226.here hx rfl (hb hby at_215) rfl (v := (FP.dmul y29_ y17_)) (mg252.fin (by decide)).noNaN rfl k) ?_
          show gO (tF T226 m 216 (la11 p0 q1 q2 q3 q4 x1 b2 b21 b41 2 b215 b228 u248_) [(.double (FP.dmul y29_ y17_)), (.double u248_)])
          have mg253 : Mag64 1094 (FP.dadd u248_ (FP.dmul y29_ y17_)) := own_dadd (K := 1092) (mu248_.mono (by decide)) (mg252.mono (by decide)) (by decide) (by decide)
          refine gob (fun _ k => XS.daddS X226.here hx rfl (hb hby at_216) rfl (v := (FP.dadd u248_ (FP.dmul y29_ y17_))) (mg253.fin (by decide)).noNaN rfl k) ?_
          show gO (tF T226 m 217 (la11 p0 q1 q2 q3 q4 x1 b2 b21 b41 2 b215 b228 u248_) [(.double (FP.dadd u248_ (FP.dmul y29_ y17_)))])
          obtain ⟨u254_, hu254_⟩ : ∃ z, z = (FP.dadd u248_ (FP.dmul y29_ y17_)) := ⟨_, rfl⟩
          have mu254_ : Mag64 1094 u254_ := by rw [hu254_]; exact mg253
          rw [← hu254_]
          show gO (tF T226 m 217 (la11 p0 q1 q2 q3 q4 x1 b2 b21 b41 2 b215 b228 u248_) [(.double u254_)])
          refine gob (fun _ k => XS.dstore X226.here hx rfl (hb hby at_217) rfl (l' := (la11 p0 q1 q2 q3 q4 x1 b2 b21 b41 2 b215 b228 u254_)) rfl k) ?_
          show gO (tF T226 m 219 (la11 p0 q1 q2 q3 q4 x1 b2 b21 b41 2 b215 b228 u254_) [])
          refine gob (fun _ k => XS.iload X226.here hx rfl (hb hby at_219) rfl k) ?_
          show gO (tF T226 m 221 (la11 p0 q1 q2 q3 q4 x1 b2 b21 b41 2 b215 b228 u254_) [(.int 2)])
          refine gob (fun _ k => XS.iconst X226.here hx rfl (hb hby at_221) k) ?_
          show gO (tF T226 m 222 (la11 p0 q1 q2 q3 q4 x1 b2 b21 b41 2 b215 b228 u254_) [(.int 2), (.int 2)])
          refine gob (fun _ k => XS.icmpYes X226.here hx rfl (pc0 := 222) (pc' := 242) rfl (hb hby at_222) rfl (flt (by decide : ¬ ((2 : Int32) < (2 : Int32)))).2.2.2 (by decide) (by decide) k) ?_
          show gO (tF T226 m 242 (la11 p0 q1 q2 q3 q4 x1 b2 b21 b41 2 b215 b228 u254_) [])
          refine gob (fun _ k => XS.iload X226.here hx rfl (hb hby at_242) rfl k) ?_
          show gO (tF T226 m 244 (la11 p0 q1 q2 q3 q4 x1 b2 b21 b41 2 b215 b228 u254_) [(.int 2)])
          refine gob (fun _ k => XS.iconst X226.here hx rfl (hb hby at_244) k) ?_
          show gO (tF T226 m 245 (la11 p0 q1 q2 q3 q4 x1 b2 b21 b41 2 b215 b228 u254_) [(.int 3), (.int 2)])
          refine gob (fun _ k => XS.icmpYes X226.here hx rfl (pc0 := 245) (pc' := 265) rfl (hb hby at_245) rfl (flt (by decide : ¬ ((3 : Int32) < (2 : Int32)))).2.2.2 (by decide) (by decide) k) ?_
          show gO (tF T226 m 265 (la11 p0 q1 q2 q3 q4 x1 b2 b21 b41 2 b215 b228 u254_) [])
          obtain ⟨T255, h255, X255, e255, E255, A255, D255, -, st255⟩ := newO X226 hx hZ hown (hW hw 9 rfl) (hW hw 10 rfl) (hW hw 11 rfl) (rfl : T226.heap = _) (g := (mkF m 265 (la11 p0 q1 q2 q3 q4 x1 b2 b21 b41 2 b215 b228 u254_) [])) rfl (hb hby at_265) (by decide) (by decide)
          obtain ⟨b255, g255⟩ : ∃ z, z = T226.heap.size := ⟨_, rfl⟩
          rw [← g255] at A255 D255 st255
          have n256 : b2 ≠ b255 := Nat.ne_of_lt (Nat.lt_of_lt_of_le c245.lt (Nat.le_of_eq g255.symm))
          have n257 : b21 ≠ b255 := Nat.ne_of_lt (Nat.lt_of_lt_of_le c241.lt (Nat.le_of_eq g255.symm))
          have n258 : b41 ≠ b255 := Nat.ne_of_lt (Nat.lt_of_lt_of_le c243.lt (Nat.le_of_eq g255.symm))
          have c259 := (F218.keep K226 nin0)
          have n260 : b215 ≠ b255 := Nat.ne_of_lt (Nat.lt_of_lt_of_le c259.lt (Nat.le_of_eq g255.symm))
          have n261 : b228 ≠ b255 := Nat.ne_of_lt (Nat.lt_of_lt_of_le F231.lt (Nat.le_of_eq g255.symm))
          have g262 : n0 ≤ b255 := Nat.le_trans z239 (Nat.le_of_eq g255.symm)
          have z263 : n0 ≤ h255.size := Nat.le_trans z239 E255.1
          have F255_dofs : Fld Z h255 b255 "com/example/fenda/fenda/analysis/Combination" "dofs" "[I" .null := D255 (Or.inr (hW hw 24 rfl)) (ty := (.array .int)) (by decide)
          have F255_weights : Fld Z h255 b255 "com/example/fenda/fenda/analysis/Combination" "weights" "[D" .null := D255 (Or.inr (hW hw 26 rfl)) (ty := (.array .double)) (by decide)
          refine gob st255 ?_
          replace X255 := castX X255 (rfl : _ = 6) (rfl : _ = 18)
          show gO (tF T255 m 268 (la11 p0 q1 q2 q3 q4 x1 b2 b21 b41 2 b215 b228 u254_) [(.ref b255)])
          refine gob (fun _ k => XS.dup X255.here hx rfl (hb hby at_268) rfl rfl k) ?_
          show gO (tF T255 m 269 (la11 p0 q1 q2 q3 q4 x1 b2 b21 b41 2 b215 b228 u254_) [(.ref b255), (.ref b255)])
          refine gob (fun _ k => XS.aload X255.here hx rfl (hb hby at_269) rfl rfl k) ?_
          show gO (tF T255 m 271 (la11 p0 q1 q2 q3 q4 x1 b2 b21 b41 2 b215 b228 u254_) [(.ref b215), (.ref b255), (.ref b255)])
          refine gob (fun _ k => XS.aload X255.here hx rfl (hb hby at_271) rfl rfl k) ?_
          show gO (tF T255 m 273 (la11 p0 q1 q2 q3 q4 x1 b2 b21 b41 2 b215 b228 u254_) [(.ref b228), (.ref b215), (.ref b255), (.ref b255)])
          obtain ⟨_, _, ⟨T264, L264, k264, n264⟩, -, X264, ⟨Lc264, hQ264, l264, y264, z264⟩, st264⟩ := X255.specialBack hx (y := (⟨"com/example/fenda/fenda/analysis/Combination", "<init>", "([I[D)V"⟩ : MethodName)) rfl hown (mvT hZ (hW hw 12 rfl)) (mvT hZ (hW hw 13 rfl)) (mvT hZ (hW hw 14 rfl)) (by decide) (backOf (W := 1) (rm3 l Z a0 hw [] b255 b215 b228 h255 n0 z263 A255 F255_dofs g262 F255_weights) hZ (hW hw 14 rfl) (hW hw 11 rfl) (by decide) (by decide)) (g := (mkF m 273 (la11 p0 q1 q2 q3 q4 x1 b2 b21 b41 2 b215 b228 u254_) [(.ref b228), (.ref b215), (.ref b255), (.ref b255)])) rfl (by rw [hml]; rfl) (Steps.refl _) (a := b255) (argsL := [(.ref b215), (.ref b228)]) (rest := [(.ref b255)]) (lenOf pd_3 rfl) rfl (by show 2 * 0 + _ ≤ _; exact Nat.le_of_eq rfl) (hb hby at_273) (fun _ _ => ⟨rfl, e255, (by decide : 6 + 0 ≤ _), (by decide : 18 + 0 ≤ _)⟩)
          dsimp only [Pt.U, Pt.locs, Pt.cells, Pt.slots] at X264 l264 y264 z264 st264 hQ264
          replace X264 := castX X264 (y264.trans (rfl : _ = 6)) (z264.trans (rfl : _ = 18))
          obtain ⟨rfl, Nq264, K264, F265, F266⟩ := hQ264
          have N264 : Fr n0 L264 := l264 ▸ Fr.app N226 Nq264
          have z267 : n0 ≤ T264.heap.size := Nat.le_trans z263 K264.1
          refine gob (fun _ k => st264.trans k) ?_
          show gO (tF T264 m 276 (la11 p0 q1 q2 q3 q4 x1 b2 b21 b41 2 b215 b228 u254_) [(.ref b255)])
          refine gob (fun _ k => XS.astore X264.here hx rfl (hb hby at_276) rfl rfl (l' := (la12 p0 q1 q2 q3 q4 x1 b2 b21 b41 2 b215 b228 u254_ b255)) rfl k) ?_
          show gO (tF T264 m 278 (la12 p0 q1 q2 q3 q4 x1 b2 b21 b41 2 b215 b228 u254_ b255) [])
          refine gob (fun _ k => XS.aload X264.here hx rfl (hb hby at_278) rfl rfl k) ?_
          show gO (tF T264 m 280 (la12 p0 q1 q2 q3 q4 x1 b2 b21 b41 2 b215 b228 u254_ b255) [(.ref b255)])
          refine gob (fun _ k => XS.aload X264.here hx rfl (hb hby at_280) rfl rfl k) ?_
          show gO (tF T264 m 282 (la12 p0 q1 q2 q3 q4 x1 b2 b21 b41 2 b215 b228 u254_ b255) [(.ref b2), (.ref b255)])
          have c269 := ((c259.ext E255).keep K264 (ninS n260 nin0))
          have c270 := ((F231.ext E255).keep K264 (ninS n261 nin0))
          have c271 := ((c245.ext E255).keep K264 (ninS n256 nin0))
          have c272 := (A255.keep K264)
          obtain ⟨cq268, kq268, q268a, q268b, q268c⟩ := isOf hZ (rfl : T264.heap = _) c272
          obtain ⟨_, _, ⟨T268, L268, k268, n268⟩, -, X268, ⟨Lc268, hQ268, l268, y268, z268⟩, st268⟩ := X264.virtualBack hx (y := (⟨"com/example/fenda/fenda/analysis/Combination", "of", "([D)D"⟩ : MethodName)) (z := (⟨"com/example/fenda/fenda/analysis/Combination", "of", "([D)D"⟩ : MethodName)) hown (mvT hZ (hW hw 27 rfl)) (mvT hZ (hW hw 28 rfl)) (notFace_of_selects (args := #[]) (mvT hZ (hW hw 30 rfl))) (mvT hZ (hW hw 30 rfl)) (mvT hZ (hW hw 29 rfl)) (by decide) (backOf (W := 0) (rmof_23 l Z a0 hw [] b255 b2 b215 b228 k216 k229 y25_ y29_ k2 y5_ y9_ y13_ y17_ T264.heap n0 z267 F265 F266 c269 my25_ my29_ c270 my5_ my9_ my13_ my17_ c271) hZ (hW hw 31 rfl) (hW hw 11 rfl) (by decide) (by decide)) q268a q268c (g := (mkF m 282 (la12 p0 q1 q2 q3 q4 x1 b2 b21 b41 2 b215 b228 u254_ b255) [(.ref b2), (.ref b255)])) rfl (by rw [hml]; rfl) (Steps.refl _) (argsL := [(.ref b2)]) (rest := []) (lenOf pd_4 rfl) rfl (by show 2 * 0 + _ ≤ _; exact Nat.le_of_eq rfl) (hb hby at_282) (fun _ _ => ⟨rfl, (rfl : T264.heap = _), (by decide : 6 + 0 ≤ _), (by decide : 18 + 0 ≤ _)⟩)
          dsimp only [Pt.U, Pt.locs, Pt.cells, Pt.slots] at X268 l268 y268 z268 st268 hQ268
          replace X268 := castX X268 (y268.trans (rfl : _ = 6)) (z268.trans (rfl : _ = 18))
          obtain ⟨r268, rfl, hr268, Nq268, e268⟩ := hQ268
          have N268 : Fr n0 L268 := l268 ▸ Fr.app N264 Nq268
          refine gob (fun _ k => st268.trans k) ?_
          show gO (tF T268 m 285 (la12 p0 q1 q2 q3 q4 x1 b2 b21 b41 2 b215 b228 u254_ b255) [(.double r268)])
          refine gob (fun _ k => XS.dstore X268.here hx rfl (hb hby at_285) rfl (l' := (la13 p0 q1 q2 q3 q4 x1 b2 b21 b41 2 b215 b228 u254_ b255 r268)) rfl k) ?_
          show gO (tF T268 m 287 (la13 p0 q1 q2 q3 q4 x1 b2 b21 b41 2 b215 b228 u254_ b255 r268) [])
          refine gob (fun _ k => XS.dload X268.here hx rfl (hb hby at_287) rfl k) ?_
          show gO (tF T268 m 289 (la13 p0 q1 q2 q3 q4 x1 b2 b21 b41 2 b215 b228 u254_ b255 r268) [(.double r268)])
          refine gob (fun _ k => XS.dload X268.here hx rfl (hb hby at_289) rfl k) ?_
          show gO (tF T268 m 291 (la13 p0 q1 q2 q3 q4 x1 b2 b21 b41 2 b215 b228 u254_ b255 r268) [(.double u254_), (.double r268)])
          have hqr268 : r268 = u254_ := hr268.trans (by rw [hu254_, hu248_])
          refine gob (fun _ k => XS.dcmpS X268.here hx rfl (hb hby at_291) rfl (v := (0 : Int32)) (dcmpV_eq hqr268 (by rw [hqr268]; exact (mu254_.fin (by decide)).noNaN) .l) k) ?_
          show gO (tF T268 m 292 (la13 p0 q1 q2 q3 q4 x1 b2 b21 b41 2 b215 b228 u254_ b255 r268) [(.int 0)])
          refine gob (fun _ k => XS.ifNo X268.here hx rfl (hb hby at_292) rfl ((if0 _ _).trans (teq (by decide : (0 : Int32) = (0 : Int32))).2) k) ?_
          show gO (tF T268 m 295 (la13 p0 q1 q2 q3 q4 x1 b2 b21 b41 2 b215 b228 u254_ b255 r268) [])
          refine gob (fun _ k => XS.iconst X268.here hx rfl (hb hby at_295) k) ?_
          show gO (tF T268 m 296 (la13 p0 q1 q2 q3 q4 x1 b2 b21 b41 2 b215 b228 u254_ b255 r268) [(.int 1)])
          refine gob (fun _ k => XS.goto X268.here hx rfl (pc0 := 296) (pc' := 300) rfl (hb hby at_296) (by decide) (by decide) k) ?_
          show gO (tF T268 m 300 (la13 p0 q1 q2 q3 q4 x1 b2 b21 b41 2 b215 b228 u254_ b255 r268) [(.int 1)])
          refine goZ X268 hx hlk (t := .boolean) Bd.returns (by simp) (hb hby at_300) (z' := (1 : Int32)) rfl ?_ (by decide) (by decide)
          show Q0 Z p0 q1 q2 q3 q4 h0 n0 (some (.int (1 : Int32))) T268.heap _
          exact ⟨rfl, N268⟩
    · skip
      refine gob (fun _ k => XS.ifNo X41.here hx rfl (hb hby at_108) rfl ((if0 _ _).trans (feq hc108_48).1) k) ?_
      show gO (tF T41 m 111 (la8 p0 q1 q2 q3 q4 x1 b2 b21 b41 0) [])
      refine gob (fun _ k => XS.aload X41.here hx rfl (hb hby at_111) rfl rfl k) ?_
      show gO (tF T41 m 113 (la8 p0 q1 q2 q3 q4 x1 b2 b21 b41 0) [(.ref b41)])
      refine gob (fun _ k => XS.iload X41.here hx rfl (hb hby at_113) rfl k) ?_
      show gO (tF T41 m 115 (la8 p0 q1 q2 q3 q4 x1 b2 b21 b41 0) [(.int 0), (.ref b41)])
      refine gob (fun _ k => XS.iconst X41.here hx rfl (hb hby at_115) k) ?_
      show gO (tF T41 m 116 (la8 p0 q1 q2 q3 q4 x1 b2 b21 b41 0) [(.int 1), (.int 0), (.ref b41)])
      obtain ⟨cl273, Ar273, aq273, S273, N273, H273, G273⟩ := id V41
      have hin273 : ¬ ((0 : Int32) < 0 ∨ cl273.slots.size ≤ ((0 : Int32)).toNatClampNeg) := inb_of S273 ⟨by decide, by decide⟩
      obtain ⟨T274, h274, X274, e274, W274, st274⟩ := stI X41 hx hZ e41 Ar273 (j := (0 : Int32)) hin273 (g := (mkF m 116 (la8 p0 q1 q2 q3 q4 x1 b2 b21 b41 0) [(.int 1), (.int 0), (.ref b41)])) rfl rfl (hb hby at_116)
      refine gob st274 ?_
      have z275 : n0 ≤ h274.size := Nat.le_trans z46 (Keep.of_wr W274).1
      have N274 := Fr.snoc X274 N39 g45
      have V274 : Arv Z h274 b41 k41 .int (4 : Int32) [(.int 1), (.int 0), (.int 0), (.int 0)] (.int 0) := Arv.set Ar273 aq273 S273 N273 H273 G273 rfl W274 0 rfl (Nat.le_of_ble_eq_true rfl)
      show gO (tF T274 m 117 (la8 p0 q1 q2 q3 q4 x1 b2 b21 b41 0) [])
      refine gob (fun _ k => XS.iinc X274.here hx rfl (hb hby at_117) rfl (l' := (la8 p0 q1 q2 q3 q4 x1 b2 b21 b41 1)) rfl k) ?_
      show gO (tF T274 m 120 (la8 p0 q1 q2 q3 q4 x1 b2 b21 b41 1) [])
      refine gob (fun _ k => XS.iload X274.here hx rfl (hb hby at_120) rfl k) ?_
      show gO (tF T274 m 122 (la8 p0 q1 q2 q3 q4 x1 b2 b21 b41 1) [(.int x1)])
      refine gob (fun _ k => XS.iconst X274.here hx rfl (hb hby at_122) k) ?_
      show gO (tF T274 m 123 (la8 p0 q1 q2 q3 q4 x1 b2 b21 b41 1) [(.int 4), (.int x1)])
      refine gob (fun _ k => XS.iand X274.here hx rfl (hb hby at_123) rfl k) ?_
      show gO (tF T274 m 124 (la8 p0 q1 q2 q3 q4 x1 b2 b21 b41 1) [(.int (x1 &&& (4 : Int32)))])
      by_cases hc124_276 : (x1 &&& (4 : Int32)) = (0 : Int32)
      · skip
        refine gob (fun _ k => XS.ifYes X274.here hx rfl (pc0 := 124) (pc' := 136) rfl (hb hby at_124) rfl ((if0 _ _).trans (teq hc124_276).1) (by decide) (by decide) k) ?_
        show gO (tF T274 m 136 (la8 p0 q1 q2 q3 q4 x1 b2 b21 b41 1) [])
        refine gob (fun _ k => XS.iload X274.here hx rfl (hb hby at_136) rfl k) ?_
        show gO (tF T274 m 138 (la8 p0 q1 q2 q3 q4 x1 b2 b21 b41 1) [(.int x1)])
        refine gob (fun _ k => XS.bipush X274.here hx rfl (hb hby at_138) k) ?_
        show gO (tF T274 m 140 (la8 p0 q1 q2 q3 q4 x1 b2 b21 b41 1) [(.int 8), (.int x1)])
        refine gob (fun _ k => XS.iand X274.here hx rfl (hb hby at_140) rfl k) ?_
        show gO (tF T274 m 141 (la8 p0 q1 q2 q3 q4 x1 b2 b21 b41 1) [(.int (x1 &&& (8 : Int32)))])
        by_cases hc141_277 : (x1 &&& (8 : Int32)) = (0 : Int32)
        · skip
          refine gob (fun _ k => XS.ifYes X274.here hx rfl (pc0 := 141) (pc' := 153) rfl (hb hby at_141) rfl ((if0 _ _).trans (teq hc141_277).1) (by decide) (by decide) k) ?_
          show gO (tF T274 m 153 (la8 p0 q1 q2 q3 q4 x1 b2 b21 b41 1) [])
          refine gob (fun _ k => XS.aload X274.here hx rfl (hb hby at_153) rfl rfl k) ?_
          show gO (tF T274 m 155 (la8 p0 q1 q2 q3 q4 x1 b2 b21 b41 1) [(.ref b41)])
          refine gob (fun _ k => XS.iload X274.here hx rfl (hb hby at_155) rfl k) ?_
          show gO (tF T274 m 157 (la8 p0 q1 q2 q3 q4 x1 b2 b21 b41 1) [(.int 1), (.ref b41)])
          obtain ⟨_, _, ⟨T278, L278, k278, n278⟩, -, X278, ⟨Lc278, hQ278, l278, y278, z278⟩, st278⟩ := Jvm.LawKit.callS X274 hx (y := (⟨"com/example/fenda/fenda/analysis/CombinationOfPinLaw", "prefixInt", "([II)[I"⟩ : MethodName)) hown (mvT hZ (hW hw 2 rfl)) (mvT hZ (hW hw 3 rfl)) (mvT hZ (hW hw 4 rfl)) (mvT hZ (hW hw 5 rfl)) (by decide) (backOf (W := 0) (rmpi1 l Z a0 hw [] b41 k41 (1 : Int32) (0 : Int32) (0 : Int32) (0 : Int32) h274 n0 z275 V274) hZ (hW hw 5 rfl) (hW hw 4 rfl) (by decide) (by decide)) (g := (mkF m 157 (la8 p0 q1 q2 q3 q4 x1 b2 b21 b41 1) [(.int 1), (.ref b41)])) rfl (by rw [hml]; rfl) (argsL := [(.ref b41), (.int 1)]) (rest := []) (lenOf pd_1 rfl) rfl (by show 2 * 0 + _ ≤ _; exact Nat.le_of_eq rfl) (hb hby at_157) (fun _ _ => ⟨rfl, e274, (by decide : 3 + 1 ≤ _), (by decide : 12 + 1 ≤ _)⟩)
          dsimp only [Pt.U, Pt.locs, Pt.cells, Pt.slots] at X278 l278 y278 z278 st278 hQ278
          replace X278 := castX X278 (y278.trans (rfl : _ = 4)) (z278.trans (rfl : _ = 13))
          obtain ⟨b279, k280, rfl, Nq278, K278, hz281, F282⟩ := hQ278
          have N278 : Fr n0 L278 := l278 ▸ Fr.app N274 Nq278
          have c284 := ((c42.ext E41).other W274 n43)
          have n283 : b2 ≠ b279 := Nat.ne_of_lt (Nat.lt_of_lt_of_le c284.lt hz281)
          have c286 := ((V39.ext E41).other W274 n44)
          have n285 : b21 ≠ b279 := Nat.ne_of_lt (Nat.lt_of_lt_of_le c286.lt hz281)
          have n287 : b41 ≠ b279 := Nat.ne_of_lt (Nat.lt_of_lt_of_le V274.lt hz281)
          have g288 : n0 ≤ b279 := Nat.le_trans z275 hz281
          have z289 : n0 ≤ T278.heap.size := Nat.le_trans z275 K278.1
          refine gob st278 ?_
          show gO (tF T278 m 160 (la8 p0 q1 q2 q3 q4 x1 b2 b21 b41 1) [(.ref b279)])
          refine gob (fun _ k => XS.astore X278.here hx rfl (hb hby at_160) rfl rfl (l' := (la9 p0 q1 q2 q3 q4 x1 b2 b21 b41 1 b279)) rfl k) ?_
          show gO (tF T278 m 162 (la9 p0 q1 q2 q3 q4 x1 b2 b21 b41 1 b279) [])
          refine gob (fun _ k => XS.aload X278.here hx rfl (hb hby at_162) rfl rfl k) ?_
          show gO (tF T278 m 164 (la9 p0 q1 q2 q3 q4 x1 b2 b21 b41 1 b279) [(.ref b21)])
          refine gob (fun _ k => XS.iload X278.here hx rfl (hb hby at_164) rfl k) ?_
          show gO (tF T278 m 166 (la9 p0 q1 q2 q3 q4 x1 b2 b21 b41 1 b279) [(.int 1), (.ref b21)])
          have c291 := (c286.keep K278 nin0)
          obtain ⟨_, _, ⟨T290, L290, k290, n290⟩, -, X290, ⟨Lc290, hQ290, l290, y290, z290⟩, st290⟩ := Jvm.LawKit.callS X278 hx (y := (⟨"com/example/fenda/fenda/analysis/CombinationOfPinLaw", "prefixDouble", "([DI)[D"⟩ : MethodName)) hown (mvT hZ (hW hw 6 rfl)) (mvT hZ (hW hw 7 rfl)) (mvT hZ (hW hw 4 rfl)) (mvT hZ (hW hw 8 rfl)) (by decide) (backOf (W := 0) (rmpd1 l Z a0 hw [] b21 k21 y25_ y29_ y33_ y37_ T278.heap n0 z289 c291) hZ (hW hw 8 rfl) (hW hw 4 rfl) (by decide) (by decide)) (g := (mkF m 166 (la9 p0 q1 q2 q3 q4 x1 b2 b21 b41 1 b279) [(.int 1), (.ref b21)])) rfl (by rw [hml]; rfl) (argsL := [(.ref b21), (.int 1)]) (rest := []) (lenOf pd_2 rfl) rfl (by show 2 * 0 + _ ≤ _; exact Nat.le_of_eq rfl) (hb hby at_166) (fun _ _ => ⟨rfl, (rfl : T278.heap = _), (by decide : 4 + 1 ≤ _), (by decide : 13 + 1 ≤ _)⟩)
          dsimp only [Pt.U, Pt.locs, Pt.cells, Pt.slots] at X290 l290 y290 z290 st290 hQ290
          replace X290 := castX X290 (y290.trans (rfl : _ = 5)) (z290.trans (rfl : _ = 14))
          obtain ⟨b292, k293, rfl, Nq290, K290, hz294, F295⟩ := hQ290
          have N290 : Fr n0 L290 := l290 ▸ Fr.app N278 Nq290
          have c297 := (c284.keep K278 nin0)
          have n296 : b2 ≠ b292 := Nat.ne_of_lt (Nat.lt_of_lt_of_le c297.lt hz294)
          have n298 : b21 ≠ b292 := Nat.ne_of_lt (Nat.lt_of_lt_of_le c291.lt hz294)
          have c300 := (V274.keep K278 nin0)
          have n299 : b41 ≠ b292 := Nat.ne_of_lt (Nat.lt_of_lt_of_le c300.lt hz294)
          have n301 : b279 ≠ b292 := Nat.ne_of_lt (Nat.lt_of_lt_of_le F282.lt hz294)
          have g302 : n0 ≤ b292 := Nat.le_trans z289 hz294
          have z303 : n0 ≤ T290.heap.size := Nat.le_trans z289 K290.1
          refine gob st290 ?_
          show gO (tF T290 m 169 (la9 p0 q1 q2 q3 q4 x1 b2 b21 b41 1 b279) [(.ref b292)])
          refine gob (fun _ k => XS.astore X290.here hx rfl (hb hby at_169) rfl rfl (l' := (la10 p0 q1 q2 q3 q4 x1 b2 b21 b41 1 b279 b292)) rfl k) ?_
          show gO (tF T290 m 171 (la10 p0 q1 q2 q3 q4 x1 b2 b21 b41 1 b279 b292) [])
          refine gob (fun _ k => XS.dconst0 X290.here hx rfl (hb hby at_171) (v := (0 : UInt64)) (by decide +kernel) k) ?_
          show gO (tF T290 m 172 (la10 p0 q1 q2 q3 q4 x1 b2 b21 b41 1 b279 b292) [(.double (0 : UInt64))])
          refine gob (fun _ k => XS.dstore X290.here hx rfl (hb hby at_172) rfl (l' := (la11 p0 q1 q2 q3 q4 x1 b2 b21 b41 1 b279 b292 (0 : UInt64))) rfl k) ?_
          show gO (tF T290 m 174 (la11 p0 q1 q2 q3 q4 x1 b2 b21 b41 1 b279 b292 (0 : UInt64)) [])
          refine gob (fun _ k => XS.iload X290.here hx rfl (hb hby at_174) rfl k) ?_
          show gO (tF T290 m 176 (la11 p0 q1 q2 q3 q4 x1 b2 b21 b41 1 b279 b292 (0 : UInt64)) [(.int 1)])
          refine gob (fun _ k => XS.ifNo X290.here hx rfl (hb hby at_176) rfl ((if0 _ _).trans (tlt (by decide : (0 : Int32) < (1 : Int32))).2.2.2) k) ?_
          show gO (tF T290 m 179 (la11 p0 q1 q2 q3 q4 x1 b2 b21 b41 1 b279 b292 (0 : UInt64)) [])
          refine gob (fun _ k => XS.dload X290.here hx rfl (hb hby at_179) rfl k) ?_
          show gO (tF T290 m 181 (la11 p0 q1 q2 q3 q4 x1 b2 b21 b41 1 b279 b292 (0 : UInt64)) [(.double (0 : UInt64))])
          refine gob (fun _ k => XS.aload X290.here hx rfl (hb hby at_181) rfl rfl k) ?_
          show gO (tF T290 m 183 (la11 p0 q1 q2 q3 q4 x1 b2 b21 b41 1 b279 b292 (0 : UInt64)) [(.ref b21), (.double (0 : UInt64))])
          refine gob (fun _ k => XS.iconst X290.here hx rfl (hb hby at_183) k) ?_
          show gO (tF T290 m 184 (la11 p0 q1 q2 q3 q4 x1 b2 b21 b41 1 b279 b292 (0 : UInt64)) [(.int 0), (.ref b21), (.double (0 : UInt64))])
          have c305 := (c291.keep K290 nin0)
          obtain ⟨cl304, Ar304, aq304, S304, N304, H304, G304⟩ := id c305
          have hin304 : ¬ ((0 : Int32) < 0 ∨ cl304.slots.size ≤ ((0 : Int32)).toNatClampNeg) := inb_of S304 ⟨by decide, by decide⟩
          refine gob (X290.daload hx (j := (0 : Int32)) (v := (.double y25_)) (by rw [(rfl : T290.heap = _)]; exact Ar304.1) (State.isArrayOf_alike hZ.alike Ar304.2.1) Ar304.2.2 hin304 (Has.at H304 hin304 rfl) (g := (mkF m 184 (la11 p0 q1 q2 q3 q4 x1 b2 b21 b41 1 b279 b292 (0 : UInt64)) [(.int 0), (.ref b21), (.double (0 : UInt64))])) rfl rfl (hb hby at_184)) ?_
          show gO (tF T290 m 185 (la11 p0 q1 q2 q3 q4 x1 b2 b21 b41 1 b279 b292 (0 : UInt64)) [(.double y25_), (.double (0 : UInt64))])
          refine gob (fun _ k => XS.aload X290.here hx rfl (hb hby at_185) rfl rfl k) ?_
          show gO (tF T290 m 187 (la11 p0 q1 q2 q3 q4 x1 b2 b21 b41 1 b279 b292 (0 : UInt64)) [(.ref b2), (.double y25_), (.double (0 : UInt64))])
          refine gob (fun _ k => XS.aload X290.here hx rfl (hb hby at_187) rfl rfl k) ?_
          show gO (tF T290 m 189 (la11 p0 q1 q2 q3 q4 x1 b2 b21 b41 1 b279 b292 (0 : UInt64)) [(.ref b41), (.ref b2), (.double y25_), (.double (0 : UInt64))])
          refine gob (fun _ k => XS.iconst X290.here hx rfl (hb hby at_189) k) ?_
          show gO (tF T290 m 190 (la11 p0 q1 q2 q3 q4 x1 b2 b21 b41 1 b279 b292 (0 : UInt64)) [(.int 0), (.ref b41), (.ref b2), (.double y25_), (.double (0 : UInt64))])
          have c307 := (c300.keep K290 nin0)
          obtain ⟨cl306, Ar306, aq306, S306, N306, H306, G306⟩ := id c307
          have hin306 : ¬ ((0 : Int32) < 0 ∨ cl306.slots.size ≤ ((0 : Int32)).toNatClampNeg) := inb_of S306 ⟨by decide, by decide⟩
          refine gob (X290.iaload hx (j := (0 : Int32)) (v := (.int 1)) (by rw [(rfl : T290.heap = _)]; exact Ar306.1) (State.isArrayOf_alike hZ.alike Ar306.2.1) Ar306.2.2 hin306 (Has.at H306 hin306 rfl) (g := (mkF m 190 (la11 p0 q1 q2 q3 q4 x1 b2 b21 b41 1 b279 b292 (0 : UInt64)) [(.int 0), (.ref b41), (.ref b2), (.double y25_), (.double (0 : UInt64))])) rfl rfl (hb hby at_190)) ?_
          show gO (tF T290 m 191 (la11 p0 q1 q2 q3 q4 x1 b2 b21 b41 1 b279 b292 (0 : UInt64)) [(.int 1), (.ref b2), (.double y25_), (.double (0 : UInt64))])
          have c309 := (c297.keep K290 nin0)
          obtain ⟨cl308, Ar308, aq308, S308, N308, H308, G308⟩ := id c309
          have hin308 : ¬ ((1 : Int32) < 0 ∨ cl308.slots.size ≤ ((1 : Int32)).toNatClampNeg) := inb_of S308 ⟨by decide, by decide⟩
          refine gob (X290.daload hx (j := (1 : Int32)) (v := (.double y9_)) (by rw [(rfl : T290.heap = _)]; exact Ar308.1) (State.isArrayOf_alike hZ.alike Ar308.2.1) Ar308.2.2 hin308 (Has.at H308 hin308 rfl) (g := (mkF m 191 (la11 p0 q1 q2 q3 q4 x1 b2 b21 b41 1 b279 b292 (0 : UInt64)) [(.int 1), (.ref b2), (.double y25_), (.double (0 : UInt64))])) rfl rfl (hb hby at_191)) ?_
          show gO (tF T290 m 192 (la11 p0 q1 q2 q3 q4 x1 b2 b21 b41 1 b279 b292 (0 : UInt64)) [(.double y9_), (.double y25_), (.double (0 : UInt64))])
          have mg310 : Mag64 1090 (FP.dmul y25_ y9_) := own_dmul my25_ my9_ (by decide) (by decide) (by decide)
          refine gob (fun _ k => XS.dmulS X290.here hx rfl (hb hby at_192) rfl (v := (FP.dmul y25_ y9_)) (mg310.fin (by decide)).noNaN rfl k) ?_
          show gO (tF T290 m 193 (la11 p0 q1 q2 q3 q4 x1 b2 b21 b41 1 b279 b292 (0 : UInt64)) [(.double (FP.dmul y25_ y9_)), (.double (0 : UInt64))])
          have mg311 : Mag64 1092 (FP.dadd (0 : UInt64) (FP.dmul y25_ y9_)) := own_dadd (K := 1090) (own_m0.mono (by decide)) (mg310.mono (by decide)) (by decide) (by decide)
          refine gob (fun _ k => XS.daddS X290.here hx rfl (hb hby at_193) rfl (v := (FP.dadd (0 : UInt64) (FP.dmul y25_ y9_))) (mg311.fin (by decide)).noNaN rfl k) ?_
          show gO (tF T290 m 194 (la11 p0 q1 q2 q3 q4 x1 b2 b21 b41 1 b279 b292 (0 : UInt64)) [(.double (FP.dadd (0 : UInt64) (FP.dmul y25_ y9_)))])
          obtain ⟨u312_, hu312_⟩ : ∃ z, z = (FP.dadd (0 : UInt64) (FP.dmul y25_ y9_)) := ⟨_, rfl⟩
          have mu312_ : Mag64 1092 u312_ := by rw [hu312_]; exact mg311
          rw [← hu312_]
          show gO (tF T290 m 194 (la11 p0 q1 q2 q3 q4 x1 b2 b21 b41 1 b279 b292 (0 : UInt64)) [(.double u312_)])
          refine gob (fun _ k => XS.dstore X290.here hx rfl (hb hby at_194) rfl (l' := (la11 p0 q1 q2 q3 q4 x1 b2 b21 b41 1 b279 b292 u312_)) rfl k) ?_
          show gO (tF T290 m 196 (la11 p0 q1 q2 q3 q4 x1 b2 b21 b41 1 b279 b292 u312_) [])
          refine gob (fun _ k => XS.iload X290.here hx rfl (hb hby at_196) rfl k) ?_
          show gO (tF T290 m 198 (la11 p0 q1 q2 q3 q4 x1 b2 b21 b41 1 b279 b292 u312_) [(.int 1)])
          refine gob (fun _ k => XS.iconst X290.here hx rfl (hb hby at_198) k) ?_
          show gO (tF T290 m 199 (la11 p0 q1 q2 q3 q4 x1 b2 b21 b41 1 b279 b292 u312_) [(.int 1), (.int 1)])
          refine gob (fun _ k => XS.icmpYes X290.here hx rfl (pc0 := 199) (pc' := 219) rfl (hb hby at_199) rfl (flt (by decide : ¬ ((1 : Int32) < (1 : Int32)))).2.2.2 (by decide) (by decide) k) ?_
          show gO (tF T290 m 219 (la11 p0 q1 q2 q3 q4 x1 b2 b21 b41 1 b279 b292 u312_) [])
          refine gob (fun _ k => XS.iload X290.here hx rfl (hb hby at_219) rfl k) ?_
          show gO (tF T290 m 221 (la11 p0 q1 q2 q3 q4 x1 b2 b21 b41 1 b279 b292 u312_) [(.int 1)])
          refine gob (fun _ k => XS.iconst X290.here hx rfl (hb hby at_221) k) ?_
          show gO (tF T290 m 222 (la11 p0 q1 q2 q3 q4 x1 b2 b21 b41 1 b279 b292 u312_) [(.int 2), (.int 1)])
          refine gob (fun _ k => XS.icmpYes X290.here hx rfl (pc0 := 222) (pc' := 242) rfl (hb hby at_222) rfl (flt (by decide : ¬ ((2 : Int32) < (1 : Int32)))).2.2.2 (by decide) (by decide) k) ?_
          show gO (tF T290 m 242 (la11 p0 q1 q2 q3 q4 x1 b2 b21 b41 1 b279 b292 u312_) [])
          refine gob (fun _ k => XS.iload X290.here hx rfl (hb hby at_242) rfl k) ?_
          show gO (tF T290 m 244 (la11 p0 q1 q2 q3 q4 x1 b2 b21 b41 1 b279 b292 u312_) [(.int 1)])
          refine gob (fun _ k => XS.iconst X290.here hx rfl (hb hby at_244) k) ?_
          show gO (tF T290 m 245 (la11 p0 q1 q2 q3 q4 x1 b2 b21 b41 1 b279 b292 u312_) [(.int 3), (.int 1)])
          refine gob (fun _ k => XS.icmpYes X290.here hx rfl (pc0 := 245) (pc' := 265) rfl (hb hby at_245) rfl (flt (by decide : ¬ ((3 : Int32) < (1 : Int32)))).2.2.2 (by decide) (by decide) k) ?_
          show gO (tF T290 m 265 (la11 p0 q1 q2 q3 q4 x1 b2 b21 b41 1 b279 b292 u312_) [])
          obtain ⟨T313, h313, X313, e313, E313, A313, D313, -, st313⟩ := newO X290 hx hZ hown (hW hw 9 rfl) (hW hw 10 rfl) (hW hw 11 rfl) (rfl : T290.heap = _) (g := (mkF m 265 (la11 p0 q1 q2 q3 q4 x1 b2 b21 b41 1 b279 b292 u312_) [])) rfl (hb hby at_265) (by decide) (by decide)
          obtain ⟨b313, g313⟩ : ∃ z, z = T290.heap.size := ⟨_, rfl⟩
          rw [← g313] at A313 D313 st313
          have n314 : b2 ≠ b313 := Nat.ne_of_lt (Nat.lt_of_lt_of_le c309.lt (Nat.le_of_eq g313.symm))
          have n315 : b21 ≠ b313 := Nat.ne_of_lt (Nat.lt_of_lt_of_le c305.lt (Nat.le_of_eq g313.symm))
          have n316 : b41 ≠ b313 := Nat.ne_of_lt (Nat.lt_of_lt_of_le c307.lt (Nat.le_of_eq g313.symm))
          have c317 := (F282.keep K290 nin0)
          have n318 : b279 ≠ b313 := Nat.ne_of_lt (Nat.lt_of_lt_of_le c317.lt (Nat.le_of_eq g313.symm))
          have n319 : b292 ≠ b313 := Nat.ne_of_lt (Nat.lt_of_lt_of_le F295.lt (Nat.le_of_eq g313.symm))
          have g320 : n0 ≤ b313 := Nat.le_trans z303 (Nat.le_of_eq g313.symm)
          have z321 : n0 ≤ h313.size := Nat.le_trans z303 E313.1
          have F313_dofs : Fld Z h313 b313 "com/example/fenda/fenda/analysis/Combination" "dofs" "[I" .null := D313 (Or.inr (hW hw 24 rfl)) (ty := (.array .int)) (by decide)
          have F313_weights : Fld Z h313 b313 "com/example/fenda/fenda/analysis/Combination" "weights" "[D" .null := D313 (Or.inr (hW hw 26 rfl)) (ty := (.array .double)) (by decide)
          refine gob st313 ?_
          replace X313 := castX X313 (rfl : _ = 6) (rfl : _ = 16)
          show gO (tF T313 m 268 (la11 p0 q1 q2 q3 q4 x1 b2 b21 b41 1 b279 b292 u312_) [(.ref b313)])
          refine gob (fun _ k => XS.dup X313.here hx rfl (hb hby at_268) rfl rfl k) ?_
          show gO (tF T313 m 269 (la11 p0 q1 q2 q3 q4 x1 b2 b21 b41 1 b279 b292 u312_) [(.ref b313), (.ref b313)])
          refine gob (fun _ k => XS.aload X313.here hx rfl (hb hby at_269) rfl rfl k) ?_
          show gO (tF T313 m 271 (la11 p0 q1 q2 q3 q4 x1 b2 b21 b41 1 b279 b292 u312_) [(.ref b279), (.ref b313), (.ref b313)])
          refine gob (fun _ k => XS.aload X313.here hx rfl (hb hby at_271) rfl rfl k) ?_
          show gO (tF T313 m 273 (la11 p0 q1 q2 q3 q4 x1 b2 b21 b41 1 b279 b292 u312_) [(.ref b292), (.ref b279), (.ref b313), (.ref b313)])
          obtain ⟨_, _, ⟨T322, L322, k322, n322⟩, -, X322, ⟨Lc322, hQ322, l322, y322, z322⟩, st322⟩ := X313.specialBack hx (y := (⟨"com/example/fenda/fenda/analysis/Combination", "<init>", "([I[D)V"⟩ : MethodName)) rfl hown (mvT hZ (hW hw 12 rfl)) (mvT hZ (hW hw 13 rfl)) (mvT hZ (hW hw 14 rfl)) (by decide) (backOf (W := 1) (rm3 l Z a0 hw [] b313 b279 b292 h313 n0 z321 A313 F313_dofs g320 F313_weights) hZ (hW hw 14 rfl) (hW hw 11 rfl) (by decide) (by decide)) (g := (mkF m 273 (la11 p0 q1 q2 q3 q4 x1 b2 b21 b41 1 b279 b292 u312_) [(.ref b292), (.ref b279), (.ref b313), (.ref b313)])) rfl (by rw [hml]; rfl) (Steps.refl _) (a := b313) (argsL := [(.ref b279), (.ref b292)]) (rest := [(.ref b313)]) (lenOf pd_3 rfl) rfl (by show 2 * 0 + _ ≤ _; exact Nat.le_of_eq rfl) (hb hby at_273) (fun _ _ => ⟨rfl, e313, (by decide : 6 + 0 ≤ _), (by decide : 16 + 0 ≤ _)⟩)
          dsimp only [Pt.U, Pt.locs, Pt.cells, Pt.slots] at X322 l322 y322 z322 st322 hQ322
          replace X322 := castX X322 (y322.trans (rfl : _ = 6)) (z322.trans (rfl : _ = 16))
          obtain ⟨rfl, Nq322, K322, F323, F324⟩ := hQ322
          have N322 : Fr n0 L322 := l322 ▸ Fr.app N290 Nq322
          have z325 : n0 ≤ T322.heap.size := Nat.le_trans z321 K322.1
          refine gob (fun _ k => st322.trans k) ?_
          show gO (tF T322 m 276 (la11 p0 q1 q2 q3 q4 x1 b2 b21 b41 1 b279 b292 u312_) [(.ref b313)])
          refine gob (fun _ k => XS.astore X322.here hx rfl (hb hby at_276) rfl rfl (l' := (la12 p0 q1 q2 q3 q4 x1 b2 b21 b41 1 b279 b292 u312_ b313)) rfl k) ?_
          show gO (tF T322 m 278 (la12 p0 q1 q2 q3 q4 x1 b2 b21 b41 1 b279 b292 u312_ b313) [])
          refine gob (fun _ k => XS.aload X322.here hx rfl (hb hby at_278) rfl rfl k) ?_
          show gO (tF T322 m 280 (la12 p0 q1 q2 q3 q4 x1 b2 b21 b41 1 b279 b292 u312_ b313) [(.ref b313)])
          refine gob (fun _ k => XS.aload X322.here hx rfl (hb hby at_280) rfl rfl k) ?_
          show gO (tF T322 m 282 (la12 p0 q1 q2 q3 q4 x1 b2 b21 b41 1 b279 b292 u312_ b313) [(.ref b2), (.ref b313)])
          have c327 := ((c317.ext E313).keep K322 (ninS n318 nin0))
          have c328 := ((F295.ext E313).keep K322 (ninS n319 nin0))
          have c329 := ((c309.ext E313).keep K322 (ninS n314 nin0))
          have c330 := (A313.keep K322)
          obtain ⟨cq326, kq326, q326a, q326b, q326c⟩ := isOf hZ (rfl : T322.heap = _) c330
          obtain ⟨_, _, ⟨T326, L326, k326, n326⟩, -, X326, ⟨Lc326, hQ326, l326, y326, z326⟩, st326⟩ := X322.virtualBack hx (y := (⟨"com/example/fenda/fenda/analysis/Combination", "of", "([D)D"⟩ : MethodName)) (z := (⟨"com/example/fenda/fenda/analysis/Combination", "of", "([D)D"⟩ : MethodName)) hown (mvT hZ (hW hw 27 rfl)) (mvT hZ (hW hw 28 rfl)) (notFace_of_selects (args := #[]) (mvT hZ (hW hw 30 rfl))) (mvT hZ (hW hw 30 rfl)) (mvT hZ (hW hw 29 rfl)) (by decide) (backOf (W := 0) (rmof_1 l Z a0 hw [] b313 b2 b279 b292 k280 k293 y25_ k2 y5_ y9_ y13_ y17_ T322.heap n0 z325 F323 F324 c327 my25_ c328 my5_ my9_ my13_ my17_ c329) hZ (hW hw 31 rfl) (hW hw 11 rfl) (by decide) (by decide)) q326a q326c (g := (mkF m 282 (la12 p0 q1 q2 q3 q4 x1 b2 b21 b41 1 b279 b292 u312_ b313) [(.ref b2), (.ref b313)])) rfl (by rw [hml]; rfl) (Steps.refl _) (argsL := [(.ref b2)]) (rest := []) (lenOf pd_4 rfl) rfl (by show 2 * 0 + _ ≤ _; exact Nat.le_of_eq rfl) (hb hby at_282) (fun _ _ => ⟨rfl, (rfl : T322.heap = _), (by decide : 6 + 0 ≤ _), (by decide : 16 + 0 ≤ _)⟩)
          dsimp only [Pt.U, Pt.locs, Pt.cells, Pt.slots] at X326 l326 y326 z326 st326 hQ326
          replace X326 := castX X326 (y326.trans (rfl : _ = 6)) (z326.trans (rfl : _ = 16))
          obtain ⟨r326, rfl, hr326, Nq326, e326⟩ := hQ326
          have N326 : Fr n0 L326 := l326 ▸ Fr.app N322 Nq326
          refine gob (fun _ k => st326.trans k) ?_
          show gO (tF T326 m 285 (la12 p0 q1 q2 q3 q4 x1 b2 b21 b41 1 b279 b292 u312_ b313) [(.double r326)])
          refine gob (fun _ k => XS.dstore X326.here hx rfl (hb hby at_285) rfl (l' := (la13 p0 q1 q2 q3 q4 x1 b2 b21 b41 1 b279 b292 u312_ b313 r326)) rfl k) ?_
          show gO (tF T326 m 287 (la13 p0 q1 q2 q3 q4 x1 b2 b21 b41 1 b279 b292 u312_ b313 r326) [])
          refine gob (fun _ k => XS.dload X326.here hx rfl (hb hby at_287) rfl k) ?_
          show gO (tF T326 m 289 (la13 p0 q1 q2 q3 q4 x1 b2 b21 b41 1 b279 b292 u312_ b313 r326) [(.double r326)])
          refine gob (fun _ k => XS.dload X326.here hx rfl (hb hby at_289) rfl k) ?_
          show gO (tF T326 m 291 (la13 p0 q1 q2 q3 q4 x1 b2 b21 b41 1 b279 b292 u312_ b313 r326) [(.double u312_), (.double r326)])
          have hqr326 : r326 = u312_ := hr326.trans (by rw [hu312_])
          refine gob (fun _ k => XS.dcmpS X326.here hx rfl (hb hby at_291) rfl (v := (0 : Int32)) (dcmpV_eq hqr326 (by rw [hqr326]; exact (mu312_.fin (by decide)).noNaN) .l) k) ?_
          show gO (tF T326 m 292 (la13 p0 q1 q2 q3 q4 x1 b2 b21 b41 1 b279 b292 u312_ b313 r326) [(.int 0)])
          refine gob (fun _ k => XS.ifNo X326.here hx rfl (hb hby at_292) rfl ((if0 _ _).trans (teq (by decide : (0 : Int32) = (0 : Int32))).2) k) ?_
          show gO (tF T326 m 295 (la13 p0 q1 q2 q3 q4 x1 b2 b21 b41 1 b279 b292 u312_ b313 r326) [])
          refine gob (fun _ k => XS.iconst X326.here hx rfl (hb hby at_295) k) ?_
          show gO (tF T326 m 296 (la13 p0 q1 q2 q3 q4 x1 b2 b21 b41 1 b279 b292 u312_ b313 r326) [(.int 1)])
          refine gob (fun _ k => XS.goto X326.here hx rfl (pc0 := 296) (pc' := 300) rfl (hb hby at_296) (by decide) (by decide) k) ?_
          show gO (tF T326 m 300 (la13 p0 q1 q2 q3 q4 x1 b2 b21 b41 1 b279 b292 u312_ b313 r326) [(.int 1)])
          refine goZ X326 hx hlk (t := .boolean) Bd.returns (by simp) (hb hby at_300) (z' := (1 : Int32)) rfl ?_ (by decide) (by decide)
          show Q0 Z p0 q1 q2 q3 q4 h0 n0 (some (.int (1 : Int32))) T326.heap _
          exact ⟨rfl, N326⟩
        · skip
          refine gob (fun _ k => XS.ifNo X274.here hx rfl (hb hby at_141) rfl ((if0 _ _).trans (feq hc141_277).1) k) ?_
          show gO (tF T274 m 144 (la8 p0 q1 q2 q3 q4 x1 b2 b21 b41 1) [])
          refine gob (fun _ k => XS.aload X274.here hx rfl (hb hby at_144) rfl rfl k) ?_
          show gO (tF T274 m 146 (la8 p0 q1 q2 q3 q4 x1 b2 b21 b41 1) [(.ref b41)])
          refine gob (fun _ k => XS.iload X274.here hx rfl (hb hby at_146) rfl k) ?_
          show gO (tF T274 m 148 (la8 p0 q1 q2 q3 q4 x1 b2 b21 b41 1) [(.int 1), (.ref b41)])
          refine gob (fun _ k => XS.iconst X274.here hx rfl (hb hby at_148) k) ?_
          show gO (tF T274 m 149 (la8 p0 q1 q2 q3 q4 x1 b2 b21 b41 1) [(.int 3), (.int 1), (.ref b41)])
          obtain ⟨cl331, Ar331, aq331, S331, N331, H331, G331⟩ := id V274
          have hin331 : ¬ ((1 : Int32) < 0 ∨ cl331.slots.size ≤ ((1 : Int32)).toNatClampNeg) := inb_of S331 ⟨by decide, by decide⟩
          obtain ⟨T332, h332, X332, e332, W332, st332⟩ := stI X274 hx hZ e274 Ar331 (j := (1 : Int32)) hin331 (g := (mkF m 149 (la8 p0 q1 q2 q3 q4 x1 b2 b21 b41 1) [(.int 3), (.int 1), (.ref b41)])) rfl rfl (hb hby at_149)
          refine gob st332 ?_
          have z333 : n0 ≤ h332.size := Nat.le_trans z275 (Keep.of_wr W332).1
          have N332 := Fr.snoc X332 N274 g45
          have V332 : Arv Z h332 b41 k41 .int (4 : Int32) [(.int 1), (.int 3), (.int 0), (.int 0)] (.int 0) := Arv.set Ar331 aq331 S331 N331 H331 G331 rfl W332 1 rfl (Nat.le_of_ble_eq_true rfl)
          show gO (tF T332 m 150 (la8 p0 q1 q2 q3 q4 x1 b2 b21 b41 1) [])
          refine gob (fun _ k => XS.iinc X332.here hx rfl (hb hby at_150) rfl (l' := (la8 p0 q1 q2 q3 q4 x1 b2 b21 b41 2)) rfl k) ?_
          show gO (tF T332 m 153 (la8 p0 q1 q2 q3 q4 x1 b2 b21 b41 2) [])
          refine gob (fun _ k => XS.aload X332.here hx rfl (hb hby at_153) rfl rfl k) ?_
          show gO (tF T332 m 155 (la8 p0 q1 q2 q3 q4 x1 b2 b21 b41 2) [(.ref b41)])
          refine gob (fun _ k => XS.iload X332.here hx rfl (hb hby at_155) rfl k) ?_
          show gO (tF T332 m 157 (la8 p0 q1 q2 q3 q4 x1 b2 b21 b41 2) [(.int 2), (.ref b41)])
          obtain ⟨_, _, ⟨T334, L334, k334, n334⟩, -, X334, ⟨Lc334, hQ334, l334, y334, z334⟩, st334⟩ := Jvm.LawKit.callS X332 hx (y := (⟨"com/example/fenda/fenda/analysis/CombinationOfPinLaw", "prefixInt", "([II)[I"⟩ : MethodName)) hown (mvT hZ (hW hw 2 rfl)) (mvT hZ (hW hw 3 rfl)) (mvT hZ (hW hw 4 rfl)) (mvT hZ (hW hw 5 rfl)) (by decide) (backOf (W := 0) (rmpi2 l Z a0 hw [] b41 k41 (1 : Int32) (3 : Int32) (0 : Int32) (0 : Int32) h332 n0 z333 V332) hZ (hW hw 5 rfl) (hW hw 4 rfl) (by decide) (by decide)) (g := (mkF m 157 (la8 p0 q1 q2 q3 q4 x1 b2 b21 b41 2) [(.int 2), (.ref b41)])) rfl (by rw [hml]; rfl) (argsL := [(.ref b41), (.int 2)]) (rest := []) (lenOf pd_1 rfl) rfl (by show 2 * 0 + _ ≤ _; exact Nat.le_of_eq rfl) (hb hby at_157) (fun _ _ => ⟨rfl, e332, (by decide : 3 + 1 ≤ _), (by decide : 12 + 2 ≤ _)⟩)
          dsimp only [Pt.U, Pt.locs, Pt.cells, Pt.slots] at X334 l334 y334 z334 st334 hQ334
          replace X334 := castX X334 (y334.trans (rfl : _ = 4)) (z334.trans (rfl : _ = 14))
          obtain ⟨b335, k336, rfl, Nq334, K334, hz337, F338⟩ := hQ334
          have N334 : Fr n0 L334 := l334 ▸ Fr.app N332 Nq334
          have c340 := (((c42.ext E41).other W274 n43).other W332 n43)
          have n339 : b2 ≠ b335 := Nat.ne_of_lt (Nat.lt_of_lt_of_le c340.lt hz337)
          have c342 := (((V39.ext E41).other W274 n44).other W332 n44)
          have n341 : b21 ≠ b335 := Nat.ne_of_lt (Nat.lt_of_lt_of_le c342.lt hz337)
          have n343 : b41 ≠ b335 := Nat.ne_of_lt (Nat.lt_of_lt_of_le V332.lt hz337)
          have g344 : n0 ≤ b335 := Nat.le_trans z333 hz337
          have z345 : n0 ≤ T334.heap.size := Nat.le_trans z333 K334.1
          refine gob st334 ?_
          show gO (tF T334 m 160 (la8 p0 q1 q2 q3 q4 x1 b2 b21 b41 2) [(.ref b335)])
          refine gob (fun _ k => XS.astore X334.here hx rfl (hb hby at_160) rfl rfl (l' := (la9 p0 q1 q2 q3 q4 x1 b2 b21 b41 2 b335)) rfl k) ?_
          show gO (tF T334 m 162 (la9 p0 q1 q2 q3 q4 x1 b2 b21 b41 2 b335) [])
          refine gob (fun _ k => XS.aload X334.here hx rfl (hb hby at_162) rfl rfl k) ?_
          show gO (tF T334 m 164 (la9 p0 q1 q2 q3 q4 x1 b2 b21 b41 2 b335) [(.ref b21)])
          refine gob (fun _ k => XS.iload X334.here hx rfl (hb hby at_164) rfl k) ?_
          show gO (tF T334 m 166 (la9 p0 q1 q2 q3 q4 x1 b2 b21 b41 2 b335) [(.int 2), (.ref b21)])
          have c347 := (c342.keep K334 nin0)
          obtain ⟨_, _, ⟨T346, L346, k346, n346⟩, -, X346, ⟨Lc346, hQ346, l346, y346, z346⟩, st346⟩ := Jvm.LawKit.callS X334 hx (y := (⟨"com/example/fenda/fenda/analysis/CombinationOfPinLaw", "prefixDouble", "([DI)[D"⟩ : MethodName)) hown (mvT hZ (hW hw 6 rfl)) (mvT hZ (hW hw 7 rfl)) (mvT hZ (hW hw 4 rfl)) (mvT hZ (hW hw 8 rfl)) (by decide) (backOf (W := 0) (rmpd2 l Z a0 hw [] b21 k21 y25_ y29_ y33_ y37_ T334.heap n0 z345 c347) hZ (hW hw 8 rfl) (hW hw 4 rfl) (by decide) (by decide)) (g := (mkF m 166 (la9 p0 q1 q2 q3 q4 x1 b2 b21 b41 2 b335) [(.int 2), (.ref b21)])) rfl (by rw [hml]; rfl) (argsL := [(.ref b21), (.int 2)]) (rest := []) (lenOf pd_2 rfl) rfl (by show 2 * 0 + _ ≤ _; exact Nat.le_of_eq rfl) (hb hby at_166) (fun _ _ => ⟨rfl, (rfl : T334.heap = _), (by decide : 4 + 1 ≤ _), (by decide : 14 + 2 ≤ _)⟩)
          dsimp only [Pt.U, Pt.locs, Pt.cells, Pt.slots] at X346 l346 y346 z346 st346 hQ346
          replace X346 := castX X346 (y346.trans (rfl : _ = 5)) (z346.trans (rfl : _ = 16))
          obtain ⟨b348, k349, rfl, Nq346, K346, hz350, F351⟩ := hQ346
          have N346 : Fr n0 L346 := l346 ▸ Fr.app N334 Nq346
          have c353 := (c340.keep K334 nin0)
          have n352 : b2 ≠ b348 := Nat.ne_of_lt (Nat.lt_of_lt_of_le c353.lt hz350)
          have n354 : b21 ≠ b348 := Nat.ne_of_lt (Nat.lt_of_lt_of_le c347.lt hz350)
          have c356 := (V332.keep K334 nin0)
          have n355 : b41 ≠ b348 := Nat.ne_of_lt (Nat.lt_of_lt_of_le c356.lt hz350)
          have n357 : b335 ≠ b348 := Nat.ne_of_lt (Nat.lt_of_lt_of_le F338.lt hz350)
          have g358 : n0 ≤ b348 := Nat.le_trans z345 hz350
          have z359 : n0 ≤ T346.heap.size := Nat.le_trans z345 K346.1
          refine gob st346 ?_
          show gO (tF T346 m 169 (la9 p0 q1 q2 q3 q4 x1 b2 b21 b41 2 b335) [(.ref b348)])
          refine gob (fun _ k => XS.astore X346.here hx rfl (hb hby at_169) rfl rfl (l' := (la10 p0 q1 q2 q3 q4 x1 b2 b21 b41 2 b335 b348)) rfl k) ?_
          show gO (tF T346 m 171 (la10 p0 q1 q2 q3 q4 x1 b2 b21 b41 2 b335 b348) [])
          refine gob (fun _ k => XS.dconst0 X346.here hx rfl (hb hby at_171) (v := (0 : UInt64)) (by decide +kernel) k) ?_
          show gO (tF T346 m 172 (la10 p0 q1 q2 q3 q4 x1 b2 b21 b41 2 b335 b348) [(.double (0 : UInt64))])
          refine gob (fun _ k => XS.dstore X346.here hx rfl (hb hby at_172) rfl (l' := (la11 p0 q1 q2 q3 q4 x1 b2 b21 b41 2 b335 b348 (0 : UInt64))) rfl k) ?_
          show gO (tF T346 m 174 (la11 p0 q1 q2 q3 q4 x1 b2 b21 b41 2 b335 b348 (0 : UInt64)) [])
          refine gob (fun _ k => XS.iload X346.here hx rfl (hb hby at_174) rfl k) ?_
          show gO (tF T346 m 176 (la11 p0 q1 q2 q3 q4 x1 b2 b21 b41 2 b335 b348 (0 : UInt64)) [(.int 2)])
          refine gob (fun _ k => XS.ifNo X346.here hx rfl (hb hby at_176) rfl ((if0 _ _).trans (tlt (by decide : (0 : Int32) < (2 : Int32))).2.2.2) k) ?_
          show gO (tF T346 m 179 (la11 p0 q1 q2 q3 q4 x1 b2 b21 b41 2 b335 b348 (0 : UInt64)) [])
          refine gob (fun _ k => XS.dload X346.here hx rfl (hb hby at_179) rfl k) ?_
          show gO (tF T346 m 181 (la11 p0 q1 q2 q3 q4 x1 b2 b21 b41 2 b335 b348 (0 : UInt64)) [(.double (0 : UInt64))])
          refine gob (fun _ k => XS.aload X346.here hx rfl (hb hby at_181) rfl rfl k) ?_
          show gO (tF T346 m 183 (la11 p0 q1 q2 q3 q4 x1 b2 b21 b41 2 b335 b348 (0 : UInt64)) [(.ref b21), (.double (0 : UInt64))])
          refine gob (fun _ k => XS.iconst X346.here hx rfl (hb hby at_183) k) ?_
          show gO (tF T346 m 184 (la11 p0 q1 q2 q3 q4 x1 b2 b21 b41 2 b335 b348 (0 : UInt64)) [(.int 0), (.ref b21), (.double (0 : UInt64))])
          have c361 := (c347.keep K346 nin0)
          obtain ⟨cl360, Ar360, aq360, S360, N360, H360, G360⟩ := id c361
          have hin360 : ¬ ((0 : Int32) < 0 ∨ cl360.slots.size ≤ ((0 : Int32)).toNatClampNeg) := inb_of S360 ⟨by decide, by decide⟩
          refine gob (X346.daload hx (j := (0 : Int32)) (v := (.double y25_)) (by rw [(rfl : T346.heap = _)]; exact Ar360.1) (State.isArrayOf_alike hZ.alike Ar360.2.1) Ar360.2.2 hin360 (Has.at H360 hin360 rfl) (g := (mkF m 184 (la11 p0 q1 q2 q3 q4 x1 b2 b21 b41 2 b335 b348 (0 : UInt64)) [(.int 0), (.ref b21), (.double (0 : UInt64))])) rfl rfl (hb hby at_184)) ?_
          show gO (tF T346 m 185 (la11 p0 q1 q2 q3 q4 x1 b2 b21 b41 2 b335 b348 (0 : UInt64)) [(.double y25_), (.double (0 : UInt64))])
          refine gob (fun _ k => XS.aload X346.here hx rfl (hb hby at_185) rfl rfl k) ?_
          show gO (tF T346 m 187 (la11 p0 q1 q2 q3 q4 x1 b2 b21 b41 2 b335 b348 (0 : UInt64)) [(.ref b2), (.double y25_), (.double (0 : UInt64))])
          refine gob (fun _ k => XS.aload X346.here hx rfl (hb hby at_187) rfl rfl k) ?_
          show gO (tF T346 m 189 (la11 p0 q1 q2 q3 q4 x1 b2 b21 b41 2 b335 b348 (0 : UInt64)) [(.ref b41), (.ref b2), (.double y25_), (.double (0 : UInt64))])
          refine gob (fun _ k => XS.iconst X346.here hx rfl (hb hby at_189) k) ?_
          show gO (tF T346 m 190 (la11 p0 q1 q2 q3 q4 x1 b2 b21 b41 2 b335 b348 (0 : UInt64)) [(.int 0), (.ref b41), (.ref b2), (.double y25_), (.double (0 : UInt64))])
          have c363 := (c356.keep K346 nin0)
          obtain ⟨cl362, Ar362, aq362, S362, N362, H362, G362⟩ := id c363
          have hin362 : ¬ ((0 : Int32) < 0 ∨ cl362.slots.size ≤ ((0 : Int32)).toNatClampNeg) := inb_of S362 ⟨by decide, by decide⟩
          refine gob (X346.iaload hx (j := (0 : Int32)) (v := (.int 1)) (by rw [(rfl : T346.heap = _)]; exact Ar362.1) (State.isArrayOf_alike hZ.alike Ar362.2.1) Ar362.2.2 hin362 (Has.at H362 hin362 rfl) (g := (mkF m 190 (la11 p0 q1 q2 q3 q4 x1 b2 b21 b41 2 b335 b348 (0 : UInt64)) [(.int 0), (.ref b41), (.ref b2), (.double y25_), (.double (0 : UInt64))])) rfl rfl (hb hby at_190)) ?_
          show gO (tF T346 m 191 (la11 p0 q1 q2 q3 q4 x1 b2 b21 b41 2 b335 b348 (0 : UInt64)) [(.int 1), (.ref b2), (.double y25_), (.double (0 : UInt64))])
          have c365 := (c353.keep K346 nin0)
          obtain ⟨cl364, Ar364, aq364, S364, N364, H364, G364⟩ := id c365
          have hin364 : ¬ ((1 : Int32) < 0 ∨ cl364.slots.size ≤ ((1 : Int32)).toNatClampNeg) := inb_of S364 ⟨by decide, by decide⟩
          refine gob (X346.daload hx (j := (1 : Int32)) (v := (.double y9_)) (by rw [(rfl : T346.heap = _)]; exact Ar364.1) (State.isArrayOf_alike hZ.alike Ar364.2.1) Ar364.2.2 hin364 (Has.at H364 hin364 rfl) (g := (mkF m 191 (la11 p0 q1 q2 q3 q4 x1 b2 b21 b41 2 b335 b348 (0 : UInt64)) [(.int 1), (.ref b2), (.double y25_), (.double (0 : UInt64))])) rfl rfl (hb hby at_191)) ?_
          show gO (tF T346 m 192 (la11 p0 q1 q2 q3 q4 x1 b2 b21 b41 2 b335 b348 (0 : UInt64)) [(.double y9_), (.double y25_), (.double (0 : UInt64))])
          have mg366 : Mag64 1090 (FP.dmul y25_ y9_) := own_dmul my25_ my9_ (by decide) (by decide) (by decide)
          refine gob (fun _ k => XS.dmulS X346.here hx rfl (hb hby at_192) rfl (v := (FP.dmul y25_ y9_)) (mg366.fin (by decide)).noNaN rfl k) ?_
          show gO (tF T346 m 193 (la11 p0 q1 q2 q3 q4 x1 b2 b21 b41 2 b335 b348 (0 : UInt64)) [(.double (FP.dmul y25_ y9_)), (.double (0 : UInt64))])
          have mg367 : Mag64 1092 (FP.dadd (0 : UInt64) (FP.dmul y25_ y9_)) := own_dadd (K := 1090) (own_m0.mono (by decide)) (mg366.mono (by decide)) (by decide) (by decide)
          refine gob (fun _ k => XS.daddS X346.here hx rfl (hb hby at_193) rfl (v := (FP.dadd (0 : UInt64) (FP.dmul y25_ y9_))) (mg367.fin (by decide)).noNaN rfl k) ?_
          show gO (tF T346 m 194 (la11 p0 q1 q2 q3 q4 x1 b2 b21 b41 2 b335 b348 (0 : UInt64)) [(.double (FP.dadd (0 : UInt64) (FP.dmul y25_ y9_)))])
          obtain ⟨u368_, hu368_⟩ : ∃ z, z = (FP.dadd (0 : UInt64) (FP.dmul y25_ y9_)) := ⟨_, rfl⟩
          have mu368_ : Mag64 1092 u368_ := by rw [hu368_]; exact mg367
          rw [← hu368_]
          show gO (tF T346 m 194 (la11 p0 q1 q2 q3 q4 x1 b2 b21 b41 2 b335 b348 (0 : UInt64)) [(.double u368_)])
          refine gob (fun _ k => XS.dstore X346.here hx rfl (hb hby at_194) rfl (l' := (la11 p0 q1 q2 q3 q4 x1 b2 b21 b41 2 b335 b348 u368_)) rfl k) ?_
          show gO (tF T346 m 196 (la11 p0 q1 q2 q3 q4 x1 b2 b21 b41 2 b335 b348 u368_) [])
          refine gob (fun _ k => XS.iload X346.here hx rfl (hb hby at_196) rfl k) ?_
          show gO (tF T346 m 198 (la11 p0 q1 q2 q3 q4 x1 b2 b21 b41 2 b335 b348 u368_) [(.int 2)])
          refine gob (fun _ k => XS.iconst X346.here hx rfl (hb hby at_198) k) ?_
          show gO (tF T346 m 199 (la11 p0 q1 q2 q3 q4 x1 b2 b21 b41 2 b335 b348 u368_) [(.int 1), (.int 2)])
          refine gob (fun _ k => XS.icmpNo X346.here hx rfl (hb hby at_199) rfl (tlt (by decide : (1 : Int32) < (2 : Int32))).2.2.2 k) ?_
          show gO (tF T346 m 202 (la11 p0 q1 q2 q3 q4 x1 b2 b21 b41 2 b335 b348 u368_) [])
          refine gob (fun _ k => XS.dload X346.here hx rfl (hb hby at_202) rfl k) ?_
          show gO (tF T346 m 204 (la11 p0 q1 q2 q3 q4 x1 b2 b21 b41 2 b335 b348 u368_) [(.double u368_)])
          refine gob (fun _ k => XS.aload X346.here hx rfl (hb hby at_204) rfl rfl k) ?_
          show gO (tF T346 m 206 (la11 p0 q1 q2 q3 q4 x1 b2 b21 b41 2 b335 b348 u368_) [(.ref b21), (.double u368_)])
          refine gob (fun _ k => XS.iconst X346.here hx rfl (hb hby at_206) k) ?_
          show gO (tF T346 m 207 (la11 p0 q1 q2 q3 q4 x1 b2 b21 b41 2 b335 b348 u368_) [(.int 1), (.ref b21), (.double u368_)])
          obtain ⟨cl369, Ar369, aq369, S369, N369, H369, G369⟩ := id c361
          have hin369 : ¬ ((1 : Int32) < 0 ∨ cl369.slots.size ≤ ((1 : Int32)).toNatClampNeg) := inb_of S369 ⟨by decide, by decide⟩
          refine gob (X346.daload hx (j := (1 : Int32)) (v := (.double y29_)) (by rw [(rfl : T346.heap = _)]; exact Ar369.1) (State.isArrayOf_alike hZ.alike Ar369.2.1) Ar369.2.2 hin369 (Has.at H369 hin369 rfl) (g := (mkF m 207 (la11 p0 q1 q2 q3 q4 x1 b2 b21 b41 2 b335 b348 u368_) [(.int 1), (.ref b21), (.double u368_)])) rfl rfl (hb hby at_207)) ?_
          show gO (tF T346 m 208 (la11 p0 q1 q2 q3 q4 x1 b2 b21 b41 2 b335 b348 u368_) [(.double y29_), (.double u368_)])
          refine gob (fun _ k => XS.aload X346.here hx rfl (hb hby at_208) rfl rfl k) ?_
          show gO (tF T346 m 210 (la11 p0 q1 q2 q3 q4 x1 b2 b21 b41 2 b335 b348 u368_) [(.ref b2), (.double y29_), (.double u368_)])
          refine gob (fun _ k => XS.aload X346.here hx rfl (hb hby at_210) rfl rfl k) ?_
          show gO (tF T346 m 212 (la11 p0 q1 q2 q3 q4 x1 b2 b21 b41 2 b335 b348 u368_) [(.ref b41), (.ref b2), (.double y29_), (.double u368_)])
          refine gob (fun _ k => XS.iconst X346.here hx rfl (hb hby at_212) k) ?_
          show gO (tF T346 m 213 (la11 p0 q1 q2 q3 q4 x1 b2 b21 b41 2 b335 b348 u368_) [(.int 1), (.ref b41), (.ref b2), (.double y29_), (.double u368_)])
          obtain ⟨cl370, Ar370, aq370, S370, N370, H370, G370⟩ := id c363
          have hin370 : ¬ ((1 : Int32) < 0 ∨ cl370.slots.size ≤ ((1 : Int32)).toNatClampNeg) := inb_of S370 ⟨by decide, by decide⟩
          refine gob (X346.iaload hx (j := (1 : Int32)) (v := (.int 3)) (by rw [(rfl : T346.heap = _)]; exact Ar370.1) (State.isArrayOf_alike hZ.alike Ar370.2.1) Ar370.2.2 hin370 (Has.at H370 hin370 rfl) (g := (mkF m 213 (la11 p0 q1 q2 q3 q4 x1 b2 b21 b41 2 b335 b348 u368_) [(.int 1), (.ref b41), (.ref b2), (.double y29_), (.double u368_)])) rfl rfl (hb hby at_213)) ?_
          show gO (tF T346 m 214 (la11 p0 q1 q2 q3 q4 x1 b2 b21 b41 2 b335 b348 u368_) [(.int 3), (.ref b2), (.double y29_), (.double u368_)])
          obtain ⟨cl371, Ar371, aq371, S371, N371, H371, G371⟩ := id c365
          have hin371 : ¬ ((3 : Int32) < 0 ∨ cl371.slots.size ≤ ((3 : Int32)).toNatClampNeg) := inb_of S371 ⟨by decide, by decide⟩
          refine gob (X346.daload hx (j := (3 : Int32)) (v := (.double y17_)) (by rw [(rfl : T346.heap = _)]; exact Ar371.1) (State.isArrayOf_alike hZ.alike Ar371.2.1) Ar371.2.2 hin371 (Has.at H371 hin371 rfl) (g := (mkF m 214 (la11 p0 q1 q2 q3 q4 x1 b2 b21 b41 2 b335 b348 u368_) [(.int 3), (.ref b2), (.double y29_), (.double u368_)])) rfl rfl (hb hby at_214)) ?_
          show gO (tF T346 m 215 (la11 p0 q1 q2 q3 q4 x1 b2 b21 b41 2 b335 b348 u368_) [(.double y17_), (.double y29_), (.double u368_)])
          have mg372 : Mag64 1090 (FP.dmul y29_ y17_) := own_dmul my29_ my17_ (by decide) (by decide) (by decide)
          refine gob (fun _ k => XS.dmulS X346.here hx rfl (hb hby at_215) rfl (v := (FP.dmul y29_ y17_)) (mg372.fin (by decide)).noNaN rfl k) ?_
          show gO (tF T346 m 216 (la11 p0 q1 q2 q3 q4 x1 b2 b21 b41 2 b335 b348 u368_) [(.double (FP.dmul y29_ y17_)), (.double u368_)])
          have mg373 : Mag64 1094 (FP.dadd u368_ (FP.dmul y29_ y17_)) := own_dadd (K := 1092) (mu368_.mono (by decide)) (mg372.mono (by decide)) (by decide) (by decide)
          refine gob (fun _ k => XS.daddS X346.here hx rfl (hb hby at_216) rfl (v := (FP.dadd u368_ (FP.dmul y29_ y17_))) (mg373.fin (by decide)).noNaN rfl k) ?_
          show gO (tF T346 m 217 (la11 p0 q1 q2 q3 q4 x1 b2 b21 b41 2 b335 b348 u368_) [(.double (FP.dadd u368_ (FP.dmul y29_ y17_)))])
          obtain ⟨u374_, hu374_⟩ : ∃ z, z = (FP.dadd u368_ (FP.dmul y29_ y17_)) := ⟨_, rfl⟩
          have mu374_ : Mag64 1094 u374_ := by rw [hu374_]; exact mg373
          rw [← hu374_]
          show gO (tF T346 m 217 (la11 p0 q1 q2 q3 q4 x1 b2 b21 b41 2 b335 b348 u368_) [(.double u374_)])
          refine gob (fun _ k => XS.dstore X346.here hx rfl (hb hby at_217) rfl (l' := (la11 p0 q1 q2 q3 q4 x1 b2 b21 b41 2 b335 b348 u374_)) rfl k) ?_
          show gO (tF T346 m 219 (la11 p0 q1 q2 q3 q4 x1 b2 b21 b41 2 b335 b348 u374_) [])
          refine gob (fun _ k => XS.iload X346.here hx rfl (hb hby at_219) rfl k) ?_
          show gO (tF T346 m 221 (la11 p0 q1 q2 q3 q4 x1 b2 b21 b41 2 b335 b348 u374_) [(.int 2)])
          refine gob (fun _ k => XS.iconst X346.here hx rfl (hb hby at_221) k) ?_
          show gO (tF T346 m 222 (la11 p0 q1 q2 q3 q4 x1 b2 b21 b41 2 b335 b348 u374_) [(.int 2), (.int 2)])
          refine gob (fun _ k => XS.icmpYes X346.here hx rfl (pc0 := 222) (pc' := 242) rfl (hb hby at_222) rfl (flt (by decide : ¬ ((2 : Int32) < (2 : Int32)))).2.2.2 (by decide) (by decide) k) ?_
          show gO (tF T346 m 242 (la11 p0 q1 q2 q3 q4 x1 b2 b21 b41 2 b335 b348 u374_) [])
          refine gob (fun _ k => XS.iload X346.here hx rfl (hb hby at_242) rfl k) ?_
          show gO (tF T346 m 244 (la11 p0 q1 q2 q3 q4 x1 b2 b21 b41 2 b335 b348 u374_) [(.int 2)])
          refine gob (fun _ k => XS.iconst X346.here hx rfl (hb hby at_244) k) ?_
          show gO (tF T346 m 245 (la11 p0 q1 q2 q3 q4 x1 b2 b21 b41 2 b335 b348 u374_) [(.int 3), (.int 2)])
          refine gob (fun _ k => XS.icmpYes X346.here hx rfl (pc0 := 245) (pc' := 265) rfl (hb hby at_245) rfl (flt (by decide : ¬ ((3 : Int32) < (2 : Int32)))).2.2.2 (by decide) (by decide) k) ?_
          show gO (tF T346 m 265 (la11 p0 q1 q2 q3 q4 x1 b2 b21 b41 2 b335 b348 u374_) [])
          obtain ⟨T375, h375, X375, e375, E375, A375, D375, -, st375⟩ := newO X346 hx hZ hown (hW hw 9 rfl) (hW hw 10 rfl) (hW hw 11 rfl) (rfl : T346.heap = _) (g := (mkF m 265 (la11 p0 q1 q2 q3 q4 x1 b2 b21 b41 2 b335 b348 u374_) [])) rfl (hb hby at_265) (by decide) (by decide)
          obtain ⟨b375, g375⟩ : ∃ z, z = T346.heap.size := ⟨_, rfl⟩
          rw [← g375] at A375 D375 st375
          have n376 : b2 ≠ b375 := Nat.ne_of_lt (Nat.lt_of_lt_of_le c365.lt (Nat.le_of_eq g375.symm))
          have n377 : b21 ≠ b375 := Nat.ne_of_lt (Nat.lt_of_lt_of_le c361.lt (Nat.le_of_eq g375.symm))
          have n378 : b41 ≠ b375 := Nat.ne_of_lt (Nat.lt_of_lt_of_le c363.lt (Nat.le_of_eq g375.symm))
          have c379 := (F338.keep K346 nin0)
          have n380 : b335 ≠ b375 := Nat.ne_of_lt (Nat.lt_of_lt_of_le c379.lt (Nat.le_of_eq g375.symm))
          have n381 : b348 ≠ b375 := Nat.ne_of_lt (Nat.lt_of_lt_of_le F351.lt (Nat.le_of_eq g375.symm))
          have g382 : n0 ≤ b375 := Nat.le_trans z359 (Nat.le_of_eq g375.symm)
          have z383 : n0 ≤ h375.size := Nat.le_trans z359 E375.1
          have F375_dofs : Fld Z h375 b375 "com/example/fenda/fenda/analysis/Combination" "dofs" "[I" .null := D375 (Or.inr (hW hw 24 rfl)) (ty := (.array .int)) (by decide)
          have F375_weights : Fld Z h375 b375 "com/example/fenda/fenda/analysis/Combination" "weights" "[D" .null := D375 (Or.inr (hW hw 26 rfl)) (ty := (.array .double)) (by decide)
          refine gob st375 ?_
          replace X375 := castX X375 (rfl : _ = 6) (rfl : _ = 18)
          show gO (tF T375 m 268 (la11 p0 q1 q2 q3 q4 x1 b2 b21 b41 2 b335 b348 u374_) [(.ref b375)])
          refine gob (fun _ k => XS.dup X375.here hx rfl (hb hby at_268) rfl rfl k) ?_
          show gO (tF T375 m 269 (la11 p0 q1 q2 q3 q4 x1 b2 b21 b41 2 b335 b348 u374_) [(.ref b375), (.ref b375)])
          refine gob (fun _ k => XS.aload X375.here hx rfl (hb hby at_269) rfl rfl k) ?_
          show gO (tF T375 m 271 (la11 p0 q1 q2 q3 q4 x1 b2 b21 b41 2 b335 b348 u374_) [(.ref b335), (.ref b375), (.ref b375)])
          refine gob (fun _ k => XS.aload X375.here hx rfl (hb hby at_271) rfl rfl k) ?_
          show gO (tF T375 m 273 (la11 p0 q1 q2 q3 q4 x1 b2 b21 b41 2 b335 b348 u374_) [(.ref b348), (.ref b335), (.ref b375), (.ref b375)])
          obtain ⟨_, _, ⟨T384, L384, k384, n384⟩, -, X384, ⟨Lc384, hQ384, l384, y384, z384⟩, st384⟩ := X375.specialBack hx (y := (⟨"com/example/fenda/fenda/analysis/Combination", "<init>", "([I[D)V"⟩ : MethodName)) rfl hown (mvT hZ (hW hw 12 rfl)) (mvT hZ (hW hw 13 rfl)) (mvT hZ (hW hw 14 rfl)) (by decide) (backOf (W := 1) (rm3 l Z a0 hw [] b375 b335 b348 h375 n0 z383 A375 F375_dofs g382 F375_weights) hZ (hW hw 14 rfl) (hW hw 11 rfl) (by decide) (by decide)) (g := (mkF m 273 (la11 p0 q1 q2 q3 q4 x1 b2 b21 b41 2 b335 b348 u374_) [(.ref b348), (.ref b335), (.ref b375), (.ref b375)])) rfl (by rw [hml]; rfl) (Steps.refl _) (a := b375) (argsL := [(.ref b335), (.ref b348)]) (rest := [(.ref b375)]) (lenOf pd_3 rfl) rfl (by show 2 * 0 + _ ≤ _; exact Nat.le_of_eq rfl) (hb hby at_273) (fun _ _ => ⟨rfl, e375, (by decide : 6 + 0 ≤ _), (by decide : 18 + 0 ≤ _)⟩)
          dsimp only [Pt.U, Pt.locs, Pt.cells, Pt.slots] at X384 l384 y384 z384 st384 hQ384
          replace X384 := castX X384 (y384.trans (rfl : _ = 6)) (z384.trans (rfl : _ = 18))
          obtain ⟨rfl, Nq384, K384, F385, F386⟩ := hQ384
          have N384 : Fr n0 L384 := l384 ▸ Fr.app N346 Nq384
          have z387 : n0 ≤ T384.heap.size := Nat.le_trans z383 K384.1
          refine gob (fun _ k => st384.trans k) ?_
          show gO (tF T384 m 276 (la11 p0 q1 q2 q3 q4 x1 b2 b21 b41 2 b335 b348 u374_) [(.ref b375)])
          refine gob (fun _ k => XS.astore X384.here hx rfl (hb hby at_276) rfl rfl (l' := (la12 p0 q1 q2 q3 q4 x1 b2 b21 b41 2 b335 b348 u374_ b375)) rfl k) ?_
          show gO (tF T384 m 278 (la12 p0 q1 q2 q3 q4 x1 b2 b21 b41 2 b335 b348 u374_ b375) [])
          refine gob (fun _ k => XS.aload X384.here hx rfl (hb hby at_278) rfl rfl k) ?_
          show gO (tF T384 m 280 (la12 p0 q1 q2 q3 q4 x1 b2 b21 b41 2 b335 b348 u374_ b375) [(.ref b375)])
          refine gob (fun _ k => XS.aload X384.here hx rfl (hb hby at_280) rfl rfl k) ?_
          show gO (tF T384 m 282 (la12 p0 q1 q2 q3 q4 x1 b2 b21 b41 2 b335 b348 u374_ b375) [(.ref b2), (.ref b375)])
          have c389 := ((c379.ext E375).keep K384 (ninS n380 nin0))
          have c390 := ((F351.ext E375).keep K384 (ninS n381 nin0))
          have c391 := ((c365.ext E375).keep K384 (ninS n376 nin0))
          have c392 := (A375.keep K384)
          obtain ⟨cq388, kq388, q388a, q388b, q388c⟩ := isOf hZ (rfl : T384.heap = _) c392
          obtain ⟨_, _, ⟨T388, L388, k388, n388⟩, -, X388, ⟨Lc388, hQ388, l388, y388, z388⟩, st388⟩ := X384.virtualBack hx (y := (⟨"com/example/fenda/fenda/analysis/Combination", "of", "([D)D"⟩ : MethodName)) (z := (⟨"com/example/fenda/fenda/analysis/Combination", "of", "([D)D"⟩ : MethodName)) hown (mvT hZ (hW hw 27 rfl)) (mvT hZ (hW hw 28 rfl)) (notFace_of_selects (args := #[]) (mvT hZ (hW hw 30 rfl))) (mvT hZ (hW hw 30 rfl)) (mvT hZ (hW hw 29 rfl)) (by decide) (backOf (W := 0) (rmof_13 l Z a0 hw [] b375 b2 b335 b348 k336 k349 y25_ y29_ k2 y5_ y9_ y13_ y17_ T384.heap n0 z387 F385 F386 c389 my25_ my29_ c390 my5_ my9_ my13_ my17_ c391) hZ (hW hw 31 rfl) (hW hw 11 rfl) (by decide) (by decide)) q388a q388c (g := (mkF m 282 (la12 p0 q1 q2 q3 q4 x1 b2 b21 b41 2 b335 b348 u374_ b375) [(.ref b2), (.ref b375)])) rfl (by rw [hml]; rfl) (Steps.refl _) (argsL := [(.ref b2)]) (rest := []) (lenOf pd_4 rfl) rfl (by show 2 * 0 + _ ≤ _; exact Nat.le_of_eq rfl) (hb hby at_282) (fun _ _ => ⟨rfl, (rfl : T384.heap = _), (by decide : 6 + 0 ≤ _), (by decide : 18 + 0 ≤ _)⟩)
          dsimp only [Pt.U, Pt.locs, Pt.cells, Pt.slots] at X388 l388 y388 z388 st388 hQ388
          replace X388 := castX X388 (y388.trans (rfl : _ = 6)) (z388.trans (rfl : _ = 18))
          obtain ⟨r388, rfl, hr388, Nq388, e388⟩ := hQ388
          have N388 : Fr n0 L388 := l388 ▸ Fr.app N384 Nq388
          refine gob (fun _ k => st388.trans k) ?_
          show gO (tF T388 m 285 (la12 p0 q1 q2 q3 q4 x1 b2 b21 b41 2 b335 b348 u374_ b375) [(.double r388)])
          refine gob (fun _ k => XS.dstore X388.here hx rfl (hb hby at_285) rfl (l' := (la13 p0 q1 q2 q3 q4 x1 b2 b21 b41 2 b335 b348 u374_ b375 r388)) rfl k) ?_
          show gO (tF T388 m 287 (la13 p0 q1 q2 q3 q4 x1 b2 b21 b41 2 b335 b348 u374_ b375 r388) [])
          refine gob (fun _ k => XS.dload X388.here hx rfl (hb hby at_287) rfl k) ?_
          show gO (tF T388 m 289 (la13 p0 q1 q2 q3 q4 x1 b2 b21 b41 2 b335 b348 u374_ b375 r388) [(.double r388)])
          refine gob (fun _ k => XS.dload X388.here hx rfl (hb hby at_289) rfl k) ?_
          show gO (tF T388 m 291 (la13 p0 q1 q2 q3 q4 x1 b2 b21 b41 2 b335 b348 u374_ b375 r388) [(.double u374_), (.double r388)])
          have hqr388 : r388 = u374_ := hr388.trans (by rw [hu374_, hu368_])
          refine gob (fun _ k => XS.dcmpS X388.here hx rfl (hb hby at_291) rfl (v := (0 : Int32)) (dcmpV_eq hqr388 (by rw [hqr388]; exact (mu374_.fin (by decide)).noNaN) .l) k) ?_
          show gO (tF T388 m 292 (la13 p0 q1 q2 q3 q4 x1 b2 b21 b41 2 b335 b348 u374_ b375 r388) [(.int 0)])
          refine gob (fun _ k => XS.ifNo X388.here hx rfl (hb hby at_292) rfl ((if0 _ _).trans (teq (by decide : (0 : Int32) = (0 : Int32))).2) k) ?_
          show gO (tF T388 m 295 (la13 p0 q1 q2 q3 q4 x1 b2 b21 b41 2 b335 b348 u374_ b375 r388) [])
          refine gob (fun _ k => XS.iconst X388.here hx rfl (hb hby at_295) k) ?_
          show gO (tF T388 m 296 (la13 p0 q1 q2 q3 q4 x1 b2 b21 b41 2 b335 b348 u374_ b375 r388) [(.int 1)])
          refine gob (fun _ k => XS.goto X388.here hx rfl (pc0 := 296) (pc' := 300) rfl (hb hby at_296) (by decide) (by decide) k) ?_
          show gO (tF T388 m 300 (la13 p0 q1 q2 q3 q4 x1 b2 b21 b41 2 b335 b348 u374_ b375 r388) [(.int 1)])
          refine goZ X388 hx hlk (t := .boolean) Bd.returns (by simp) (hb hby at_300) (z' := (1 : Int32)) rfl ?_ (by decide) (by decide)
          show Q0 Z p0 q1 q2 q3 q4 h0 n0 (some (.int (1 : Int32))) T388.heap _
          exact ⟨rfl, N388⟩
      · skip
        refine gob (fun _ k => XS.ifNo X274.here hx rfl (hb hby at_124) rfl ((if0 _ _).trans (feq hc124_276).1) k) ?_
        show gO (tF T274 m 127 (la8 p0 q1 q2 q3 q4 x1 b2 b21 b41 1) [])
        refine gob (fun _ k => XS.aload X274.here hx rfl (hb hby at_127) rfl rfl k) ?_
        show gO (tF T274 m 129 (la8 p0 q1 q2 q3 q4 x1 b2 b21 b41 1) [(.ref b41)])
        refine gob (fun _ k => XS.iload X274.here hx rfl (hb hby at_129) rfl k) ?_
        show gO (tF T274 m 131 (la8 p0 q1 q2 q3 q4 x1 b2 b21 b41 1) [(.int 1), (.ref b41)])
        refine gob (fun _ k => XS.iconst X274.here hx rfl (hb hby at_131) k) ?_
        show gO (tF T274 m 132 (la8 p0 q1 q2 q3 q4 x1 b2 b21 b41 1) [(.int 2), (.int 1), (.ref b41)])
        obtain ⟨cl393, Ar393, aq393, S393, N393, H393, G393⟩ := id V274
        have hin393 : ¬ ((1 : Int32) < 0 ∨ cl393.slots.size ≤ ((1 : Int32)).toNatClampNeg) := inb_of S393 ⟨by decide, by decide⟩
        obtain ⟨T394, h394, X394, e394, W394, st394⟩ := stI X274 hx hZ e274 Ar393 (j := (1 : Int32)) hin393 (g := (mkF m 132 (la8 p0 q1 q2 q3 q4 x1 b2 b21 b41 1) [(.int 2), (.int 1), (.ref b41)])) rfl rfl (hb hby at_132)
        refine gob st394 ?_
        have z395 : n0 ≤ h394.size := Nat.le_trans z275 (Keep.of_wr W394).1
        have N394 := Fr.snoc X394 N274 g45
        have V394 : Arv Z h394 b41 k41 .int (4 : Int32) [(.int 1), (.int 2), (.int 0), (.int 0)] (.int 0) := Arv.set Ar393 aq393 S393 N393 H393 G393 rfl W394 1 rfl (Nat.le_of_ble_eq_true rfl)
        show gO (tF T394 m 133 (la8 p0 q1 q2 q3 q4 x1 b2 b21 b41 1) [])
        refine gob (fun _ k => XS.iinc X394.here hx rfl (hb hby at_133) rfl (l' := (la8 p0 q1 q2 q3 q4 x1 b2 b21 b41 2)) rfl k) ?_
        show gO (tF T394 m 136 (la8 p0 q1 q2 q3 q4 x1 b2 b21 b41 2) [])
        refine gob (fun _ k => XS.iload X394.here hx rfl (hb hby at_136) rfl k) ?_
        show gO (tF T394 m 138 (la8 p0 q1 q2 q3 q4 x1 b2 b21 b41 2) [(.int x1)])
        refine gob (fun _ k => XS.bipush X394.here hx rfl (hb hby at_138) k) ?_
        show gO (tF T394 m 140 (la8 p0 q1 q2 q3 q4 x1 b2 b21 b41 2) [(.int 8), (.int x1)])
        refine gob (fun _ k => XS.iand X394.here hx rfl (hb hby at_140) rfl k) ?_
        show gO (tF T394 m 141 (la8 p0 q1 q2 q3 q4 x1 b2 b21 b41 2) [(.int (x1 &&& (8 : Int32)))])
        by_cases hc141_396 : (x1 &&& (8 : Int32)) = (0 : Int32)
        · skip
          refine gob (fun _ k => XS.ifYes X394.here hx rfl (pc0 := 141) (pc' := 153) rfl (hb hby at_141) rfl ((if0 _ _).trans (teq hc141_396).1) (by decide) (by decide) k) ?_
          show gO (tF T394 m 153 (la8 p0 q1 q2 q3 q4 x1 b2 b21 b41 2) [])
          refine gob (fun _ k => XS.aload X394.here hx rfl (hb hby at_153) rfl rfl k) ?_
          show gO (tF T394 m 155 (la8 p0 q1 q2 q3 q4 x1 b2 b21 b41 2) [(.ref b41)])
          refine gob (fun _ k => XS.iload X394.here hx rfl (hb hby at_155) rfl k) ?_
          show gO (tF T394 m 157 (la8 p0 q1 q2 q3 q4 x1 b2 b21 b41 2) [(.int 2), (.ref b41)])
          obtain ⟨_, _, ⟨T397, L397, k397, n397⟩, -, X397, ⟨Lc397, hQ397, l397, y397, z397⟩, st397⟩ := Jvm.LawKit.callS X394 hx (y := (⟨"com/example/fenda/fenda/analysis/CombinationOfPinLaw", "prefixInt", "([II)[I"⟩ : MethodName)) hown (mvT hZ (hW hw 2 rfl)) (mvT hZ (hW hw 3 rfl)) (mvT hZ (hW hw 4 rfl)) (mvT hZ (hW hw 5 rfl)) (by decide) (backOf (W := 0) (rmpi2 l Z a0 hw [] b41 k41 (1 : Int32) (2 : Int32) (0 : Int32) (0 : Int32) h394 n0 z395 V394) hZ (hW hw 5 rfl) (hW hw 4 rfl) (by decide) (by decide)) (g := (mkF m 157 (la8 p0 q1 q2 q3 q4 x1 b2 b21 b41 2) [(.int 2), (.ref b41)])) rfl (by rw [hml]; rfl) (argsL := [(.ref b41), (.int 2)]) (rest := []) (lenOf pd_1 rfl) rfl (by show 2 * 0 + _ ≤ _; exact Nat.le_of_eq rfl) (hb hby at_157) (fun _ _ => ⟨rfl, e394, (by decide : 3 + 1 ≤ _), (by decide : 12 + 2 ≤ _)⟩)
          dsimp only [Pt.U, Pt.locs, Pt.cells, Pt.slots] at X397 l397 y397 z397 st397 hQ397
          replace X397 := castX X397 (y397.trans (rfl : _ = 4)) (z397.trans (rfl : _ = 14))
          obtain ⟨b398, k399, rfl, Nq397, K397, hz400, F401⟩ := hQ397
          have N397 : Fr n0 L397 := l397 ▸ Fr.app N394 Nq397
          have c403 := (((c42.ext E41).other W274 n43).other W394 n43)
          have n402 : b2 ≠ b398 := Nat.ne_of_lt (Nat.lt_of_lt_of_le c403.lt hz400)
          have c405 := (((V39.ext E41).other W274 n44).other W394 n44)
          have n404 : b21 ≠ b398 := Nat.ne_of_lt (Nat.lt_of_lt_of_le c405.lt hz400)
          have n406 : b41 ≠ b398 := Nat.ne_of_lt (Nat.lt_of_lt_of_le V394.lt hz400)
          have g407 : n0 ≤ b398 := Nat.le_trans z395 hz400
          have z408 : n0 ≤ T397.heap.size := Nat.le_trans z395 K397.1
          refine gob st397 ?_
          show gO (tF T397 m 160 (la8 p0 q1 q2 q3 q4 x1 b2 b21 b41 2) [(.ref b398)])
          refine gob (fun _ k => XS.astore X397.here hx rfl (hb hby at_160) rfl rfl (l' := (la9 p0 q1 q2 q3 q4 x1 b2 b21 b41 2 b398)) rfl k) ?_
          show gO (tF T397 m 162 (la9 p0 q1 q2 q3 q4 x1 b2 b21 b41 2 b398) [])
          refine gob (fun _ k => XS.aload X397.here hx rfl (hb hby at_162) rfl rfl k) ?_
          show gO (tF T397 m 164 (la9 p0 q1 q2 q3 q4 x1 b2 b21 b41 2 b398) [(.ref b21)])
          refine gob (fun _ k => XS.iload X397.here hx rfl (hb hby at_164) rfl k) ?_
          show gO (tF T397 m 166 (la9 p0 q1 q2 q3 q4 x1 b2 b21 b41 2 b398) [(.int 2), (.ref b21)])
          have c410 := (c405.keep K397 nin0)
          obtain ⟨_, _, ⟨T409, L409, k409, n409⟩, -, X409, ⟨Lc409, hQ409, l409, y409, z409⟩, st409⟩ := Jvm.LawKit.callS X397 hx (y := (⟨"com/example/fenda/fenda/analysis/CombinationOfPinLaw", "prefixDouble", "([DI)[D"⟩ : MethodName)) hown (mvT hZ (hW hw 6 rfl)) (mvT hZ (hW hw 7 rfl)) (mvT hZ (hW hw 4 rfl)) (mvT hZ (hW hw 8 rfl)) (by decide) (backOf (W := 0) (rmpd2 l Z a0 hw [] b21 k21 y25_ y29_ y33_ y37_ T397.heap n0 z408 c410) hZ (hW hw 8 rfl) (hW hw 4 rfl) (by decide) (by decide)) (g := (mkF m 166 (la9 p0 q1 q2 q3 q4 x1 b2 b21 b41 2 b398) [(.int 2), (.ref b21)])) rfl (by rw [hml]; rfl) (argsL := [(.ref b21), (.int 2)]) (rest := []) (lenOf pd_2 rfl) rfl (by show 2 * 0 + _ ≤ _; exact Nat.le_of_eq rfl) (hb hby at_166) (fun _ _ => ⟨rfl, (rfl : T397.heap = _), (by decide : 4 + 1 ≤ _), (by decide : 14 + 2 ≤ _)⟩)
          dsimp only [Pt.U, Pt.locs, Pt.cells, Pt.slots] at X409 l409 y409 z409 st409 hQ409
          replace X409 := castX X409 (y409.trans (rfl : _ = 5)) (z409.trans (rfl : _ = 16))
          obtain ⟨b411, k412, rfl, Nq409, K409, hz413, F414⟩ := hQ409
          have N409 : Fr n0 L409 := l409 ▸ Fr.app N397 Nq409
          have c416 := (c403.keep K397 nin0)
          have n415 : b2 ≠ b411 := Nat.ne_of_lt (Nat.lt_of_lt_of_le c416.lt hz413)
          have n417 : b21 ≠ b411 := Nat.ne_of_lt (Nat.lt_of_lt_of_le c410.lt hz413)
          have c419 := (V394.keep K397 nin0)
          have n418 : b41 ≠ b411 := Nat.ne_of_lt (Nat.lt_of_lt_of_le c419.lt hz413)
          have n420 : b398 ≠ b411 := Nat.ne_of_lt (Nat.lt_of_lt_of_le F401.lt hz413)
          have g421 : n0 ≤ b411 := Nat.le_trans z408 hz413
          have z422 : n0 ≤ T409.heap.size := Nat.le_trans z408 K409.1
          refine gob st409 ?_
          show gO (tF T409 m 169 (la9 p0 q1 q2 q3 q4 x1 b2 b21 b41 2 b398) [(.ref b411)])
          refine gob (fun _ k => XS.astore X409.here hx rfl (hb hby at_169) rfl rfl (l' := (la10 p0 q1 q2 q3 q4 x1 b2 b21 b41 2 b398 b411)) rfl k) ?_
          show gO (tF T409 m 171 (la10 p0 q1 q2 q3 q4 x1 b2 b21 b41 2 b398 b411) [])
          refine gob (fun _ k => XS.dconst0 X409.here hx rfl (hb hby at_171) (v := (0 : UInt64)) (by decide +kernel) k) ?_
          show gO (tF T409 m 172 (la10 p0 q1 q2 q3 q4 x1 b2 b21 b41 2 b398 b411) [(.double (0 : UInt64))])
          refine gob (fun _ k => XS.dstore X409.here hx rfl (hb hby at_172) rfl (l' := (la11 p0 q1 q2 q3 q4 x1 b2 b21 b41 2 b398 b411 (0 : UInt64))) rfl k) ?_
          show gO (tF T409 m 174 (la11 p0 q1 q2 q3 q4 x1 b2 b21 b41 2 b398 b411 (0 : UInt64)) [])
          refine gob (fun _ k => XS.iload X409.here hx rfl (hb hby at_174) rfl k) ?_
          show gO (tF T409 m 176 (la11 p0 q1 q2 q3 q4 x1 b2 b21 b41 2 b398 b411 (0 : UInt64)) [(.int 2)])
          refine gob (fun _ k => XS.ifNo X409.here hx rfl (hb hby at_176) rfl ((if0 _ _).trans (tlt (by decide : (0 : Int32) < (2 : Int32))).2.2.2) k) ?_
          show gO (tF T409 m 179 (la11 p0 q1 q2 q3 q4 x1 b2 b21 b41 2 b398 b411 (0 : UInt64)) [])
          refine gob (fun _ k => XS.dload X409.here hx rfl (hb hby at_179) rfl k) ?_
          show gO (tF T409 m 181 (la11 p0 q1 q2 q3 q4 x1 b2 b21 b41 2 b398 b411 (0 : UInt64)) [(.double (0 : UInt64))])
          refine gob (fun _ k => XS.aload X409.here hx rfl (hb hby at_181) rfl rfl k) ?_
          show gO (tF T409 m 183 (la11 p0 q1 q2 q3 q4 x1 b2 b21 b41 2 b398 b411 (0 : UInt64)) [(.ref b21), (.double (0 : UInt64))])
          refine gob (fun _ k => XS.iconst X409.here hx rfl (hb hby at_183) k) ?_
          show gO (tF T409 m 184 (la11 p0 q1 q2 q3 q4 x1 b2 b21 b41 2 b398 b411 (0 : UInt64)) [(.int 0), (.ref b21), (.double (0 : UInt64))])
          have c424 := (c410.keep K409 nin0)
          obtain ⟨cl423, Ar423, aq423, S423, N423, H423, G423⟩ := id c424
          have hin423 : ¬ ((0 : Int32) < 0 ∨ cl423.slots.size ≤ ((0 : Int32)).toNatClampNeg) := inb_of S423 ⟨by decide, by decide⟩
          refine gob (X409.daload hx (j := (0 : Int32)) (v := (.double y25_)) (by rw [(rfl : T409.heap = _)]; exact Ar423.1) (State.isArrayOf_alike hZ.alike Ar423.2.1) Ar423.2.2 hin423 (Has.at H423 hin423 rfl) (g := (mkF m 184 (la11 p0 q1 q2 q3 q4 x1 b2 b21 b41 2 b398 b411 (0 : UInt64)) [(.int 0), (.ref b21), (.double (0 : UInt64))])) rfl rfl (hb hby at_184)) ?_
          show gO (tF T409 m 185 (la11 p0 q1 q2 q3 q4 x1 b2 b21 b41 2 b398 b411 (0 : UInt64)) [(.double y25_), (.double (0 : UInt64))])
          refine gob (fun _ k => XS.aload X409.here hx rfl (hb hby at_185) rfl rfl k) ?_
          show gO (tF T409 m 187 (la11 p0 q1 q2 q3 q4 x1 b2 b21 b41 2 b398 b411 (0 : UInt64)) [(.ref b2), (.double y25_), (.double (0 : UInt64))])
          refine gob (fun _ k => XS.aload X409.here hx rfl (hb hby at_187) rfl rfl k) ?_
          show gO (tF T409 m 189 (la11 p0 q1 q2 q3 q4 x1 b2 b21 b41 2 b398 b411 (0 : UInt64)) [(.ref b41), (.ref b2), (.double y25_), (.double (0 : UInt64))])
          refine gob (fun _ k => XS.iconst X409.here hx rfl (hb hby at_189) k) ?_
          show gO (tF T409 m 190 (la11 p0 q1 q2 q3 q4 x1 b2 b21 b41 2 b398 b411 (0 : UInt64)) [(.int 0), (.ref b41), (.ref b2), (.double y25_), (.double (0 : UInt64))])
          have c426 := (c419.keep K409 nin0)
          obtain ⟨cl425, Ar425, aq425, S425, N425, H425, G425⟩ := id c426
          have hin425 : ¬ ((0 : Int32) < 0 ∨ cl425.slots.size ≤ ((0 : Int32)).toNatClampNeg) := inb_of S425 ⟨by decide, by decide⟩
          refine gob (X409.iaload hx (j := (0 : Int32)) (v := (.int 1)) (by rw [(rfl : T409.heap = _)]; exact Ar425.1) (State.isArrayOf_alike hZ.alike Ar425.2.1) Ar425.2.2 hin425 (Has.at H425 hin425 rfl) (g := (mkF m 190 (la11 p0 q1 q2 q3 q4 x1 b2 b21 b41 2 b398 b411 (0 : UInt64)) [(.int 0), (.ref b41), (.ref b2), (.double y25_), (.double (0 : UInt64))])) rfl rfl (hb hby at_190)) ?_
          show gO (tF T409 m 191 (la11 p0 q1 q2 q3 q4 x1 b2 b21 b41 2 b398 b411 (0 : UInt64)) [(.int 1), (.ref b2), (.double y25_), (.double (0 : UInt64))])
          have c428 := (c416.keep K409 nin0)
          obtain ⟨cl427, Ar427, aq427, S427, N427, H427, G427⟩ := id c428
          have hin427 : ¬ ((1 : Int32) < 0 ∨ cl427.slots.size ≤ ((1 : Int32)).toNatClampNeg) := inb_of S427 ⟨by decide, by decide⟩
          refine gob (X409.daload hx (j := (1 : Int32)) (v := (.double y9_)) (by rw [(rfl : T409.heap = _)]; exact Ar427.1) (State.isArrayOf_alike hZ.alike Ar427.2.1) Ar427.2.2 hin427 (Has.at H427 hin427 rfl) (g := (mkF m 191 (la11 p0 q1 q2 q3 q4 x1 b2 b21 b41 2 b398 b411 (0 : UInt64)) [(.int 1), (.ref b2), (.double y25_), (.double (0 : UInt64))])) rfl rfl (hb hby at_191)) ?_
          show gO (tF T409 m 192 (la11 p0 q1 q2 q3 q4 x1 b2 b21 b41 2 b398 b411 (0 : UInt64)) [(.double y9_), (.double y25_), (.double (0 : UInt64))])
          have mg429 : Mag64 1090 (FP.dmul y25_ y9_) := own_dmul my25_ my9_ (by decide) (by decide) (by decide)
          refine gob (fun _ k => XS.dmulS X409.here hx rfl (hb hby at_192) rfl (v := (FP.dmul y25_ y9_)) (mg429.fin (by decide)).noNaN rfl k) ?_
          show gO (tF T409 m 193 (la11 p0 q1 q2 q3 q4 x1 b2 b21 b41 2 b398 b411 (0 : UInt64)) [(.double (FP.dmul y25_ y9_)), (.double (0 : UInt64))])
          have mg430 : Mag64 1092 (FP.dadd (0 : UInt64) (FP.dmul y25_ y9_)) := own_dadd (K := 1090) (own_m0.mono (by decide)) (mg429.mono (by decide)) (by decide) (by decide)
          refine gob (fun _ k => XS.daddS X409.here hx rfl (hb hby at_193) rfl (v := (FP.dadd (0 : UInt64) (FP.dmul y25_ y9_))) (mg430.fin (by decide)).noNaN rfl k) ?_
          show gO (tF T409 m 194 (la11 p0 q1 q2 q3 q4 x1 b2 b21 b41 2 b398 b411 (0 : UInt64)) [(.double (FP.dadd (0 : UInt64) (FP.dmul y25_ y9_)))])
          obtain ⟨u431_, hu431_⟩ : ∃ z, z = (FP.dadd (0 : UInt64) (FP.dmul y25_ y9_)) := ⟨_, rfl⟩
          have mu431_ : Mag64 1092 u431_ := by rw [hu431_]; exact mg430
          rw [← hu431_]
          show gO (tF T409 m 194 (la11 p0 q1 q2 q3 q4 x1 b2 b21 b41 2 b398 b411 (0 : UInt64)) [(.double u431_)])
          refine gob (fun _ k => XS.dstore X409.here hx rfl (hb hby at_194) rfl (l' := (la11 p0 q1 q2 q3 q4 x1 b2 b21 b41 2 b398 b411 u431_)) rfl k) ?_
          show gO (tF T409 m 196 (la11 p0 q1 q2 q3 q4 x1 b2 b21 b41 2 b398 b411 u431_) [])
          refine gob (fun _ k => XS.iload X409.here hx rfl (hb hby at_196) rfl k) ?_
          show gO (tF T409 m 198 (la11 p0 q1 q2 q3 q4 x1 b2 b21 b41 2 b398 b411 u431_) [(.int 2)])
          refine gob (fun _ k => XS.iconst X409.here hx rfl (hb hby at_198) k) ?_
          show gO (tF T409 m 199 (la11 p0 q1 q2 q3 q4 x1 b2 b21 b41 2 b398 b411 u431_) [(.int 1), (.int 2)])
          refine gob (fun _ k => XS.icmpNo X409.here hx rfl (hb hby at_199) rfl (tlt (by decide : (1 : Int32) < (2 : Int32))).2.2.2 k) ?_
          show gO (tF T409 m 202 (la11 p0 q1 q2 q3 q4 x1 b2 b21 b41 2 b398 b411 u431_) [])
          refine gob (fun _ k => XS.dload X409.here hx rfl (hb hby at_202) rfl k) ?_
          show gO (tF T409 m 204 (la11 p0 q1 q2 q3 q4 x1 b2 b21 b41 2 b398 b411 u431_) [(.double u431_)])
          refine gob (fun _ k => XS.aload X409.here hx rfl (hb hby at_204) rfl rfl k) ?_
          show gO (tF T409 m 206 (la11 p0 q1 q2 q3 q4 x1 b2 b21 b41 2 b398 b411 u431_) [(.ref b21), (.double u431_)])
          refine gob (fun _ k => XS.iconst X409.here hx rfl (hb hby at_206) k) ?_
          show gO (tF T409 m 207 (la11 p0 q1 q2 q3 q4 x1 b2 b21 b41 2 b398 b411 u431_) [(.int 1), (.ref b21), (.double u431_)])
          obtain ⟨cl432, Ar432, aq432, S432, N432, H432, G432⟩ := id c424
          have hin432 : ¬ ((1 : Int32) < 0 ∨ cl432.slots.size ≤ ((1 : Int32)).toNatClampNeg) := inb_of S432 ⟨by decide, by decide⟩
          refine gob (X409.daload hx (j := (1 : Int32)) (v := (.double y29_)) (by rw [(rfl : T409.heap = _)]; exact Ar432.1) (State.isArrayOf_alike hZ.alike Ar432.2.1) Ar432.2.2 hin432 (Has.at H432 hin432 rfl) (g := (mkF m 207 (la11 p0 q1 q2 q3 q4 x1 b2 b21 b41 2 b398 b411 u431_) [(.int 1), (.ref b21), (.double u431_)])) rfl rfl (hb hby at_207)) ?_
          show gO (tF T409 m 208 (la11 p0 q1 q2 q3 q4 x1 b2 b21 b41 2 b398 b411 u431_) [(.double y29_), (.double u431_)])
          refine gob (fun _ k => XS.aload X409.here hx rfl (hb hby at_208) rfl rfl k) ?_
          show gO (tF T409 m 210 (la11 p0 q1 q2 q3 q4 x1 b2 b21 b41 2 b398 b411 u431_) [(.ref b2), (.double y29_), (.double u431_)])
          refine gob (fun _ k => XS.aload X409.here hx rfl (hb hby at_210) rfl rfl k) ?_
          show gO (tF T409 m 212 (la11 p0 q1 q2 q3 q4 x1 b2 b21 b41 2 b398 b411 u431_) [(.ref b41), (.ref b2), (.double y29_), (.double u431_)])
          refine gob (fun _ k => XS.iconst X409.here hx rfl (hb hby at_212) k) ?_
          show gO (tF T409 m 213 (la11 p0 q1 q2 q3 q4 x1 b2 b21 b41 2 b398 b411 u431_) [(.int 1), (.ref b41), (.ref b2), (.double y29_), (.double u431_)])
          obtain ⟨cl433, Ar433, aq433, S433, N433, H433, G433⟩ := id c426
          have hin433 : ¬ ((1 : Int32) < 0 ∨ cl433.slots.size ≤ ((1 : Int32)).toNatClampNeg) := inb_of S433 ⟨by decide, by decide⟩
          refine gob (X409.iaload hx (j := (1 : Int32)) (v := (.int 2)) (by rw [(rfl : T409.heap = _)]; exact Ar433.1) (State.isArrayOf_alike hZ.alike Ar433.2.1) Ar433.2.2 hin433 (Has.at H433 hin433 rfl) (g := (mkF m 213 (la11 p0 q1 q2 q3 q4 x1 b2 b21 b41 2 b398 b411 u431_) [(.int 1), (.ref b41), (.ref b2), (.double y29_), (.double u431_)])) rfl rfl (hb hby at_213)) ?_
          show gO (tF T409 m 214 (la11 p0 q1 q2 q3 q4 x1 b2 b21 b41 2 b398 b411 u431_) [(.int 2), (.ref b2), (.double y29_), (.double u431_)])
          obtain ⟨cl434, Ar434, aq434, S434, N434, H434, G434⟩ := id c428
          have hin434 : ¬ ((2 : Int32) < 0 ∨ cl434.slots.size ≤ ((2 : Int32)).toNatClampNeg) := inb_of S434 ⟨by decide, by decide⟩
          refine gob (X409.daload hx (j := (2 : Int32)) (v := (.double y13_)) (by rw [(rfl : T409.heap = _)]; exact Ar434.1) (State.isArrayOf_alike hZ.alike Ar434.2.1) Ar434.2.2 hin434 (Has.at H434 hin434 rfl) (g := (mkF m 214 (la11 p0 q1 q2 q3 q4 x1 b2 b21 b41 2 b398 b411 u431_) [(.int 2), (.ref b2), (.double y29_), (.double u431_)])) rfl rfl (hb hby at_214)) ?_
          show gO (tF T409 m 215 (la11 p0 q1 q2 q3 q4 x1 b2 b21 b41 2 b398 b411 u431_) [(.double y13_), (.double y29_), (.double u431_)])
          have mg435 : Mag64 1090 (FP.dmul y29_ y13_) := own_dmul my29_ my13_ (by decide) (by decide) (by decide)
          refine gob (fun _ k => XS.dmulS X409.here hx rfl (hb hby at_215) rfl (v := (FP.dmul y29_ y13_)) (mg435.fin (by decide)).noNaN rfl k) ?_
          show gO (tF T409 m 216 (la11 p0 q1 q2 q3 q4 x1 b2 b21 b41 2 b398 b411 u431_) [(.double (FP.dmul y29_ y13_)), (.double u431_)])
          have mg436 : Mag64 1094 (FP.dadd u431_ (FP.dmul y29_ y13_)) := own_dadd (K := 1092) (mu431_.mono (by decide)) (mg435.mono (by decide)) (by decide) (by decide)
          refine gob (fun _ k => XS.daddS X409.here hx rfl (hb hby at_216) rfl (v := (FP.dadd u431_ (FP.dmul y29_ y13_))) (mg436.fin (by decide)).noNaN rfl k) ?_
          show gO (tF T409 m 217 (la11 p0 q1 q2 q3 q4 x1 b2 b21 b41 2 b398 b411 u431_) [(.double (FP.dadd u431_ (FP.dmul y29_ y13_)))])
          obtain ⟨u437_, hu437_⟩ : ∃ z, z = (FP.dadd u431_ (FP.dmul y29_ y13_)) := ⟨_, rfl⟩
          have mu437_ : Mag64 1094 u437_ := by rw [hu437_]; exact mg436
          rw [← hu437_]
          show gO (tF T409 m 217 (la11 p0 q1 q2 q3 q4 x1 b2 b21 b41 2 b398 b411 u431_) [(.double u437_)])
          refine gob (fun _ k => XS.dstore X409.here hx rfl (hb hby at_217) rfl (l' := (la11 p0 q1 q2 q3 q4 x1 b2 b21 b41 2 b398 b411 u437_)) rfl k) ?_
          show gO (tF T409 m 219 (la11 p0 q1 q2 q3 q4 x1 b2 b21 b41 2 b398 b411 u437_) [])
          refine gob (fun _ k => XS.iload X409.here hx rfl (hb hby at_219) rfl k) ?_
          show gO (tF T409 m 221 (la11 p0 q1 q2 q3 q4 x1 b2 b21 b41 2 b398 b411 u437_) [(.int 2)])
          refine gob (fun _ k => XS.iconst X409.here hx rfl (hb hby at_221) k) ?_
          show gO (tF T409 m 222 (la11 p0 q1 q2 q3 q4 x1 b2 b21 b41 2 b398 b411 u437_) [(.int 2), (.int 2)])
          refine gob (fun _ k => XS.icmpYes X409.here hx rfl (pc0 := 222) (pc' := 242) rfl (hb hby at_222) rfl (flt (by decide : ¬ ((2 : Int32) < (2 : Int32)))).2.2.2 (by decide) (by decide) k) ?_
          show gO (tF T409 m 242 (la11 p0 q1 q2 q3 q4 x1 b2 b21 b41 2 b398 b411 u437_) [])
          refine gob (fun _ k => XS.iload X409.here hx rfl (hb hby at_242) rfl k) ?_
          show gO (tF T409 m 244 (la11 p0 q1 q2 q3 q4 x1 b2 b21 b41 2 b398 b411 u437_) [(.int 2)])
          refine gob (fun _ k => XS.iconst X409.here hx rfl (hb hby at_244) k) ?_
          show gO (tF T409 m 245 (la11 p0 q1 q2 q3 q4 x1 b2 b21 b41 2 b398 b411 u437_) [(.int 3), (.int 2)])
          refine gob (fun _ k => XS.icmpYes X409.here hx rfl (pc0 := 245) (pc' := 265) rfl (hb hby at_245) rfl (flt (by decide : ¬ ((3 : Int32) < (2 : Int32)))).2.2.2 (by decide) (by decide) k) ?_
          show gO (tF T409 m 265 (la11 p0 q1 q2 q3 q4 x1 b2 b21 b41 2 b398 b411 u437_) [])
          obtain ⟨T438, h438, X438, e438, E438, A438, D438, -, st438⟩ := newO X409 hx hZ hown (hW hw 9 rfl) (hW hw 10 rfl) (hW hw 11 rfl) (rfl : T409.heap = _) (g := (mkF m 265 (la11 p0 q1 q2 q3 q4 x1 b2 b21 b41 2 b398 b411 u437_) [])) rfl (hb hby at_265) (by decide) (by decide)
          obtain ⟨b438, g438⟩ : ∃ z, z = T409.heap.size := ⟨_, rfl⟩
          rw [← g438] at A438 D438 st438
          have n439 : b2 ≠ b438 := Nat.ne_of_lt (Nat.lt_of_lt_of_le c428.lt (Nat.le_of_eq g438.symm))
          have n440 : b21 ≠ b438 := Nat.ne_of_lt (Nat.lt_of_lt_of_le c424.lt (Nat.le_of_eq g438.symm))
          have n441 : b41 ≠ b438 := Nat.ne_of_lt (Nat.lt_of_lt_of_le c426.lt (Nat.le_of_eq g438.symm))
          have c442 := (F401.keep K409 nin0)
          have n443 : b398 ≠ b438 := Nat.ne_of_lt (Nat.lt_of_lt_of_le c442.lt (Nat.le_of_eq g438.symm))
          have n444 : b411 ≠ b438 := Nat.ne_of_lt (Nat.lt_of_lt_of_le F414.lt (Nat.le_of_eq g438.symm))
          have g445 : n0 ≤ b438 := Nat.le_trans z422 (Nat.le_of_eq g438.symm)
          have z446 : n0 ≤ h438.size := Nat.le_trans z422 E438.1
          have F438_dofs : Fld Z h438 b438 "com/example/fenda/fenda/analysis/Combination" "dofs" "[I" .null := D438 (Or.inr (hW hw 24 rfl)) (ty := (.array .int)) (by decide)
          have F438_weights : Fld Z h438 b438 "com/example/fenda/fenda/analysis/Combination" "weights" "[D" .null := D438 (Or.inr (hW hw 26 rfl)) (ty := (.array .double)) (by decide)
          refine gob st438 ?_
          replace X438 := castX X438 (rfl : _ = 6) (rfl : _ = 18)
          show gO (tF T438 m 268 (la11 p0 q1 q2 q3 q4 x1 b2 b21 b41 2 b398 b411 u437_) [(.ref b438)])
          refine gob (fun _ k => XS.dup X438.here hx rfl (hb hby at_268) rfl rfl k) ?_
          show gO (tF T438 m 269 (la11 p0 q1 q2 q3 q4 x1 b2 b21 b41 2 b398 b411 u437_) [(.ref b438), (.ref b438)])
          refine gob (fun _ k => XS.aload X438.here hx rfl (hb hby at_269) rfl rfl k) ?_
          show gO (tF T438 m 271 (la11 p0 q1 q2 q3 q4 x1 b2 b21 b41 2 b398 b411 u437_) [(.ref b398), (.ref b438), (.ref b438)])
          refine gob (fun _ k => XS.aload X438.here hx rfl (hb hby at_271) rfl rfl k) ?_
          show gO (tF T438 m 273 (la11 p0 q1 q2 q3 q4 x1 b2 b21 b41 2 b398 b411 u437_) [(.ref b411), (.ref b398), (.ref b438), (.ref b438)])
          obtain ⟨_, _, ⟨T447, L447, k447, n447⟩, -, X447, ⟨Lc447, hQ447, l447, y447, z447⟩, st447⟩ := X438.specialBack hx (y := (⟨"com/example/fenda/fenda/analysis/Combination", "<init>", "([I[D)V"⟩ : MethodName)) rfl hown (mvT hZ (hW hw 12 rfl)) (mvT hZ (hW hw 13 rfl)) (mvT hZ (hW hw 14 rfl)) (by decide) (backOf (W := 1) (rm3 l Z a0 hw [] b438 b398 b411 h438 n0 z446 A438 F438_dofs g445 F438_weights) hZ (hW hw 14 rfl) (hW hw 11 rfl) (by decide) (by decide)) (g := (mkF m 273 (la11 p0 q1 q2 q3 q4 x1 b2 b21 b41 2 b398 b411 u437_) [(.ref b411), (.ref b398), (.ref b438), (.ref b438)])) rfl (by rw [hml]; rfl) (Steps.refl _) (a := b438) (argsL := [(.ref b398), (.ref b411)]) (rest := [(.ref b438)]) (lenOf pd_3 rfl) rfl (by show 2 * 0 + _ ≤ _; exact Nat.le_of_eq rfl) (hb hby at_273) (fun _ _ => ⟨rfl, e438, (by decide : 6 + 0 ≤ _), (by decide : 18 + 0 ≤ _)⟩)
          dsimp only [Pt.U, Pt.locs, Pt.cells, Pt.slots] at X447 l447 y447 z447 st447 hQ447
          replace X447 := castX X447 (y447.trans (rfl : _ = 6)) (z447.trans (rfl : _ = 18))
          obtain ⟨rfl, Nq447, K447, F448, F449⟩ := hQ447
          have N447 : Fr n0 L447 := l447 ▸ Fr.app N409 Nq447
          have z450 : n0 ≤ T447.heap.size := Nat.le_trans z446 K447.1
          refine gob (fun _ k => st447.trans k) ?_
          show gO (tF T447 m 276 (la11 p0 q1 q2 q3 q4 x1 b2 b21 b41 2 b398 b411 u437_) [(.ref b438)])
          refine gob (fun _ k => XS.astore X447.here hx rfl (hb hby at_276) rfl rfl (l' := (la12 p0 q1 q2 q3 q4 x1 b2 b21 b41 2 b398 b411 u437_ b438)) rfl k) ?_
          show gO (tF T447 m 278 (la12 p0 q1 q2 q3 q4 x1 b2 b21 b41 2 b398 b411 u437_ b438) [])
          refine gob (fun _ k => XS.aload X447.here hx rfl (hb hby at_278) rfl rfl k) ?_
          show gO (tF T447 m 280 (la12 p0 q1 q2 q3 q4 x1 b2 b21 b41 2 b398 b411 u437_ b438) [(.ref b438)])
          refine gob (fun _ k => XS.aload X447.here hx rfl (hb hby at_280) rfl rfl k) ?_
          show gO (tF T447 m 282 (la12 p0 q1 q2 q3 q4 x1 b2 b21 b41 2 b398 b411 u437_ b438) [(.ref b2), (.ref b438)])
          have c452 := ((c442.ext E438).keep K447 (ninS n443 nin0))
          have c453 := ((F414.ext E438).keep K447 (ninS n444 nin0))
          have c454 := ((c428.ext E438).keep K447 (ninS n439 nin0))
          have c455 := (A438.keep K447)
          obtain ⟨cq451, kq451, q451a, q451b, q451c⟩ := isOf hZ (rfl : T447.heap = _) c455
          obtain ⟨_, _, ⟨T451, L451, k451, n451⟩, -, X451, ⟨Lc451, hQ451, l451, y451, z451⟩, st451⟩ := X447.virtualBack hx (y := (⟨"com/example/fenda/fenda/analysis/Combination", "of", "([D)D"⟩ : MethodName)) (z := (⟨"com/example/fenda/fenda/analysis/Combination", "of", "([D)D"⟩ : MethodName)) hown (mvT hZ (hW hw 27 rfl)) (mvT hZ (hW hw 28 rfl)) (notFace_of_selects (args := #[]) (mvT hZ (hW hw 30 rfl))) (mvT hZ (hW hw 30 rfl)) (mvT hZ (hW hw 29 rfl)) (by decide) (backOf (W := 0) (rmof_12 l Z a0 hw [] b438 b2 b398 b411 k399 k412 y25_ y29_ k2 y5_ y9_ y13_ y17_ T447.heap n0 z450 F448 F449 c452 my25_ my29_ c453 my5_ my9_ my13_ my17_ c454) hZ (hW hw 31 rfl) (hW hw 11 rfl) (by decide) (by decide)) q451a q451c (g := (mkF m 282 (la12 p0 q1 q2 q3 q4 x1 b2 b21 b41 2 b398 b411 u437_ b438) [(.ref b2), (.ref b438)])) rfl (by rw [hml]; rfl) (Steps.refl _) (argsL := [(.ref b2)]) (rest := []) (lenOf pd_4 rfl) rfl (by show 2 * 0 + _ ≤ _; exact Nat.le_of_eq rfl) (hb hby at_282) (fun _ _ => ⟨rfl, (rfl : T447.heap = _), (by decide : 6 + 0 ≤ _), (by decide : 18 + 0 ≤ _)⟩)
          dsimp only [Pt.U, Pt.locs, Pt.cells, Pt.slots] at X451 l451 y451 z451 st451 hQ451
          replace X451 := castX X451 (y451.trans (rfl : _ = 6)) (z451.trans (rfl : _ = 18))
          obtain ⟨r451, rfl, hr451, Nq451, e451⟩ := hQ451
          have N451 : Fr n0 L451 := l451 ▸ Fr.app N447 Nq451
          refine gob (fun _ k => st451.trans k) ?_
          show gO (tF T451 m 285 (la12 p0 q1 q2 q3 q4 x1 b2 b21 b41 2 b398 b411 u437_ b438) [(.double r451)])
          refine gob (fun _ k => XS.dstore X451.here hx rfl (hb hby at_285) rfl (l' := (la13 p0 q1 q2 q3 q4 x1 b2 b21 b41 2 b398 b411 u437_ b438 r451)) rfl k) ?_
          show gO (tF T451 m 287 (la13 p0 q1 q2 q3 q4 x1 b2 b21 b41 2 b398 b411 u437_ b438 r451) [])
          refine gob (fun _ k => XS.dload X451.here hx rfl (hb hby at_287) rfl k) ?_
          show gO (tF T451 m 289 (la13 p0 q1 q2 q3 q4 x1 b2 b21 b41 2 b398 b411 u437_ b438 r451) [(.double r451)])
          refine gob (fun _ k => XS.dload X451.here hx rfl (hb hby at_289) rfl k) ?_
          show gO (tF T451 m 291 (la13 p0 q1 q2 q3 q4 x1 b2 b21 b41 2 b398 b411 u437_ b438 r451) [(.double u437_), (.double r451)])
          have hqr451 : r451 = u437_ := hr451.trans (by rw [hu437_, hu431_])
          refine gob (fun _ k => XS.dcmpS X451.here hx rfl (hb hby at_291) rfl (v := (0 : Int32)) (dcmpV_eq hqr451 (by rw [hqr451]; exact (mu437_.fin (by decide)).noNaN) .l) k) ?_
          show gO (tF T451 m 292 (la13 p0 q1 q2 q3 q4 x1 b2 b21 b41 2 b398 b411 u437_ b438 r451) [(.int 0)])
          refine gob (fun _ k => XS.ifNo X451.here hx rfl (hb hby at_292) rfl ((if0 _ _).trans (teq (by decide : (0 : Int32) = (0 : Int32))).2) k) ?_
          show gO (tF T451 m 295 (la13 p0 q1 q2 q3 q4 x1 b2 b21 b41 2 b398 b411 u437_ b438 r451) [])
          refine gob (fun _ k => XS.iconst X451.here hx rfl (hb hby at_295) k) ?_
          show gO (tF T451 m 296 (la13 p0 q1 q2 q3 q4 x1 b2 b21 b41 2 b398 b411 u437_ b438 r451) [(.int 1)])
          refine gob (fun _ k => XS.goto X451.here hx rfl (pc0 := 296) (pc' := 300) rfl (hb hby at_296) (by decide) (by decide) k) ?_
          show gO (tF T451 m 300 (la13 p0 q1 q2 q3 q4 x1 b2 b21 b41 2 b398 b411 u437_ b438 r451) [(.int 1)])
          refine goZ X451 hx hlk (t := .boolean) Bd.returns (by simp) (hb hby at_300) (z' := (1 : Int32)) rfl ?_ (by decide) (by decide)
          show Q0 Z p0 q1 q2 q3 q4 h0 n0 (some (.int (1 : Int32))) T451.heap _
          exact ⟨rfl, N451⟩
        · skip
          refine gob (fun _ k => XS.ifNo X394.here hx rfl (hb hby at_141) rfl ((if0 _ _).trans (feq hc141_396).1) k) ?_
          show gO (tF T394 m 144 (la8 p0 q1 q2 q3 q4 x1 b2 b21 b41 2) [])
          refine gob (fun _ k => XS.aload X394.here hx rfl (hb hby at_144) rfl rfl k) ?_
          show gO (tF T394 m 146 (la8 p0 q1 q2 q3 q4 x1 b2 b21 b41 2) [(.ref b41)])
          refine gob (fun _ k => XS.iload X394.here hx rfl (hb hby at_146) rfl k) ?_
          show gO (tF T394 m 148 (la8 p0 q1 q2 q3 q4 x1 b2 b21 b41 2) [(.int 2), (.ref b41)])
          refine gob (fun _ k => XS.iconst X394.here hx rfl (hb hby at_148) k) ?_
          show gO (tF T394 m 149 (la8 p0 q1 q2 q3 q4 x1 b2 b21 b41 2) [(.int 3), (.int 2), (.ref b41)])
          obtain ⟨cl456, Ar456, aq456, S456, N456, H456, G456⟩ := id V394
          have hin456 : ¬ ((2 : Int32) < 0 ∨ cl456.slots.size ≤ ((2 : Int32)).toNatClampNeg) := inb_of S456 ⟨by decide, by decide⟩
          obtain ⟨T457, h457, X457, e457, W457, st457⟩ := stI X394 hx hZ e394 Ar456 (j := (2 : Int32)) hin456 (g := (mkF m 149 (la8 p0 q1 q2 q3 q4 x1 b2 b21 b41 2) [(.int 3), (.int 2), (.ref b41)])) rfl rfl (hb hby at_149)
          refine gob st457 ?_
          have z458 : n0 ≤ h457.size := Nat.le_trans z395 (Keep.of_wr W457).1
          have N457 := Fr.snoc X457 N394 g45
          have V457 : Arv Z h457 b41 k41 .int (4 : Int32) [(.int 1), (.int 2), (.int 3), (.int 0)] (.int 0) := Arv.set Ar456 aq456 S456 N456 H456 G456 rfl W457 2 rfl (Nat.le_of_ble_eq_true rfl)
          show gO (tF T457 m 150 (la8 p0 q1 q2 q3 q4 x1 b2 b21 b41 2) [])
          refine gob (fun _ k => XS.iinc X457.here hx rfl (hb hby at_150) rfl (l' := (la8 p0 q1 q2 q3 q4 x1 b2 b21 b41 3)) rfl k) ?_
          show gO (tF T457 m 153 (la8 p0 q1 q2 q3 q4 x1 b2 b21 b41 3) [])
          refine gob (fun _ k => XS.aload X457.here hx rfl (hb hby at_153) rfl rfl k) ?_
          show gO (tF T457 m 155 (la8 p0 q1 q2 q3 q4 x1 b2 b21 b41 3) [(.ref b41)])
          refine gob (fun _ k => XS.iload X457.here hx rfl (hb hby at_155) rfl k) ?_
          show gO (tF T457 m 157 (la8 p0 q1 q2 q3 q4 x1 b2 b21 b41 3) [(.int 3), (.ref b41)])
          obtain ⟨_, _, ⟨T459, L459, k459, n459⟩, -, X459, ⟨Lc459, hQ459, l459, y459, z459⟩, st459⟩ := Jvm.LawKit.callS X457 hx (y := (⟨"com/example/fenda/fenda/analysis/CombinationOfPinLaw", "prefixInt", "([II)[I"⟩ : MethodName)) hown (mvT hZ (hW hw 2 rfl)) (mvT hZ (hW hw 3 rfl)) (mvT hZ (hW hw 4 rfl)) (mvT hZ (hW hw 5 rfl)) (by decide) (backOf (W := 0) (rmpi3 l Z a0 hw [] b41 k41 (1 : Int32) (2 : Int32) (3 : Int32) (0 : Int32) h457 n0 z458 V457) hZ (hW hw 5 rfl) (hW hw 4 rfl) (by decide) (by decide)) (g := (mkF m 157 (la8 p0 q1 q2 q3 q4 x1 b2 b21 b41 3) [(.int 3), (.ref b41)])) rfl (by rw [hml]; rfl) (argsL := [(.ref b41), (.int 3)]) (rest := []) (lenOf pd_1 rfl) rfl (by show 2 * 0 + _ ≤ _; exact Nat.le_of_eq rfl) (hb hby at_157) (fun _ _ => ⟨rfl, e457, (by decide : 3 + 1 ≤ _), (by decide : 12 + 3 ≤ _)⟩)
          dsimp only [Pt.U, Pt.locs, Pt.cells, Pt.slots] at X459 l459 y459 z459 st459 hQ459
          replace X459 := castX X459 (y459.trans (rfl : _ = 4)) (z459.trans (rfl : _ = 15))
          obtain ⟨b460, k461, rfl, Nq459, K459, hz462, F463⟩ := hQ459
          have N459 : Fr n0 L459 := l459 ▸ Fr.app N457 Nq459
          have c465 := ((((c42.ext E41).other W274 n43).other W394 n43).other W457 n43)
          have n464 : b2 ≠ b460 := Nat.ne_of_lt (Nat.lt_of_lt_of_le c465.lt hz462)
          have c467 := ((((V39.ext E41).other W274 n44).other W394 n44).other W457 n44)
          have n466 : b21 ≠ b460 := Nat.ne_of_lt (Nat.lt_of_lt_of_le c467.lt hz462)
          have n468 : b41 ≠ b460 := Nat.ne_of_lt (Nat.lt_of_lt_of_le V457.lt hz462)
          have g469 : n0 ≤ b460 := Nat.le_trans z458 hz462
          have z470 : n0 ≤ T459.heap.size := Nat.le_trans z458 K459.1
          refine gob st459 ?_
          show gO (tF T459 m 160 (la8 p0 q1 q2 q3 q4 x1 b2 b21 b41 3) [(.ref b460)])
          refine gob (fun _ k => XS.astore X459.here hx rfl (hb hby at_160) rfl rfl (l' := (la9 p0 q1 q2 q3 q4 x1 b2 b21 b41 3 b460)) rfl k) ?_
          show gO (tF T459 m 162 (la9 p0 q1 q2 q3 q4 x1 b2 b21 b41 3 b460) [])
          refine gob (fun _ k => XS.aload X459.here hx rfl (hb hby at_162) rfl rfl k) ?_
          show gO (tF T459 m 164 (la9 p0 q1 q2 q3 q4 x1 b2 b21 b41 3 b460) [(.ref b21)])
          refine gob (fun _ k => XS.iload X459.here hx rfl (hb hby at_164) rfl k) ?_
          show gO (tF T459 m 166 (la9 p0 q1 q2 q3 q4 x1 b2 b21 b41 3 b460) [(.int 3), (.ref b21)])
          have c472 := (c467.keep K459 nin0)
          obtain ⟨_, _, ⟨T471, L471, k471, n471⟩, -, X471, ⟨Lc471, hQ471, l471, y471, z471⟩, st471⟩ := Jvm.LawKit.callS X459 hx (y := (⟨"com/example/fenda/fenda/analysis/CombinationOfPinLaw", "prefixDouble", "([DI)[D"⟩ : MethodName)) hown (mvT hZ (hW hw 6 rfl)) (mvT hZ (hW hw 7 rfl)) (mvT hZ (hW hw 4 rfl)) (mvT hZ (hW hw 8 rfl)) (by decide) (backOf (W := 0) (rmpd3 l Z a0 hw [] b21 k21 y25_ y29_ y33_ y37_ T459.heap n0 z470 c472) hZ (hW hw 8 rfl) (hW hw 4 rfl) (by decide) (by decide)) (g := (mkF m 166 (la9 p0 q1 q2 q3 q4 x1 b2 b21 b41 3 b460) [(.int 3), (.ref b21)])) rfl (by rw [hml]; rfl) (argsL := [(.ref b21), (.int 3)]) (rest := []) (lenOf pd_2 rfl) rfl (by show 2 * 0 + _ ≤ _; exact Nat.le_of_eq rfl) (hb hby at_166) (fun _ _ => ⟨rfl, (rfl : T459.heap = _), (by decide : 4 + 1 ≤ _), (by decide : 15 + 3 ≤ _)⟩)
          dsimp only [Pt.U, Pt.locs, Pt.cells, Pt.slots] at X471 l471 y471 z471 st471 hQ471
          replace X471 := castX X471 (y471.trans (rfl : _ = 5)) (z471.trans (rfl : _ = 18))
          obtain ⟨b473, k474, rfl, Nq471, K471, hz475, F476⟩ := hQ471
          have N471 : Fr n0 L471 := l471 ▸ Fr.app N459 Nq471
          have c478 := (c465.keep K459 nin0)
          have n477 : b2 ≠ b473 := Nat.ne_of_lt (Nat.lt_of_lt_of_le c478.lt hz475)
          have n479 : b21 ≠ b473 := Nat.ne_of_lt (Nat.lt_of_lt_of_le c472.lt hz475)
          have c481 := (V457.keep K459 nin0)
          have n480 : b41 ≠ b473 := Nat.ne_of_lt (Nat.lt_of_lt_of_le c481.lt hz475)
          have n482 : b460 ≠ b473 := Nat.ne_of_lt (Nat.lt_of_lt_of_le F463.lt hz475)
          have g483 : n0 ≤ b473 := Nat.le_trans z470 hz475
          have z484 : n0 ≤ T471.heap.size := Nat.le_trans z470 K471.1
          refine gob st471 ?_
          show gO (tF T471 m 169 (la9 p0 q1 q2 q3 q4 x1 b2 b21 b41 3 b460) [(.ref b473)])
          refine gob (fun _ k => XS.astore X471.here hx rfl (hb hby at_169) rfl rfl (l' := (la10 p0 q1 q2 q3 q4 x1 b2 b21 b41 3 b460 b473)) rfl k) ?_
          show gO (tF T471 m 171 (la10 p0 q1 q2 q3 q4 x1 b2 b21 b41 3 b460 b473) [])
          refine gob (fun _ k => XS.dconst0 X471.here hx rfl (hb hby at_171) (v := (0 : UInt64)) (by decide +kernel) k) ?_
          show gO (tF T471 m 172 (la10 p0 q1 q2 q3 q4 x1 b2 b21 b41 3 b460 b473) [(.double (0 : UInt64))])
          refine gob (fun _ k => XS.dstore X471.here hx rfl (hb hby at_172) rfl (l' := (la11 p0 q1 q2 q3 q4 x1 b2 b21 b41 3 b460 b473 (0 : UInt64))) rfl k) ?_
          show gO (tF T471 m 174 (la11 p0 q1 q2 q3 q4 x1 b2 b21 b41 3 b460 b473 (0 : UInt64)) [])
          refine gob (fun _ k => XS.iload X471.here hx rfl (hb hby at_174) rfl k) ?_
          show gO (tF T471 m 176 (la11 p0 q1 q2 q3 q4 x1 b2 b21 b41 3 b460 b473 (0 : UInt64)) [(.int 3)])
          refine gob (fun _ k => XS.ifNo X471.here hx rfl (hb hby at_176) rfl ((if0 _ _).trans (tlt (by decide : (0 : Int32) < (3 : Int32))).2.2.2) k) ?_
          show gO (tF T471 m 179 (la11 p0 q1 q2 q3 q4 x1 b2 b21 b41 3 b460 b473 (0 : UInt64)) [])
          refine gob (fun _ k => XS.dload X471.here hx rfl (hb hby at_179) rfl k) ?_
          show gO (tF T471 m 181 (la11 p0 q1 q2 q3 q4 x1 b2 b21 b41 3 b460 b473 (0 : UInt64)) [(.double (0 : UInt64))])
          refine gob (fun _ k => XS.aload X471.here hx rfl (hb hby at_181) rfl rfl k) ?_
          show gO (tF T471 m 183 (la11 p0 q1 q2 q3 q4 x1 b2 b21 b41 3 b460 b473 (0 : UInt64)) [(.ref b21), (.double (0 : UInt64))])
          refine gob (fun _ k => XS.iconst X471.here hx rfl (hb hby at_183) k) ?_
          show gO (tF T471 m 184 (la11 p0 q1 q2 q3 q4 x1 b2 b21 b41 3 b460 b473 (0 : UInt64)) [(.int 0), (.ref b21), (.double (0 : UInt64))])
          have c486 := (c472.keep K471 nin0)
          obtain ⟨cl485, Ar485, aq485, S485, N485, H485, G485⟩ := id c486
          have hin485 : ¬ ((0 : Int32) < 0 ∨ cl485.slots.size ≤ ((0 : Int32)).toNatClampNeg) := inb_of S485 ⟨by decide, by decide⟩
          refine gob (X471.daload hx (j := (0 : Int32)) (v := (.double y25_)) (by rw [(rfl : T471.heap = _)]; exact Ar485.1) (State.isArrayOf_alike hZ.alike Ar485.2.1) Ar485.2.2 hin485 (Has.at H485 hin485 rfl) (g := (mkF m 184 (la11 p0 q1 q2 q3 q4 x1 b2 b21 b41 3 b460 b473 (0 : UInt64)) [(.int 0), (.ref b21), (.double (0 : UInt64))])) rfl rfl (hb hby at_184)) ?_
          show gO (tF T471 m 185 (la11 p0 q1 q2 q3 q4 x1 b2 b21 b41 3 b460 b473 (0 : UInt64)) [(.double y25_), (.double (0 : UInt64))])
          refine gob (fun _ k => XS.aload X471.here hx rfl (hb hby at_185) rfl rfl k) ?_
          show gO (tF T471 m 187 (la11 p0 q1 q2 q3 q4 x1 b2 b21 b41 3 b460 b473 (0 : UInt64)) [(.ref b2), (.double y25_), (.double (0 : UInt64))])
          refine gob (fun _ k => XS.aload X471.here hx rfl (hb hby at_187) rfl rfl k) ?_
          show gO (tF T471 m 189 (la11 p0 q1 q2 q3 q4 x1 b2 b21 b41 3 b460 b473 (0 : UInt64)) [(.ref b41), (.ref b2), (.double y25_), (.double (0 : UInt64))])
          refine gob (fun _ k => XS.iconst X471.here hx rfl (hb hby at_189) k) ?_
          show gO (tF T471 m 190 (la11 p0 q1 q2 q3 q4 x1 b2 b21 b41 3 b460 b473 (0 : UInt64)) [(.int 0), (.ref b41), (.ref b2), (.double y25_), (.double (0 : UInt64))])
          have c488 := (c481.keep K471 nin0)
          obtain ⟨cl487, Ar487, aq487, S487, N487, H487, G487⟩ := id c488
          have hin487 : ¬ ((0 : Int32) < 0 ∨ cl487.slots.size ≤ ((0 : Int32)).toNatClampNeg) := inb_of S487 ⟨by decide, by decide⟩
          refine gob (X471.iaload hx (j := (0 : Int32)) (v := (.int 1)) (by rw [(rfl : T471.heap = _)]; exact Ar487.1) (State.isArrayOf_alike hZ.alike Ar487.2.1) Ar487.2.2 hin487 (Has.at H487 hin487 rfl) (g := (mkF m 190 (la11 p0 q1 q2 q3 q4 x1 b2 b21 b41 3 b460 b473 (0 : UInt64)) [(.int 0), (.ref b41), (.ref b2), (.double y25_), (.double (0 : UInt64))])) rfl rfl (hb hby at_190)) ?_
          show gO (tF T471 m 191 (la11 p0 q1 q2 q3 q4 x1 b2 b21 b41 3 b460 b473 (0 : UInt64)) [(.int 1), (.ref b2), (.double y25_), (.double (0 : UInt64))])
          have c490 := (c478.keep K471 nin0)
          obtain ⟨cl489, Ar489, aq489, S489, N489, H489, G489⟩ := id c490
          have hin489 : ¬ ((1 : Int32) < 0 ∨ cl489.slots.size ≤ ((1 : Int32)).toNatClampNeg) := inb_of S489 ⟨by decide, by decide⟩
          refine gob (X471.daload hx (j := (1 : Int32)) (v := (.double y9_)) (by rw [(rfl : T471.heap = _)]; exact Ar489.1) (State.isArrayOf_alike hZ.alike Ar489.2.1) Ar489.2.2 hin489 (Has.at H489 hin489 rfl) (g := (mkF m 191 (la11 p0 q1 q2 q3 q4 x1 b2 b21 b41 3 b460 b473 (0 : UInt64)) [(.int 1), (.ref b2), (.double y25_), (.double (0 : UInt64))])) rfl rfl (hb hby at_191)) ?_
          show gO (tF T471 m 192 (la11 p0 q1 q2 q3 q4 x1 b2 b21 b41 3 b460 b473 (0 : UInt64)) [(.double y9_), (.double y25_), (.double (0 : UInt64))])
          have mg491 : Mag64 1090 (FP.dmul y25_ y9_) := own_dmul my25_ my9_ (by decide) (by decide) (by decide)
          refine gob (fun _ k => XS.dmulS X471.here hx rfl (hb hby at_192) rfl (v := (FP.dmul y25_ y9_)) (mg491.fin (by decide)).noNaN rfl k) ?_
          show gO (tF T471 m 193 (la11 p0 q1 q2 q3 q4 x1 b2 b21 b41 3 b460 b473 (0 : UInt64)) [(.double (FP.dmul y25_ y9_)), (.double (0 : UInt64))])
          have mg492 : Mag64 1092 (FP.dadd (0 : UInt64) (FP.dmul y25_ y9_)) := own_dadd (K := 1090) (own_m0.mono (by decide)) (mg491.mono (by decide)) (by decide) (by decide)
          refine gob (fun _ k => XS.daddS X471.here hx rfl (hb hby at_193) rfl (v := (FP.dadd (0 : UInt64) (FP.dmul y25_ y9_))) (mg492.fin (by decide)).noNaN rfl k) ?_
          show gO (tF T471 m 194 (la11 p0 q1 q2 q3 q4 x1 b2 b21 b41 3 b460 b473 (0 : UInt64)) [(.double (FP.dadd (0 : UInt64) (FP.dmul y25_ y9_)))])
          obtain ⟨u493_, hu493_⟩ : ∃ z, z = (FP.dadd (0 : UInt64) (FP.dmul y25_ y9_)) := ⟨_, rfl⟩
          have mu493_ : Mag64 1092 u493_ := by rw [hu493_]; exact mg492
          rw [← hu493_]
          show gO (tF T471 m 194 (la11 p0 q1 q2 q3 q4 x1 b2 b21 b41 3 b460 b473 (0 : UInt64)) [(.double u493_)])
          refine gob (fun _ k => XS.dstore X471.here hx rfl (hb hby at_194) rfl (l' := (la11 p0 q1 q2 q3 q4 x1 b2 b21 b41 3 b460 b473 u493_)) rfl k) ?_
          show gO (tF T471 m 196 (la11 p0 q1 q2 q3 q4 x1 b2 b21 b41 3 b460 b473 u493_) [])
          refine gob (fun _ k => XS.iload X471.here hx rfl (hb hby at_196) rfl k) ?_
          show gO (tF T471 m 198 (la11 p0 q1 q2 q3 q4 x1 b2 b21 b41 3 b460 b473 u493_) [(.int 3)])
          refine gob (fun _ k => XS.iconst X471.here hx rfl (hb hby at_198) k) ?_
          show gO (tF T471 m 199 (la11 p0 q1 q2 q3 q4 x1 b2 b21 b41 3 b460 b473 u493_) [(.int 1), (.int 3)])
          refine gob (fun _ k => XS.icmpNo X471.here hx rfl (hb hby at_199) rfl (tlt (by decide : (1 : Int32) < (3 : Int32))).2.2.2 k) ?_
          show gO (tF T471 m 202 (la11 p0 q1 q2 q3 q4 x1 b2 b21 b41 3 b460 b473 u493_) [])
          refine gob (fun _ k => XS.dload X471.here hx rfl (hb hby at_202) rfl k) ?_
          show gO (tF T471 m 204 (la11 p0 q1 q2 q3 q4 x1 b2 b21 b41 3 b460 b473 u493_) [(.double u493_)])
          refine gob (fun _ k => XS.aload X471.here hx rfl (hb hby at_204) rfl rfl k) ?_
          show gO (tF T471 m 206 (la11 p0 q1 q2 q3 q4 x1 b2 b21 b41 3 b460 b473 u493_) [(.ref b21), (.double u493_)])
          refine gob (fun _ k => XS.iconst X471.here hx rfl (hb hby at_206) k) ?_
          show gO (tF T471 m 207 (la11 p0 q1 q2 q3 q4 x1 b2 b21 b41 3 b460 b473 u493_) [(.int 1), (.ref b21), (.double u493_)])
          obtain ⟨cl494, Ar494, aq494, S494, N494, H494, G494⟩ := id c486
          have hin494 : ¬ ((1 : Int32) < 0 ∨ cl494.slots.size ≤ ((1 : Int32)).toNatClampNeg) := inb_of S494 ⟨by decide, by decide⟩
          refine gob (X471.daload hx (j := (1 : Int32)) (v := (.double y29_)) (by rw [(rfl : T471.heap = _)]; exact Ar494.1) (State.isArrayOf_alike hZ.alike Ar494.2.1) Ar494.2.2 hin494 (Has.at H494 hin494 rfl) (g := (mkF m 207 (la11 p0 q1 q2 q3 q4 x1 b2 b21 b41 3 b460 b473 u493_) [(.int 1), (.ref b21), (.double u493_)])) rfl rfl (hb hby at_207)) ?_
          show gO (tF T471 m 208 (la11 p0 q1 q2 q3 q4 x1 b2 b21 b41 3 b460 b473 u493_) [(.double y29_), (.double u493_)])
          refine gob (fun _ k => XS.aload X471.here hx rfl (hb hby at_208) rfl rfl k) ?_
          show gO (tF T471 m 210 (la11 p0 q1 q2 q3 q4 x1 b2 b21 b41 3 b460 b473 u493_) [(.ref b2), (.double y29_), (.double u493_)])
          refine gob (fun _ k => XS.aload X471.here hx rfl (hb hby at_210) rfl rfl k) ?_
          show gO (tF T471 m 212 (la11 p0 q1 q2 q3 q4 x1 b2 b21 b41 3 b460 b473 u493_) [(.ref b41), (.ref b2), (.double y29_), (.double u493_)])
          refine gob (fun _ k => XS.iconst X471.here hx rfl (hb hby at_212) k) ?_
          show gO (tF T471 m 213 (la11 p0 q1 q2 q3 q4 x1 b2 b21 b41 3 b460 b473 u493_) [(.int 1), (.ref b41), (.ref b2), (.double y29_), (.double u493_)])
          obtain ⟨cl495, Ar495, aq495, S495, N495, H495, G495⟩ := id c488
          have hin495 : ¬ ((1 : Int32) < 0 ∨ cl495.slots.size ≤ ((1 : Int32)).toNatClampNeg) := inb_of S495 ⟨by decide, by decide⟩
          refine gob (X471.iaload hx (j := (1 : Int32)) (v := (.int 2)) (by rw [(rfl : T471.heap = _)]; exact Ar495.1) (State.isArrayOf_alike hZ.alike Ar495.2.1) Ar495.2.2 hin495 (Has.at H495 hin495 rfl) (g := (mkF m 213 (la11 p0 q1 q2 q3 q4 x1 b2 b21 b41 3 b460 b473 u493_) [(.int 1), (.ref b41), (.ref b2), (.double y29_), (.double u493_)])) rfl rfl (hb hby at_213)) ?_
          show gO (tF T471 m 214 (la11 p0 q1 q2 q3 q4 x1 b2 b21 b41 3 b460 b473 u493_) [(.int 2), (.ref b2), (.double y29_), (.double u493_)])
          obtain ⟨cl496, Ar496, aq496, S496, N496, H496, G496⟩ := id c490
          have hin496 : ¬ ((2 : Int32) < 0 ∨ cl496.slots.size ≤ ((2 : Int32)).toNatClampNeg) := inb_of S496 ⟨by decide, by decide⟩
          refine gob (X471.daload hx (j := (2 : Int32)) (v := (.double y13_)) (by rw [(rfl : T471.heap = _)]; exact Ar496.1) (State.isArrayOf_alike hZ.alike Ar496.2.1) Ar496.2.2 hin496 (Has.at H496 hin496 rfl) (g := (mkF m 214 (la11 p0 q1 q2 q3 q4 x1 b2 b21 b41 3 b460 b473 u493_) [(.int 2), (.ref b2), (.double y29_), (.double u493_)])) rfl rfl (hb hby at_214)) ?_
          show gO (tF T471 m 215 (la11 p0 q1 q2 q3 q4 x1 b2 b21 b41 3 b460 b473 u493_) [(.double y13_), (.double y29_), (.double u493_)])
          have mg497 : Mag64 1090 (FP.dmul y29_ y13_) := own_dmul my29_ my13_ (by decide) (by decide) (by decide)
          refine gob (fun _ k => XS.dmulS X471.here hx rfl (hb hby at_215) rfl (v := (FP.dmul y29_ y13_)) (mg497.fin (by decide)).noNaN rfl k) ?_
          show gO (tF T471 m 216 (la11 p0 q1 q2 q3 q4 x1 b2 b21 b41 3 b460 b473 u493_) [(.double (FP.dmul y29_ y13_)), (.double u493_)])
          have mg498 : Mag64 1094 (FP.dadd u493_ (FP.dmul y29_ y13_)) := own_dadd (K := 1092) (mu493_.mono (by decide)) (mg497.mono (by decide)) (by decide) (by decide)
          refine gob (fun _ k => XS.daddS X471.here hx rfl (hb hby at_216) rfl (v := (FP.dadd u493_ (FP.dmul y29_ y13_))) (mg498.fin (by decide)).noNaN rfl k) ?_
          show gO (tF T471 m 217 (la11 p0 q1 q2 q3 q4 x1 b2 b21 b41 3 b460 b473 u493_) [(.double (FP.dadd u493_ (FP.dmul y29_ y13_)))])
          obtain ⟨u499_, hu499_⟩ : ∃ z, z = (FP.dadd u493_ (FP.dmul y29_ y13_)) := ⟨_, rfl⟩
          have mu499_ : Mag64 1094 u499_ := by rw [hu499_]; exact mg498
          rw [← hu499_]
          show gO (tF T471 m 217 (la11 p0 q1 q2 q3 q4 x1 b2 b21 b41 3 b460 b473 u493_) [(.double u499_)])
          refine gob (fun _ k => XS.dstore X471.here hx rfl (hb hby at_217) rfl (l' := (la11 p0 q1 q2 q3 q4 x1 b2 b21 b41 3 b460 b473 u499_)) rfl k) ?_
          show gO (tF T471 m 219 (la11 p0 q1 q2 q3 q4 x1 b2 b21 b41 3 b460 b473 u499_) [])
          refine gob (fun _ k => XS.iload X471.here hx rfl (hb hby at_219) rfl k) ?_
          show gO (tF T471 m 221 (la11 p0 q1 q2 q3 q4 x1 b2 b21 b41 3 b460 b473 u499_) [(.int 3)])
          refine gob (fun _ k => XS.iconst X471.here hx rfl (hb hby at_221) k) ?_
          show gO (tF T471 m 222 (la11 p0 q1 q2 q3 q4 x1 b2 b21 b41 3 b460 b473 u499_) [(.int 2), (.int 3)])
          refine gob (fun _ k => XS.icmpNo X471.here hx rfl (hb hby at_222) rfl (tlt (by decide : (2 : Int32) < (3 : Int32))).2.2.2 k) ?_
          show gO (tF T471 m 225 (la11 p0 q1 q2 q3 q4 x1 b2 b21 b41 3 b460 b473 u499_) [])
          refine gob (fun _ k => XS.dload X471.here hx rfl (hb hby at_225) rfl k) ?_
          show gO (tF T471 m 227 (la11 p0 q1 q2 q3 q4 x1 b2 b21 b41 3 b460 b473 u499_) [(.double u499_)])
          refine gob (fun _ k => XS.aload X471.here hx rfl (hb hby at_227) rfl rfl k) ?_
          show gO (tF T471 m 229 (la11 p0 q1 q2 q3 q4 x1 b2 b21 b41 3 b460 b473 u499_) [(.ref b21), (.double u499_)])
          refine gob (fun _ k => XS.iconst X471.here hx rfl (hb hby at_229) k) ?_
          show gO (tF T471 m 230 (la11 p0 q1 q2 q3 q4 x1 b2 b21 b41 3 b460 b473 u499_) [(.int 2), (.ref b21), (.double u499_)])
          obtain ⟨cl500, Ar500, aq500, S500, N500, H500, G500⟩ := id c486
          have hin500 : ¬ ((2 : Int32) < 0 ∨ cl500.slots.size ≤ ((2 : Int32)).toNatClampNeg) := inb_of S500 ⟨by decide, by decide⟩
          refine gob (X471.daload hx (j := (2 : Int32)) (v := (.double y33_)) (by rw [(rfl : T471.heap = _)]; exact Ar500.1) (State.isArrayOf_alike hZ.alike Ar500.2.1) Ar500.2.2 hin500 (Has.at H500 hin500 rfl) (g := (mkF m 230 (la11 p0 q1 q2 q3 q4 x1 b2 b21 b41 3 b460 b473 u499_) [(.int 2), (.ref b21), (.double u499_)])) rfl rfl (hb hby at_230)) ?_
          show gO (tF T471 m 231 (la11 p0 q1 q2 q3 q4 x1 b2 b21 b41 3 b460 b473 u499_) [(.double y33_), (.double u499_)])
          refine gob (fun _ k => XS.aload X471.here hx rfl (hb hby at_231) rfl rfl k) ?_
          show gO (tF T471 m 233 (la11 p0 q1 q2 q3 q4 x1 b2 b21 b41 3 b460 b473 u499_) [(.ref b2), (.double y33_), (.double u499_)])
          refine gob (fun _ k => XS.aload X471.here hx rfl (hb hby at_233) rfl rfl k) ?_
          show gO (tF T471 m 235 (la11 p0 q1 q2 q3 q4 x1 b2 b21 b41 3 b460 b473 u499_) [(.ref b41), (.ref b2), (.double y33_), (.double u499_)])
          refine gob (fun _ k => XS.iconst X471.here hx rfl (hb hby at_235) k) ?_
          show gO (tF T471 m 236 (la11 p0 q1 q2 q3 q4 x1 b2 b21 b41 3 b460 b473 u499_) [(.int 2), (.ref b41), (.ref b2), (.double y33_), (.double u499_)])
          obtain ⟨cl501, Ar501, aq501, S501, N501, H501, G501⟩ := id c488
          have hin501 : ¬ ((2 : Int32) < 0 ∨ cl501.slots.size ≤ ((2 : Int32)).toNatClampNeg) := inb_of S501 ⟨by decide, by decide⟩
          refine gob (X471.iaload hx (j := (2 : Int32)) (v := (.int 3)) (by rw [(rfl : T471.heap = _)]; exact Ar501.1) (State.isArrayOf_alike hZ.alike Ar501.2.1) Ar501.2.2 hin501 (Has.at H501 hin501 rfl) (g := (mkF m 236 (la11 p0 q1 q2 q3 q4 x1 b2 b21 b41 3 b460 b473 u499_) [(.int 2), (.ref b41), (.ref b2), (.double y33_), (.double u499_)])) rfl rfl (hb hby at_236)) ?_
          show gO (tF T471 m 237 (la11 p0 q1 q2 q3 q4 x1 b2 b21 b41 3 b460 b473 u499_) [(.int 3), (.ref b2), (.double y33_), (.double u499_)])
          obtain ⟨cl502, Ar502, aq502, S502, N502, H502, G502⟩ := id c490
          have hin502 : ¬ ((3 : Int32) < 0 ∨ cl502.slots.size ≤ ((3 : Int32)).toNatClampNeg) := inb_of S502 ⟨by decide, by decide⟩
          refine gob (X471.daload hx (j := (3 : Int32)) (v := (.double y17_)) (by rw [(rfl : T471.heap = _)]; exact Ar502.1) (State.isArrayOf_alike hZ.alike Ar502.2.1) Ar502.2.2 hin502 (Has.at H502 hin502 rfl) (g := (mkF m 237 (la11 p0 q1 q2 q3 q4 x1 b2 b21 b41 3 b460 b473 u499_) [(.int 3), (.ref b2), (.double y33_), (.double u499_)])) rfl rfl (hb hby at_237)) ?_
          show gO (tF T471 m 238 (la11 p0 q1 q2 q3 q4 x1 b2 b21 b41 3 b460 b473 u499_) [(.double y17_), (.double y33_), (.double u499_)])
          have mg503 : Mag64 1090 (FP.dmul y33_ y17_) := own_dmul my33_ my17_ (by decide) (by decide) (by decide)
          refine gob (fun _ k => XS.dmulS X471.here hx rfl (hb hby at_238) rfl (v := (FP.dmul y33_ y17_)) (mg503.fin (by decide)).noNaN rfl k) ?_
          show gO (tF T471 m 239 (la11 p0 q1 q2 q3 q4 x1 b2 b21 b41 3 b460 b473 u499_) [(.double (FP.dmul y33_ y17_)), (.double u499_)])
          have mg504 : Mag64 1096 (FP.dadd u499_ (FP.dmul y33_ y17_)) := own_dadd (K := 1094) (mu499_.mono (by decide)) (mg503.mono (by decide)) (by decide) (by decide)
          refine gob (fun _ k => XS.daddS X471.here hx rfl (hb hby at_239) rfl (v := (FP.dadd u499_ (FP.dmul y33_ y17_))) (mg504.fin (by decide)).noNaN rfl k) ?_
          show gO (tF T471 m 240 (la11 p0 q1 q2 q3 q4 x1 b2 b21 b41 3 b460 b473 u499_) [(.double (FP.dadd u499_ (FP.dmul y33_ y17_)))])
          obtain ⟨u505_, hu505_⟩ : ∃ z, z = (FP.dadd u499_ (FP.dmul y33_ y17_)) := ⟨_, rfl⟩
          have mu505_ : Mag64 1096 u505_ := by rw [hu505_]; exact mg504
          rw [← hu505_]
          show gO (tF T471 m 240 (la11 p0 q1 q2 q3 q4 x1 b2 b21 b41 3 b460 b473 u499_) [(.double u505_)])
          refine gob (fun _ k => XS.dstore X471.here hx rfl (hb hby at_240) rfl (l' := (la11 p0 q1 q2 q3 q4 x1 b2 b21 b41 3 b460 b473 u505_)) rfl k) ?_
          show gO (tF T471 m 242 (la11 p0 q1 q2 q3 q4 x1 b2 b21 b41 3 b460 b473 u505_) [])
          refine gob (fun _ k => XS.iload X471.here hx rfl (hb hby at_242) rfl k) ?_
          show gO (tF T471 m 244 (la11 p0 q1 q2 q3 q4 x1 b2 b21 b41 3 b460 b473 u505_) [(.int 3)])
          refine gob (fun _ k => XS.iconst X471.here hx rfl (hb hby at_244) k) ?_
          show gO (tF T471 m 245 (la11 p0 q1 q2 q3 q4 x1 b2 b21 b41 3 b460 b473 u505_) [(.int 3), (.int 3)])
          refine gob (fun _ k => XS.icmpYes X471.here hx rfl (pc0 := 245) (pc' := 265) rfl (hb hby at_245) rfl (flt (by decide : ¬ ((3 : Int32) < (3 : Int32)))).2.2.2 (by decide) (by decide) k) ?_
          show gO (tF T471 m 265 (la11 p0 q1 q2 q3 q4 x1 b2 b21 b41 3 b460 b473 u505_) [])
          obtain ⟨T506, h506, X506, e506, E506, A506, D506, -, st506⟩ := newO X471 hx hZ hown (hW hw 9 rfl) (hW hw 10 rfl) (hW hw 11 rfl) (rfl : T471.heap = _) (g := (mkF m 265 (la11 p0 q1 q2 q3 q4 x1 b2 b21 b41 3 b460 b473 u505_) [])) rfl (hb hby at_265) (by decide) (by decide)
          obtain ⟨b506, g506⟩ : ∃ z, z = T471.heap.size := ⟨_, rfl⟩
          rw [← g506] at A506 D506 st506
          have n507 : b2 ≠ b506 := Nat.ne_of_lt (Nat.lt_of_lt_of_le c490.lt (Nat.le_of_eq g506.symm))
          have n508 : b21 ≠ b506 := Nat.ne_of_lt (Nat.lt_of_lt_of_le c486.lt (Nat.le_of_eq g506.symm))
          have n509 : b41 ≠ b506 := Nat.ne_of_lt (Nat.lt_of_lt_of_le c488.lt (Nat.le_of_eq g506.symm))
          have c510 := (F463.keep K471 nin0)
          have n511 : b460 ≠ b506 := Nat.ne_of_lt (Nat.lt_of_lt_of_le c510.lt (Nat.le_of_eq g506.symm))
          have n512 : b473 ≠ b506 := Nat.ne_of_lt (Nat.lt_of_lt_of_le F476.lt (Nat.le_of_eq g506.symm))
          have g513 : n0 ≤ b506 := Nat.le_trans z484 (Nat.le_of_eq g506.symm)
          have z514 : n0 ≤ h506.size := Nat.le_trans z484 E506.1
          have F506_dofs : Fld Z h506 b506 "com/example/fenda/fenda/analysis/Combination" "dofs" "[I" .null := D506 (Or.inr (hW hw 24 rfl)) (ty := (.array .int)) (by decide)
          have F506_weights : Fld Z h506 b506 "com/example/fenda/fenda/analysis/Combination" "weights" "[D" .null := D506 (Or.inr (hW hw 26 rfl)) (ty := (.array .double)) (by decide)
          refine gob st506 ?_
          replace X506 := castX X506 (rfl : _ = 6) (rfl : _ = 20)
          show gO (tF T506 m 268 (la11 p0 q1 q2 q3 q4 x1 b2 b21 b41 3 b460 b473 u505_) [(.ref b506)])
          refine gob (fun _ k => XS.dup X506.here hx rfl (hb hby at_268) rfl rfl k) ?_
          show gO (tF T506 m 269 (la11 p0 q1 q2 q3 q4 x1 b2 b21 b41 3 b460 b473 u505_) [(.ref b506), (.ref b506)])
          refine gob (fun _ k => XS.aload X506.here hx rfl (hb hby at_269) rfl rfl k) ?_
          show gO (tF T506 m 271 (la11 p0 q1 q2 q3 q4 x1 b2 b21 b41 3 b460 b473 u505_) [(.ref b460), (.ref b506), (.ref b506)])
          refine gob (fun _ k => XS.aload X506.here hx rfl (hb hby at_271) rfl rfl k) ?_
          show gO (tF T506 m 273 (la11 p0 q1 q2 q3 q4 x1 b2 b21 b41 3 b460 b473 u505_) [(.ref b473), (.ref b460), (.ref b506), (.ref b506)])
          obtain ⟨_, _, ⟨T515, L515, k515, n515⟩, -, X515, ⟨Lc515, hQ515, l515, y515, z515⟩, st515⟩ := X506.specialBack hx (y := (⟨"com/example/fenda/fenda/analysis/Combination", "<init>", "([I[D)V"⟩ : MethodName)) rfl hown (mvT hZ (hW hw 12 rfl)) (mvT hZ (hW hw 13 rfl)) (mvT hZ (hW hw 14 rfl)) (by decide) (backOf (W := 1) (rm3 l Z a0 hw [] b506 b460 b473 h506 n0 z514 A506 F506_dofs g513 F506_weights) hZ (hW hw 14 rfl) (hW hw 11 rfl) (by decide) (by decide)) (g := (mkF m 273 (la11 p0 q1 q2 q3 q4 x1 b2 b21 b41 3 b460 b473 u505_) [(.ref b473), (.ref b460), (.ref b506), (.ref b506)])) rfl (by rw [hml]; rfl) (Steps.refl _) (a := b506) (argsL := [(.ref b460), (.ref b473)]) (rest := [(.ref b506)]) (lenOf pd_3 rfl) rfl (by show 2 * 0 + _ ≤ _; exact Nat.le_of_eq rfl) (hb hby at_273) (fun _ _ => ⟨rfl, e506, (by decide : 6 + 0 ≤ _), (by decide : 20 + 0 ≤ _)⟩)
          dsimp only [Pt.U, Pt.locs, Pt.cells, Pt.slots] at X515 l515 y515 z515 st515 hQ515
          replace X515 := castX X515 (y515.trans (rfl : _ = 6)) (z515.trans (rfl : _ = 20))
          obtain ⟨rfl, Nq515, K515, F516, F517⟩ := hQ515
          have N515 : Fr n0 L515 := l515 ▸ Fr.app N471 Nq515
          have z518 : n0 ≤ T515.heap.size := Nat.le_trans z514 K515.1
          refine gob (fun _ k => st515.trans k) ?_
          show gO (tF T515 m 276 (la11 p0 q1 q2 q3 q4 x1 b2 b21 b41 3 b460 b473 u505_) [(.ref b506)])
          refine gob (fun _ k => XS.astore X515.here hx rfl (hb hby at_276) rfl rfl (l' := (la12 p0 q1 q2 q3 q4 x1 b2 b21 b41 3 b460 b473 u505_ b506)) rfl k) ?_
          show gO (tF T515 m 278 (la12 p0 q1 q2 q3 q4 x1 b2 b21 b41 3 b460 b473 u505_ b506) [])
          refine gob (fun _ k => XS.aload X515.here hx rfl (hb hby at_278) rfl rfl k) ?_
          show gO (tF T515 m 280 (la12 p0 q1 q2 q3 q4 x1 b2 b21 b41 3 b460 b473 u505_ b506) [(.ref b506)])
          refine gob (fun _ k => XS.aload X515.here hx rfl (hb hby at_280) rfl rfl k) ?_
          show gO (tF T515 m 282 (la12 p0 q1 q2 q3 q4 x1 b2 b21 b41 3 b460 b473 u505_ b506) [(.ref b2), (.ref b506)])
          have c520 := ((c510.ext E506).keep K515 (ninS n511 nin0))
          have c521 := ((F476.ext E506).keep K515 (ninS n512 nin0))
          have c522 := ((c490.ext E506).keep K515 (ninS n507 nin0))
          have c523 := (A506.keep K515)
          obtain ⟨cq519, kq519, q519a, q519b, q519c⟩ := isOf hZ (rfl : T515.heap = _) c523
          obtain ⟨_, _, ⟨T519, L519, k519, n519⟩, -, X519, ⟨Lc519, hQ519, l519, y519, z519⟩, st519⟩ := X515.virtualBack hx (y := (⟨"com/example/fenda/fenda/analysis/Combination", "of", "([D)D"⟩ : MethodName)) (z := (⟨"com/example/fenda/fenda/analysis/Combination", "of", "([D)D"⟩ : MethodName)) hown (mvT hZ (hW hw 27 rfl)) (mvT hZ (hW hw 28 rfl)) (notFace_of_selects (args := #[]) (mvT hZ (hW hw 30 rfl))) (mvT hZ (hW hw 30 rfl)) (mvT hZ (hW hw 29 rfl)) (by decide) (backOf (W := 0) (rmof_123 l Z a0 hw [] b506 b2 b460 b473 k461 k474 y25_ y29_ y33_ k2 y5_ y9_ y13_ y17_ T515.heap n0 z518 F516 F517 c520 my25_ my29_ my33_ c521 my5_ my9_ my13_ my17_ c522) hZ (hW hw 31 rfl) (hW hw 11 rfl) (by decide) (by decide)) q519a q519c (g := (mkF m 282 (la12 p0 q1 q2 q3 q4 x1 b2 b21 b41 3 b460 b473 u505_ b506) [(.ref b2), (.ref b506)])) rfl (by rw [hml]; rfl) (Steps.refl _) (argsL := [(.ref b2)]) (rest := []) (lenOf pd_4 rfl) rfl (by show 2 * 0 + _ ≤ _; exact Nat.le_of_eq rfl) (hb hby at_282) (fun _ _ => ⟨rfl, (rfl : T515.heap = _), (by decide : 6 + 0 ≤ _), (by decide : 20 + 0 ≤ _)⟩)
          dsimp only [Pt.U, Pt.locs, Pt.cells, Pt.slots] at X519 l519 y519 z519 st519 hQ519
          replace X519 := castX X519 (y519.trans (rfl : _ = 6)) (z519.trans (rfl : _ = 20))
          obtain ⟨r519, rfl, hr519, Nq519, e519⟩ := hQ519
          have N519 : Fr n0 L519 := l519 ▸ Fr.app N515 Nq519
          refine gob (fun _ k => st519.trans k) ?_
          show gO (tF T519 m 285 (la12 p0 q1 q2 q3 q4 x1 b2 b21 b41 3 b460 b473 u505_ b506) [(.double r519)])
          refine gob (fun _ k => XS.dstore X519.here hx rfl (hb hby at_285) rfl (l' := (la13 p0 q1 q2 q3 q4 x1 b2 b21 b41 3 b460 b473 u505_ b506 r519)) rfl k) ?_
          show gO (tF T519 m 287 (la13 p0 q1 q2 q3 q4 x1 b2 b21 b41 3 b460 b473 u505_ b506 r519) [])
          refine gob (fun _ k => XS.dload X519.here hx rfl (hb hby at_287) rfl k) ?_
          show gO (tF T519 m 289 (la13 p0 q1 q2 q3 q4 x1 b2 b21 b41 3 b460 b473 u505_ b506 r519) [(.double r519)])
          refine gob (fun _ k => XS.dload X519.here hx rfl (hb hby at_289) rfl k) ?_
          show gO (tF T519 m 291 (la13 p0 q1 q2 q3 q4 x1 b2 b21 b41 3 b460 b473 u505_ b506 r519) [(.double u505_), (.double r519)])
          have hqr519 : r519 = u505_ := hr519.trans (by rw [hu505_, hu499_, hu493_])
          refine gob (fun _ k => XS.dcmpS X519.here hx rfl (hb hby at_291) rfl (v := (0 : Int32)) (dcmpV_eq hqr519 (by rw [hqr519]; exact (mu505_.fin (by decide)).noNaN) .l) k) ?_
          show gO (tF T519 m 292 (la13 p0 q1 q2 q3 q4 x1 b2 b21 b41 3 b460 b473 u505_ b506 r519) [(.int 0)])
          refine gob (fun _ k => XS.ifNo X519.here hx rfl (hb hby at_292) rfl ((if0 _ _).trans (teq (by decide : (0 : Int32) = (0 : Int32))).2) k) ?_
          show gO (tF T519 m 295 (la13 p0 q1 q2 q3 q4 x1 b2 b21 b41 3 b460 b473 u505_ b506 r519) [])
          refine gob (fun _ k => XS.iconst X519.here hx rfl (hb hby at_295) k) ?_
          show gO (tF T519 m 296 (la13 p0 q1 q2 q3 q4 x1 b2 b21 b41 3 b460 b473 u505_ b506 r519) [(.int 1)])
          refine gob (fun _ k => XS.goto X519.here hx rfl (pc0 := 296) (pc' := 300) rfl (hb hby at_296) (by decide) (by decide) k) ?_
          show gO (tF T519 m 300 (la13 p0 q1 q2 q3 q4 x1 b2 b21 b41 3 b460 b473 u505_ b506 r519) [(.int 1)])
          refine goZ X519 hx hlk (t := .boolean) Bd.returns (by simp) (hb hby at_300) (z' := (1 : Int32)) rfl ?_ (by decide) (by decide)
          show Q0 Z p0 q1 q2 q3 q4 h0 n0 (some (.int (1 : Int32))) T519.heap _
          exact ⟨rfl, N519⟩
  · skip
    refine gob (fun _ k => XS.ifNo X41.here hx rfl (hb hby at_92) rfl ((if0 _ _).trans (feq hc92_47).1) k) ?_
    show gO (tF T41 m 95 (la8 p0 q1 q2 q3 q4 x1 b2 b21 b41 0) [])
    refine gob (fun _ k => XS.aload X41.here hx rfl (hb hby at_95) rfl rfl k) ?_
    show gO (tF T41 m 97 (la8 p0 q1 q2 q3 q4 x1 b2 b21 b41 0) [(.ref b41)])
    refine gob (fun _ k => XS.iload X41.here hx rfl (hb hby at_97) rfl k) ?_
    show gO (tF T41 m 99 (la8 p0 q1 q2 q3 q4 x1 b2 b21 b41 0) [(.int 0), (.ref b41)])
    refine gob (fun _ k => XS.iconst X41.here hx rfl (hb hby at_99) k) ?_
    show gO (tF T41 m 100 (la8 p0 q1 q2 q3 q4 x1 b2 b21 b41 0) [(.int 0), (.int 0), (.ref b41)])
    obtain ⟨cl524, Ar524, aq524, S524, N524, H524, G524⟩ := id V41
    have hin524 : ¬ ((0 : Int32) < 0 ∨ cl524.slots.size ≤ ((0 : Int32)).toNatClampNeg) := inb_of S524 ⟨by decide, by decide⟩
    obtain ⟨T525, h525, X525, e525, W525, st525⟩ := stI X41 hx hZ e41 Ar524 (j := (0 : Int32)) hin524 (g := (mkF m 100 (la8 p0 q1 q2 q3 q4 x1 b2 b21 b41 0) [(.int 0), (.int 0), (.ref b41)])) rfl rfl (hb hby at_100)
    refine gob st525 ?_
    have z526 : n0 ≤ h525.size := Nat.le_trans z46 (Keep.of_wr W525).1
    have N525 := Fr.snoc X525 N39 g45
    have V525 : Arv Z h525 b41 k41 .int (4 : Int32) [(.int 0), (.int 0), (.int 0), (.int 0)] (.int 0) := Arv.set Ar524 aq524 S524 N524 H524 G524 rfl W525 0 rfl (Nat.le_of_ble_eq_true rfl)
    show gO (tF T525 m 101 (la8 p0 q1 q2 q3 q4 x1 b2 b21 b41 0) [])
    refine gob (fun _ k => XS.iinc X525.here hx rfl (hb hby at_101) rfl (l' := (la8 p0 q1 q2 q3 q4 x1 b2 b21 b41 1)) rfl k) ?_
    show gO (tF T525 m 104 (la8 p0 q1 q2 q3 q4 x1 b2 b21 b41 1) [])
    refine gob (fun _ k => XS.iload X525.here hx rfl (hb hby at_104) rfl k) ?_
    show gO (tF T525 m 106 (la8 p0 q1 q2 q3 q4 x1 b2 b21 b41 1) [(.int x1)])
    refine gob (fun _ k => XS.iconst X525.here hx rfl (hb hby at_106) k) ?_
    show gO (tF T525 m 107 (la8 p0 q1 q2 q3 q4 x1 b2 b21 b41 1) [(.int 2), (.int x1)])
    refine gob (fun _ k => XS.iand X525.here hx rfl (hb hby at_107) rfl k) ?_
    show gO (tF T525 m 108 (la8 p0 q1 q2 q3 q4 x1 b2 b21 b41 1) [(.int (x1 &&& (2 : Int32)))])
    by_cases hc108_527 : (x1 &&& (2 : Int32)) = (0 : Int32)
    · skip
      refine gob (fun _ k => XS.ifYes X525.here hx rfl (pc0 := 108) (pc' := 120) rfl (hb hby at_108) rfl ((if0 _ _).trans (teq hc108_527).1) (by decide) (by decide) k) ?_
      show gO (tF T525 m 120 (la8 p0 q1 q2 q3 q4 x1 b2 b21 b41 1) [])
      refine gob (fun _ k => XS.iload X525.here hx rfl (hb hby at_120) rfl k) ?_
      show gO (tF T525 m 122 (la8 p0 q1 q2 q3 q4 x1 b2 b21 b41 1) [(.int x1)])
      refine gob (fun _ k => XS.iconst X525.here hx rfl (hb hby at_122) k) ?_
      show gO (tF T525 m 123 (la8 p0 q1 q2 q3 q4 x1 b2 b21 b41 1) [(.int 4), (.int x1)])
      refine gob (fun _ k => XS.iand X525.here hx rfl (hb hby at_123) rfl k) ?_
      show gO (tF T525 m 124 (la8 p0 q1 q2 q3 q4 x1 b2 b21 b41 1) [(.int (x1 &&& (4 : Int32)))])
      by_cases hc124_528 : (x1 &&& (4 : Int32)) = (0 : Int32)
      · skip
        refine gob (fun _ k => XS.ifYes X525.here hx rfl (pc0 := 124) (pc' := 136) rfl (hb hby at_124) rfl ((if0 _ _).trans (teq hc124_528).1) (by decide) (by decide) k) ?_
        show gO (tF T525 m 136 (la8 p0 q1 q2 q3 q4 x1 b2 b21 b41 1) [])
        refine gob (fun _ k => XS.iload X525.here hx rfl (hb hby at_136) rfl k) ?_
        show gO (tF T525 m 138 (la8 p0 q1 q2 q3 q4 x1 b2 b21 b41 1) [(.int x1)])
        refine gob (fun _ k => XS.bipush X525.here hx rfl (hb hby at_138) k) ?_
        show gO (tF T525 m 140 (la8 p0 q1 q2 q3 q4 x1 b2 b21 b41 1) [(.int 8), (.int x1)])
        refine gob (fun _ k => XS.iand X525.here hx rfl (hb hby at_140) rfl k) ?_
        show gO (tF T525 m 141 (la8 p0 q1 q2 q3 q4 x1 b2 b21 b41 1) [(.int (x1 &&& (8 : Int32)))])
        by_cases hc141_529 : (x1 &&& (8 : Int32)) = (0 : Int32)
        · skip
          refine gob (fun _ k => XS.ifYes X525.here hx rfl (pc0 := 141) (pc' := 153) rfl (hb hby at_141) rfl ((if0 _ _).trans (teq hc141_529).1) (by decide) (by decide) k) ?_
          show gO (tF T525 m 153 (la8 p0 q1 q2 q3 q4 x1 b2 b21 b41 1) [])
          refine gob (fun _ k => XS.aload X525.here hx rfl (hb hby at_153) rfl rfl k) ?_
          show gO (tF T525 m 155 (la8 p0 q1 q2 q3 q4 x1 b2 b21 b41 1) [(.ref b41)])
          refine gob (fun _ k => XS.iload X525.here hx rfl (hb hby at_155) rfl k) ?_
          show gO (tF T525 m 157 (la8 p0 q1 q2 q3 q4 x1 b2 b21 b41 1) [(.int 1), (.ref b41)])
          obtain ⟨_, _, ⟨T530, L530, k530, n530⟩, -, X530, ⟨Lc530, hQ530, l530, y530, z530⟩, st530⟩ := Jvm.LawKit.callS X525 hx (y := (⟨"com/example/fenda/fenda/analysis/CombinationOfPinLaw", "prefixInt", "([II)[I"⟩ : MethodName)) hown (mvT hZ (hW hw 2 rfl)) (mvT hZ (hW hw 3 rfl)) (mvT hZ (hW hw 4 rfl)) (mvT hZ (hW hw 5 rfl)) (by decide) (backOf (W := 0) (rmpi1 l Z a0 hw [] b41 k41 (0 : Int32) (0 : Int32) (0 : Int32) (0 : Int32) h525 n0 z526 V525) hZ (hW hw 5 rfl) (hW hw 4 rfl) (by decide) (by decide)) (g := (mkF m 157 (la8 p0 q1 q2 q3 q4 x1 b2 b21 b41 1) [(.int 1), (.ref b41)])) rfl (by rw [hml]; rfl) (argsL := [(.ref b41), (.int 1)]) (rest := []) (lenOf pd_1 rfl) rfl (by show 2 * 0 + _ ≤ _; exact Nat.le_of_eq rfl) (hb hby at_157) (fun _ _ => ⟨rfl, e525, (by decide : 3 + 1 ≤ _), (by decide : 12 + 1 ≤ _)⟩)
          dsimp only [Pt.U, Pt.locs, Pt.cells, Pt.slots] at X530 l530 y530 z530 st530 hQ530
          replace X530 := castX X530 (y530.trans (rfl : _ = 4)) (z530.trans (rfl : _ = 13))
          obtain ⟨b531, k532, rfl, Nq530, K530, hz533, F534⟩ := hQ530
          have N530 : Fr n0 L530 := l530 ▸ Fr.app N525 Nq530
          have c536 := ((c42.ext E41).other W525 n43)
          have n535 : b2 ≠ b531 := Nat.ne_of_lt (Nat.lt_of_lt_of_le c536.lt hz533)
          have c538 := ((V39.ext E41).other W525 n44)
          have n537 : b21 ≠ b531 := Nat.ne_of_lt (Nat.lt_of_lt_of_le c538.lt hz533)
          have n539 : b41 ≠ b531 := Nat.ne_of_lt (Nat.lt_of_lt_of_le V525.lt hz533)
          have g540 : n0 ≤ b531 := Nat.le_trans z526 hz533
          have z541 : n0 ≤ T530.heap.size := Nat.le_trans z526 K530.1
          refine gob st530 ?_
          show gO (tF T530 m 160 (la8 p0 q1 q2 q3 q4 x1 b2 b21 b41 1) [(.ref b531)])
          refine gob (fun _ k => XS.astore X530.here hx rfl (hb hby at_160) rfl rfl (l' := (la9 p0 q1 q2 q3 q4 x1 b2 b21 b41 1 b531)) rfl k) ?_
          show gO (tF T530 m 162 (la9 p0 q1 q2 q3 q4 x1 b2 b21 b41 1 b531) [])
          refine gob (fun _ k => XS.aload X530.here hx rfl (hb hby at_162) rfl rfl k) ?_
          show gO (tF T530 m 164 (la9 p0 q1 q2 q3 q4 x1 b2 b21 b41 1 b531) [(.ref b21)])
          refine gob (fun _ k => XS.iload X530.here hx rfl (hb hby at_164) rfl k) ?_
          show gO (tF T530 m 166 (la9 p0 q1 q2 q3 q4 x1 b2 b21 b41 1 b531) [(.int 1), (.ref b21)])
          have c543 := (c538.keep K530 nin0)
          obtain ⟨_, _, ⟨T542, L542, k542, n542⟩, -, X542, ⟨Lc542, hQ542, l542, y542, z542⟩, st542⟩ := Jvm.LawKit.callS X530 hx (y := (⟨"com/example/fenda/fenda/analysis/CombinationOfPinLaw", "prefixDouble", "([DI)[D"⟩ : MethodName)) hown (mvT hZ (hW hw 6 rfl)) (mvT hZ (hW hw 7 rfl)) (mvT hZ (hW hw 4 rfl)) (mvT hZ (hW hw 8 rfl)) (by decide) (backOf (W := 0) (rmpd1 l Z a0 hw [] b21 k21 y25_ y29_ y33_ y37_ T530.heap n0 z541 c543) hZ (hW hw 8 rfl) (hW hw 4 rfl) (by decide) (by decide)) (g := (mkF m 166 (la9 p0 q1 q2 q3 q4 x1 b2 b21 b41 1 b531) [(.int 1), (.ref b21)])) rfl (by rw [hml]; rfl) (argsL := [(.ref b21), (.int 1)]) (rest := []) (lenOf pd_2 rfl) rfl (by show 2 * 0 + _ ≤ _; exact Nat.le_of_eq rfl) (hb hby at_166) (fun _ _ => ⟨rfl, (rfl : T530.heap = _), (by decide : 4 + 1 ≤ _), (by decide : 13 + 1 ≤ _)⟩)
          dsimp only [Pt.U, Pt.locs, Pt.cells, Pt.slots] at X542 l542 y542 z542 st542 hQ542
          replace X542 := castX X542 (y542.trans (rfl : _ = 5)) (z542.trans (rfl : _ = 14))
          obtain ⟨b544, k545, rfl, Nq542, K542, hz546, F547⟩ := hQ542
          have N542 : Fr n0 L542 := l542 ▸ Fr.app N530 Nq542
          have c549 := (c536.keep K530 nin0)
          have n548 : b2 ≠ b544 := Nat.ne_of_lt (Nat.lt_of_lt_of_le c549.lt hz546)
          have n550 : b21 ≠ b544 := Nat.ne_of_lt (Nat.lt_of_lt_of_le c543.lt hz546)
          have c552 := (V525.keep K530 nin0)
          have n551 : b41 ≠ b544 := Nat.ne_of_lt (Nat.lt_of_lt_of_le c552.lt hz546)
          have n553 : b531 ≠ b544 := Nat.ne_of_lt (Nat.lt_of_lt_of_le F534.lt hz546)
          have g554 : n0 ≤ b544 := Nat.le_trans z541 hz546
          have z555 : n0 ≤ T542.heap.size := Nat.le_trans z541 K542.1
          refine gob st542 ?_
          show gO (tF T542 m 169 (la9 p0 q1 q2 q3 q4 x1 b2 b21 b41 1 b531) [(.ref b544)])
          refine gob (fun _ k => XS.astore X542.here hx rfl (hb hby at_169) rfl rfl (l' := (la10 p0 q1 q2 q3 q4 x1 b2 b21 b41 1 b531 b544)) rfl k) ?_
          show gO (tF T542 m 171 (la10 p0 q1 q2 q3 q4 x1 b2 b21 b41 1 b531 b544) [])
          refine gob (fun _ k => XS.dconst0 X542.here hx rfl (hb hby at_171) (v := (0 : UInt64)) (by decide +kernel) k) ?_
          show gO (tF T542 m 172 (la10 p0 q1 q2 q3 q4 x1 b2 b21 b41 1 b531 b544) [(.double (0 : UInt64))])
          refine gob (fun _ k => XS.dstore X542.here hx rfl (hb hby at_172) rfl (l' := (la11 p0 q1 q2 q3 q4 x1 b2 b21 b41 1 b531 b544 (0 : UInt64))) rfl k) ?_
          show gO (tF T542 m 174 (la11 p0 q1 q2 q3 q4 x1 b2 b21 b41 1 b531 b544 (0 : UInt64)) [])
          refine gob (fun _ k => XS.iload X542.here hx rfl (hb hby at_174) rfl k) ?_
          show gO (tF T542 m 176 (la11 p0 q1 q2 q3 q4 x1 b2 b21 b41 1 b531 b544 (0 : UInt64)) [(.int 1)])
          refine gob (fun _ k => XS.ifNo X542.here hx rfl (hb hby at_176) rfl ((if0 _ _).trans (tlt (by decide : (0 : Int32) < (1 : Int32))).2.2.2) k) ?_
          show gO (tF T542 m 179 (la11 p0 q1 q2 q3 q4 x1 b2 b21 b41 1 b531 b544 (0 : UInt64)) [])
          refine gob (fun _ k => XS.dload X542.here hx rfl (hb hby at_179) rfl k) ?_
          show gO (tF T542 m 181 (la11 p0 q1 q2 q3 q4 x1 b2 b21 b41 1 b531 b544 (0 : UInt64)) [(.double (0 : UInt64))])
          refine gob (fun _ k => XS.aload X542.here hx rfl (hb hby at_181) rfl rfl k) ?_
          show gO (tF T542 m 183 (la11 p0 q1 q2 q3 q4 x1 b2 b21 b41 1 b531 b544 (0 : UInt64)) [(.ref b21), (.double (0 : UInt64))])
          refine gob (fun _ k => XS.iconst X542.here hx rfl (hb hby at_183) k) ?_
          show gO (tF T542 m 184 (la11 p0 q1 q2 q3 q4 x1 b2 b21 b41 1 b531 b544 (0 : UInt64)) [(.int 0), (.ref b21), (.double (0 : UInt64))])
          have c557 := (c543.keep K542 nin0)
          obtain ⟨cl556, Ar556, aq556, S556, N556, H556, G556⟩ := id c557
          have hin556 : ¬ ((0 : Int32) < 0 ∨ cl556.slots.size ≤ ((0 : Int32)).toNatClampNeg) := inb_of S556 ⟨by decide, by decide⟩
          refine gob (X542.daload hx (j := (0 : Int32)) (v := (.double y25_)) (by rw [(rfl : T542.heap = _)]; exact Ar556.1) (State.isArrayOf_alike hZ.alike Ar556.2.1) Ar556.2.2 hin556 (Has.at H556 hin556 rfl) (g := (mkF m 184 (la11 p0 q1 q2 q3 q4 x1 b2 b21 b41 1 b531 b544 (0 : UInt64)) [(.int 0), (.ref b21), (.double (0 : UInt64))])) rfl rfl (hb hby at_184)) ?_
          show gO (tF T542 m 185 (la11 p0 q1 q2 q3 q4 x1 b2 b21 b41 1 b531 b544 (0 : UInt64)) [(.double y25_), (.double (0 : UInt64))])
          refine gob (fun _ k => XS.aload X542.here hx rfl (hb hby at_185) rfl rfl k) ?_
          show gO (tF T542 m 187 (la11 p0 q1 q2 q3 q4 x1 b2 b21 b41 1 b531 b544 (0 : UInt64)) [(.ref b2), (.double y25_), (.double (0 : UInt64))])
          refine gob (fun _ k => XS.aload X542.here hx rfl (hb hby at_187) rfl rfl k) ?_
          show gO (tF T542 m 189 (la11 p0 q1 q2 q3 q4 x1 b2 b21 b41 1 b531 b544 (0 : UInt64)) [(.ref b41), (.ref b2), (.double y25_), (.double (0 : UInt64))])
          refine gob (fun _ k => XS.iconst X542.here hx rfl (hb hby at_189) k) ?_
          show gO (tF T542 m 190 (la11 p0 q1 q2 q3 q4 x1 b2 b21 b41 1 b531 b544 (0 : UInt64)) [(.int 0), (.ref b41), (.ref b2), (.double y25_), (.double (0 : UInt64))])
          have c559 := (c552.keep K542 nin0)
          obtain ⟨cl558, Ar558, aq558, S558, N558, H558, G558⟩ := id c559
          have hin558 : ¬ ((0 : Int32) < 0 ∨ cl558.slots.size ≤ ((0 : Int32)).toNatClampNeg) := inb_of S558 ⟨by decide, by decide⟩
          refine gob (X542.iaload hx (j := (0 : Int32)) (v := (.int 0)) (by rw [(rfl : T542.heap = _)]; exact Ar558.1) (State.isArrayOf_alike hZ.alike Ar558.2.1) Ar558.2.2 hin558 (Has.at H558 hin558 rfl) (g := (mkF m 190 (la11 p0 q1 q2 q3 q4 x1 b2 b21 b41 1 b531 b544 (0 : UInt64)) [(.int 0), (.ref b41), (.ref b2), (.double y25_), (.double (0 : UInt64))])) rfl rfl (hb hby at_190)) ?_
          show gO (tF T542 m 191 (la11 p0 q1 q2 q3 q4 x1 b2 b21 b41 1 b531 b544 (0 : UInt64)) [(.int 0), (.ref b2), (.double y25_), (.double (0 : UInt64))])
          have c561 := (c549.keep K542 nin0)
          obtain ⟨cl560, Ar560, aq560, S560, N560, H560, G560⟩ := id c561
          have hin560 : ¬ ((0 : Int32) < 0 ∨ cl560.slots.size ≤ ((0 : Int32)).toNatClampNeg) := inb_of S560 ⟨by decide, by decide⟩
          refine gob (X542.daload hx (j := (0 : Int32)) (v := (.double y5_)) (by rw [(rfl : T542.heap = _)]; exact Ar560.1) (State.isArrayOf_alike hZ.alike Ar560.2.1) Ar560.2.2 hin560 (Has.at H560 hin560 rfl) (g := (mkF m 191 (la11 p0 q1 q2 q3 q4 x1 b2 b21 b41 1 b531 b544 (0 : UInt64)) [(.int 0), (.ref b2), (.double y25_), (.double (0 : UInt64))])) rfl rfl (hb hby at_191)) ?_
          show gO (tF T542 m 192 (la11 p0 q1 q2 q3 q4 x1 b2 b21 b41 1 b531 b544 (0 : UInt64)) [(.double y5_), (.double y25_), (.double (0 : UInt64))])
          have mg562 : Mag64 1090 (FP.dmul y25_ y5_) := own_dmul my25_ my5_ (by decide) (by decide) (by decide)
          refine gob (fun _ k => XS.dmulS X542.here hx rfl (hb hby at_192) rfl (v := (FP.dmul y25_ y5_)) (mg562.fin (by decide)).noNaN rfl k) ?_
          show gO (tF T542 m 193 (la11 p0 q1 q2 q3 q4 x1 b2 b21 b41 1 b531 b544 (0 : UInt64)) [(.double (FP.dmul y25_ y5_)), (.double (0 : UInt64))])
          have mg563 : Mag64 1092 (FP.dadd (0 : UInt64) (FP.dmul y25_ y5_)) := own_dadd (K := 1090) (own_m0.mono (by decide)) (mg562.mono (by decide)) (by decide) (by decide)
          refine gob (fun _ k => XS.daddS X542.here hx rfl (hb hby at_193) rfl (v := (FP.dadd (0 : UInt64) (FP.dmul y25_ y5_))) (mg563.fin (by decide)).noNaN rfl k) ?_
          show gO (tF T542 m 194 (la11 p0 q1 q2 q3 q4 x1 b2 b21 b41 1 b531 b544 (0 : UInt64)) [(.double (FP.dadd (0 : UInt64) (FP.dmul y25_ y5_)))])
          obtain ⟨u564_, hu564_⟩ : ∃ z, z = (FP.dadd (0 : UInt64) (FP.dmul y25_ y5_)) := ⟨_, rfl⟩
          have mu564_ : Mag64 1092 u564_ := by rw [hu564_]; exact mg563
          rw [← hu564_]
          show gO (tF T542 m 194 (la11 p0 q1 q2 q3 q4 x1 b2 b21 b41 1 b531 b544 (0 : UInt64)) [(.double u564_)])
          refine gob (fun _ k => XS.dstore X542.here hx rfl (hb hby at_194) rfl (l' := (la11 p0 q1 q2 q3 q4 x1 b2 b21 b41 1 b531 b544 u564_)) rfl k) ?_
          show gO (tF T542 m 196 (la11 p0 q1 q2 q3 q4 x1 b2 b21 b41 1 b531 b544 u564_) [])
          refine gob (fun _ k => XS.iload X542.here hx rfl (hb hby at_196) rfl k) ?_
          show gO (tF T542 m 198 (la11 p0 q1 q2 q3 q4 x1 b2 b21 b41 1 b531 b544 u564_) [(.int 1)])
          refine gob (fun _ k => XS.iconst X542.here hx rfl (hb hby at_198) k) ?_
          show gO (tF T542 m 199 (la11 p0 q1 q2 q3 q4 x1 b2 b21 b41 1 b531 b544 u564_) [(.int 1), (.int 1)])
          refine gob (fun _ k => XS.icmpYes X542.here hx rfl (pc0 := 199) (pc' := 219) rfl (hb hby at_199) rfl (flt (by decide : ¬ ((1 : Int32) < (1 : Int32)))).2.2.2 (by decide) (by decide) k) ?_
          show gO (tF T542 m 219 (la11 p0 q1 q2 q3 q4 x1 b2 b21 b41 1 b531 b544 u564_) [])
          refine gob (fun _ k => XS.iload X542.here hx rfl (hb hby at_219) rfl k) ?_
          show gO (tF T542 m 221 (la11 p0 q1 q2 q3 q4 x1 b2 b21 b41 1 b531 b544 u564_) [(.int 1)])
          refine gob (fun _ k => XS.iconst X542.here hx rfl (hb hby at_221) k) ?_
          show gO (tF T542 m 222 (la11 p0 q1 q2 q3 q4 x1 b2 b21 b41 1 b531 b544 u564_) [(.int 2), (.int 1)])
          refine gob (fun _ k => XS.icmpYes X542.here hx rfl (pc0 := 222) (pc' := 242) rfl (hb hby at_222) rfl (flt (by decide : ¬ ((2 : Int32) < (1 : Int32)))).2.2.2 (by decide) (by decide) k) ?_
          show gO (tF T542 m 242 (la11 p0 q1 q2 q3 q4 x1 b2 b21 b41 1 b531 b544 u564_) [])
          refine gob (fun _ k => XS.iload X542.here hx rfl (hb hby at_242) rfl k) ?_
          show gO (tF T542 m 244 (la11 p0 q1 q2 q3 q4 x1 b2 b21 b41 1 b531 b544 u564_) [(.int 1)])
          refine gob (fun _ k => XS.iconst X542.here hx rfl (hb hby at_244) k) ?_
          show gO (tF T542 m 245 (la11 p0 q1 q2 q3 q4 x1 b2 b21 b41 1 b531 b544 u564_) [(.int 3), (.int 1)])
          refine gob (fun _ k => XS.icmpYes X542.here hx rfl (pc0 := 245) (pc' := 265) rfl (hb hby at_245) rfl (flt (by decide : ¬ ((3 : Int32) < (1 : Int32)))).2.2.2 (by decide) (by decide) k) ?_
          show gO (tF T542 m 265 (la11 p0 q1 q2 q3 q4 x1 b2 b21 b41 1 b531 b544 u564_) [])
          obtain ⟨T565, h565, X565, e565, E565, A565, D565, -, st565⟩ := newO X542 hx hZ hown (hW hw 9 rfl) (hW hw 10 rfl) (hW hw 11 rfl) (rfl : T542.heap = _) (g := (mkF m 265 (la11 p0 q1 q2 q3 q4 x1 b2 b21 b41 1 b531 b544 u564_) [])) rfl (hb hby at_265) (by decide) (by decide)
          obtain ⟨b565, g565⟩ : ∃ z, z = T542.heap.size := ⟨_, rfl⟩
          rw [← g565] at A565 D565 st565
          have n566 : b2 ≠ b565 := Nat.ne_of_lt (Nat.lt_of_lt_of_le c561.lt (Nat.le_of_eq g565.symm))
          have n567 : b21 ≠ b565 := Nat.ne_of_lt (Nat.lt_of_lt_of_le c557.lt (Nat.le_of_eq g565.symm))
          have n568 : b41 ≠ b565 := Nat.ne_of_lt (Nat.lt_of_lt_of_le c559.lt (Nat.le_of_eq g565.symm))
          have c569 := (F534.keep K542 nin0)
          have n570 : b531 ≠ b565 := Nat.ne_of_lt (Nat.lt_of_lt_of_le c569.lt (Nat.le_of_eq g565.symm))
          have n571 : b544 ≠ b565 := Nat.ne_of_lt (Nat.lt_of_lt_of_le F547.lt (Nat.le_of_eq g565.symm))
          have g572 : n0 ≤ b565 := Nat.le_trans z555 (Nat.le_of_eq g565.symm)
          have z573 : n0 ≤ h565.size := Nat.le_trans z555 E565.1
          have F565_dofs : Fld Z h565 b565 "com/example/fenda/fenda/analysis/Combination" "dofs" "[I" .null := D565 (Or.inr (hW hw 24 rfl)) (ty := (.array .int)) (by decide)
          have F565_weights : Fld Z h565 b565 "com/example/fenda/fenda/analysis/Combination" "weights" "[D" .null := D565 (Or.inr (hW hw 26 rfl)) (ty := (.array .double)) (by decide)
          refine gob st565 ?_
          replace X565 := castX X565 (rfl : _ = 6) (rfl : _ = 16)
          show gO (tF T565 m 268 (la11 p0 q1 q2 q3 q4 x1 b2 b21 b41 1 b531 b544 u564_) [(.ref b565)])
          refine gob (fun _ k => XS.dup X565.here hx rfl (hb hby at_268) rfl rfl k) ?_
          show gO (tF T565 m 269 (la11 p0 q1 q2 q3 q4 x1 b2 b21 b41 1 b531 b544 u564_) [(.ref b565), (.ref b565)])
          refine gob (fun _ k => XS.aload X565.here hx rfl (hb hby at_269) rfl rfl k) ?_
          show gO (tF T565 m 271 (la11 p0 q1 q2 q3 q4 x1 b2 b21 b41 1 b531 b544 u564_) [(.ref b531), (.ref b565), (.ref b565)])
          refine gob (fun _ k => XS.aload X565.here hx rfl (hb hby at_271) rfl rfl k) ?_
          show gO (tF T565 m 273 (la11 p0 q1 q2 q3 q4 x1 b2 b21 b41 1 b531 b544 u564_) [(.ref b544), (.ref b531), (.ref b565), (.ref b565)])
          obtain ⟨_, _, ⟨T574, L574, k574, n574⟩, -, X574, ⟨Lc574, hQ574, l574, y574, z574⟩, st574⟩ := X565.specialBack hx (y := (⟨"com/example/fenda/fenda/analysis/Combination", "<init>", "([I[D)V"⟩ : MethodName)) rfl hown (mvT hZ (hW hw 12 rfl)) (mvT hZ (hW hw 13 rfl)) (mvT hZ (hW hw 14 rfl)) (by decide) (backOf (W := 1) (rm3 l Z a0 hw [] b565 b531 b544 h565 n0 z573 A565 F565_dofs g572 F565_weights) hZ (hW hw 14 rfl) (hW hw 11 rfl) (by decide) (by decide)) (g := (mkF m 273 (la11 p0 q1 q2 q3 q4 x1 b2 b21 b41 1 b531 b544 u564_) [(.ref b544), (.ref b531), (.ref b565), (.ref b565)])) rfl (by rw [hml]; rfl) (Steps.refl _) (a := b565) (argsL := [(.ref b531), (.ref b544)]) (rest := [(.ref b565)]) (lenOf pd_3 rfl) rfl (by show 2 * 0 + _ ≤ _; exact Nat.le_of_eq rfl) (hb hby at_273) (fun _ _ => ⟨rfl, e565, (by decide : 6 + 0 ≤ _), (by decide : 16 + 0 ≤ _)⟩)
          dsimp only [Pt.U, Pt.locs, Pt.cells, Pt.slots] at X574 l574 y574 z574 st574 hQ574
          replace X574 := castX X574 (y574.trans (rfl : _ = 6)) (z574.trans (rfl : _ = 16))
          obtain ⟨rfl, Nq574, K574, F575, F576⟩ := hQ574
          have N574 : Fr n0 L574 := l574 ▸ Fr.app N542 Nq574
          have z577 : n0 ≤ T574.heap.size := Nat.le_trans z573 K574.1
          refine gob (fun _ k => st574.trans k) ?_
          show gO (tF T574 m 276 (la11 p0 q1 q2 q3 q4 x1 b2 b21 b41 1 b531 b544 u564_) [(.ref b565)])
          refine gob (fun _ k => XS.astore X574.here hx rfl (hb hby at_276) rfl rfl (l' := (la12 p0 q1 q2 q3 q4 x1 b2 b21 b41 1 b531 b544 u564_ b565)) rfl k) ?_
          show gO (tF T574 m 278 (la12 p0 q1 q2 q3 q4 x1 b2 b21 b41 1 b531 b544 u564_ b565) [])
          refine gob (fun _ k => XS.aload X574.here hx rfl (hb hby at_278) rfl rfl k) ?_
          show gO (tF T574 m 280 (la12 p0 q1 q2 q3 q4 x1 b2 b21 b41 1 b531 b544 u564_ b565) [(.ref b565)])
          refine gob (fun _ k => XS.aload X574.here hx rfl (hb hby at_280) rfl rfl k) ?_
          show gO (tF T574 m 282 (la12 p0 q1 q2 q3 q4 x1 b2 b21 b41 1 b531 b544 u564_ b565) [(.ref b2), (.ref b565)])
          have c579 := ((c569.ext E565).keep K574 (ninS n570 nin0))
          have c580 := ((F547.ext E565).keep K574 (ninS n571 nin0))
          have c581 := ((c561.ext E565).keep K574 (ninS n566 nin0))
          have c582 := (A565.keep K574)
          obtain ⟨cq578, kq578, q578a, q578b, q578c⟩ := isOf hZ (rfl : T574.heap = _) c582
          obtain ⟨_, _, ⟨T578, L578, k578, n578⟩, -, X578, ⟨Lc578, hQ578, l578, y578, z578⟩, st578⟩ := X574.virtualBack hx (y := (⟨"com/example/fenda/fenda/analysis/Combination", "of", "([D)D"⟩ : MethodName)) (z := (⟨"com/example/fenda/fenda/analysis/Combination", "of", "([D)D"⟩ : MethodName)) hown (mvT hZ (hW hw 27 rfl)) (mvT hZ (hW hw 28 rfl)) (notFace_of_selects (args := #[]) (mvT hZ (hW hw 30 rfl))) (mvT hZ (hW hw 30 rfl)) (mvT hZ (hW hw 29 rfl)) (by decide) (backOf (W := 0) (rmof_0 l Z a0 hw [] b565 b2 b531 b544 k532 k545 y25_ k2 y5_ y9_ y13_ y17_ T574.heap n0 z577 F575 F576 c579 my25_ c580 my5_ my9_ my13_ my17_ c581) hZ (hW hw 31 rfl) (hW hw 11 rfl) (by decide) (by decide)) q578a q578c (g := (mkF m 282 (la12 p0 q1 q2 q3 q4 x1 b2 b21 b41 1 b531 b544 u564_ b565) [(.ref b2), (.ref b565)])) rfl (by rw [hml]; rfl) (Steps.refl _) (argsL := [(.ref b2)]) (rest := []) (lenOf pd_4 rfl) rfl (by show 2 * 0 + _ ≤ _; exact Nat.le_of_eq rfl) (hb hby at_282) (fun _ _ => ⟨rfl, (rfl : T574.heap = _), (by decide : 6 + 0 ≤ _), (by decide : 16 + 0 ≤ _)⟩)
          dsimp only [Pt.U, Pt.locs, Pt.cells, Pt.slots] at X578 l578 y578 z578 st578 hQ578
          replace X578 := castX X578 (y578.trans (rfl : _ = 6)) (z578.trans (rfl : _ = 16))
          obtain ⟨r578, rfl, hr578, Nq578, e578⟩ := hQ578
          have N578 : Fr n0 L578 := l578 ▸ Fr.app N574 Nq578
          refine gob (fun _ k => st578.trans k) ?_
          show gO (tF T578 m 285 (la12 p0 q1 q2 q3 q4 x1 b2 b21 b41 1 b531 b544 u564_ b565) [(.double r578)])
          refine gob (fun _ k => XS.dstore X578.here hx rfl (hb hby at_285) rfl (l' := (la13 p0 q1 q2 q3 q4 x1 b2 b21 b41 1 b531 b544 u564_ b565 r578)) rfl k) ?_
          show gO (tF T578 m 287 (la13 p0 q1 q2 q3 q4 x1 b2 b21 b41 1 b531 b544 u564_ b565 r578) [])
          refine gob (fun _ k => XS.dload X578.here hx rfl (hb hby at_287) rfl k) ?_
          show gO (tF T578 m 289 (la13 p0 q1 q2 q3 q4 x1 b2 b21 b41 1 b531 b544 u564_ b565 r578) [(.double r578)])
          refine gob (fun _ k => XS.dload X578.here hx rfl (hb hby at_289) rfl k) ?_
          show gO (tF T578 m 291 (la13 p0 q1 q2 q3 q4 x1 b2 b21 b41 1 b531 b544 u564_ b565 r578) [(.double u564_), (.double r578)])
          have hqr578 : r578 = u564_ := hr578.trans (by rw [hu564_])
          refine gob (fun _ k => XS.dcmpS X578.here hx rfl (hb hby at_291) rfl (v := (0 : Int32)) (dcmpV_eq hqr578 (by rw [hqr578]; exact (mu564_.fin (by decide)).noNaN) .l) k) ?_
          show gO (tF T578 m 292 (la13 p0 q1 q2 q3 q4 x1 b2 b21 b41 1 b531 b544 u564_ b565 r578) [(.int 0)])
          refine gob (fun _ k => XS.ifNo X578.here hx rfl (hb hby at_292) rfl ((if0 _ _).trans (teq (by decide : (0 : Int32) = (0 : Int32))).2) k) ?_
          show gO (tF T578 m 295 (la13 p0 q1 q2 q3 q4 x1 b2 b21 b41 1 b531 b544 u564_ b565 r578) [])
          refine gob (fun _ k => XS.iconst X578.here hx rfl (hb hby at_295) k) ?_
          show gO (tF T578 m 296 (la13 p0 q1 q2 q3 q4 x1 b2 b21 b41 1 b531 b544 u564_ b565 r578) [(.int 1)])
          refine gob (fun _ k => XS.goto X578.here hx rfl (pc0 := 296) (pc' := 300) rfl (hb hby at_296) (by decide) (by decide) k) ?_
          show gO (tF T578 m 300 (la13 p0 q1 q2 q3 q4 x1 b2 b21 b41 1 b531 b544 u564_ b565 r578) [(.int 1)])
          refine goZ X578 hx hlk (t := .boolean) Bd.returns (by simp) (hb hby at_300) (z' := (1 : Int32)) rfl ?_ (by decide) (by decide)
          show Q0 Z p0 q1 q2 q3 q4 h0 n0 (some (.int (1 : Int32))) T578.heap _
          exact ⟨rfl, N578⟩
        · skip
          refine gob (fun _ k => XS.ifNo X525.here hx rfl (hb hby at_141) rfl ((if0 _ _).trans (feq hc141_529).1) k) ?_
          show gO (tF T525 m 144 (la8 p0 q1 q2 q3 q4 x1 b2 b21 b41 1) [])
          refine gob (fun _ k => XS.aload X525.here hx rfl (hb hby at_144) rfl rfl k) ?_
          show gO (tF T525 m 146 (la8 p0 q1 q2 q3 q4 x1 b2 b21 b41 1) [(.ref b41)])
          refine gob (fun _ k => XS.iload X525.here hx rfl (hb hby at_146) rfl k) ?_
          show gO (tF T525 m 148 (la8 p0 q1 q2 q3 q4 x1 b2 b21 b41 1) [(.int 1), (.ref b41)])
          refine gob (fun _ k => XS.iconst X525.here hx rfl (hb hby at_148) k) ?_
          show gO (tF T525 m 149 (la8 p0 q1 q2 q3 q4 x1 b2 b21 b41 1) [(.int 3), (.int 1), (.ref b41)])
          obtain ⟨cl583, Ar583, aq583, S583, N583, H583, G583⟩ := id V525
          have hin583 : ¬ ((1 : Int32) < 0 ∨ cl583.slots.size ≤ ((1 : Int32)).toNatClampNeg) := inb_of S583 ⟨by decide, by decide⟩
          obtain ⟨T584, h584, X584, e584, W584, st584⟩ := stI X525 hx hZ e525 Ar583 (j := (1 : Int32)) hin583 (g := (mkF m 149 (la8 p0 q1 q2 q3 q4 x1 b2 b21 b41 1) [(.int 3), (.int 1), (.ref b41)])) rfl rfl (hb hby at_149)
          refine gob st584 ?_
          have z585 : n0 ≤ h584.size := Nat.le_trans z526 (Keep.of_wr W584).1
          have N584 := Fr.snoc X584 N525 g45
          have V584 : Arv Z h584 b41 k41 .int (4 : Int32) [(.int 0), (.int 3), (.int 0), (.int 0)] (.int 0) := Arv.set Ar583 aq583 S583 N583 H583 G583 rfl W584 1 rfl (Nat.le_of_ble_eq_true rfl)
          show gO (tF T584 m 150 (la8 p0 q1 q2 q3 q4 x1 b2 b21 b41 1) [])
          refine gob (fun _ k => XS.iinc X584.here hx rfl (hb hby at_150) rfl (l' := (la8 p0 q1 q2 q3 q4 x1 b2 b21 b41 2)) rfl k) ?_
          show gO (tF T584 m 153 (la8 p0 q1 q2 q3 q4 x1 b2 b21 b41 2) [])
          refine gob (fun _ k => XS.aload X584.here hx rfl (hb hby at_153) rfl rfl k) ?_
          show gO (tF T584 m 155 (la8 p0 q1 q2 q3 q4 x1 b2 b21 b41 2) [(.ref b41)])
          refine gob (fun _ k => XS.iload X584.here hx rfl (hb hby at_155) rfl k) ?_
          show gO (tF T584 m 157 (la8 p0 q1 q2 q3 q4 x1 b2 b21 b41 2) [(.int 2), (.ref b41)])
          obtain ⟨_, _, ⟨T586, L586, k586, n586⟩, -, X586, ⟨Lc586, hQ586, l586, y586, z586⟩, st586⟩ := Jvm.LawKit.callS X584 hx (y := (⟨"com/example/fenda/fenda/analysis/CombinationOfPinLaw", "prefixInt", "([II)[I"⟩ : MethodName)) hown (mvT hZ (hW hw 2 rfl)) (mvT hZ (hW hw 3 rfl)) (mvT hZ (hW hw 4 rfl)) (mvT hZ (hW hw 5 rfl)) (by decide) (backOf (W := 0) (rmpi2 l Z a0 hw [] b41 k41 (0 : Int32) (3 : Int32) (0 : Int32) (0 : Int32) h584 n0 z585 V584) hZ (hW hw 5 rfl) (hW hw 4 rfl) (by decide) (by decide)) (g := (mkF m 157 (la8 p0 q1 q2 q3 q4 x1 b2 b21 b41 2) [(.int 2), (.ref b41)])) rfl (by rw [hml]; rfl) (argsL := [(.ref b41), (.int 2)]) (rest := []) (lenOf pd_1 rfl) rfl (by show 2 * 0 + _ ≤ _; exact Nat.le_of_eq rfl) (hb hby at_157) (fun _ _ => ⟨rfl, e584, (by decide : 3 + 1 ≤ _), (by decide : 12 + 2 ≤ _)⟩)
          dsimp only [Pt.U, Pt.locs, Pt.cells, Pt.slots] at X586 l586 y586 z586 st586 hQ586
          replace X586 := castX X586 (y586.trans (rfl : _ = 4)) (z586.trans (rfl : _ = 14))
          obtain ⟨b587, k588, rfl, Nq586, K586, hz589, F590⟩ := hQ586
          have N586 : Fr n0 L586 := l586 ▸ Fr.app N584 Nq586
          have c592 := (((c42.ext E41).other W525 n43).other W584 n43)
          have n591 : b2 ≠ b587 := Nat.ne_of_lt (Nat.lt_of_lt_of_le c592.lt hz589)
          have c594 := (((V39.ext E41).other W525 n44).other W584 n44)
          have n593 : b21 ≠ b587 := Nat.ne_of_lt (Nat.lt_of_lt_of_le c594.lt hz589)
          have n595 : b41 ≠ b587 := Nat.ne_of_lt (Nat.lt_of_lt_of_le V584.lt hz589)
          have g596 : n0 ≤ b587 := Nat.le_trans z585 hz589
          have z597 : n0 ≤ T586.heap.size := Nat.le_trans z585 K586.1
          refine gob st586 ?_
          show gO (tF T586 m 160 (la8 p0 q1 q2 q3 q4 x1 b2 b21 b41 2) [(.ref b587)])
          refine gob (fun _ k => XS.astore X586.here hx rfl (hb hby at_160) rfl rfl (l' := (la9 p0 q1 q2 q3 q4 x1 b2 b21 b41 2 b587)) rfl k) ?_
          show gO (tF T586 m 162 (la9 p0 q1 q2 q3 q4 x1 b2 b21 b41 2 b587) [])
          refine gob (fun _ k => XS.aload X586.here hx rfl (hb hby at_162) rfl rfl k) ?_
          show gO (tF T586 m 164 (la9 p0 q1 q2 q3 q4 x1 b2 b21 b41 2 b587) [(.ref b21)])
          refine gob (fun _ k => XS.iload X586.here hx rfl (hb hby at_164) rfl k) ?_
          show gO (tF T586 m 166 (la9 p0 q1 q2 q3 q4 x1 b2 b21 b41 2 b587) [(.int 2), (.ref b21)])
          have c599 := (c594.keep K586 nin0)
          obtain ⟨_, _, ⟨T598, L598, k598, n598⟩, -, X598, ⟨Lc598, hQ598, l598, y598, z598⟩, st598⟩ := Jvm.LawKit.callS X586 hx (y := (⟨"com/example/fenda/fenda/analysis/CombinationOfPinLaw", "prefixDouble", "([DI)[D"⟩ : MethodName)) hown (mvT hZ (hW hw 6 rfl)) (mvT hZ (hW hw 7 rfl)) (mvT hZ (hW hw 4 rfl)) (mvT hZ (hW hw 8 rfl)) (by decide) (backOf (W := 0) (rmpd2 l Z a0 hw [] b21 k21 y25_ y29_ y33_ y37_ T586.heap n0 z597 c599) hZ (hW hw 8 rfl) (hW hw 4 rfl) (by decide) (by decide)) (g := (mkF m 166 (la9 p0 q1 q2 q3 q4 x1 b2 b21 b41 2 b587) [(.int 2), (.ref b21)])) rfl (by rw [hml]; rfl) (argsL := [(.ref b21), (.int 2)]) (rest := []) (lenOf pd_2 rfl) rfl (by show 2 * 0 + _ ≤ _; exact Nat.le_of_eq rfl) (hb hby at_166) (fun _ _ => ⟨rfl, (rfl : T586.heap = _), (by decide : 4 + 1 ≤ _), (by decide : 14 + 2 ≤ _)⟩)
          dsimp only [Pt.U, Pt.locs, Pt.cells, Pt.slots] at X598 l598 y598 z598 st598 hQ598
          replace X598 := castX X598 (y598.trans (rfl : _ = 5)) (z598.trans (rfl : _ = 16))
          obtain ⟨b600, k601, rfl, Nq598, K598, hz602, F603⟩ := hQ598
          have N598 : Fr n0 L598 := l598 ▸ Fr.app N586 Nq598
          have c605 := (c592.keep K586 nin0)
          have n604 : b2 ≠ b600 := Nat.ne_of_lt (Nat.lt_of_lt_of_le c605.lt hz602)
          have n606 : b21 ≠ b600 := Nat.ne_of_lt (Nat.lt_of_lt_of_le c599.lt hz602)
          have c608 := (V584.keep K586 nin0)
          have n607 : b41 ≠ b600 := Nat.ne_of_lt (Nat.lt_of_lt_of_le c608.lt hz602)
          have n609 : b587 ≠ b600 := Nat.ne_of_lt (Nat.lt_of_lt_of_le F590.lt hz602)
          have g610 : n0 ≤ b600 := Nat.le_trans z597 hz602
          have z611 : n0 ≤ T598.heap.size := Nat.le_trans z597 K598.1
          refine gob st598 ?_
          show gO (tF T598 m 169 (la9 p0 q1 q2 q3 q4 x1 b2 b21 b41 2 b587) [(.ref b600)])
          refine gob (fun _ k => XS.astore X598.here hx rfl (hb hby at_169) rfl rfl (l' := (la10 p0 q1 q2 q3 q4 x1 b2 b21 b41 2 b587 b600)) rfl k) ?_
          show gO (tF T598 m 171 (la10 p0 q1 q2 q3 q4 x1 b2 b21 b41 2 b587 b600) [])
          refine gob (fun _ k => XS.dconst0 X598.here hx rfl (hb hby at_171) (v := (0 : UInt64)) (by decide +kernel) k) ?_
          show gO (tF T598 m 172 (la10 p0 q1 q2 q3 q4 x1 b2 b21 b41 2 b587 b600) [(.double (0 : UInt64))])
          refine gob (fun _ k => XS.dstore X598.here hx rfl (hb hby at_172) rfl (l' := (la11 p0 q1 q2 q3 q4 x1 b2 b21 b41 2 b587 b600 (0 : UInt64))) rfl k) ?_
          show gO (tF T598 m 174 (la11 p0 q1 q2 q3 q4 x1 b2 b21 b41 2 b587 b600 (0 : UInt64)) [])
          refine gob (fun _ k => XS.iload X598.here hx rfl (hb hby at_174) rfl k) ?_
          show gO (tF T598 m 176 (la11 p0 q1 q2 q3 q4 x1 b2 b21 b41 2 b587 b600 (0 : UInt64)) [(.int 2)])
          refine gob (fun _ k => XS.ifNo X598.here hx rfl (hb hby at_176) rfl ((if0 _ _).trans (tlt (by decide : (0 : Int32) < (2 : Int32))).2.2.2) k) ?_
          show gO (tF T598 m 179 (la11 p0 q1 q2 q3 q4 x1 b2 b21 b41 2 b587 b600 (0 : UInt64)) [])
          refine gob (fun _ k => XS.dload X598.here hx rfl (hb hby at_179) rfl k) ?_
          show gO (tF T598 m 181 (la11 p0 q1 q2 q3 q4 x1 b2 b21 b41 2 b587 b600 (0 : UInt64)) [(.double (0 : UInt64))])
          refine gob (fun _ k => XS.aload X598.here hx rfl (hb hby at_181) rfl rfl k) ?_
          show gO (tF T598 m 183 (la11 p0 q1 q2 q3 q4 x1 b2 b21 b41 2 b587 b600 (0 : UInt64)) [(.ref b21), (.double (0 : UInt64))])
          refine gob (fun _ k => XS.iconst X598.here hx rfl (hb hby at_183) k) ?_
          show gO (tF T598 m 184 (la11 p0 q1 q2 q3 q4 x1 b2 b21 b41 2 b587 b600 (0 : UInt64)) [(.int 0), (.ref b21), (.double (0 : UInt64))])
          have c613 := (c599.keep K598 nin0)
          obtain ⟨cl612, Ar612, aq612, S612, N612, H612, G612⟩ := id c613
          have hin612 : ¬ ((0 : Int32) < 0 ∨ cl612.slots.size ≤ ((0 : Int32)).toNatClampNeg) := inb_of S612 ⟨by decide, by decide⟩
          refine gob (X598.daload hx (j := (0 : Int32)) (v := (.double y25_)) (by rw [(rfl : T598.heap = _)]; exact Ar612.1) (State.isArrayOf_alike hZ.alike Ar612.2.1) Ar612.2.2 hin612 (Has.at H612 hin612 rfl) (g := (mkF m 184 (la11 p0 q1 q2 q3 q4 x1 b2 b21 b41 2 b587 b600 (0 : UInt64)) [(.int 0), (.ref b21), (.double (0 : UInt64))])) rfl rfl (hb hby at_184)) ?_
          show gO (tF T598 m 185 (la11 p0 q1 q2 q3 q4 x1 b2 b21 b41 2 b587 b600 (0 : UInt64)) [(.double y25_), (.double (0 : UInt64))])
          refine gob (fun _ k => XS.aload X598.here hx rfl (hb hby at_185) rfl rfl k) ?_
          show gO (tF T598 m 187 (la11 p0 q1 q2 q3 q4 x1 b2 b21 b41 2 b587 b600 (0 : UInt64)) [(.ref b2), (.double y25_), (.double (0 : UInt64))])
          refine gob (fun _ k => XS.aload X598.here hx rfl (hb hby at_187) rfl rfl k) ?_
          show gO (tF T598 m 189 (la11 p0 q1 q2 q3 q4 x1 b2 b21 b41 2 b587 b600 (0 : UInt64)) [(.ref b41), (.ref b2), (.double y25_), (.double (0 : UInt64))])
          refine gob (fun _ k => XS.iconst X598.here hx rfl (hb hby at_189) k) ?_
          show gO (tF T598 m 190 (la11 p0 q1 q2 q3 q4 x1 b2 b21 b41 2 b587 b600 (0 : UInt64)) [(.int 0), (.ref b41), (.ref b2), (.double y25_), (.double (0 : UInt64))])
          have c615 := (c608.keep K598 nin0)
          obtain ⟨cl614, Ar614, aq614, S614, N614, H614, G614⟩ := id c615
          have hin614 : ¬ ((0 : Int32) < 0 ∨ cl614.slots.size ≤ ((0 : Int32)).toNatClampNeg) := inb_of S614 ⟨by decide, by decide⟩
          refine gob (X598.iaload hx (j := (0 : Int32)) (v := (.int 0)) (by rw [(rfl : T598.heap = _)]; exact Ar614.1) (State.isArrayOf_alike hZ.alike Ar614.2.1) Ar614.2.2 hin614 (Has.at H614 hin614 rfl) (g := (mkF m 190 (la11 p0 q1 q2 q3 q4 x1 b2 b21 b41 2 b587 b600 (0 : UInt64)) [(.int 0), (.ref b41), (.ref b2), (.double y25_), (.double (0 : UInt64))])) rfl rfl (hb hby at_190)) ?_
          show gO (tF T598 m 191 (la11 p0 q1 q2 q3 q4 x1 b2 b21 b41 2 b587 b600 (0 : UInt64)) [(.int 0), (.ref b2), (.double y25_), (.double (0 : UInt64))])
          have c617 := (c605.keep K598 nin0)
          obtain ⟨cl616, Ar616, aq616, S616, N616, H616, G616⟩ := id c617
          have hin616 : ¬ ((0 : Int32) < 0 ∨ cl616.slots.size ≤ ((0 : Int32)).toNatClampNeg) := inb_of S616 ⟨by decide, by decide⟩
          refine gob (X598.daload hx (j := (0 : Int32)) (v := (.double y5_)) (by rw [(rfl : T598.heap = _)]; exact Ar616.1) (State.isArrayOf_alike hZ.alike Ar616.2.1) Ar616.2.2 hin616 (Has.at H616 hin616 rfl) (g := (mkF m 191 (la11 p0 q1 q2 q3 q4 x1 b2 b21 b41 2 b587 b600 (0 : UInt64)) [(.int 0), (.ref b2), (.double y25_), (.double (0 : UInt64))])) rfl rfl (hb hby at_191)) ?_
          show gO (tF T598 m 192 (la11 p0 q1 q2 q3 q4 x1 b2 b21 b41 2 b587 b600 (0 : UInt64)) [(.double y5_), (.double y25_), (.double (0 : UInt64))])
          have mg618 : Mag64 1090 (FP.dmul y25_ y5_) := own_dmul my25_ my5_ (by decide) (by decide) (by decide)
          refine gob (fun _ k => XS.dmulS X598.here hx rfl (hb hby at_192) rfl (v := (FP.dmul y25_ y5_)) (mg618.fin (by decide)).noNaN rfl k) ?_
          show gO (tF T598 m 193 (la11 p0 q1 q2 q3 q4 x1 b2 b21 b41 2 b587 b600 (0 : UInt64)) [(.double (FP.dmul y25_ y5_)), (.double (0 : UInt64))])
          have mg619 : Mag64 1092 (FP.dadd (0 : UInt64) (FP.dmul y25_ y5_)) := own_dadd (K := 1090) (own_m0.mono (by decide)) (mg618.mono (by decide)) (by decide) (by decide)
          refine gob (fun _ k => XS.daddS X598.here hx rfl (hb hby at_193) rfl (v := (FP.dadd (0 : UInt64) (FP.dmul y25_ y5_))) (mg619.fin (by decide)).noNaN rfl k) ?_
          show gO (tF T598 m 194 (la11 p0 q1 q2 q3 q4 x1 b2 b21 b41 2 b587 b600 (0 : UInt64)) [(.double (FP.dadd (0 : UInt64) (FP.dmul y25_ y5_)))])
          obtain ⟨u620_, hu620_⟩ : ∃ z, z = (FP.dadd (0 : UInt64) (FP.dmul y25_ y5_)) := ⟨_, rfl⟩
          have mu620_ : Mag64 1092 u620_ := by rw [hu620_]; exact mg619
          rw [← hu620_]
          show gO (tF T598 m 194 (la11 p0 q1 q2 q3 q4 x1 b2 b21 b41 2 b587 b600 (0 : UInt64)) [(.double u620_)])
          refine gob (fun _ k => XS.dstore X598.here hx rfl (hb hby at_194) rfl (l' := (la11 p0 q1 q2 q3 q4 x1 b2 b21 b41 2 b587 b600 u620_)) rfl k) ?_
          show gO (tF T598 m 196 (la11 p0 q1 q2 q3 q4 x1 b2 b21 b41 2 b587 b600 u620_) [])
          refine gob (fun _ k => XS.iload X598.here hx rfl (hb hby at_196) rfl k) ?_
          show gO (tF T598 m 198 (la11 p0 q1 q2 q3 q4 x1 b2 b21 b41 2 b587 b600 u620_) [(.int 2)])
          refine gob (fun _ k => XS.iconst X598.here hx rfl (hb hby at_198) k) ?_
          show gO (tF T598 m 199 (la11 p0 q1 q2 q3 q4 x1 b2 b21 b41 2 b587 b600 u620_) [(.int 1), (.int 2)])
          refine gob (fun _ k => XS.icmpNo X598.here hx rfl (hb hby at_199) rfl (tlt (by decide : (1 : Int32) < (2 : Int32))).2.2.2 k) ?_
          show gO (tF T598 m 202 (la11 p0 q1 q2 q3 q4 x1 b2 b21 b41 2 b587 b600 u620_) [])
          refine gob (fun _ k => XS.dload X598.here hx rfl (hb hby at_202) rfl k) ?_
          show gO (tF T598 m 204 (la11 p0 q1 q2 q3 q4 x1 b2 b21 b41 2 b587 b600 u620_) [(.double u620_)])
          refine gob (fun _ k => XS.aload X598.here hx rfl (hb hby at_204) rfl rfl k) ?_
          show gO (tF T598 m 206 (la11 p0 q1 q2 q3 q4 x1 b2 b21 b41 2 b587 b600 u620_) [(.ref b21), (.double u620_)])
          refine gob (fun _ k => XS.iconst X598.here hx rfl (hb hby at_206) k) ?_
          show gO (tF T598 m 207 (la11 p0 q1 q2 q3 q4 x1 b2 b21 b41 2 b587 b600 u620_) [(.int 1), (.ref b21), (.double u620_)])
          obtain ⟨cl621, Ar621, aq621, S621, N621, H621, G621⟩ := id c613
          have hin621 : ¬ ((1 : Int32) < 0 ∨ cl621.slots.size ≤ ((1 : Int32)).toNatClampNeg) := inb_of S621 ⟨by decide, by decide⟩
          refine gob (X598.daload hx (j := (1 : Int32)) (v := (.double y29_)) (by rw [(rfl : T598.heap = _)]; exact Ar621.1) (State.isArrayOf_alike hZ.alike Ar621.2.1) Ar621.2.2 hin621 (Has.at H621 hin621 rfl) (g := (mkF m 207 (la11 p0 q1 q2 q3 q4 x1 b2 b21 b41 2 b587 b600 u620_) [(.int 1), (.ref b21), (.double u620_)])) rfl rfl (hb hby at_207)) ?_
          show gO (tF T598 m 208 (la11 p0 q1 q2 q3 q4 x1 b2 b21 b41 2 b587 b600 u620_) [(.double y29_), (.double u620_)])
          refine gob (fun _ k => XS.aload X598.here hx rfl (hb hby at_208) rfl rfl k) ?_
          show gO (tF T598 m 210 (la11 p0 q1 q2 q3 q4 x1 b2 b21 b41 2 b587 b600 u620_) [(.ref b2), (.double y29_), (.double u620_)])
          refine gob (fun _ k => XS.aload X598.here hx rfl (hb hby at_210) rfl rfl k) ?_
          show gO (tF T598 m 212 (la11 p0 q1 q2 q3 q4 x1 b2 b21 b41 2 b587 b600 u620_) [(.ref b41), (.ref b2), (.double y29_), (.double u620_)])
          refine gob (fun _ k => XS.iconst X598.here hx rfl (hb hby at_212) k) ?_
          show gO (tF T598 m 213 (la11 p0 q1 q2 q3 q4 x1 b2 b21 b41 2 b587 b600 u620_) [(.int 1), (.ref b41), (.ref b2), (.double y29_), (.double u620_)])
          obtain ⟨cl622, Ar622, aq622, S622, N622, H622, G622⟩ := id c615
          have hin622 : ¬ ((1 : Int32) < 0 ∨ cl622.slots.size ≤ ((1 : Int32)).toNatClampNeg) := inb_of S622 ⟨by decide, by decide⟩
          refine gob (X598.iaload hx (j := (1 : Int32)) (v := (.int 3)) (by rw [(rfl : T598.heap = _)]; exact Ar622.1) (State.isArrayOf_alike hZ.alike Ar622.2.1) Ar622.2.2 hin622 (Has.at H622 hin622 rfl) (g := (mkF m 213 (la11 p0 q1 q2 q3 q4 x1 b2 b21 b41 2 b587 b600 u620_) [(.int 1), (.ref b41), (.ref b2), (.double y29_), (.double u620_)])) rfl rfl (hb hby at_213)) ?_
          show gO (tF T598 m 214 (la11 p0 q1 q2 q3 q4 x1 b2 b21 b41 2 b587 b600 u620_) [(.int 3), (.ref b2), (.double y29_), (.double u620_)])
          obtain ⟨cl623, Ar623, aq623, S623, N623, H623, G623⟩ := id c617
          have hin623 : ¬ ((3 : Int32) < 0 ∨ cl623.slots.size ≤ ((3 : Int32)).toNatClampNeg) := inb_of S623 ⟨by decide, by decide⟩
          refine gob (X598.daload hx (j := (3 : Int32)) (v := (.double y17_)) (by rw [(rfl : T598.heap = _)]; exact Ar623.1) (State.isArrayOf_alike hZ.alike Ar623.2.1) Ar623.2.2 hin623 (Has.at H623 hin623 rfl) (g := (mkF m 214 (la11 p0 q1 q2 q3 q4 x1 b2 b21 b41 2 b587 b600 u620_) [(.int 3), (.ref b2), (.double y29_), (.double u620_)])) rfl rfl (hb hby at_214)) ?_
          show gO (tF T598 m 215 (la11 p0 q1 q2 q3 q4 x1 b2 b21 b41 2 b587 b600 u620_) [(.double y17_), (.double y29_), (.double u620_)])
          have mg624 : Mag64 1090 (FP.dmul y29_ y17_) := own_dmul my29_ my17_ (by decide) (by decide) (by decide)
          refine gob (fun _ k => XS.dmulS X598.here hx rfl (hb hby at_215) rfl (v := (FP.dmul y29_ y17_)) (mg624.fin (by decide)).noNaN rfl k) ?_
          show gO (tF T598 m 216 (la11 p0 q1 q2 q3 q4 x1 b2 b21 b41 2 b587 b600 u620_) [(.double (FP.dmul y29_ y17_)), (.double u620_)])
          have mg625 : Mag64 1094 (FP.dadd u620_ (FP.dmul y29_ y17_)) := own_dadd (K := 1092) (mu620_.mono (by decide)) (mg624.mono (by decide)) (by decide) (by decide)
          refine gob (fun _ k => XS.daddS X598.here hx rfl (hb hby at_216) rfl (v := (FP.dadd u620_ (FP.dmul y29_ y17_))) (mg625.fin (by decide)).noNaN rfl k) ?_
          show gO (tF T598 m 217 (la11 p0 q1 q2 q3 q4 x1 b2 b21 b41 2 b587 b600 u620_) [(.double (FP.dadd u620_ (FP.dmul y29_ y17_)))])
          obtain ⟨u626_, hu626_⟩ : ∃ z, z = (FP.dadd u620_ (FP.dmul y29_ y17_)) := ⟨_, rfl⟩
          have mu626_ : Mag64 1094 u626_ := by rw [hu626_]; exact mg625
          rw [← hu626_]
          show gO (tF T598 m 217 (la11 p0 q1 q2 q3 q4 x1 b2 b21 b41 2 b587 b600 u620_) [(.double u626_)])
          refine gob (fun _ k => XS.dstore X598.here hx rfl (hb hby at_217) rfl (l' := (la11 p0 q1 q2 q3 q4 x1 b2 b21 b41 2 b587 b600 u626_)) rfl k) ?_
          show gO (tF T598 m 219 (la11 p0 q1 q2 q3 q4 x1 b2 b21 b41 2 b587 b600 u626_) [])
          refine gob (fun _ k => XS.iload X598.here hx rfl (hb hby at_219) rfl k) ?_
          show gO (tF T598 m 221 (la11 p0 q1 q2 q3 q4 x1 b2 b21 b41 2 b587 b600 u626_) [(.int 2)])
          refine gob (fun _ k => XS.iconst X598.here hx rfl (hb hby at_221) k) ?_
          show gO (tF T598 m 222 (la11 p0 q1 q2 q3 q4 x1 b2 b21 b41 2 b587 b600 u626_) [(.int 2), (.int 2)])
          refine gob (fun _ k => XS.icmpYes X598.here hx rfl (pc0 := 222) (pc' := 242) rfl (hb hby at_222) rfl (flt (by decide : ¬ ((2 : Int32) < (2 : Int32)))).2.2.2 (by decide) (by decide) k) ?_
          show gO (tF T598 m 242 (la11 p0 q1 q2 q3 q4 x1 b2 b21 b41 2 b587 b600 u626_) [])
          refine gob (fun _ k => XS.iload X598.here hx rfl (hb hby at_242) rfl k) ?_
          show gO (tF T598 m 244 (la11 p0 q1 q2 q3 q4 x1 b2 b21 b41 2 b587 b600 u626_) [(.int 2)])
          refine gob (fun _ k => XS.iconst X598.here hx rfl (hb hby at_244) k) ?_
          show gO (tF T598 m 245 (la11 p0 q1 q2 q3 q4 x1 b2 b21 b41 2 b587 b600 u626_) [(.int 3), (.int 2)])
          refine gob (fun _ k => XS.icmpYes X598.here hx rfl (pc0 := 245) (pc' := 265) rfl (hb hby at_245) rfl (flt (by decide : ¬ ((3 : Int32) < (2 : Int32)))).2.2.2 (by decide) (by decide) k) ?_
          show gO (tF T598 m 265 (la11 p0 q1 q2 q3 q4 x1 b2 b21 b41 2 b587 b600 u626_) [])
          obtain ⟨T627, h627, X627, e627, E627, A627, D627, -, st627⟩ := newO X598 hx hZ hown (hW hw 9 rfl) (hW hw 10 rfl) (hW hw 11 rfl) (rfl : T598.heap = _) (g := (mkF m 265 (la11 p0 q1 q2 q3 q4 x1 b2 b21 b41 2 b587 b600 u626_) [])) rfl (hb hby at_265) (by decide) (by decide)
          obtain ⟨b627, g627⟩ : ∃ z, z = T598.heap.size := ⟨_, rfl⟩
          rw [← g627] at A627 D627 st627
          have n628 : b2 ≠ b627 := Nat.ne_of_lt (Nat.lt_of_lt_of_le c617.lt (Nat.le_of_eq g627.symm))
          have n629 : b21 ≠ b627 := Nat.ne_of_lt (Nat.lt_of_lt_of_le c613.lt (Nat.le_of_eq g627.symm))
          have n630 : b41 ≠ b627 := Nat.ne_of_lt (Nat.lt_of_lt_of_le c615.lt (Nat.le_of_eq g627.symm))
          have c631 := (F590.keep K598 nin0)
          have n632 : b587 ≠ b627 := Nat.ne_of_lt (Nat.lt_of_lt_of_le c631.lt (Nat.le_of_eq g627.symm))
          have n633 : b600 ≠ b627 := Nat.ne_of_lt (Nat.lt_of_lt_of_le F603.lt (Nat.le_of_eq g627.symm))
          have g634 : n0 ≤ b627 := Nat.le_trans z611 (Nat.le_of_eq g627.symm)
          have z635 : n0 ≤ h627.size := Nat.le_trans z611 E627.1
          have F627_dofs : Fld Z h627 b627 "com/example/fenda/fenda/analysis/Combination" "dofs" "[I" .null := D627 (Or.inr (hW hw 24 rfl)) (ty := (.array .int)) (by decide)
          have F627_weights : Fld Z h627 b627 "com/example/fenda/fenda/analysis/Combination" "weights" "[D" .null := D627 (Or.inr (hW hw 26 rfl)) (ty := (.array .double)) (by decide)
          refine gob st627 ?_
          replace X627 := castX X627 (rfl : _ = 6) (rfl : _ = 18)
          show gO (tF T627 m 268 (la11 p0 q1 q2 q3 q4 x1 b2 b21 b41 2 b587 b600 u626_) [(.ref b627)])
          refine gob (fun _ k => XS.dup X627.here hx rfl (hb hby at_268) rfl rfl k) ?_
          show gO (tF T627 m 269 (la11 p0 q1 q2 q3 q4 x1 b2 b21 b41 2 b587 b600 u626_) [(.ref b627), (.ref b627)])
          refine gob (fun _ k => XS.aload X627.here hx rfl (hb hby at_269) rfl rfl k) ?_
          show gO (tF T627 m 271 (la11 p0 q1 q2 q3 q4 x1 b2 b21 b41 2 b587 b600 u626_) [(.ref b587), (.ref b627), (.ref b627)])
          refine gob (fun _ k => XS.aload X627.here hx rfl (hb hby at_271) rfl rfl k) ?_
          show gO (tF T627 m 273 (la11 p0 q1 q2 q3 q4 x1 b2 b21 b41 2 b587 b600 u626_) [(.ref b600), (.ref b587), (.ref b627), (.ref b627)])
          obtain ⟨_, _, ⟨T636, L636, k636, n636⟩, -, X636, ⟨Lc636, hQ636, l636, y636, z636⟩, st636⟩ := X627.specialBack hx (y := (⟨"com/example/fenda/fenda/analysis/Combination", "<init>", "([I[D)V"⟩ : MethodName)) rfl hown (mvT hZ (hW hw 12 rfl)) (mvT hZ (hW hw 13 rfl)) (mvT hZ (hW hw 14 rfl)) (by decide) (backOf (W := 1) (rm3 l Z a0 hw [] b627 b587 b600 h627 n0 z635 A627 F627_dofs g634 F627_weights) hZ (hW hw 14 rfl) (hW hw 11 rfl) (by decide) (by decide)) (g := (mkF m 273 (la11 p0 q1 q2 q3 q4 x1 b2 b21 b41 2 b587 b600 u626_) [(.ref b600), (.ref b587), (.ref b627), (.ref b627)])) rfl (by rw [hml]; rfl) (Steps.refl _) (a := b627) (argsL := [(.ref b587), (.ref b600)]) (rest := [(.ref b627)]) (lenOf pd_3 rfl) rfl (by show 2 * 0 + _ ≤ _; exact Nat.le_of_eq rfl) (hb hby at_273) (fun _ _ => ⟨rfl, e627, (by decide : 6 + 0 ≤ _), (by decide : 18 + 0 ≤ _)⟩)
          dsimp only [Pt.U, Pt.locs, Pt.cells, Pt.slots] at X636 l636 y636 z636 st636 hQ636
          replace X636 := castX X636 (y636.trans (rfl : _ = 6)) (z636.trans (rfl : _ = 18))
          obtain ⟨rfl, Nq636, K636, F637, F638⟩ := hQ636
          have N636 : Fr n0 L636 := l636 ▸ Fr.app N598 Nq636
          have z639 : n0 ≤ T636.heap.size := Nat.le_trans z635 K636.1
          refine gob (fun _ k => st636.trans k) ?_
          show gO (tF T636 m 276 (la11 p0 q1 q2 q3 q4 x1 b2 b21 b41 2 b587 b600 u626_) [(.ref b627)])
          refine gob (fun _ k => XS.astore X636.here hx rfl (hb hby at_276) rfl rfl (l' := (la12 p0 q1 q2 q3 q4 x1 b2 b21 b41 2 b587 b600 u626_ b627)) rfl k) ?_
          show gO (tF T636 m 278 (la12 p0 q1 q2 q3 q4 x1 b2 b21 b41 2 b587 b600 u626_ b627) [])
          refine gob (fun _ k => XS.aload X636.here hx rfl (hb hby at_278) rfl rfl k) ?_
          show gO (tF T636 m 280 (la12 p0 q1 q2 q3 q4 x1 b2 b21 b41 2 b587 b600 u626_ b627) [(.ref b627)])
          refine gob (fun _ k => XS.aload X636.here hx rfl (hb hby at_280) rfl rfl k) ?_
          show gO (tF T636 m 282 (la12 p0 q1 q2 q3 q4 x1 b2 b21 b41 2 b587 b600 u626_ b627) [(.ref b2), (.ref b627)])
          have c641 := ((c631.ext E627).keep K636 (ninS n632 nin0))
          have c642 := ((F603.ext E627).keep K636 (ninS n633 nin0))
          have c643 := ((c617.ext E627).keep K636 (ninS n628 nin0))
          have c644 := (A627.keep K636)
          obtain ⟨cq640, kq640, q640a, q640b, q640c⟩ := isOf hZ (rfl : T636.heap = _) c644
          obtain ⟨_, _, ⟨T640, L640, k640, n640⟩, -, X640, ⟨Lc640, hQ640, l640, y640, z640⟩, st640⟩ := X636.virtualBack hx (y := (⟨"com/example/fenda/fenda/analysis/Combination", "of", "([D)D"⟩ : MethodName)) (z := (⟨"com/example/fenda/fenda/analysis/Combination", "of", "([D)D"⟩ : MethodName)) hown (mvT hZ (hW hw 27 rfl)) (mvT hZ (hW hw 28 rfl)) (notFace_of_selects (args := #[]) (mvT hZ (hW hw 30 rfl))) (mvT hZ (hW hw 30 rfl)) (mvT hZ (hW hw 29 rfl)) (by decide) (backOf (W := 0) (rmof_03 l Z a0 hw [] b627 b2 b587 b600 k588 k601 y25_ y29_ k2 y5_ y9_ y13_ y17_ T636.heap n0 z639 F637 F638 c641 my25_ my29_ c642 my5_ my9_ my13_ my17_ c643) hZ (hW hw 31 rfl) (hW hw 11 rfl) (by decide) (by decide)) q640a q640c (g := (mkF m 282 (la12 p0 q1 q2 q3 q4 x1 b2 b21 b41 2 b587 b600 u626_ b627) [(.ref b2), (.ref b627)])) rfl (by rw [hml]; rfl) (Steps.refl _) (argsL := [(.ref b2)]) (rest := []) (lenOf pd_4 rfl) rfl (by show 2 * 0 + _ ≤ _; exact Nat.le_of_eq rfl) (hb hby at_282) (fun _ _ => ⟨rfl, (rfl : T636.heap = _), (by decide : 6 + 0 ≤ _), (by decide : 18 + 0 ≤ _)⟩)
          dsimp only [Pt.U, Pt.locs, Pt.cells, Pt.slots] at X640 l640 y640 z640 st640 hQ640
          replace X640 := castX X640 (y640.trans (rfl : _ = 6)) (z640.trans (rfl : _ = 18))
          obtain ⟨r640, rfl, hr640, Nq640, e640⟩ := hQ640
          have N640 : Fr n0 L640 := l640 ▸ Fr.app N636 Nq640
          refine gob (fun _ k => st640.trans k) ?_
          show gO (tF T640 m 285 (la12 p0 q1 q2 q3 q4 x1 b2 b21 b41 2 b587 b600 u626_ b627) [(.double r640)])
          refine gob (fun _ k => XS.dstore X640.here hx rfl (hb hby at_285) rfl (l' := (la13 p0 q1 q2 q3 q4 x1 b2 b21 b41 2 b587 b600 u626_ b627 r640)) rfl k) ?_
          show gO (tF T640 m 287 (la13 p0 q1 q2 q3 q4 x1 b2 b21 b41 2 b587 b600 u626_ b627 r640) [])
          refine gob (fun _ k => XS.dload X640.here hx rfl (hb hby at_287) rfl k) ?_
          show gO (tF T640 m 289 (la13 p0 q1 q2 q3 q4 x1 b2 b21 b41 2 b587 b600 u626_ b627 r640) [(.double r640)])
          refine gob (fun _ k => XS.dload X640.here hx rfl (hb hby at_289) rfl k) ?_
          show gO (tF T640 m 291 (la13 p0 q1 q2 q3 q4 x1 b2 b21 b41 2 b587 b600 u626_ b627 r640) [(.double u626_), (.double r640)])
          have hqr640 : r640 = u626_ := hr640.trans (by rw [hu626_, hu620_])
          refine gob (fun _ k => XS.dcmpS X640.here hx rfl (hb hby at_291) rfl (v := (0 : Int32)) (dcmpV_eq hqr640 (by rw [hqr640]; exact (mu626_.fin (by decide)).noNaN) .l) k) ?_
          show gO (tF T640 m 292 (la13 p0 q1 q2 q3 q4 x1 b2 b21 b41 2 b587 b600 u626_ b627 r640) [(.int 0)])
          refine gob (fun _ k => XS.ifNo X640.here hx rfl (hb hby at_292) rfl ((if0 _ _).trans (teq (by decide : (0 : Int32) = (0 : Int32))).2) k) ?_
          show gO (tF T640 m 295 (la13 p0 q1 q2 q3 q4 x1 b2 b21 b41 2 b587 b600 u626_ b627 r640) [])
          refine gob (fun _ k => XS.iconst X640.here hx rfl (hb hby at_295) k) ?_
          show gO (tF T640 m 296 (la13 p0 q1 q2 q3 q4 x1 b2 b21 b41 2 b587 b600 u626_ b627 r640) [(.int 1)])
          refine gob (fun _ k => XS.goto X640.here hx rfl (pc0 := 296) (pc' := 300) rfl (hb hby at_296) (by decide) (by decide) k) ?_
          show gO (tF T640 m 300 (la13 p0 q1 q2 q3 q4 x1 b2 b21 b41 2 b587 b600 u626_ b627 r640) [(.int 1)])
          refine goZ X640 hx hlk (t := .boolean) Bd.returns (by simp) (hb hby at_300) (z' := (1 : Int32)) rfl ?_ (by decide) (by decide)
          show Q0 Z p0 q1 q2 q3 q4 h0 n0 (some (.int (1 : Int32))) T640.heap _
          exact ⟨rfl, N640⟩
      · skip
        refine gob (fun _ k => XS.ifNo X525.here hx rfl (hb hby at_124) rfl ((if0 _ _).trans (feq hc124_528).1) k) ?_
        show gO (tF T525 m 127 (la8 p0 q1 q2 q3 q4 x1 b2 b21 b41 1) [])
        refine gob (fun _ k => XS.aload X525.here hx rfl (hb hby at_127) rfl rfl k) ?_
        show gO (tF T525 m 129 (la8 p0 q1 q2 q3 q4 x1 b2 b21 b41 1) [(.ref b41)])
        refine gob (fun _ k => XS.iload X525.here hx rfl (hb hby at_129) rfl k) ?_
        show gO (tF T525 m 131 (la8 p0 q1 q2 q3 q4 x1 b2 b21 b41 1) [(.int 1), (.ref b41)])
        refine gob (fun _ k => XS.iconst X525.here hx rfl (hb hby at_131) k) ?_
        show gO (tF T525 m 132 (la8 p0 q1 q2 q3 q4 x1 b2 b21 b41 1) [(.int 2), (.int 1), (.ref b41)])
        obtain ⟨cl645, Ar645, aq645, S645, N645, H645, G645⟩ := id V525
        have hin645 : ¬ ((1 : Int32) < 0 ∨ cl645.slots.size ≤ ((1 : Int32)).toNatClampNeg) := inb_of S645 ⟨by decide, by decide⟩
        obtain ⟨T646, h646, X646, e646, W646, st646⟩ := stI X525 hx hZ e525 Ar645 (j := (1 : Int32)) hin645 (g := (mkF m 132 (la8 p0 q1 q2 q3 q4 x1 b2 b21 b41 1) [(.int 2), (.int 1), (.ref b41)])) rfl rfl (hb hby at_132)
        refine gob st646 ?_
        have z647 : n0 ≤ h646.size := Nat.le_trans z526 (Keep.of_wr W646).1
        have N646 := Fr.snoc X646 N525 g45
        have V646 : Arv Z h646 b41 k41 .int (4 : Int32) [(.int 0), (.int 2), (.int 0), (.int 0)] (.int 0) := Arv.set Ar645 aq645 S645 N645 H645 G645 rfl W646 1 rfl (Nat.le_of_ble_eq_true rfl)
        show gO (tF T646 m 133 (la8 p0 q1 q2 q3 q4 x1 b2 b21 b41 1) [])
        refine gob (fun _ k => XS.iinc X646.here hx rfl (hb hby at_133) rfl (l' := (la8 p0 q1 q2 q3 q4 x1 b2 b21 b41 2)) rfl k) ?_
        show gO (tF T646 m 136 (la8 p0 q1 q2 q3 q4 x1 b2 b21 b41 2) [])
        refine gob (fun _ k => XS.iload X646.here hx rfl (hb hby at_136) rfl k) ?_
        show gO (tF T646 m 138 (la8 p0 q1 q2 q3 q4 x1 b2 b21 b41 2) [(.int x1)])
        refine gob (fun _ k => XS.bipush X646.here hx rfl (hb hby at_138) k) ?_
        show gO (tF T646 m 140 (la8 p0 q1 q2 q3 q4 x1 b2 b21 b41 2) [(.int 8), (.int x1)])
        refine gob (fun _ k => XS.iand X646.here hx rfl (hb hby at_140) rfl k) ?_
        show gO (tF T646 m 141 (la8 p0 q1 q2 q3 q4 x1 b2 b21 b41 2) [(.int (x1 &&& (8 : Int32)))])
        by_cases hc141_648 : (x1 &&& (8 : Int32)) = (0 : Int32)
        · skip
          refine gob (fun _ k => XS.ifYes X646.here hx rfl (pc0 := 141) (pc' := 153) rfl (hb hby at_141) rfl ((if0 _ _).trans (teq hc141_648).1) (by decide) (by decide) k) ?_
          show gO (tF T646 m 153 (la8 p0 q1 q2 q3 q4 x1 b2 b21 b41 2) [])
          refine gob (fun _ k => XS.aload X646.here hx rfl (hb hby at_153) rfl rfl k) ?_
          show gO (tF T646 m 155 (la8 p0 q1 q2 q3 q4 x1 b2 b21 b41 2) [(.ref b41)])
          refine gob (fun _ k => XS.iload X646.here hx rfl (hb hby at_155) rfl k) ?_
          show gO (tF T646 m 157 (la8 p0 q1 q2 q3 q4 x1 b2 b21 b41 2) [(.int 2), (.ref b41)])
          obtain ⟨_, _, ⟨T649, L649, k649, n649⟩, -, X649, ⟨Lc649, hQ649, l649, y649, z649⟩, st649⟩ := Jvm.LawKit.callS X646 hx (y := (⟨"com/example/fenda/fenda/analysis/CombinationOfPinLaw", "prefixInt", "([II)[I"⟩ : MethodName)) hown (mvT hZ (hW hw 2 rfl)) (mvT hZ (hW hw 3 rfl)) (mvT hZ (hW hw 4 rfl)) (mvT hZ (hW hw 5 rfl)) (by decide) (backOf (W := 0) (rmpi2 l Z a0 hw [] b41 k41 (0 : Int32) (2 : Int32) (0 : Int32) (0 : Int32) h646 n0 z647 V646) hZ (hW hw 5 rfl) (hW hw 4 rfl) (by decide) (by decide)) (g := (mkF m 157 (la8 p0 q1 q2 q3 q4 x1 b2 b21 b41 2) [(.int 2), (.ref b41)])) rfl (by rw [hml]; rfl) (argsL := [(.ref b41), (.int 2)]) (rest := []) (lenOf pd_1 rfl) rfl (by show 2 * 0 + _ ≤ _; exact Nat.le_of_eq rfl) (hb hby at_157) (fun _ _ => ⟨rfl, e646, (by decide : 3 + 1 ≤ _), (by decide : 12 + 2 ≤ _)⟩)
          dsimp only [Pt.U, Pt.locs, Pt.cells, Pt.slots] at X649 l649 y649 z649 st649 hQ649
          replace X649 := castX X649 (y649.trans (rfl : _ = 4)) (z649.trans (rfl : _ = 14))
          obtain ⟨b650, k651, rfl, Nq649, K649, hz652, F653⟩ := hQ649
          have N649 : Fr n0 L649 := l649 ▸ Fr.app N646 Nq649
          have c655 := (((c42.ext E41).other W525 n43).other W646 n43)
          have n654 : b2 ≠ b650 := Nat.ne_of_lt (Nat.lt_of_lt_of_le c655.lt hz652)
          have c657 := (((V39.ext E41).other W525 n44).other W646 n44)
          have n656 : b21 ≠ b650 := Nat.ne_of_lt (Nat.lt_of_lt_of_le c657.lt hz652)
          have n658 : b41 ≠ b650 := Nat.ne_of_lt (Nat.lt_of_lt_of_le V646.lt hz652)
          have g659 : n0 ≤ b650 := Nat.le_trans z647 hz652
          have z660 : n0 ≤ T649.heap.size := Nat.le_trans z647 K649.1
          refine gob st649 ?_
          show gO (tF T649 m 160 (la8 p0 q1 q2 q3 q4 x1 b2 b21 b41 2) [(.ref b650)])
          refine gob (fun _ k => XS.astore X649.here hx rfl (hb hby at_160) rfl rfl (l' := (la9 p0 q1 q2 q3 q4 x1 b2 b21 b41 2 b650)) rfl k) ?_
          show gO (tF T649 m 162 (la9 p0 q1 q2 q3 q4 x1 b2 b21 b41 2 b650) [])
          refine gob (fun _ k => XS.aload X649.here hx rfl (hb hby at_162) rfl rfl k) ?_
          show gO (tF T649 m 164 (la9 p0 q1 q2 q3 q4 x1 b2 b21 b41 2 b650) [(.ref b21)])
          refine gob (fun _ k => XS.iload X649.here hx rfl (hb hby at_164) rfl k) ?_
          show gO (tF T649 m 166 (la9 p0 q1 q2 q3 q4 x1 b2 b21 b41 2 b650) [(.int 2), (.ref b21)])
          have c662 := (c657.keep K649 nin0)
          obtain ⟨_, _, ⟨T661, L661, k661, n661⟩, -, X661, ⟨Lc661, hQ661, l661, y661, z661⟩, st661⟩ := Jvm.LawKit.callS X649 hx (y := (⟨"com/example/fenda/fenda/analysis/CombinationOfPinLaw", "prefixDouble", "([DI)[D"⟩ : MethodName)) hown (mvT hZ (hW hw 6 rfl)) (mvT hZ (hW hw 7 rfl)) (mvT hZ (hW hw 4 rfl)) (mvT hZ (hW hw 8 rfl)) (by decide) (backOf (W := 0) (rmpd2 l Z a0 hw [] b21 k21 y25_ y29_ y33_ y37_ T649.heap n0 z660 c662) hZ (hW hw 8 rfl) (hW hw 4 rfl) (by decide) (by decide)) (g := (mkF m 166 (la9 p0 q1 q2 q3 q4 x1 b2 b21 b41 2 b650) [(.int 2), (.ref b21)])) rfl (by rw [hml]; rfl) (argsL := [(.ref b21), (.int 2)]) (rest := []) (lenOf pd_2 rfl) rfl (by show 2 * 0 + _ ≤ _; exact Nat.le_of_eq rfl) (hb hby at_166) (fun _ _ => ⟨rfl, (rfl : T649.heap = _), (by decide : 4 + 1 ≤ _), (by decide : 14 + 2 ≤ _)⟩)
          dsimp only [Pt.U, Pt.locs, Pt.cells, Pt.slots] at X661 l661 y661 z661 st661 hQ661
          replace X661 := castX X661 (y661.trans (rfl : _ = 5)) (z661.trans (rfl : _ = 16))
          obtain ⟨b663, k664, rfl, Nq661, K661, hz665, F666⟩ := hQ661
          have N661 : Fr n0 L661 := l661 ▸ Fr.app N649 Nq661
          have c668 := (c655.keep K649 nin0)
          have n667 : b2 ≠ b663 := Nat.ne_of_lt (Nat.lt_of_lt_of_le c668.lt hz665)
          have n669 : b21 ≠ b663 := Nat.ne_of_lt (Nat.lt_of_lt_of_le c662.lt hz665)
          have c671 := (V646.keep K649 nin0)
          have n670 : b41 ≠ b663 := Nat.ne_of_lt (Nat.lt_of_lt_of_le c671.lt hz665)
          have n672 : b650 ≠ b663 := Nat.ne_of_lt (Nat.lt_of_lt_of_le F653.lt hz665)
          have g673 : n0 ≤ b663 := Nat.le_trans z660 hz665
          have z674 : n0 ≤ T661.heap.size := Nat.le_trans z660 K661.1
          refine gob st661 ?_
          show gO (tF T661 m 169 (la9 p0 q1 q2 q3 q4 x1 b2 b21 b41 2 b650) [(.ref b663)])
          refine gob (fun _ k => XS.astore X661.here hx rfl (hb hby at_169) rfl rfl (l' := (la10 p0 q1 q2 q3 q4 x1 b2 b21 b41 2 b650 b663)) rfl k) ?_
          show gO (tF T661 m 171 (la10 p0 q1 q2 q3 q4 x1 b2 b21 b41 2 b650 b663) [])
          refine gob (fun _ k => XS.dconst0 X661.here hx rfl (hb hby at_171) (v := (0 : UInt64)) (by decide +kernel) k) ?_
          show gO (tF T661 m 172 (la10 p0 q1 q2 q3 q4 x1 b2 b21 b41 2 b650 b663) [(.double (0 : UInt64))])
          refine gob (fun _ k => XS.dstore X661.here hx rfl (hb hby at_172) rfl (l' := (la11 p0 q1 q2 q3 q4 x1 b2 b21 b41 2 b650 b663 (0 : UInt64))) rfl k) ?_
          show gO (tF T661 m 174 (la11 p0 q1 q2 q3 q4 x1 b2 b21 b41 2 b650 b663 (0 : UInt64)) [])
          refine gob (fun _ k => XS.iload X661.here hx rfl (hb hby at_174) rfl k) ?_
          show gO (tF T661 m 176 (la11 p0 q1 q2 q3 q4 x1 b2 b21 b41 2 b650 b663 (0 : UInt64)) [(.int 2)])
          refine gob (fun _ k => XS.ifNo X661.here hx rfl (hb hby at_176) rfl ((if0 _ _).trans (tlt (by decide : (0 : Int32) < (2 : Int32))).2.2.2) k) ?_
          show gO (tF T661 m 179 (la11 p0 q1 q2 q3 q4 x1 b2 b21 b41 2 b650 b663 (0 : UInt64)) [])
          refine gob (fun _ k => XS.dload X661.here hx rfl (hb hby at_179) rfl k) ?_
          show gO (tF T661 m 181 (la11 p0 q1 q2 q3 q4 x1 b2 b21 b41 2 b650 b663 (0 : UInt64)) [(.double (0 : UInt64))])
          refine gob (fun _ k => XS.aload X661.here hx rfl (hb hby at_181) rfl rfl k) ?_
          show gO (tF T661 m 183 (la11 p0 q1 q2 q3 q4 x1 b2 b21 b41 2 b650 b663 (0 : UInt64)) [(.ref b21), (.double (0 : UInt64))])
          refine gob (fun _ k => XS.iconst X661.here hx rfl (hb hby at_183) k) ?_
          show gO (tF T661 m 184 (la11 p0 q1 q2 q3 q4 x1 b2 b21 b41 2 b650 b663 (0 : UInt64)) [(.int 0), (.ref b21), (.double (0 : UInt64))])
          have c676 := (c662.keep K661 nin0)
          obtain ⟨cl675, Ar675, aq675, S675, N675, H675, G675⟩ := id c676
          have hin675 : ¬ ((0 : Int32) < 0 ∨ cl675.slots.size ≤ ((0 : Int32)).toNatClampNeg) := inb_of S675 ⟨by decide, by decide⟩
          refine gob (X661.daload hx (j := (0 : Int32)) (v := (.double y25_)) (by rw [(rfl : T661.heap = _)]; exact Ar675.1) (State.isArrayOf_alike hZ.alike Ar675.2.1) Ar675.2.2 hin675 (Has.at H675 hin675 rfl) (g := (mkF m 184 (la11 p0 q1 q2 q3 q4 x1 b2 b21 b41 2 b650 b663 (0 : UInt64)) [(.int 0), (.ref b21), (.double (0 : UInt64))])) rfl rfl (hb hby at_184)) ?_
          show gO (tF T661 m 185 (la11 p0 q1 q2 q3 q4 x1 b2 b21 b41 2 b650 b663 (0 : UInt64)) [(.double y25_), (.double (0 : UInt64))])
          refine gob (fun _ k => XS.aload X661.here hx rfl (hb hby at_185) rfl rfl k) ?_
          show gO (tF T661 m 187 (la11 p0 q1 q2 q3 q4 x1 b2 b21 b41 2 b650 b663 (0 : UInt64)) [(.ref b2), (.double y25_), (.double (0 : UInt64))])
          refine gob (fun _ k => XS.aload X661.here hx rfl (hb hby at_187) rfl rfl k) ?_
          show gO (tF T661 m 189 (la11 p0 q1 q2 q3 q4 x1 b2 b21 b41 2 b650 b663 (0 : UInt64)) [(.ref b41), (.ref b2), (.double y25_), (.double (0 : UInt64))])
          refine gob (fun _ k => XS.iconst X661.here hx rfl (hb hby at_189) k) ?_
          show gO (tF T661 m 190 (la11 p0 q1 q2 q3 q4 x1 b2 b21 b41 2 b650 b663 (0 : UInt64)) [(.int 0), (.ref b41), (.ref b2), (.double y25_), (.double (0 : UInt64))])
          have c678 := (c671.keep K661 nin0)
          obtain ⟨cl677, Ar677, aq677, S677, N677, H677, G677⟩ := id c678
          have hin677 : ¬ ((0 : Int32) < 0 ∨ cl677.slots.size ≤ ((0 : Int32)).toNatClampNeg) := inb_of S677 ⟨by decide, by decide⟩
          refine gob (X661.iaload hx (j := (0 : Int32)) (v := (.int 0)) (by rw [(rfl : T661.heap = _)]; exact Ar677.1) (State.isArrayOf_alike hZ.alike Ar677.2.1) Ar677.2.2 hin677 (Has.at H677 hin677 rfl) (g := (mkF m 190 (la11 p0 q1 q2 q3 q4 x1 b2 b21 b41 2 b650 b663 (0 : UInt64)) [(.int 0), (.ref b41), (.ref b2), (.double y25_), (.double (0 : UInt64))])) rfl rfl (hb hby at_190)) ?_
          show gO (tF T661 m 191 (la11 p0 q1 q2 q3 q4 x1 b2 b21 b41 2 b650 b663 (0 : UInt64)) [(.int 0), (.ref b2), (.double y25_), (.double (0 : UInt64))])
          have c680 := (c668.keep K661 nin0)
          obtain ⟨cl679, Ar679, aq679, S679, N679, H679, G679⟩ := id c680
          have hin679 : ¬ ((0 : Int32) < 0 ∨ cl679.slots.size ≤ ((0 : Int32)).toNatClampNeg) := inb_of S679 ⟨by decide, by decide⟩
          refine gob (X661.daload hx (j := (0 : Int32)) (v := (.double y5_)) (by rw [(rfl : T661.heap = _)]; exact Ar679.1) (State.isArrayOf_alike hZ.alike Ar679.2.1) Ar679.2.2 hin679 (Has.at H679 hin679 rfl) (g := (mkF m 191 (la11 p0 q1 q2 q3 q4 x1 b2 b21 b41 2 b650 b663 (0 : UInt64)) [(.int 0), (.ref b2), (.double y25_), (.double (0 : UInt64))])) rfl rfl (hb hby at_191)) ?_
          show gO (tF T661 m 192 (la11 p0 q1 q2 q3 q4 x1 b2 b21 b41 2 b650 b663 (0 : UInt64)) [(.double y5_), (.double y25_), (.double (0 : UInt64))])
          have mg681 : Mag64 1090 (FP.dmul y25_ y5_) := own_dmul my25_ my5_ (by decide) (by decide) (by decide)
          refine gob (fun _ k => XS.dmulS X661.here hx rfl (hb hby at_192) rfl (v := (FP.dmul y25_ y5_)) (mg681.fin (by decide)).noNaN rfl k) ?_
          show gO (tF T661 m 193 (la11 p0 q1 q2 q3 q4 x1 b2 b21 b41 2 b650 b663 (0 : UInt64)) [(.double (FP.dmul y25_ y5_)), (.double (0 : UInt64))])
          have mg682 : Mag64 1092 (FP.dadd (0 : UInt64) (FP.dmul y25_ y5_)) := own_dadd (K := 1090) (own_m0.mono (by decide)) (mg681.mono (by decide)) (by decide) (by decide)
          refine gob (fun _ k => XS.daddS X661.here hx rfl (hb hby at_193) rfl (v := (FP.dadd (0 : UInt64) (FP.dmul y25_ y5_))) (mg682.fin (by decide)).noNaN rfl k) ?_
          show gO (tF T661 m 194 (la11 p0 q1 q2 q3 q4 x1 b2 b21 b41 2 b650 b663 (0 : UInt64)) [(.double (FP.dadd (0 : UInt64) (FP.dmul y25_ y5_)))])
          obtain ⟨u683_, hu683_⟩ : ∃ z, z = (FP.dadd (0 : UInt64) (FP.dmul y25_ y5_)) := ⟨_, rfl⟩
          have mu683_ : Mag64 1092 u683_ := by rw [hu683_]; exact mg682
          rw [← hu683_]
          show gO (tF T661 m 194 (la11 p0 q1 q2 q3 q4 x1 b2 b21 b41 2 b650 b663 (0 : UInt64)) [(.double u683_)])
          refine gob (fun _ k => XS.dstore X661.here hx rfl (hb hby at_194) rfl (l' := (la11 p0 q1 q2 q3 q4 x1 b2 b21 b41 2 b650 b663 u683_)) rfl k) ?_
          show gO (tF T661 m 196 (la11 p0 q1 q2 q3 q4 x1 b2 b21 b41 2 b650 b663 u683_) [])
          refine gob (fun _ k => XS.iload X661.here hx rfl (hb hby at_196) rfl k) ?_
          show gO (tF T661 m 198 (la11 p0 q1 q2 q3 q4 x1 b2 b21 b41 2 b650 b663 u683_) [(.int 2)])
          refine gob (fun _ k => XS.iconst X661.here hx rfl (hb hby at_198) k) ?_
          show gO (tF T661 m 199 (la11 p0 q1 q2 q3 q4 x1 b2 b21 b41 2 b650 b663 u683_) [(.int 1), (.int 2)])
          refine gob (fun _ k => XS.icmpNo X661.here hx rfl (hb hby at_199) rfl (tlt (by decide : (1 : Int32) < (2 : Int32))).2.2.2 k) ?_
          show gO (tF T661 m 202 (la11 p0 q1 q2 q3 q4 x1 b2 b21 b41 2 b650 b663 u683_) [])
          refine gob (fun _ k => XS.dload X661.here hx rfl (hb hby at_202) rfl k) ?_
          show gO (tF T661 m 204 (la11 p0 q1 q2 q3 q4 x1 b2 b21 b41 2 b650 b663 u683_) [(.double u683_)])
          refine gob (fun _ k => XS.aload X661.here hx rfl (hb hby at_204) rfl rfl k) ?_
          show gO (tF T661 m 206 (la11 p0 q1 q2 q3 q4 x1 b2 b21 b41 2 b650 b663 u683_) [(.ref b21), (.double u683_)])
          refine gob (fun _ k => XS.iconst X661.here hx rfl (hb hby at_206) k) ?_
          show gO (tF T661 m 207 (la11 p0 q1 q2 q3 q4 x1 b2 b21 b41 2 b650 b663 u683_) [(.int 1), (.ref b21), (.double u683_)])
          obtain ⟨cl684, Ar684, aq684, S684, N684, H684, G684⟩ := id c676
          have hin684 : ¬ ((1 : Int32) < 0 ∨ cl684.slots.size ≤ ((1 : Int32)).toNatClampNeg) := inb_of S684 ⟨by decide, by decide⟩
          refine gob (X661.daload hx (j := (1 : Int32)) (v := (.double y29_)) (by rw [(rfl : T661.heap = _)]; exact Ar684.1) (State.isArrayOf_alike hZ.alike Ar684.2.1) Ar684.2.2 hin684 (Has.at H684 hin684 rfl) (g := (mkF m 207 (la11 p0 q1 q2 q3 q4 x1 b2 b21 b41 2 b650 b663 u683_) [(.int 1), (.ref b21), (.double u683_)])) rfl rfl (hb hby at_207)) ?_
          show gO (tF T661 m 208 (la11 p0 q1 q2 q3 q4 x1 b2 b21 b41 2 b650 b663 u683_) [(.double y29_), (.double u683_)])
          refine gob (fun _ k => XS.aload X661.here hx rfl (hb hby at_208) rfl rfl k) ?_
          show gO (tF T661 m 210 (la11 p0 q1 q2 q3 q4 x1 b2 b21 b41 2 b650 b663 u683_) [(.ref b2), (.double y29_), (.double u683_)])
          refine gob (fun _ k => XS.aload X661.here hx rfl (hb hby at_210) rfl rfl k) ?_
          show gO (tF T661 m 212 (la11 p0 q1 q2 q3 q4 x1 b2 b21 b41 2 b650 b663 u683_) [(.ref b41), (.ref b2), (.double y29_), (.double u683_)])
          refine gob (fun _ k => XS.iconst X661.here hx rfl (hb hby at_212) k) ?_
          show gO (tF T661 m 213 (la11 p0 q1 q2 q3 q4 x1 b2 b21 b41 2 b650 b663 u683_) [(.int 1), (.ref b41), (.ref b2), (.double y29_), (.double u683_)])
          obtain ⟨cl685, Ar685, aq685, S685, N685, H685, G685⟩ := id c678
          have hin685 : ¬ ((1 : Int32) < 0 ∨ cl685.slots.size ≤ ((1 : Int32)).toNatClampNeg) := inb_of S685 ⟨by decide, by decide⟩
          refine gob (X661.iaload hx (j := (1 : Int32)) (v := (.int 2)) (by rw [(rfl : T661.heap = _)]; exact Ar685.1) (State.isArrayOf_alike hZ.alike Ar685.2.1) Ar685.2.2 hin685 (Has.at H685 hin685 rfl) (g := (mkF m 213 (la11 p0 q1 q2 q3 q4 x1 b2 b21 b41 2 b650 b663 u683_) [(.int 1), (.ref b41), (.ref b2), (.double y29_), (.double u683_)])) rfl rfl (hb hby at_213)) ?_
          show gO (tF T661 m 214 (la11 p0 q1 q2 q3 q4 x1 b2 b21 b41 2 b650 b663 u683_) [(.int 2), (.ref b2), (.double y29_), (.double u683_)])
          obtain ⟨cl686, Ar686, aq686, S686, N686, H686, G686⟩ := id c680
          have hin686 : ¬ ((2 : Int32) < 0 ∨ cl686.slots.size ≤ ((2 : Int32)).toNatClampNeg) := inb_of S686 ⟨by decide, by decide⟩
          refine gob (X661.daload hx (j := (2 : Int32)) (v := (.double y13_)) (by rw [(rfl : T661.heap = _)]; exact Ar686.1) (State.isArrayOf_alike hZ.alike Ar686.2.1) Ar686.2.2 hin686 (Has.at H686 hin686 rfl) (g := (mkF m 214 (la11 p0 q1 q2 q3 q4 x1 b2 b21 b41 2 b650 b663 u683_) [(.int 2), (.ref b2), (.double y29_), (.double u683_)])) rfl rfl (hb hby at_214)) ?_
          show gO (tF T661 m 215 (la11 p0 q1 q2 q3 q4 x1 b2 b21 b41 2 b650 b663 u683_) [(.double y13_), (.double y29_), (.double u683_)])
          have mg687 : Mag64 1090 (FP.dmul y29_ y13_) := own_dmul my29_ my13_ (by decide) (by decide) (by decide)
          refine gob (fun _ k => XS.dmulS X661.here hx rfl (hb hby at_215) rfl (v := (FP.dmul y29_ y13_)) (mg687.fin (by decide)).noNaN rfl k) ?_
          show gO (tF T661 m 216 (la11 p0 q1 q2 q3 q4 x1 b2 b21 b41 2 b650 b663 u683_) [(.double (FP.dmul y29_ y13_)), (.double u683_)])
          have mg688 : Mag64 1094 (FP.dadd u683_ (FP.dmul y29_ y13_)) := own_dadd (K := 1092) (mu683_.mono (by decide)) (mg687.mono (by decide)) (by decide) (by decide)
          refine gob (fun _ k => XS.daddS X661.here hx rfl (hb hby at_216) rfl (v := (FP.dadd u683_ (FP.dmul y29_ y13_))) (mg688.fin (by decide)).noNaN rfl k) ?_
          show gO (tF T661 m 217 (la11 p0 q1 q2 q3 q4 x1 b2 b21 b41 2 b650 b663 u683_) [(.double (FP.dadd u683_ (FP.dmul y29_ y13_)))])
          obtain ⟨u689_, hu689_⟩ : ∃ z, z = (FP.dadd u683_ (FP.dmul y29_ y13_)) := ⟨_, rfl⟩
          have mu689_ : Mag64 1094 u689_ := by rw [hu689_]; exact mg688
          rw [← hu689_]
          show gO (tF T661 m 217 (la11 p0 q1 q2 q3 q4 x1 b2 b21 b41 2 b650 b663 u683_) [(.double u689_)])
          refine gob (fun _ k => XS.dstore X661.here hx rfl (hb hby at_217) rfl (l' := (la11 p0 q1 q2 q3 q4 x1 b2 b21 b41 2 b650 b663 u689_)) rfl k) ?_
          show gO (tF T661 m 219 (la11 p0 q1 q2 q3 q4 x1 b2 b21 b41 2 b650 b663 u689_) [])
          refine gob (fun _ k => XS.iload X661.here hx rfl (hb hby at_219) rfl k) ?_
          show gO (tF T661 m 221 (la11 p0 q1 q2 q3 q4 x1 b2 b21 b41 2 b650 b663 u689_) [(.int 2)])
          refine gob (fun _ k => XS.iconst X661.here hx rfl (hb hby at_221) k) ?_
          show gO (tF T661 m 222 (la11 p0 q1 q2 q3 q4 x1 b2 b21 b41 2 b650 b663 u689_) [(.int 2), (.int 2)])
          refine gob (fun _ k => XS.icmpYes X661.here hx rfl (pc0 := 222) (pc' := 242) rfl (hb hby at_222) rfl (flt (by decide : ¬ ((2 : Int32) < (2 : Int32)))).2.2.2 (by decide) (by decide) k) ?_
          show gO (tF T661 m 242 (la11 p0 q1 q2 q3 q4 x1 b2 b21 b41 2 b650 b663 u689_) [])
          refine gob (fun _ k => XS.iload X661.here hx rfl (hb hby at_242) rfl k) ?_
          show gO (tF T661 m 244 (la11 p0 q1 q2 q3 q4 x1 b2 b21 b41 2 b650 b663 u689_) [(.int 2)])
          refine gob (fun _ k => XS.iconst X661.here hx rfl (hb hby at_244) k) ?_
          show gO (tF T661 m 245 (la11 p0 q1 q2 q3 q4 x1 b2 b21 b41 2 b650 b663 u689_) [(.int 3), (.int 2)])
          refine gob (fun _ k => XS.icmpYes X661.here hx rfl (pc0 := 245) (pc' := 265) rfl (hb hby at_245) rfl (flt (by decide : ¬ ((3 : Int32) < (2 : Int32)))).2.2.2 (by decide) (by decide) k) ?_
          show gO (tF T661 m 265 (la11 p0 q1 q2 q3 q4 x1 b2 b21 b41 2 b650 b663 u689_) [])
          obtain ⟨T690, h690, X690, e690, E690, A690, D690, -, st690⟩ := newO X661 hx hZ hown (hW hw 9 rfl) (hW hw 10 rfl) (hW hw 11 rfl) (rfl : T661.heap = _) (g := (mkF m 265 (la11 p0 q1 q2 q3 q4 x1 b2 b21 b41 2 b650 b663 u689_) [])) rfl (hb hby at_265) (by decide) (by decide)
          obtain ⟨b690, g690⟩ : ∃ z, z = T661.heap.size := ⟨_, rfl⟩
          rw [← g690] at A690 D690 st690
          have n691 : b2 ≠ b690 := Nat.ne_of_lt (Nat.lt_of_lt_of_le c680.lt (Nat.le_of_eq g690.symm))
          have n692 : b21 ≠ b690 := Nat.ne_of_lt (Nat.lt_of_lt_of_le c676.lt (Nat.le_of_eq g690.symm))
          have n693 : b41 ≠ b690 := Nat.ne_of_lt (Nat.lt_of_lt_of_le c678.lt (Nat.le_of_eq g690.symm))
          have c694 := (F653.keep K661 nin0)
          have n695 : b650 ≠ b690 := Nat.ne_of_lt (Nat.lt_of_lt_of_le c694.lt (Nat.le_of_eq g690.symm))
          have n696 : b663 ≠ b690 := Nat.ne_of_lt (Nat.lt_of_lt_of_le F666.lt (Nat.le_of_eq g690.symm))
          have g697 : n0 ≤ b690 := Nat.le_trans z674 (Nat.le_of_eq g690.symm)
          have z698 : n0 ≤ h690.size := Nat.le_trans z674 E690.1
          have F690_dofs : Fld Z h690 b690 "com/example/fenda/fenda/analysis/Combination" "dofs" "[I" .null := D690 (Or.inr (hW hw 24 rfl)) (ty := (.array .int)) (by decide)
          have F690_weights : Fld Z h690 b690 "com/example/fenda/fenda/analysis/Combination" "weights" "[D" .null := D690 (Or.inr (hW hw 26 rfl)) (ty := (.array .double)) (by decide)
          refine gob st690 ?_
          replace X690 := castX X690 (rfl : _ = 6) (rfl : _ = 18)
          show gO (tF T690 m 268 (la11 p0 q1 q2 q3 q4 x1 b2 b21 b41 2 b650 b663 u689_) [(.ref b690)])
          refine gob (fun _ k => XS.dup X690.here hx rfl (hb hby at_268) rfl rfl k) ?_
          show gO (tF T690 m 269 (la11 p0 q1 q2 q3 q4 x1 b2 b21 b41 2 b650 b663 u689_) [(.ref b690), (.ref b690)])
          refine gob (fun _ k => XS.aload X690.here hx rfl (hb hby at_269) rfl rfl k) ?_
          show gO (tF T690 m 271 (la11 p0 q1 q2 q3 q4 x1 b2 b21 b41 2 b650 b663 u689_) [(.ref b650), (.ref b690), (.ref b690)])
          refine gob (fun _ k => XS.aload X690.here hx rfl (hb hby at_271) rfl rfl k) ?_
          show gO (tF T690 m 273 (la11 p0 q1 q2 q3 q4 x1 b2 b21 b41 2 b650 b663 u689_) [(.ref b663), (.ref b650), (.ref b690), (.ref b690)])
          obtain ⟨_, _, ⟨T699, L699, k699, n699⟩, -, X699, ⟨Lc699, hQ699, l699, y699, z699⟩, st699⟩ := X690.specialBack hx (y := (⟨"com/example/fenda/fenda/analysis/Combination", "<init>", "([I[D)V"⟩ : MethodName)) rfl hown (mvT hZ (hW hw 12 rfl)) (mvT hZ (hW hw 13 rfl)) (mvT hZ (hW hw 14 rfl)) (by decide) (backOf (W := 1) (rm3 l Z a0 hw [] b690 b650 b663 h690 n0 z698 A690 F690_dofs g697 F690_weights) hZ (hW hw 14 rfl) (hW hw 11 rfl) (by decide) (by decide)) (g := (mkF m 273 (la11 p0 q1 q2 q3 q4 x1 b2 b21 b41 2 b650 b663 u689_) [(.ref b663), (.ref b650), (.ref b690), (.ref b690)])) rfl (by rw [hml]; rfl) (Steps.refl _) (a := b690) (argsL := [(.ref b650), (.ref b663)]) (rest := [(.ref b690)]) (lenOf pd_3 rfl) rfl (by show 2 * 0 + _ ≤ _; exact Nat.le_of_eq rfl) (hb hby at_273) (fun _ _ => ⟨rfl, e690, (by decide : 6 + 0 ≤ _), (by decide : 18 + 0 ≤ _)⟩)
          dsimp only [Pt.U, Pt.locs, Pt.cells, Pt.slots] at X699 l699 y699 z699 st699 hQ699
          replace X699 := castX X699 (y699.trans (rfl : _ = 6)) (z699.trans (rfl : _ = 18))
          obtain ⟨rfl, Nq699, K699, F700, F701⟩ := hQ699
          have N699 : Fr n0 L699 := l699 ▸ Fr.app N661 Nq699
          have z702 : n0 ≤ T699.heap.size := Nat.le_trans z698 K699.1
          refine gob (fun _ k => st699.trans k) ?_
          show gO (tF T699 m 276 (la11 p0 q1 q2 q3 q4 x1 b2 b21 b41 2 b650 b663 u689_) [(.ref b690)])
          refine gob (fun _ k => XS.astore X699.here hx rfl (hb hby at_276) rfl rfl (l' := (la12 p0 q1 q2 q3 q4 x1 b2 b21 b41 2 b650 b663 u689_ b690)) rfl k) ?_
          show gO (tF T699 m 278 (la12 p0 q1 q2 q3 q4 x1 b2 b21 b41 2 b650 b663 u689_ b690) [])
          refine gob (fun _ k => XS.aload X699.here hx rfl (hb hby at_278) rfl rfl k) ?_
          show gO (tF T699 m 280 (la12 p0 q1 q2 q3 q4 x1 b2 b21 b41 2 b650 b663 u689_ b690) [(.ref b690)])
          refine gob (fun _ k => XS.aload X699.here hx rfl (hb hby at_280) rfl rfl k) ?_
          show gO (tF T699 m 282 (la12 p0 q1 q2 q3 q4 x1 b2 b21 b41 2 b650 b663 u689_ b690) [(.ref b2), (.ref b690)])
          have c704 := ((c694.ext E690).keep K699 (ninS n695 nin0))
          have c705 := ((F666.ext E690).keep K699 (ninS n696 nin0))
          have c706 := ((c680.ext E690).keep K699 (ninS n691 nin0))
          have c707 := (A690.keep K699)
          obtain ⟨cq703, kq703, q703a, q703b, q703c⟩ := isOf hZ (rfl : T699.heap = _) c707
          obtain ⟨_, _, ⟨T703, L703, k703, n703⟩, -, X703, ⟨Lc703, hQ703, l703, y703, z703⟩, st703⟩ := X699.virtualBack hx (y := (⟨"com/example/fenda/fenda/analysis/Combination", "of", "([D)D"⟩ : MethodName)) (z := (⟨"com/example/fenda/fenda/analysis/Combination", "of", "([D)D"⟩ : MethodName)) hown (mvT hZ (hW hw 27 rfl)) (mvT hZ (hW hw 28 rfl)) (notFace_of_selects (args := #[]) (mvT hZ (hW hw 30 rfl))) (mvT hZ (hW hw 30 rfl)) (mvT hZ (hW hw 29 rfl)) (by decide) (backOf (W := 0) (rmof_02 l Z a0 hw [] b690 b2 b650 b663 k651 k664 y25_ y29_ k2 y5_ y9_ y13_ y17_ T699.heap n0 z702 F700 F701 c704 my25_ my29_ c705 my5_ my9_ my13_ my17_ c706) hZ (hW hw 31 rfl) (hW hw 11 rfl) (by decide) (by decide)) q703a q703c (g := (mkF m 282 (la12 p0 q1 q2 q3 q4 x1 b2 b21 b41 2 b650 b663 u689_ b690) [(.ref b2), (.ref b690)])) rfl (by rw [hml]; rfl) (Steps.refl _) (argsL := [(.ref b2)]) (rest := []) (lenOf pd_4 rfl) rfl (by show 2 * 0 + _ ≤ _; exact Nat.le_of_eq rfl) (hb hby at_282) (fun _ _ => ⟨rfl, (rfl : T699.heap = _), (by decide : 6 + 0 ≤ _), (by decide : 18 + 0 ≤ _)⟩)
          dsimp only [Pt.U, Pt.locs, Pt.cells, Pt.slots] at X703 l703 y703 z703 st703 hQ703
          replace X703 := castX X703 (y703.trans (rfl : _ = 6)) (z703.trans (rfl : _ = 18))
          obtain ⟨r703, rfl, hr703, Nq703, e703⟩ := hQ703
          have N703 : Fr n0 L703 := l703 ▸ Fr.app N699 Nq703
          refine gob (fun _ k => st703.trans k) ?_
          show gO (tF T703 m 285 (la12 p0 q1 q2 q3 q4 x1 b2 b21 b41 2 b650 b663 u689_ b690) [(.double r703)])
          refine gob (fun _ k => XS.dstore X703.here hx rfl (hb hby at_285) rfl (l' := (la13 p0 q1 q2 q3 q4 x1 b2 b21 b41 2 b650 b663 u689_ b690 r703)) rfl k) ?_
          show gO (tF T703 m 287 (la13 p0 q1 q2 q3 q4 x1 b2 b21 b41 2 b650 b663 u689_ b690 r703) [])
          refine gob (fun _ k => XS.dload X703.here hx rfl (hb hby at_287) rfl k) ?_
          show gO (tF T703 m 289 (la13 p0 q1 q2 q3 q4 x1 b2 b21 b41 2 b650 b663 u689_ b690 r703) [(.double r703)])
          refine gob (fun _ k => XS.dload X703.here hx rfl (hb hby at_289) rfl k) ?_
          show gO (tF T703 m 291 (la13 p0 q1 q2 q3 q4 x1 b2 b21 b41 2 b650 b663 u689_ b690 r703) [(.double u689_), (.double r703)])
          have hqr703 : r703 = u689_ := hr703.trans (by rw [hu689_, hu683_])
          refine gob (fun _ k => XS.dcmpS X703.here hx rfl (hb hby at_291) rfl (v := (0 : Int32)) (dcmpV_eq hqr703 (by rw [hqr703]; exact (mu689_.fin (by decide)).noNaN) .l) k) ?_
          show gO (tF T703 m 292 (la13 p0 q1 q2 q3 q4 x1 b2 b21 b41 2 b650 b663 u689_ b690 r703) [(.int 0)])
          refine gob (fun _ k => XS.ifNo X703.here hx rfl (hb hby at_292) rfl ((if0 _ _).trans (teq (by decide : (0 : Int32) = (0 : Int32))).2) k) ?_
          show gO (tF T703 m 295 (la13 p0 q1 q2 q3 q4 x1 b2 b21 b41 2 b650 b663 u689_ b690 r703) [])
          refine gob (fun _ k => XS.iconst X703.here hx rfl (hb hby at_295) k) ?_
          show gO (tF T703 m 296 (la13 p0 q1 q2 q3 q4 x1 b2 b21 b41 2 b650 b663 u689_ b690 r703) [(.int 1)])
          refine gob (fun _ k => XS.goto X703.here hx rfl (pc0 := 296) (pc' := 300) rfl (hb hby at_296) (by decide) (by decide) k) ?_
          show gO (tF T703 m 300 (la13 p0 q1 q2 q3 q4 x1 b2 b21 b41 2 b650 b663 u689_ b690 r703) [(.int 1)])
          refine goZ X703 hx hlk (t := .boolean) Bd.returns (by simp) (hb hby at_300) (z' := (1 : Int32)) rfl ?_ (by decide) (by decide)
          show Q0 Z p0 q1 q2 q3 q4 h0 n0 (some (.int (1 : Int32))) T703.heap _
          exact ⟨rfl, N703⟩
        · skip
          refine gob (fun _ k => XS.ifNo X646.here hx rfl (hb hby at_141) rfl ((if0 _ _).trans (feq hc141_648).1) k) ?_
          show gO (tF T646 m 144 (la8 p0 q1 q2 q3 q4 x1 b2 b21 b41 2) [])
          refine gob (fun _ k => XS.aload X646.here hx rfl (hb hby at_144) rfl rfl k) ?_
          show gO (tF T646 m 146 (la8 p0 q1 q2 q3 q4 x1 b2 b21 b41 2) [(.ref b41)])
          refine gob (fun _ k => XS.iload X646.here hx rfl (hb hby at_146) rfl k) ?_
          show gO (tF T646 m 148 (la8 p0 q1 q2 q3 q4 x1 b2 b21 b41 2) [(.int 2), (.ref b41)])
          refine gob (fun _ k => XS.iconst X646.here hx rfl (hb hby at_148) k) ?_
          show gO (tF T646 m 149 (la8 p0 q1 q2 q3 q4 x1 b2 b21 b41 2) [(.int 3), (.int 2), (.ref b41)])
          obtain ⟨cl708, Ar708, aq708, S708, N708, H708, G708⟩ := id V646
          have hin708 : ¬ ((2 : Int32) < 0 ∨ cl708.slots.size ≤ ((2 : Int32)).toNatClampNeg) := inb_of S708 ⟨by decide, by decide⟩
          obtain ⟨T709, h709, X709, e709, W709, st709⟩ := stI X646 hx hZ e646 Ar708 (j := (2 : Int32)) hin708 (g := (mkF m 149 (la8 p0 q1 q2 q3 q4 x1 b2 b21 b41 2) [(.int 3), (.int 2), (.ref b41)])) rfl rfl (hb hby at_149)
          refine gob st709 ?_
          have z710 : n0 ≤ h709.size := Nat.le_trans z647 (Keep.of_wr W709).1
          have N709 := Fr.snoc X709 N646 g45
          have V709 : Arv Z h709 b41 k41 .int (4 : Int32) [(.int 0), (.int 2), (.int 3), (.int 0)] (.int 0) := Arv.set Ar708 aq708 S708 N708 H708 G708 rfl W709 2 rfl (Nat.le_of_ble_eq_true rfl)
          show gO (tF T709 m 150 (la8 p0 q1 q2 q3 q4 x1 b2 b21 b41 2) [])
          refine gob (fun _ k => XS.iinc X709.here hx rfl (hb hby at_150) rfl (l' := (la8 p0 q1 q2 q3 q4 x1 b2 b21 b41 3)) rfl k) ?_
          show gO (tF T709 m 153 (la8 p0 q1 q2 q3 q4 x1 b2 b21 b41 3) [])
          refine gob (fun _ k => XS.aload X709.here hx rfl (hb hby at_153) rfl rfl k) ?_
          show gO (tF T709 m 155 (la8 p0 q1 q2 q3 q4 x1 b2 b21 b41 3) [(.ref b41)])
          refine gob (fun _ k => XS.iload X709.here hx rfl (hb hby at_155) rfl k) ?_
          show gO (tF T709 m 157 (la8 p0 q1 q2 q3 q4 x1 b2 b21 b41 3) [(.int 3), (.ref b41)])
          obtain ⟨_, _, ⟨T711, L711, k711, n711⟩, -, X711, ⟨Lc711, hQ711, l711, y711, z711⟩, st711⟩ := Jvm.LawKit.callS X709 hx (y := (⟨"com/example/fenda/fenda/analysis/CombinationOfPinLaw", "prefixInt", "([II)[I"⟩ : MethodName)) hown (mvT hZ (hW hw 2 rfl)) (mvT hZ (hW hw 3 rfl)) (mvT hZ (hW hw 4 rfl)) (mvT hZ (hW hw 5 rfl)) (by decide) (backOf (W := 0) (rmpi3 l Z a0 hw [] b41 k41 (0 : Int32) (2 : Int32) (3 : Int32) (0 : Int32) h709 n0 z710 V709) hZ (hW hw 5 rfl) (hW hw 4 rfl) (by decide) (by decide)) (g := (mkF m 157 (la8 p0 q1 q2 q3 q4 x1 b2 b21 b41 3) [(.int 3), (.ref b41)])) rfl (by rw [hml]; rfl) (argsL := [(.ref b41), (.int 3)]) (rest := []) (lenOf pd_1 rfl) rfl (by show 2 * 0 + _ ≤ _; exact Nat.le_of_eq rfl) (hb hby at_157) (fun _ _ => ⟨rfl, e709, (by decide : 3 + 1 ≤ _), (by decide : 12 + 3 ≤ _)⟩)
          dsimp only [Pt.U, Pt.locs, Pt.cells, Pt.slots] at X711 l711 y711 z711 st711 hQ711
          replace X711 := castX X711 (y711.trans (rfl : _ = 4)) (z711.trans (rfl : _ = 15))
          obtain ⟨b712, k713, rfl, Nq711, K711, hz714, F715⟩ := hQ711
          have N711 : Fr n0 L711 := l711 ▸ Fr.app N709 Nq711
          have c717 := ((((c42.ext E41).other W525 n43).other W646 n43).other W709 n43)
          have n716 : b2 ≠ b712 := Nat.ne_of_lt (Nat.lt_of_lt_of_le c717.lt hz714)
          have c719 := ((((V39.ext E41).other W525 n44).other W646 n44).other W709 n44)
          have n718 : b21 ≠ b712 := Nat.ne_of_lt (Nat.lt_of_lt_of_le c719.lt hz714)
          have n720 : b41 ≠ b712 := Nat.ne_of_lt (Nat.lt_of_lt_of_le V709.lt hz714)
          have g721 : n0 ≤ b712 := Nat.le_trans z710 hz714
          have z722 : n0 ≤ T711.heap.size := Nat.le_trans z710 K711.1
          refine gob st711 ?_
          show gO (tF T711 m 160 (la8 p0 q1 q2 q3 q4 x1 b2 b21 b41 3) [(.ref b712)])
          refine gob (fun _ k => XS.astore X711.here hx rfl (hb hby at_160) rfl rfl (l' := (la9 p0 q1 q2 q3 q4 x1 b2 b21 b41 3 b712)) rfl k) ?_
          show gO (tF T711 m 162 (la9 p0 q1 q2 q3 q4 x1 b2 b21 b41 3 b712) [])
          refine gob (fun _ k => XS.aload X711.here hx rfl (hb hby at_162) rfl rfl k) ?_
          show gO (tF T711 m 164 (la9 p0 q1 q2 q3 q4 x1 b2 b21 b41 3 b712) [(.ref b21)])
          refine gob (fun _ k => XS.iload X711.here hx rfl (hb hby at_164) rfl k) ?_
          show gO (tF T711 m 166 (la9 p0 q1 q2 q3 q4 x1 b2 b21 b41 3 b712) [(.int 3), (.ref b21)])
          have c724 := (c719.keep K711 nin0)
          obtain ⟨_, _, ⟨T723, L723, k723, n723⟩, -, X723, ⟨Lc723, hQ723, l723, y723, z723⟩, st723⟩ := Jvm.LawKit.callS X711 hx (y := (⟨"com/example/fenda/fenda/analysis/CombinationOfPinLaw", "prefixDouble", "([DI)[D"⟩ : MethodName)) hown (mvT hZ (hW hw 6 rfl)) (mvT hZ (hW hw 7 rfl)) (mvT hZ (hW hw 4 rfl)) (mvT hZ (hW hw 8 rfl)) (by decide) (backOf (W := 0) (rmpd3 l Z a0 hw [] b21 k21 y25_ y29_ y33_ y37_ T711.heap n0 z722 c724) hZ (hW hw 8 rfl) (hW hw 4 rfl) (by decide) (by decide)) (g := (mkF m 166 (la9 p0 q1 q2 q3 q4 x1 b2 b21 b41 3 b712) [(.int 3), (.ref b21)])) rfl (by rw [hml]; rfl) (argsL := [(.ref b21), (.int 3)]) (rest := []) (lenOf pd_2 rfl) rfl (by show 2 * 0 + _ ≤ _; exact Nat.le_of_eq rfl) (hb hby at_166) (fun _ _ => ⟨rfl, (rfl : T711.heap = _), (by decide : 4 + 1 ≤ _), (by decide : 15 + 3 ≤ _)⟩)
          dsimp only [Pt.U, Pt.locs, Pt.cells, Pt.slots] at X723 l723 y723 z723 st723 hQ723
          replace X723 := castX X723 (y723.trans (rfl : _ = 5)) (z723.trans (rfl : _ = 18))
          obtain ⟨b725, k726, rfl, Nq723, K723, hz727, F728⟩ := hQ723
          have N723 : Fr n0 L723 := l723 ▸ Fr.app N711 Nq723
          have c730 := (c717.keep K711 nin0)
          have n729 : b2 ≠ b725 := Nat.ne_of_lt (Nat.lt_of_lt_of_le c730.lt hz727)
          have n731 : b21 ≠ b725 := Nat.ne_of_lt (Nat.lt_of_lt_of_le c724.lt hz727)
          have c733 := (V709.keep K711 nin0)
          have n732 : b41 ≠ b725 := Nat.ne_of_lt (Nat.lt_of_lt_of_le c733.lt hz727)
          have n734 : b712 ≠ b725 := Nat.ne_of_lt (Nat.lt_of_lt_of_le F715.lt hz727)
          have g735 : n0 ≤ b725 := Nat.le_trans z722 hz727
          have z736 : n0 ≤ T723.heap.size := Nat.le_trans z722 K723.1
          refine gob st723 ?_
          show gO (tF T723 m 169 (la9 p0 q1 q2 q3 q4 x1 b2 b21 b41 3 b712) [(.ref b725)])
          refine gob (fun _ k => XS.astore X723.here hx rfl (hb hby at_169) rfl rfl (l' := (la10 p0 q1 q2 q3 q4 x1 b2 b21 b41 3 b712 b725)) rfl k) ?_
          show gO (tF T723 m 171 (la10 p0 q1 q2 q3 q4 x1 b2 b21 b41 3 b712 b725) [])
          refine gob (fun _ k => XS.dconst0 X723.here hx rfl (hb hby at_171) (v := (0 : UInt64)) (by decide +kernel) k) ?_
          show gO (tF T723 m 172 (la10 p0 q1 q2 q3 q4 x1 b2 b21 b41 3 b712 b725) [(.double (0 : UInt64))])
          refine gob (fun _ k => XS.dstore X723.here hx rfl (hb hby at_172) rfl (l' := (la11 p0 q1 q2 q3 q4 x1 b2 b21 b41 3 b712 b725 (0 : UInt64))) rfl k) ?_
          show gO (tF T723 m 174 (la11 p0 q1 q2 q3 q4 x1 b2 b21 b41 3 b712 b725 (0 : UInt64)) [])
          refine gob (fun _ k => XS.iload X723.here hx rfl (hb hby at_174) rfl k) ?_
          show gO (tF T723 m 176 (la11 p0 q1 q2 q3 q4 x1 b2 b21 b41 3 b712 b725 (0 : UInt64)) [(.int 3)])
          refine gob (fun _ k => XS.ifNo X723.here hx rfl (hb hby at_176) rfl ((if0 _ _).trans (tlt (by decide : (0 : Int32) < (3 : Int32))).2.2.2) k) ?_
          show gO (tF T723 m 179 (la11 p0 q1 q2 q3 q4 x1 b2 b21 b41 3 b712 b725 (0 : UInt64)) [])
          refine gob (fun _ k => XS.dload X723.here hx rfl (hb hby at_179) rfl k) ?_
          show gO (tF T723 m 181 (la11 p0 q1 q2 q3 q4 x1 b2 b21 b41 3 b712 b725 (0 : UInt64)) [(.double (0 : UInt64))])
          refine gob (fun _ k => XS.aload X723.here hx rfl (hb hby at_181) rfl rfl k) ?_
          show gO (tF T723 m 183 (la11 p0 q1 q2 q3 q4 x1 b2 b21 b41 3 b712 b725 (0 : UInt64)) [(.ref b21), (.double (0 : UInt64))])
          refine gob (fun _ k => XS.iconst X723.here hx rfl (hb hby at_183) k) ?_
          show gO (tF T723 m 184 (la11 p0 q1 q2 q3 q4 x1 b2 b21 b41 3 b712 b725 (0 : UInt64)) [(.int 0), (.ref b21), (.double (0 : UInt64))])
          have c738 := (c724.keep K723 nin0)
          obtain ⟨cl737, Ar737, aq737, S737, N737, H737, G737⟩ := id c738
          have hin737 : ¬ ((0 : Int32) < 0 ∨ cl737.slots.size ≤ ((0 : Int32)).toNatClampNeg) := inb_of S737 ⟨by decide, by decide⟩
          refine gob (X723.daload hx (j := (0 : Int32)) (v := (.double y25_)) (by rw [(rfl : T723.heap = _)]; exact Ar737.1) (State.isArrayOf_alike hZ.alike Ar737.2.1) Ar737.2.2 hin737 (Has.at H737 hin737 rfl) (g := (mkF m 184 (la11 p0 q1 q2 q3 q4 x1 b2 b21 b41 3 b712 b725 (0 : UInt64)) [(.int 0), (.ref b21), (.double (0 : UInt64))])) rfl rfl (hb hby at_184)) ?_
          show gO (tF T723 m 185 (la11 p0 q1 q2 q3 q4 x1 b2 b21 b41 3 b712 b725 (0 : UInt64)) [(.double y25_), (.double (0 : UInt64))])
          refine gob (fun _ k => XS.aload X723.here hx rfl (hb hby at_185) rfl rfl k) ?_
          show gO (tF T723 m 187 (la11 p0 q1 q2 q3 q4 x1 b2 b21 b41 3 b712 b725 (0 : UInt64)) [(.ref b2), (.double y25_), (.double (0 : UInt64))])
          refine gob (fun _ k => XS.aload X723.here hx rfl (hb hby at_187) rfl rfl k) ?_
          show gO (tF T723 m 189 (la11 p0 q1 q2 q3 q4 x1 b2 b21 b41 3 b712 b725 (0 : UInt64)) [(.ref b41), (.ref b2), (.double y25_), (.double (0 : UInt64))])
          refine gob (fun _ k => XS.iconst X723.here hx rfl (hb hby at_189) k) ?_
          show gO (tF T723 m 190 (la11 p0 q1 q2 q3 q4 x1 b2 b21 b41 3 b712 b725 (0 : UInt64)) [(.int 0), (.ref b41), (.ref b2), (.double y25_), (.double (0 : UInt64))])
          have c740 := (c733.keep K723 nin0)
          obtain ⟨cl739, Ar739, aq739, S739, N739, H739, G739⟩ := id c740
          have hin739 : ¬ ((0 : Int32) < 0 ∨ cl739.slots.size ≤ ((0 : Int32)).toNatClampNeg) := inb_of S739 ⟨by decide, by decide⟩
          refine gob (X723.iaload hx (j := (0 : Int32)) (v := (.int 0)) (by rw [(rfl : T723.heap = _)]; exact Ar739.1) (State.isArrayOf_alike hZ.alike Ar739.2.1) Ar739.2.2 hin739 (Has.at H739 hin739 rfl) (g := (mkF m 190 (la11 p0 q1 q2 q3 q4 x1 b2 b21 b41 3 b712 b725 (0 : UInt64)) [(.int 0), (.ref b41), (.ref b2), (.double y25_), (.double (0 : UInt64))])) rfl rfl (hb hby at_190)) ?_
          show gO (tF T723 m 191 (la11 p0 q1 q2 q3 q4 x1 b2 b21 b41 3 b712 b725 (0 : UInt64)) [(.int 0), (.ref b2), (.double y25_), (.double (0 : UInt64))])
          have c742 := (c730.keep K723 nin0)
          obtain ⟨cl741, Ar741, aq741, S741, N741, H741, G741⟩ := id c742
          have hin741 : ¬ ((0 : Int32) < 0 ∨ cl741.slots.size ≤ ((0 : Int32)).toNatClampNeg) := inb_of S741 ⟨by decide, by decide⟩
          refine gob (X723.daload hx (j := (0 : Int32)) (v := (.double y5_)) (by rw [(rfl : T723.heap = _)]; exact Ar741.1) (State.isArrayOf_alike hZ.alike Ar741.2.1) Ar741.2.2 hin741 (Has.at H741 hin741 rfl) (g := (mkF m 191 (la11 p0 q1 q2 q3 q4 x1 b2 b21 b41 3 b712 b725 (0 : UInt64)) [(.int 0), (.ref b2), (.double y25_), (.double (0 : UInt64))])) rfl rfl (hb hby at_191)) ?_
          show gO (tF T723 m 192 (la11 p0 q1 q2 q3 q4 x1 b2 b21 b41 3 b712 b725 (0 : UInt64)) [(.double y5_), (.double y25_), (.double (0 : UInt64))])
          have mg743 : Mag64 1090 (FP.dmul y25_ y5_) := own_dmul my25_ my5_ (by decide) (by decide) (by decide)
          refine gob (fun _ k => XS.dmulS X723.here hx rfl (hb hby at_192) rfl (v := (FP.dmul y25_ y5_)) (mg743.fin (by decide)).noNaN rfl k) ?_
          show gO (tF T723 m 193 (la11 p0 q1 q2 q3 q4 x1 b2 b21 b41 3 b712 b725 (0 : UInt64)) [(.double (FP.dmul y25_ y5_)), (.double (0 : UInt64))])
          have mg744 : Mag64 1092 (FP.dadd (0 : UInt64) (FP.dmul y25_ y5_)) := own_dadd (K := 1090) (own_m0.mono (by decide)) (mg743.mono (by decide)) (by decide) (by decide)
          refine gob (fun _ k => XS.daddS X723.here hx rfl (hb hby at_193) rfl (v := (FP.dadd (0 : UInt64) (FP.dmul y25_ y5_))) (mg744.fin (by decide)).noNaN rfl k) ?_
          show gO (tF T723 m 194 (la11 p0 q1 q2 q3 q4 x1 b2 b21 b41 3 b712 b725 (0 : UInt64)) [(.double (FP.dadd (0 : UInt64) (FP.dmul y25_ y5_)))])
          obtain ⟨u745_, hu745_⟩ : ∃ z, z = (FP.dadd (0 : UInt64) (FP.dmul y25_ y5_)) := ⟨_, rfl⟩
          have mu745_ : Mag64 1092 u745_ := by rw [hu745_]; exact mg744
          rw [← hu745_]
          show gO (tF T723 m 194 (la11 p0 q1 q2 q3 q4 x1 b2 b21 b41 3 b712 b725 (0 : UInt64)) [(.double u745_)])
          refine gob (fun _ k => XS.dstore X723.here hx rfl (hb hby at_194) rfl (l' := (la11 p0 q1 q2 q3 q4 x1 b2 b21 b41 3 b712 b725 u745_)) rfl k) ?_
          show gO (tF T723 m 196 (la11 p0 q1 q2 q3 q4 x1 b2 b21 b41 3 b712 b725 u745_) [])
          refine gob (fun _ k => XS.iload X723.here hx rfl (hb hby at_196) rfl k) ?_
          show gO (tF T723 m 198 (la11 p0 q1 q2 q3 q4 x1 b2 b21 b41 3 b712 b725 u745_) [(.int 3)])
          refine gob (fun _ k => XS.iconst X723.here hx rfl (hb hby at_198) k) ?_
          show gO (tF T723 m 199 (la11 p0 q1 q2 q3 q4 x1 b2 b21 b41 3 b712 b725 u745_) [(.int 1), (.int 3)])
          refine gob (fun _ k => XS.icmpNo X723.here hx rfl (hb hby at_199) rfl (tlt (by decide : (1 : Int32) < (3 : Int32))).2.2.2 k) ?_
          show gO (tF T723 m 202 (la11 p0 q1 q2 q3 q4 x1 b2 b21 b41 3 b712 b725 u745_) [])
          refine gob (fun _ k => XS.dload X723.here hx rfl (hb hby at_202) rfl k) ?_
          show gO (tF T723 m 204 (la11 p0 q1 q2 q3 q4 x1 b2 b21 b41 3 b712 b725 u745_) [(.double u745_)])
          refine gob (fun _ k => XS.aload X723.here hx rfl (hb hby at_204) rfl rfl k) ?_
          show gO (tF T723 m 206 (la11 p0 q1 q2 q3 q4 x1 b2 b21 b41 3 b712 b725 u745_) [(.ref b21), (.double u745_)])
          refine gob (fun _ k => XS.iconst X723.here hx rfl (hb hby at_206) k) ?_
          show gO (tF T723 m 207 (la11 p0 q1 q2 q3 q4 x1 b2 b21 b41 3 b712 b725 u745_) [(.int 1), (.ref b21), (.double u745_)])
          obtain ⟨cl746, Ar746, aq746, S746, N746, H746, G746⟩ := id c738
          have hin746 : ¬ ((1 : Int32) < 0 ∨ cl746.slots.size ≤ ((1 : Int32)).toNatClampNeg) := inb_of S746 ⟨by decide, by decide⟩
          refine gob (X723.daload hx (j := (1 : Int32)) (v := (.double y29_)) (by rw [(rfl : T723.heap = _)]; exact Ar746.1) (State.isArrayOf_alike hZ.alike Ar746.2.1) Ar746.2.2 hin746 (Has.at H746 hin746 rfl) (g := (mkF m 207 (la11 p0 q1 q2 q3 q4 x1 b2 b21 b41 3 b712 b725 u745_) [(.int 1), (.ref b21), (.double u745_)])) rfl rfl (hb hby at_207)) ?_
          show gO (tF T723 m 208 (la11 p0 q1 q2 q3 q4 x1 b2 b21 b41 3 b712 b725 u745_) [(.double y29_), (.double u745_)])
          refine gob (fun _ k => XS.aload X723.here hx rfl (hb hby at_208) rfl rfl k) ?_
          show gO (tF T723 m 210 (la11 p0 q1 q2 q3 q4 x1 b2 b21 b41 3 b712 b725 u745_) [(.ref b2), (.double y29_), (.double u745_)])
          refine gob (fun _ k => XS.aload X723.here hx rfl (hb hby at_210) rfl rfl k) ?_
          show gO (tF T723 m 212 (la11 p0 q1 q2 q3 q4 x1 b2 b21 b41 3 b712 b725 u745_) [(.ref b41), (.ref b2), (.double y29_), (.double u745_)])
          refine gob (fun _ k => XS.iconst X723.here hx rfl (hb hby at_212) k) ?_
          show gO (tF T723 m 213 (la11 p0 q1 q2 q3 q4 x1 b2 b21 b41 3 b712 b725 u745_) [(.int 1), (.ref b41), (.ref b2), (.double y29_), (.double u745_)])
          obtain ⟨cl747, Ar747, aq747, S747, N747, H747, G747⟩ := id c740
          have hin747 : ¬ ((1 : Int32) < 0 ∨ cl747.slots.size ≤ ((1 : Int32)).toNatClampNeg) := inb_of S747 ⟨by decide, by decide⟩
          refine gob (X723.iaload hx (j := (1 : Int32)) (v := (.int 2)) (by rw [(rfl : T723.heap = _)]; exact Ar747.1) (State.isArrayOf_alike hZ.alike Ar747.2.1) Ar747.2.2 hin747 (Has.at H747 hin747 rfl) (g := (mkF m 213 (la11 p0 q1 q2 q3 q4 x1 b2 b21 b41 3 b712 b725 u745_) [(.int 1), (.ref b41), (.ref b2), (.double y29_), (.double u745_)])) rfl rfl (hb hby at_213)) ?_
          show gO (tF T723 m 214 (la11 p0 q1 q2 q3 q4 x1 b2 b21 b41 3 b712 b725 u745_) [(.int 2), (.ref b2), (.double y29_), (.double u745_)])
          obtain ⟨cl748, Ar748, aq748, S748, N748, H748, G748⟩ := id c742
          have hin748 : ¬ ((2 : Int32) < 0 ∨ cl748.slots.size ≤ ((2 : Int32)).toNatClampNeg) := inb_of S748 ⟨by decide, by decide⟩
          refine gob (X723.daload hx (j := (2 : Int32)) (v := (.double y13_)) (by rw [(rfl : T723.heap = _)]; exact Ar748.1) (State.isArrayOf_alike hZ.alike Ar748.2.1) Ar748.2.2 hin748 (Has.at H748 hin748 rfl) (g := (mkF m 214 (la11 p0 q1 q2 q3 q4 x1 b2 b21 b41 3 b712 b725 u745_) [(.int 2), (.ref b2), (.double y29_), (.double u745_)])) rfl rfl (hb hby at_214)) ?_
          show gO (tF T723 m 215 (la11 p0 q1 q2 q3 q4 x1 b2 b21 b41 3 b712 b725 u745_) [(.double y13_), (.double y29_), (.double u745_)])
          have mg749 : Mag64 1090 (FP.dmul y29_ y13_) := own_dmul my29_ my13_ (by decide) (by decide) (by decide)
          refine gob (fun _ k => XS.dmulS X723.here hx rfl (hb hby at_215) rfl (v := (FP.dmul y29_ y13_)) (mg749.fin (by decide)).noNaN rfl k) ?_
          show gO (tF T723 m 216 (la11 p0 q1 q2 q3 q4 x1 b2 b21 b41 3 b712 b725 u745_) [(.double (FP.dmul y29_ y13_)), (.double u745_)])
          have mg750 : Mag64 1094 (FP.dadd u745_ (FP.dmul y29_ y13_)) := own_dadd (K := 1092) (mu745_.mono (by decide)) (mg749.mono (by decide)) (by decide) (by decide)
          refine gob (fun _ k => XS.daddS X723.here hx rfl (hb hby at_216) rfl (v := (FP.dadd u745_ (FP.dmul y29_ y13_))) (mg750.fin (by decide)).noNaN rfl k) ?_
          show gO (tF T723 m 217 (la11 p0 q1 q2 q3 q4 x1 b2 b21 b41 3 b712 b725 u745_) [(.double (FP.dadd u745_ (FP.dmul y29_ y13_)))])
          obtain ⟨u751_, hu751_⟩ : ∃ z, z = (FP.dadd u745_ (FP.dmul y29_ y13_)) := ⟨_, rfl⟩
          have mu751_ : Mag64 1094 u751_ := by rw [hu751_]; exact mg750
          rw [← hu751_]
          show gO (tF T723 m 217 (la11 p0 q1 q2 q3 q4 x1 b2 b21 b41 3 b712 b725 u745_) [(.double u751_)])
          refine gob (fun _ k => XS.dstore X723.here hx rfl (hb hby at_217) rfl (l' := (la11 p0 q1 q2 q3 q4 x1 b2 b21 b41 3 b712 b725 u751_)) rfl k) ?_
          show gO (tF T723 m 219 (la11 p0 q1 q2 q3 q4 x1 b2 b21 b41 3 b712 b725 u751_) [])
          refine gob (fun _ k => XS.iload X723.here hx rfl (hb hby at_219) rfl k) ?_
          show gO (tF T723 m 221 (la11 p0 q1 q2 q3 q4 x1 b2 b21 b41 3 b712 b725 u751_) [(.int 3)])
          refine gob (fun _ k => XS.iconst X723.here hx rfl (hb hby at_221) k) ?_
          show gO (tF T723 m 222 (la11 p0 q1 q2 q3 q4 x1 b2 b21 b41 3 b712 b725 u751_) [(.int 2), (.int 3)])
          refine gob (fun _ k => XS.icmpNo X723.here hx rfl (hb hby at_222) rfl (tlt (by decide : (2 : Int32) < (3 : Int32))).2.2.2 k) ?_
          show gO (tF T723 m 225 (la11 p0 q1 q2 q3 q4 x1 b2 b21 b41 3 b712 b725 u751_) [])
          refine gob (fun _ k => XS.dload X723.here hx rfl (hb hby at_225) rfl k) ?_
          show gO (tF T723 m 227 (la11 p0 q1 q2 q3 q4 x1 b2 b21 b41 3 b712 b725 u751_) [(.double u751_)])
          refine gob (fun _ k => XS.aload X723.here hx rfl (hb hby at_227) rfl rfl k) ?_
          show gO (tF T723 m 229 (la11 p0 q1 q2 q3 q4 x1 b2 b21 b41 3 b712 b725 u751_) [(.ref b21), (.double u751_)])
          refine gob (fun _ k => XS.iconst X723.here hx rfl (hb hby at_229) k) ?_
          show gO (tF T723 m 230 (la11 p0 q1 q2 q3 q4 x1 b2 b21 b41 3 b712 b725 u751_) [(.int 2), (.ref b21), (.double u751_)])
          obtain ⟨cl752, Ar752, aq752, S752, N752, H752, G752⟩ := id c738
          have hin752 : ¬ ((2 : Int32) < 0 ∨ cl752.slots.size ≤ ((2 : Int32)).toNatClampNeg) := inb_of S752 ⟨by decide, by decide⟩
          refine gob (X723.daload hx (j := (2 : Int32)) (v := (.double y33_)) (by rw [(rfl : T723.heap = _)]; exact Ar752.1) (State.isArrayOf_alike hZ.alike Ar752.2.1) Ar752.2.2 hin752 (Has.at H752 hin752 rfl) (g := (mkF m 230 (la11 p0 q1 q2 q3 q4 x1 b2 b21 b41 3 b712 b725 u751_) [(.int 2), (.ref b21), (.double u751_)])) rfl rfl (hb hby at_230)) ?_
          show gO (tF T723 m 231 (la11 p0 q1 q2 q3 q4 x1 b2 b21 b41 3 b712 b725 u751_) [(.double y33_), (.double u751_)])
          refine gob (fun _ k => XS.aload X723.here hx rfl (hb hby at_231) rfl rfl k) ?_
          show gO (tF T723 m 233 (la11 p0 q1 q2 q3 q4 x1 b2 b21 b41 3 b712 b725 u751_) [(.ref b2), (.double y33_), (.double u751_)])
          refine gob (fun _ k => XS.aload X723.here hx rfl (hb hby at_233) rfl rfl k) ?_
          show gO (tF T723 m 235 (la11 p0 q1 q2 q3 q4 x1 b2 b21 b41 3 b712 b725 u751_) [(.ref b41), (.ref b2), (.double y33_), (.double u751_)])
          refine gob (fun _ k => XS.iconst X723.here hx rfl (hb hby at_235) k) ?_
          show gO (tF T723 m 236 (la11 p0 q1 q2 q3 q4 x1 b2 b21 b41 3 b712 b725 u751_) [(.int 2), (.ref b41), (.ref b2), (.double y33_), (.double u751_)])
          obtain ⟨cl753, Ar753, aq753, S753, N753, H753, G753⟩ := id c740
          have hin753 : ¬ ((2 : Int32) < 0 ∨ cl753.slots.size ≤ ((2 : Int32)).toNatClampNeg) := inb_of S753 ⟨by decide, by decide⟩
          refine gob (X723.iaload hx (j := (2 : Int32)) (v := (.int 3)) (by rw [(rfl : T723.heap = _)]; exact Ar753.1) (State.isArrayOf_alike hZ.alike Ar753.2.1) Ar753.2.2 hin753 (Has.at H753 hin753 rfl) (g := (mkF m 236 (la11 p0 q1 q2 q3 q4 x1 b2 b21 b41 3 b712 b725 u751_) [(.int 2), (.ref b41), (.ref b2), (.double y33_), (.double u751_)])) rfl rfl (hb hby at_236)) ?_
          show gO (tF T723 m 237 (la11 p0 q1 q2 q3 q4 x1 b2 b21 b41 3 b712 b725 u751_) [(.int 3), (.ref b2), (.double y33_), (.double u751_)])
          obtain ⟨cl754, Ar754, aq754, S754, N754, H754, G754⟩ := id c742
          have hin754 : ¬ ((3 : Int32) < 0 ∨ cl754.slots.size ≤ ((3 : Int32)).toNatClampNeg) := inb_of S754 ⟨by decide, by decide⟩
          refine gob (X723.daload hx (j := (3 : Int32)) (v := (.double y17_)) (by rw [(rfl : T723.heap = _)]; exact Ar754.1) (State.isArrayOf_alike hZ.alike Ar754.2.1) Ar754.2.2 hin754 (Has.at H754 hin754 rfl) (g := (mkF m 237 (la11 p0 q1 q2 q3 q4 x1 b2 b21 b41 3 b712 b725 u751_) [(.int 3), (.ref b2), (.double y33_), (.double u751_)])) rfl rfl (hb hby at_237)) ?_
          show gO (tF T723 m 238 (la11 p0 q1 q2 q3 q4 x1 b2 b21 b41 3 b712 b725 u751_) [(.double y17_), (.double y33_), (.double u751_)])
          have mg755 : Mag64 1090 (FP.dmul y33_ y17_) := own_dmul my33_ my17_ (by decide) (by decide) (by decide)
          refine gob (fun _ k => XS.dmulS X723.here hx rfl (hb hby at_238) rfl (v := (FP.dmul y33_ y17_)) (mg755.fin (by decide)).noNaN rfl k) ?_
          show gO (tF T723 m 239 (la11 p0 q1 q2 q3 q4 x1 b2 b21 b41 3 b712 b725 u751_) [(.double (FP.dmul y33_ y17_)), (.double u751_)])
          have mg756 : Mag64 1096 (FP.dadd u751_ (FP.dmul y33_ y17_)) := own_dadd (K := 1094) (mu751_.mono (by decide)) (mg755.mono (by decide)) (by decide) (by decide)
          refine gob (fun _ k => XS.daddS X723.here hx rfl (hb hby at_239) rfl (v := (FP.dadd u751_ (FP.dmul y33_ y17_))) (mg756.fin (by decide)).noNaN rfl k) ?_
          show gO (tF T723 m 240 (la11 p0 q1 q2 q3 q4 x1 b2 b21 b41 3 b712 b725 u751_) [(.double (FP.dadd u751_ (FP.dmul y33_ y17_)))])
          obtain ⟨u757_, hu757_⟩ : ∃ z, z = (FP.dadd u751_ (FP.dmul y33_ y17_)) := ⟨_, rfl⟩
          have mu757_ : Mag64 1096 u757_ := by rw [hu757_]; exact mg756
          rw [← hu757_]
          show gO (tF T723 m 240 (la11 p0 q1 q2 q3 q4 x1 b2 b21 b41 3 b712 b725 u751_) [(.double u757_)])
          refine gob (fun _ k => XS.dstore X723.here hx rfl (hb hby at_240) rfl (l' := (la11 p0 q1 q2 q3 q4 x1 b2 b21 b41 3 b712 b725 u757_)) rfl k) ?_
          show gO (tF T723 m 242 (la11 p0 q1 q2 q3 q4 x1 b2 b21 b41 3 b712 b725 u757_) [])
          refine gob (fun _ k => XS.iload X723.here hx rfl (hb hby at_242) rfl k) ?_
          show gO (tF T723 m 244 (la11 p0 q1 q2 q3 q4 x1 b2 b21 b41 3 b712 b725 u757_) [(.int 3)])
          refine gob (fun _ k => XS.iconst X723.here hx rfl (hb hby at_244) k) ?_
          show gO (tF T723 m 245 (la11 p0 q1 q2 q3 q4 x1 b2 b21 b41 3 b712 b725 u757_) [(.int 3), (.int 3)])
          refine gob (fun _ k => XS.icmpYes X723.here hx rfl (pc0 := 245) (pc' := 265) rfl (hb hby at_245) rfl (flt (by decide : ¬ ((3 : Int32) < (3 : Int32)))).2.2.2 (by decide) (by decide) k) ?_
          show gO (tF T723 m 265 (la11 p0 q1 q2 q3 q4 x1 b2 b21 b41 3 b712 b725 u757_) [])
          obtain ⟨T758, h758, X758, e758, E758, A758, D758, -, st758⟩ := newO X723 hx hZ hown (hW hw 9 rfl) (hW hw 10 rfl) (hW hw 11 rfl) (rfl : T723.heap = _) (g := (mkF m 265 (la11 p0 q1 q2 q3 q4 x1 b2 b21 b41 3 b712 b725 u757_) [])) rfl (hb hby at_265) (by decide) (by decide)
          obtain ⟨b758, g758⟩ : ∃ z, z = T723.heap.size := ⟨_, rfl⟩
          rw [← g758] at A758 D758 st758
          have n759 : b2 ≠ b758 := Nat.ne_of_lt (Nat.lt_of_lt_of_le c742.lt (Nat.le_of_eq g758.symm))
          have n760 : b21 ≠ b758 := Nat.ne_of_lt (Nat.lt_of_lt_of_le c738.lt (Nat.le_of_eq g758.symm))
          have n761 : b41 ≠ b758 := Nat.ne_of_lt (Nat.lt_of_lt_of_le c740.lt (Nat.le_of_eq g758.symm))
          have c762 := (F715.keep K723 nin0)
          have n763 : b712 ≠ b758 := Nat.ne_of_lt (Nat.lt_of_lt_of_le c762.lt (Nat.le_of_eq g758.symm))
          have n764 : b725 ≠ b758 := Nat.ne_of_lt (Nat.lt_of_lt_of_le F728.lt (Nat.le_of_eq g758.symm))
          have g765 : n0 ≤ b758 := Nat.le_trans z736 (Nat.le_of_eq g758.symm)
          have z766 : n0 ≤ h758.size := Nat.le_trans z736 E758.1
          have F758_dofs : Fld Z h758 b758 "com/example/fenda/fenda/analysis/Combination" "dofs" "[I" .null := D758 (Or.inr (hW hw 24 rfl)) (ty := (.array .int)) (by decide)
          have F758_weights : Fld Z h758 b758 "com/example/fenda/fenda/analysis/Combination" "weights" "[D" .null := D758 (Or.inr (hW hw 26 rfl)) (ty := (.array .double)) (by decide)
          refine gob st758 ?_
          replace X758 := castX X758 (rfl : _ = 6) (rfl : _ = 20)
          show gO (tF T758 m 268 (la11 p0 q1 q2 q3 q4 x1 b2 b21 b41 3 b712 b725 u757_) [(.ref b758)])
          refine gob (fun _ k => XS.dup X758.here hx rfl (hb hby at_268) rfl rfl k) ?_
          show gO (tF T758 m 269 (la11 p0 q1 q2 q3 q4 x1 b2 b21 b41 3 b712 b725 u757_) [(.ref b758), (.ref b758)])
          refine gob (fun _ k => XS.aload X758.here hx rfl (hb hby at_269) rfl rfl k) ?_
          show gO (tF T758 m 271 (la11 p0 q1 q2 q3 q4 x1 b2 b21 b41 3 b712 b725 u757_) [(.ref b712), (.ref b758), (.ref b758)])
          refine gob (fun _ k => XS.aload X758.here hx rfl (hb hby at_271) rfl rfl k) ?_
          show gO (tF T758 m 273 (la11 p0 q1 q2 q3 q4 x1 b2 b21 b41 3 b712 b725 u757_) [(.ref b725), (.ref b712), (.ref b758), (.ref b758)])
          obtain ⟨_, _, ⟨T767, L767, k767, n767⟩, -, X767, ⟨Lc767, hQ767, l767, y767, z767⟩, st767⟩ := X758.specialBack hx (y := (⟨"com/example/fenda/fenda/analysis/Combination", "<init>", "([I[D)V"⟩ : MethodName)) rfl hown (mvT hZ (hW hw 12 rfl)) (mvT hZ (hW hw 13 rfl)) (mvT hZ (hW hw 14 rfl)) (by decide) (backOf (W := 1) (rm3 l Z a0 hw [] b758 b712 b725 h758 n0 z766 A758 F758_dofs g765 F758_weights) hZ (hW hw 14 rfl) (hW hw 11 rfl) (by decide) (by decide)) (g := (mkF m 273 (la11 p0 q1 q2 q3 q4 x1 b2 b21 b41 3 b712 b725 u757_) [(.ref b725), (.ref b712), (.ref b758), (.ref b758)])) rfl (by rw [hml]; rfl) (Steps.refl _) (a := b758) (argsL := [(.ref b712), (.ref b725)]) (rest := [(.ref b758)]) (lenOf pd_3 rfl) rfl (by show 2 * 0 + _ ≤ _; exact Nat.le_of_eq rfl) (hb hby at_273) (fun _ _ => ⟨rfl, e758, (by decide : 6 + 0 ≤ _), (by decide : 20 + 0 ≤ _)⟩)
          dsimp only [Pt.U, Pt.locs, Pt.cells, Pt.slots] at X767 l767 y767 z767 st767 hQ767
          replace X767 := castX X767 (y767.trans (rfl : _ = 6)) (z767.trans (rfl : _ = 20))
          obtain ⟨rfl, Nq767, K767, F768, F769⟩ := hQ767
          have N767 : Fr n0 L767 := l767 ▸ Fr.app N723 Nq767
          have z770 : n0 ≤ T767.heap.size := Nat.le_trans z766 K767.1
          refine gob (fun _ k => st767.trans k) ?_
          show gO (tF T767 m 276 (la11 p0 q1 q2 q3 q4 x1 b2 b21 b41 3 b712 b725 u757_) [(.ref b758)])
          refine gob (fun _ k => XS.astore X767.here hx rfl (hb hby at_276) rfl rfl (l' := (la12 p0 q1 q2 q3 q4 x1 b2 b21 b41 3 b712 b725 u757_ b758)) rfl k) ?_
          show gO (tF T767 m 278 (la12 p0 q1 q2 q3 q4 x1 b2 b21 b41 3 b712 b725 u757_ b758) [])
          refine gob (fun _ k => XS.aload X767.here hx rfl (hb hby at_278) rfl rfl k) ?_
          show gO (tF T767 m 280 (la12 p0 q1 q2 q3 q4 x1 b2 b21 b41 3 b712 b725 u757_ b758) [(.ref b758)])
          refine gob (fun _ k => XS.aload X767.here hx rfl (hb hby at_280) rfl rfl k) ?_
          show gO (tF T767 m 282 (la12 p0 q1 q2 q3 q4 x1 b2 b21 b41 3 b712 b725 u757_ b758) [(.ref b2), (.ref b758)])
          have c772 := ((c762.ext E758).keep K767 (ninS n763 nin0))
          have c773 := ((F728.ext E758).keep K767 (ninS n764 nin0))
          have c774 := ((c742.ext E758).keep K767 (ninS n759 nin0))
          have c775 := (A758.keep K767)
          obtain ⟨cq771, kq771, q771a, q771b, q771c⟩ := isOf hZ (rfl : T767.heap = _) c775
          obtain ⟨_, _, ⟨T771, L771, k771, n771⟩, -, X771, ⟨Lc771, hQ771, l771, y771, z771⟩, st771⟩ := X767.virtualBack hx (y := (⟨"com/example/fenda/fenda/analysis/Combination", "of", "([D)D"⟩ : MethodName)) (z := (⟨"com/example/fenda/fenda/analysis/Combination", "of", "([D)D"⟩ : MethodName)) hown (mvT hZ (hW hw 27 rfl)) (mvT hZ (hW hw 28 rfl)) (notFace_of_selects (args := #[]) (mvT hZ (hW hw 30 rfl))) (mvT hZ (hW hw 30 rfl)) (mvT hZ (hW hw 29 rfl)) (by decide) (backOf (W := 0) (rmof_023 l Z a0 hw [] b758 b2 b712 b725 k713 k726 y25_ y29_ y33_ k2 y5_ y9_ y13_ y17_ T767.heap n0 z770 F768 F769 c772 my25_ my29_ my33_ c773 my5_ my9_ my13_ my17_ c774) hZ (hW hw 31 rfl) (hW hw 11 rfl) (by decide) (by decide)) q771a q771c (g := (mkF m 282 (la12 p0 q1 q2 q3 q4 x1 b2 b21 b41 3 b712 b725 u757_ b758) [(.ref b2), (.ref b758)])) rfl (by rw [hml]; rfl) (Steps.refl _) (argsL := [(.ref b2)]) (rest := []) (lenOf pd_4 rfl) rfl (by show 2 * 0 + _ ≤ _; exact Nat.le_of_eq rfl) (hb hby at_282) (fun _ _ => ⟨rfl, (rfl : T767.heap = _), (by decide : 6 + 0 ≤ _), (by decide : 20 + 0 ≤ _)⟩)
          dsimp only [Pt.U, Pt.locs, Pt.cells, Pt.slots] at X771 l771 y771 z771 st771 hQ771
          replace X771 := castX X771 (y771.trans (rfl : _ = 6)) (z771.trans (rfl : _ = 20))
          obtain ⟨r771, rfl, hr771, Nq771, e771⟩ := hQ771
          have N771 : Fr n0 L771 := l771 ▸ Fr.app N767 Nq771
          refine gob (fun _ k => st771.trans k) ?_
          show gO (tF T771 m 285 (la12 p0 q1 q2 q3 q4 x1 b2 b21 b41 3 b712 b725 u757_ b758) [(.double r771)])
          refine gob (fun _ k => XS.dstore X771.here hx rfl (hb hby at_285) rfl (l' := (la13 p0 q1 q2 q3 q4 x1 b2 b21 b41 3 b712 b725 u757_ b758 r771)) rfl k) ?_
          show gO (tF T771 m 287 (la13 p0 q1 q2 q3 q4 x1 b2 b21 b41 3 b712 b725 u757_ b758 r771) [])
          refine gob (fun _ k => XS.dload X771.here hx rfl (hb hby at_287) rfl k) ?_
          show gO (tF T771 m 289 (la13 p0 q1 q2 q3 q4 x1 b2 b21 b41 3 b712 b725 u757_ b758 r771) [(.double r771)])
          refine gob (fun _ k => XS.dload X771.here hx rfl (hb hby at_289) rfl k) ?_
          show gO (tF T771 m 291 (la13 p0 q1 q2 q3 q4 x1 b2 b21 b41 3 b712 b725 u757_ b758 r771) [(.double u757_), (.double r771)])
          have hqr771 : r771 = u757_ := hr771.trans (by rw [hu757_, hu751_, hu745_])
          refine gob (fun _ k => XS.dcmpS X771.here hx rfl (hb hby at_291) rfl (v := (0 : Int32)) (dcmpV_eq hqr771 (by rw [hqr771]; exact (mu757_.fin (by decide)).noNaN) .l) k) ?_
          show gO (tF T771 m 292 (la13 p0 q1 q2 q3 q4 x1 b2 b21 b41 3 b712 b725 u757_ b758 r771) [(.int 0)])
          refine gob (fun _ k => XS.ifNo X771.here hx rfl (hb hby at_292) rfl ((if0 _ _).trans (teq (by decide : (0 : Int32) = (0 : Int32))).2) k) ?_
          show gO (tF T771 m 295 (la13 p0 q1 q2 q3 q4 x1 b2 b21 b41 3 b712 b725 u757_ b758 r771) [])
          refine gob (fun _ k => XS.iconst X771.here hx rfl (hb hby at_295) k) ?_
          show gO (tF T771 m 296 (la13 p0 q1 q2 q3 q4 x1 b2 b21 b41 3 b712 b725 u757_ b758 r771) [(.int 1)])
          refine gob (fun _ k => XS.goto X771.here hx rfl (pc0 := 296) (pc' := 300) rfl (hb hby at_296) (by decide) (by decide) k) ?_
          show gO (tF T771 m 300 (la13 p0 q1 q2 q3 q4 x1 b2 b21 b41 3 b712 b725 u757_ b758 r771) [(.int 1)])
          refine goZ X771 hx hlk (t := .boolean) Bd.returns (by simp) (hb hby at_300) (z' := (1 : Int32)) rfl ?_ (by decide) (by decide)
          show Q0 Z p0 q1 q2 q3 q4 h0 n0 (some (.int (1 : Int32))) T771.heap _
          exact ⟨rfl, N771⟩
    · skip
      refine gob (fun _ k => XS.ifNo X525.here hx rfl (hb hby at_108) rfl ((if0 _ _).trans (feq hc108_527).1) k) ?_
      show gO (tF T525 m 111 (la8 p0 q1 q2 q3 q4 x1 b2 b21 b41 1) [])
      refine gob (fun _ k => XS.aload X525.here hx rfl (hb hby at_111) rfl rfl k) ?_
      show gO (tF T525 m 113 (la8 p0 q1 q2 q3 q4 x1 b2 b21 b41 1) [(.ref b41)])
      refine gob (fun _ k => XS.iload X525.here hx rfl (hb hby at_113) rfl k) ?_
      show gO (tF T525 m 115 (la8 p0 q1 q2 q3 q4 x1 b2 b21 b41 1) [(.int 1), (.ref b41)])
      refine gob (fun _ k => XS.iconst X525.here hx rfl (hb hby at_115) k) ?_
      show gO (tF T525 m 116 (la8 p0 q1 q2 q3 q4 x1 b2 b21 b41 1) [(.int 1), (.int 1), (.ref b41)])
      obtain ⟨cl776, Ar776, aq776, S776, N776, H776, G776⟩ := id V525
      have hin776 : ¬ ((1 : Int32) < 0 ∨ cl776.slots.size ≤ ((1 : Int32)).toNatClampNeg) := inb_of S776 ⟨by decide, by decide⟩
      obtain ⟨T777, h777, X777, e777, W777, st777⟩ := stI X525 hx hZ e525 Ar776 (j := (1 : Int32)) hin776 (g := (mkF m 116 (la8 p0 q1 q2 q3 q4 x1 b2 b21 b41 1) [(.int 1), (.int 1), (.ref b41)])) rfl rfl (hb hby at_116)
      refine gob st777 ?_
      have z778 : n0 ≤ h777.size := Nat.le_trans z526 (Keep.of_wr W777).1
      have N777 := Fr.snoc X777 N525 g45
      have V777 : Arv Z h777 b41 k41 .int (4 : Int32) [(.int 0), (.int 1), (.int 0), (.int 0)] (.int 0) := Arv.set Ar776 aq776 S776 N776 H776 G776 rfl W777 1 rfl (Nat.le_of_ble_eq_true rfl)
      show gO (tF T777 m 117 (la8 p0 q1 q2 q3 q4 x1 b2 b21 b41 1) [])
      refine gob (fun _ k => XS.iinc X777.here hx rfl (hb hby at_117) rfl (l' := (la8 p0 q1 q2 q3 q4 x1 b2 b21 b41 2)) rfl k) ?_
      show gO (tF T777 m 120 (la8 p0 q1 q2 q3 q4 x1 b2 b21 b41 2) [])
      refine gob (fun _ k => XS.iload X777.here hx rfl (hb hby at_120) rfl k) ?_
      show gO (tF T777 m 122 (la8 p0 q1 q2 q3 q4 x1 b2 b21 b41 2) [(.int x1)])
      refine gob (fun _ k => XS.iconst X777.here hx rfl (hb hby at_122) k) ?_
      show gO (tF T777 m 123 (la8 p0 q1 q2 q3 q4 x1 b2 b21 b41 2) [(.int 4), (.int x1)])
      refine gob (fun _ k => XS.iand X777.here hx rfl (hb hby at_123) rfl k) ?_
      show gO (tF T777 m 124 (la8 p0 q1 q2 q3 q4 x1 b2 b21 b41 2) [(.int (x1 &&& (4 : Int32)))])
      by_cases hc124_779 : (x1 &&& (4 : Int32)) = (0 : Int32)
      · skip
        refine gob (fun _ k => XS.ifYes X777.here hx rfl (pc0 := 124) (pc' := 136) rfl (hb hby at_124) rfl ((if0 _ _).trans (teq hc124_779).1) (by decide) (by decide) k) ?_
        show gO (tF T777 m 136 (la8 p0 q1 q2 q3 q4 x1 b2 b21 b41 2) [])
        refine gob (fun _ k => XS.iload X777.here hx rfl (hb hby at_136) rfl k) ?_
        show gO (tF T777 m 138 (la8 p0 q1 q2 q3 q4 x1 b2 b21 b41 2) [(.int x1)])
        refine gob (fun _ k => XS.bipush X777.here hx rfl (hb hby at_138) k) ?_
        show gO (tF T777 m 140 (la8 p0 q1 q2 q3 q4 x1 b2 b21 b41 2) [(.int 8), (.int x1)])
        refine gob (fun _ k => XS.iand X777.here hx rfl (hb hby at_140) rfl k) ?_
        show gO (tF T777 m 141 (la8 p0 q1 q2 q3 q4 x1 b2 b21 b41 2) [(.int (x1 &&& (8 : Int32)))])
        by_cases hc141_780 : (x1 &&& (8 : Int32)) = (0 : Int32)
        · skip
          refine gob (fun _ k => XS.ifYes X777.here hx rfl (pc0 := 141) (pc' := 153) rfl (hb hby at_141) rfl ((if0 _ _).trans (teq hc141_780).1) (by decide) (by decide) k) ?_
          show gO (tF T777 m 153 (la8 p0 q1 q2 q3 q4 x1 b2 b21 b41 2) [])
          refine gob (fun _ k => XS.aload X777.here hx rfl (hb hby at_153) rfl rfl k) ?_
          show gO (tF T777 m 155 (la8 p0 q1 q2 q3 q4 x1 b2 b21 b41 2) [(.ref b41)])
          refine gob (fun _ k => XS.iload X777.here hx rfl (hb hby at_155) rfl k) ?_
          show gO (tF T777 m 157 (la8 p0 q1 q2 q3 q4 x1 b2 b21 b41 2) [(.int 2), (.ref b41)])
          obtain ⟨_, _, ⟨T781, L781, k781, n781⟩, -, X781, ⟨Lc781, hQ781, l781, y781, z781⟩, st781⟩ := Jvm.LawKit.callS X777 hx (y := (⟨"com/example/fenda/fenda/analysis/CombinationOfPinLaw", "prefixInt", "([II)[I"⟩ : MethodName)) hown (mvT hZ (hW hw 2 rfl)) (mvT hZ (hW hw 3 rfl)) (mvT hZ (hW hw 4 rfl)) (mvT hZ (hW hw 5 rfl)) (by decide) (backOf (W := 0) (rmpi2 l Z a0 hw [] b41 k41 (0 : Int32) (1 : Int32) (0 : Int32) (0 : Int32) h777 n0 z778 V777) hZ (hW hw 5 rfl) (hW hw 4 rfl) (by decide) (by decide)) (g := (mkF m 157 (la8 p0 q1 q2 q3 q4 x1 b2 b21 b41 2) [(.int 2), (.ref b41)])) rfl (by rw [hml]; rfl) (argsL := [(.ref b41), (.int 2)]) (rest := []) (lenOf pd_1 rfl) rfl (by show 2 * 0 + _ ≤ _; exact Nat.le_of_eq rfl) (hb hby at_157) (fun _ _ => ⟨rfl, e777, (by decide : 3 + 1 ≤ _), (by decide : 12 + 2 ≤ _)⟩)
          dsimp only [Pt.U, Pt.locs, Pt.cells, Pt.slots] at X781 l781 y781 z781 st781 hQ781
          replace X781 := castX X781 (y781.trans (rfl : _ = 4)) (z781.trans (rfl : _ = 14))
          obtain ⟨b782, k783, rfl, Nq781, K781, hz784, F785⟩ := hQ781
          have N781 : Fr n0 L781 := l781 ▸ Fr.app N777 Nq781
          have c787 := (((c42.ext E41).other W525 n43).other W777 n43)
          have n786 : b2 ≠ b782 := Nat.ne_of_lt (Nat.lt_of_lt_of_le c787.lt hz784)
          have c789 := (((V39.ext E41).other W525 n44).other W777 n44)
          have n788 : b21 ≠ b782 := Nat.ne_of_lt (Nat.lt_of_lt_of_le c789.lt hz784)
          have n790 : b41 ≠ b782 := Nat.ne_of_lt (Nat.lt_of_lt_of_le V777.lt hz784)
          have g791 : n0 ≤ b782 := Nat.le_trans z778 hz784
          have z792 : n0 ≤ T781.heap.size := Nat.le_trans z778 K781.1
          refine gob st781 ?_
          show gO (tF T781 m 160 (la8 p0 q1 q2 q3 q4 x1 b2 b21 b41 2) [(.ref b782)])
          refine gob (fun _ k => XS.astore X781.here hx rfl (hb hby at_160) rfl rfl (l' := (la9 p0 q1 q2 q3 q4 x1 b2 b21 b41 2 b782)) rfl k) ?_
          show gO (tF T781 m 162 (la9 p0 q1 q2 q3 q4 x1 b2 b21 b41 2 b782) [])
          refine gob (fun _ k => XS.aload X781.here hx rfl (hb hby at_162) rfl rfl k) ?_
          show gO (tF T781 m 164 (la9 p0 q1 q2 q3 q4 x1 b2 b21 b41 2 b782) [(.ref b21)])
          refine gob (fun _ k => XS.iload X781.here hx rfl (hb hby at_164) rfl k) ?_
          show gO (tF T781 m 166 (la9 p0 q1 q2 q3 q4 x1 b2 b21 b41 2 b782) [(.int 2), (.ref b21)])
          have c794 := (c789.keep K781 nin0)
          obtain ⟨_, _, ⟨T793, L793, k793, n793⟩, -, X793, ⟨Lc793, hQ793, l793, y793, z793⟩, st793⟩ := Jvm.LawKit.callS X781 hx (y := (⟨"com/example/fenda/fenda/analysis/CombinationOfPinLaw", "prefixDouble", "([DI)[D"⟩ : MethodName)) hown (mvT hZ (hW hw 6 rfl)) (mvT hZ (hW hw 7 rfl)) (mvT hZ (hW hw 4 rfl)) (mvT hZ (hW hw 8 rfl)) (by decide) (backOf (W := 0) (rmpd2 l Z a0 hw [] b21 k21 y25_ y29_ y33_ y37_ T781.heap n0 z792 c794) hZ (hW hw 8 rfl) (hW hw 4 rfl) (by decide) (by decide)) (g := (mkF m 166 (la9 p0 q1 q2 q3 q4 x1 b2 b21 b41 2 b782) [(.int 2), (.ref b21)])) rfl (by rw [hml]; rfl) (argsL := [(.ref b21), (.int 2)]) (rest := []) (lenOf pd_2 rfl) rfl (by show 2 * 0 + _ ≤ _; exact Nat.le_of_eq rfl) (hb hby at_166) (fun _ _ => ⟨rfl, (rfl : T781.heap = _), (by decide : 4 + 1 ≤ _), (by decide : 14 + 2 ≤ _)⟩)
          dsimp only [Pt.U, Pt.locs, Pt.cells, Pt.slots] at X793 l793 y793 z793 st793 hQ793
          replace X793 := castX X793 (y793.trans (rfl : _ = 5)) (z793.trans (rfl : _ = 16))
          obtain ⟨b795, k796, rfl, Nq793, K793, hz797, F798⟩ := hQ793
          have N793 : Fr n0 L793 := l793 ▸ Fr.app N781 Nq793
          have c800 := (c787.keep K781 nin0)
          have n799 : b2 ≠ b795 := Nat.ne_of_lt (Nat.lt_of_lt_of_le c800.lt hz797)
          have n801 : b21 ≠ b795 := Nat.ne_of_lt (Nat.lt_of_lt_of_le c794.lt hz797)
          have c803 := (V777.keep K781 nin0)
          have n802 : b41 ≠ b795 := Nat.ne_of_lt (Nat.lt_of_lt_of_le c803.lt hz797)
          have n804 : b782 ≠ b795 := Nat.ne_of_lt (Nat.lt_of_lt_of_le F785.lt hz797)
          have g805 : n0 ≤ b795 := Nat.le_trans z792 hz797
          have z806 : n0 ≤ T793.heap.size := Nat.le_trans z792 K793.1
          refine gob st793 ?_
          show gO (tF T793 m 169 (la9 p0 q1 q2 q3 q4 x1 b2 b21 b41 2 b782) [(.ref b795)])
          refine gob (fun _ k => XS.astore X793.here hx rfl (hb hby at_169) rfl rfl (l' := (la10 p0 q1 q2 q3 q4 x1 b2 b21 b41 2 b782 b795)) rfl k) ?_
          show gO (tF T793 m 171 (la10 p0 q1 q2 q3 q4 x1 b2 b21 b41 2 b782 b795) [])
          refine gob (fun _ k => XS.dconst0 X793.here hx rfl (hb hby at_171) (v := (0 : UInt64)) (by decide +kernel) k) ?_
          show gO (tF T793 m 172 (la10 p0 q1 q2 q3 q4 x1 b2 b21 b41 2 b782 b795) [(.double (0 : UInt64))])
          refine gob (fun _ k => XS.dstore X793.here hx rfl (hb hby at_172) rfl (l' := (la11 p0 q1 q2 q3 q4 x1 b2 b21 b41 2 b782 b795 (0 : UInt64))) rfl k) ?_
          show gO (tF T793 m 174 (la11 p0 q1 q2 q3 q4 x1 b2 b21 b41 2 b782 b795 (0 : UInt64)) [])
          refine gob (fun _ k => XS.iload X793.here hx rfl (hb hby at_174) rfl k) ?_
          show gO (tF T793 m 176 (la11 p0 q1 q2 q3 q4 x1 b2 b21 b41 2 b782 b795 (0 : UInt64)) [(.int 2)])
          refine gob (fun _ k => XS.ifNo X793.here hx rfl (hb hby at_176) rfl ((if0 _ _).trans (tlt (by decide : (0 : Int32) < (2 : Int32))).2.2.2) k) ?_
          show gO (tF T793 m 179 (la11 p0 q1 q2 q3 q4 x1 b2 b21 b41 2 b782 b795 (0 : UInt64)) [])
          refine gob (fun _ k => XS.dload X793.here hx rfl (hb hby at_179) rfl k) ?_
          show gO (tF T793 m 181 (la11 p0 q1 q2 q3 q4 x1 b2 b21 b41 2 b782 b795 (0 : UInt64)) [(.double (0 : UInt64))])
          refine gob (fun _ k => XS.aload X793.here hx rfl (hb hby at_181) rfl rfl k) ?_
          show gO (tF T793 m 183 (la11 p0 q1 q2 q3 q4 x1 b2 b21 b41 2 b782 b795 (0 : UInt64)) [(.ref b21), (.double (0 : UInt64))])
          refine gob (fun _ k => XS.iconst X793.here hx rfl (hb hby at_183) k) ?_
          show gO (tF T793 m 184 (la11 p0 q1 q2 q3 q4 x1 b2 b21 b41 2 b782 b795 (0 : UInt64)) [(.int 0), (.ref b21), (.double (0 : UInt64))])
          have c808 := (c794.keep K793 nin0)
          obtain ⟨cl807, Ar807, aq807, S807, N807, H807, G807⟩ := id c808
          have hin807 : ¬ ((0 : Int32) < 0 ∨ cl807.slots.size ≤ ((0 : Int32)).toNatClampNeg) := inb_of S807 ⟨by decide, by decide⟩
          refine gob (X793.daload hx (j := (0 : Int32)) (v := (.double y25_)) (by rw [(rfl : T793.heap = _)]; exact Ar807.1) (State.isArrayOf_alike hZ.alike Ar807.2.1) Ar807.2.2 hin807 (Has.at H807 hin807 rfl) (g := (mkF m 184 (la11 p0 q1 q2 q3 q4 x1 b2 b21 b41 2 b782 b795 (0 : UInt64)) [(.int 0), (.ref b21), (.double (0 : UInt64))])) rfl rfl (hb hby at_184)) ?_
          show gO (tF T793 m 185 (la11 p0 q1 q2 q3 q4 x1 b2 b21 b41 2 b782 b795 (0 : UInt64)) [(.double y25_), (.double (0 : UInt64))])
          refine gob (fun _ k => XS.aload X793.here hx rfl (hb hby at_185) rfl rfl k) ?_
          show gO (tF T793 m 187 (la11 p0 q1 q2 q3 q4 x1 b2 b21 b41 2 b782 b795 (0 : UInt64)) [(.ref b2), (.double y25_), (.double (0 : UInt64))])
          refine gob (fun _ k => XS.aload X793.here hx rfl (hb hby at_187) rfl rfl k) ?_
          show gO (tF T793 m 189 (la11 p0 q1 q2 q3 q4 x1 b2 b21 b41 2 b782 b795 (0 : UInt64)) [(.ref b41), (.ref b2), (.double y25_), (.double (0 : UInt64))])
          refine gob (fun _ k => XS.iconst X793.here hx rfl (hb hby at_189) k) ?_
          show gO (tF T793 m 190 (la11 p0 q1 q2 q3 q4 x1 b2 b21 b41 2 b782 b795 (0 : UInt64)) [(.int 0), (.ref b41), (.ref b2), (.double y25_), (.double (0 : UInt64))])
          have c810 := (c803.keep K793 nin0)
          obtain ⟨cl809, Ar809, aq809, S809, N809, H809, G809⟩ := id c810
          have hin809 : ¬ ((0 : Int32) < 0 ∨ cl809.slots.size ≤ ((0 : Int32)).toNatClampNeg) := inb_of S809 ⟨by decide, by decide⟩
          refine gob (X793.iaload hx (j := (0 : Int32)) (v := (.int 0)) (by rw [(rfl : T793.heap = _)]; exact Ar809.1) (State.isArrayOf_alike hZ.alike Ar809.2.1) Ar809.2.2 hin809 (Has.at H809 hin809 rfl) (g := (mkF m 190 (la11 p0 q1 q2 q3 q4 x1 b2 b21 b41 2 b782 b795 (0 : UInt64)) [(.int 0), (.ref b41), (.ref b2), (.double y25_), (.double (0 : UInt64))])) rfl rfl (hb hby at_190)) ?_
          show gO (tF T793 m 191 (la11 p0 q1 q2 q3 q4 x1 b2 b21 b41 2 b782 b795 (0 : UInt64)) [(.int 0), (.ref b2), (.double y25_), (.double (0 : UInt64))])
          have c812 := (c800.keep K793 nin0)
          obtain ⟨cl811, Ar811, aq811, S811, N811, H811, G811⟩ := id c812
          have hin811 : ¬ ((0 : Int32) < 0 ∨ cl811.slots.size ≤ ((0 : Int32)).toNatClampNeg) := inb_of S811 ⟨by decide, by decide⟩
          refine gob (X793.daload hx (j := (0 : Int32)) (v := (.double y5_)) (by rw [(rfl : T793.heap = _)]; exact Ar811.1) (State.isArrayOf_alike hZ.alike Ar811.2.1) Ar811.2.2 hin811 (Has.at H811 hin811 rfl) (g := (mkF m 191 (la11 p0 q1 q2 q3 q4 x1 b2 b21 b41 2 b782 b795 (0 : UInt64)) [(.int 0), (.ref b2), (.double y25_), (.double (0 : UInt64))])) rfl rfl (hb hby at_191)) ?_
          show gO (tF T793 m 192 (la11 p0 q1 q2 q3 q4 x1 b2 b21 b41 2 b782 b795 (0 : UInt64)) [(.double y5_), (.double y25_), (.double (0 : UInt64))])
          have mg813 : Mag64 1090 (FP.dmul y25_ y5_) := own_dmul my25_ my5_ (by decide) (by decide) (by decide)
          refine gob (fun _ k => XS.dmulS X793.here hx rfl (hb hby at_192) rfl (v := (FP.dmul y25_ y5_)) (mg813.fin (by decide)).noNaN rfl k) ?_
          show gO (tF T793 m 193 (la11 p0 q1 q2 q3 q4 x1 b2 b21 b41 2 b782 b795 (0 : UInt64)) [(.double (FP.dmul y25_ y5_)), (.double (0 : UInt64))])
          have mg814 : Mag64 1092 (FP.dadd (0 : UInt64) (FP.dmul y25_ y5_)) := own_dadd (K := 1090) (own_m0.mono (by decide)) (mg813.mono (by decide)) (by decide) (by decide)
          refine gob (fun _ k => XS.daddS X793.here hx rfl (hb hby at_193) rfl (v := (FP.dadd (0 : UInt64) (FP.dmul y25_ y5_))) (mg814.fin (by decide)).noNaN rfl k) ?_
          show gO (tF T793 m 194 (la11 p0 q1 q2 q3 q4 x1 b2 b21 b41 2 b782 b795 (0 : UInt64)) [(.double (FP.dadd (0 : UInt64) (FP.dmul y25_ y5_)))])
          obtain ⟨u815_, hu815_⟩ : ∃ z, z = (FP.dadd (0 : UInt64) (FP.dmul y25_ y5_)) := ⟨_, rfl⟩
          have mu815_ : Mag64 1092 u815_ := by rw [hu815_]; exact mg814
          rw [← hu815_]
          show gO (tF T793 m 194 (la11 p0 q1 q2 q3 q4 x1 b2 b21 b41 2 b782 b795 (0 : UInt64)) [(.double u815_)])
          refine gob (fun _ k => XS.dstore X793.here hx rfl (hb hby at_194) rfl (l' := (la11 p0 q1 q2 q3 q4 x1 b2 b21 b41 2 b782 b795 u815_)) rfl k) ?_
          show gO (tF T793 m 196 (la11 p0 q1 q2 q3 q4 x1 b2 b21 b41 2 b782 b795 u815_) [])
          refine gob (fun _ k => XS.iload X793.here hx rfl (hb hby at_196) rfl k) ?_
          show gO (tF T793 m 198 (la11 p0 q1 q2 q3 q4 x1 b2 b21 b41 2 b782 b795 u815_) [(.int 2)])
          refine gob (fun _ k => XS.iconst X793.here hx rfl (hb hby at_198) k) ?_
          show gO (tF T793 m 199 (la11 p0 q1 q2 q3 q4 x1 b2 b21 b41 2 b782 b795 u815_) [(.int 1), (.int 2)])
          refine gob (fun _ k => XS.icmpNo X793.here hx rfl (hb hby at_199) rfl (tlt (by decide : (1 : Int32) < (2 : Int32))).2.2.2 k) ?_
          show gO (tF T793 m 202 (la11 p0 q1 q2 q3 q4 x1 b2 b21 b41 2 b782 b795 u815_) [])
          refine gob (fun _ k => XS.dload X793.here hx rfl (hb hby at_202) rfl k) ?_
          show gO (tF T793 m 204 (la11 p0 q1 q2 q3 q4 x1 b2 b21 b41 2 b782 b795 u815_) [(.double u815_)])
          refine gob (fun _ k => XS.aload X793.here hx rfl (hb hby at_204) rfl rfl k) ?_
          show gO (tF T793 m 206 (la11 p0 q1 q2 q3 q4 x1 b2 b21 b41 2 b782 b795 u815_) [(.ref b21), (.double u815_)])
          refine gob (fun _ k => XS.iconst X793.here hx rfl (hb hby at_206) k) ?_
          show gO (tF T793 m 207 (la11 p0 q1 q2 q3 q4 x1 b2 b21 b41 2 b782 b795 u815_) [(.int 1), (.ref b21), (.double u815_)])
          obtain ⟨cl816, Ar816, aq816, S816, N816, H816, G816⟩ := id c808
          have hin816 : ¬ ((1 : Int32) < 0 ∨ cl816.slots.size ≤ ((1 : Int32)).toNatClampNeg) := inb_of S816 ⟨by decide, by decide⟩
          refine gob (X793.daload hx (j := (1 : Int32)) (v := (.double y29_)) (by rw [(rfl : T793.heap = _)]; exact Ar816.1) (State.isArrayOf_alike hZ.alike Ar816.2.1) Ar816.2.2 hin816 (Has.at H816 hin816 rfl) (g := (mkF m 207 (la11 p0 q1 q2 q3 q4 x1 b2 b21 b41 2 b782 b795 u815_) [(.int 1), (.ref b21), (.double u815_)])) rfl rfl (hb hby at_207)) ?_
          show gO (tF T793 m 208 (la11 p0 q1 q2 q3 q4 x1 b2 b21 b41 2 b782 b795 u815_) [(.double y29_), (.double u815_)])
          refine gob (fun _ k => XS.aload X793.here hx rfl (hb hby at_208) rfl rfl k) ?_
          show gO (tF T793 m 210 (la11 p0 q1 q2 q3 q4 x1 b2 b21 b41 2 b782 b795 u815_) [(.ref b2), (.double y29_), (.double u815_)])
          refine gob (fun _ k => XS.aload X793.here hx rfl (hb hby at_210) rfl rfl k) ?_
          show gO (tF T793 m 212 (la11 p0 q1 q2 q3 q4 x1 b2 b21 b41 2 b782 b795 u815_) [(.ref b41), (.ref b2), (.double y29_), (.double u815_)])
          refine gob (fun _ k => XS.iconst X793.here hx rfl (hb hby at_212) k) ?_
          show gO (tF T793 m 213 (la11 p0 q1 q2 q3 q4 x1 b2 b21 b41 2 b782 b795 u815_) [(.int 1), (.ref b41), (.ref b2), (.double y29_), (.double u815_)])
          obtain ⟨cl817, Ar817, aq817, S817, N817, H817, G817⟩ := id c810
          have hin817 : ¬ ((1 : Int32) < 0 ∨ cl817.slots.size ≤ ((1 : Int32)).toNatClampNeg) := inb_of S817 ⟨by decide, by decide⟩
          refine gob (X793.iaload hx (j := (1 : Int32)) (v := (.int 1)) (by rw [(rfl : T793.heap = _)]; exact Ar817.1) (State.isArrayOf_alike hZ.alike Ar817.2.1) Ar817.2.2 hin817 (Has.at H817 hin817 rfl) (g := (mkF m 213 (la11 p0 q1 q2 q3 q4 x1 b2 b21 b41 2 b782 b795 u815_) [(.int 1), (.ref b41), (.ref b2), (.double y29_), (.double u815_)])) rfl rfl (hb hby at_213)) ?_
          show gO (tF T793 m 214 (la11 p0 q1 q2 q3 q4 x1 b2 b21 b41 2 b782 b795 u815_) [(.int 1), (.ref b2), (.double y29_), (.double u815_)])
          obtain ⟨cl818, Ar818, aq818, S818, N818, H818, G818⟩ := id c812
          have hin818 : ¬ ((1 : Int32) < 0 ∨ cl818.slots.size ≤ ((1 : Int32)).toNatClampNeg) := inb_of S818 ⟨by decide, by decide⟩
          refine gob (X793.daload hx (j := (1 : Int32)) (v := (.double y9_)) (by rw [(rfl : T793.heap = _)]; exact Ar818.1) (State.isArrayOf_alike hZ.alike Ar818.2.1) Ar818.2.2 hin818 (Has.at H818 hin818 rfl) (g := (mkF m 214 (la11 p0 q1 q2 q3 q4 x1 b2 b21 b41 2 b782 b795 u815_) [(.int 1), (.ref b2), (.double y29_), (.double u815_)])) rfl rfl (hb hby at_214)) ?_
          show gO (tF T793 m 215 (la11 p0 q1 q2 q3 q4 x1 b2 b21 b41 2 b782 b795 u815_) [(.double y9_), (.double y29_), (.double u815_)])
          have mg819 : Mag64 1090 (FP.dmul y29_ y9_) := own_dmul my29_ my9_ (by decide) (by decide) (by decide)
          refine gob (fun _ k => XS.dmulS X793.here hx rfl (hb hby at_215) rfl (v := (FP.dmul y29_ y9_)) (mg819.fin (by decide)).noNaN rfl k) ?_
          show gO (tF T793 m 216 (la11 p0 q1 q2 q3 q4 x1 b2 b21 b41 2 b782 b795 u815_) [(.double (FP.dmul y29_ y9_)), (.double u815_)])
          have mg820 : Mag64 1094 (FP.dadd u815_ (FP.dmul y29_ y9_)) := own_dadd (K := 1092) (mu815_.mono (by decide)) (mg819.mono (by decide)) (by decide) (by decide)
          refine gob (fun _ k => XS.daddS X793.here hx rfl (hb hby at_216) rfl (v := (FP.dadd u815_ (FP.dmul y29_ y9_))) (mg820.fin (by decide)).noNaN rfl k) ?_
          show gO (tF T793 m 217 (la11 p0 q1 q2 q3 q4 x1 b2 b21 b41 2 b782 b795 u815_) [(.double (FP.dadd u815_ (FP.dmul y29_ y9_)))])
          obtain ⟨u821_, hu821_⟩ : ∃ z, z = (FP.dadd u815_ (FP.dmul y29_ y9_)) := ⟨_, rfl⟩
          have mu821_ : Mag64 1094 u821_ := by rw [hu821_]; exact mg820
          rw [← hu821_]
          show gO (tF T793 m 217 (la11 p0 q1 q2 q3 q4 x1 b2 b21 b41 2 b782 b795 u815_) [(.double u821_)])
          refine gob (fun _ k => XS.dstore X793.here hx rfl (hb hby at_217) rfl (l' := (la11 p0 q1 q2 q3 q4 x1 b2 b21 b41 2 b782 b795 u821_)) rfl k) ?_
          show gO (tF T793 m 219 (la11 p0 q1 q2 q3 q4 x1 b2 b21 b41 2 b782 b795 u821_) [])
          refine gob (fun _ k => XS.iload X793.here hx rfl (hb hby at_219) rfl k) ?_
          show gO (tF T793 m 221 (la11 p0 q1 q2 q3 q4 x1 b2 b21 b41 2 b782 b795 u821_) [(.int 2)])
          refine gob (fun _ k => XS.iconst X793.here hx rfl (hb hby at_221) k) ?_
          show gO (tF T793 m 222 (la11 p0 q1 q2 q3 q4 x1 b2 b21 b41 2 b782 b795 u821_) [(.int 2), (.int 2)])
          refine gob (fun _ k => XS.icmpYes X793.here hx rfl (pc0 := 222) (pc' := 242) rfl (hb hby at_222) rfl (flt (by decide : ¬ ((2 : Int32) < (2 : Int32)))).2.2.2 (by decide) (by decide) k) ?_
          show gO (tF T793 m 242 (la11 p0 q1 q2 q3 q4 x1 b2 b21 b41 2 b782 b795 u821_) [])
          refine gob (fun _ k => XS.iload X793.here hx rfl (hb hby at_242) rfl k) ?_
          show gO (tF T793 m 244 (la11 p0 q1 q2 q3 q4 x1 b2 b21 b41 2 b782 b795 u821_) [(.int 2)])
          refine gob (fun _ k => XS.iconst X793.here hx rfl (hb hby at_244) k) ?_
          show gO (tF T793 m 245 (la11 p0 q1 q2 q3 q4 x1 b2 b21 b41 2 b782 b795 u821_) [(.int 3), (.int 2)])
          refine gob (fun _ k => XS.icmpYes X793.here hx rfl (pc0 := 245) (pc' := 265) rfl (hb hby at_245) rfl (flt (by decide : ¬ ((3 : Int32) < (2 : Int32)))).2.2.2 (by decide) (by decide) k) ?_
          show gO (tF T793 m 265 (la11 p0 q1 q2 q3 q4 x1 b2 b21 b41 2 b782 b795 u821_) [])
          obtain ⟨T822, h822, X822, e822, E822, A822, D822, -, st822⟩ := newO X793 hx hZ hown (hW hw 9 rfl) (hW hw 10 rfl) (hW hw 11 rfl) (rfl : T793.heap = _) (g := (mkF m 265 (la11 p0 q1 q2 q3 q4 x1 b2 b21 b41 2 b782 b795 u821_) [])) rfl (hb hby at_265) (by decide) (by decide)
          obtain ⟨b822, g822⟩ : ∃ z, z = T793.heap.size := ⟨_, rfl⟩
          rw [← g822] at A822 D822 st822
          have n823 : b2 ≠ b822 := Nat.ne_of_lt (Nat.lt_of_lt_of_le c812.lt (Nat.le_of_eq g822.symm))
          have n824 : b21 ≠ b822 := Nat.ne_of_lt (Nat.lt_of_lt_of_le c808.lt (Nat.le_of_eq g822.symm))
          have n825 : b41 ≠ b822 := Nat.ne_of_lt (Nat.lt_of_lt_of_le c810.lt (Nat.le_of_eq g822.symm))
          have c826 := (F785.keep K793 nin0)
          have n827 : b782 ≠ b822 := Nat.ne_of_lt (Nat.lt_of_lt_of_le c826.lt (Nat.le_of_eq g822.symm))
          have n828 : b795 ≠ b822 := Nat.ne_of_lt (Nat.lt_of_lt_of_le F798.lt (Nat.le_of_eq g822.symm))
          have g829 : n0 ≤ b822 := Nat.le_trans z806 (Nat.le_of_eq g822.symm)
          have z830 : n0 ≤ h822.size := Nat.le_trans z806 E822.1
          have F822_dofs : Fld Z h822 b822 "com/example/fenda/fenda/analysis/Combination" "dofs" "[I" .null := D822 (Or.inr (hW hw 24 rfl)) (ty := (.array .int)) (by decide)
          have F822_weights : Fld Z h822 b822 "com/example/fenda/fenda/analysis/Combination" "weights" "[D" .null := D822 (Or.inr (hW hw 26 rfl)) (ty := (.array .double)) (by decide)
          refine gob st822 ?_
          replace X822 := castX X822 (rfl : _ = 6) (rfl : _ = 18)
          show gO (tF T822 m 268 (la11 p0 q1 q2 q3 q4 x1 b2 b21 b41 2 b782 b795 u821_) [(.ref b822)])
          refine gob (fun _ k => XS.dup X822.here hx rfl (hb hby at_268) rfl rfl k) ?_
          show gO (tF T822 m 269 (la11 p0 q1 q2 q3 q4 x1 b2 b21 b41 2 b782 b795 u821_) [(.ref b822), (.ref b822)])
          refine gob (fun _ k => XS.aload X822.here hx rfl (hb hby at_269) rfl rfl k) ?_
          show gO (tF T822 m 271 (la11 p0 q1 q2 q3 q4 x1 b2 b21 b41 2 b782 b795 u821_) [(.ref b782), (.ref b822), (.ref b822)])
          refine gob (fun _ k => XS.aload X822.here hx rfl (hb hby at_271) rfl rfl k) ?_
          show gO (tF T822 m 273 (la11 p0 q1 q2 q3 q4 x1 b2 b21 b41 2 b782 b795 u821_) [(.ref b795), (.ref b782), (.ref b822), (.ref b822)])
          obtain ⟨_, _, ⟨T831, L831, k831, n831⟩, -, X831, ⟨Lc831, hQ831, l831, y831, z831⟩, st831⟩ := X822.specialBack hx (y := (⟨"com/example/fenda/fenda/analysis/Combination", "<init>", "([I[D)V"⟩ : MethodName)) rfl hown (mvT hZ (hW hw 12 rfl)) (mvT hZ (hW hw 13 rfl)) (mvT hZ (hW hw 14 rfl)) (by decide) (backOf (W := 1) (rm3 l Z a0 hw [] b822 b782 b795 h822 n0 z830 A822 F822_dofs g829 F822_weights) hZ (hW hw 14 rfl) (hW hw 11 rfl) (by decide) (by decide)) (g := (mkF m 273 (la11 p0 q1 q2 q3 q4 x1 b2 b21 b41 2 b782 b795 u821_) [(.ref b795), (.ref b782), (.ref b822), (.ref b822)])) rfl (by rw [hml]; rfl) (Steps.refl _) (a := b822) (argsL := [(.ref b782), (.ref b795)]) (rest := [(.ref b822)]) (lenOf pd_3 rfl) rfl (by show 2 * 0 + _ ≤ _; exact Nat.le_of_eq rfl) (hb hby at_273) (fun _ _ => ⟨rfl, e822, (by decide : 6 + 0 ≤ _), (by decide : 18 + 0 ≤ _)⟩)
          dsimp only [Pt.U, Pt.locs, Pt.cells, Pt.slots] at X831 l831 y831 z831 st831 hQ831
          replace X831 := castX X831 (y831.trans (rfl : _ = 6)) (z831.trans (rfl : _ = 18))
          obtain ⟨rfl, Nq831, K831, F832, F833⟩ := hQ831
          have N831 : Fr n0 L831 := l831 ▸ Fr.app N793 Nq831
          have z834 : n0 ≤ T831.heap.size := Nat.le_trans z830 K831.1
          refine gob (fun _ k => st831.trans k) ?_
          show gO (tF T831 m 276 (la11 p0 q1 q2 q3 q4 x1 b2 b21 b41 2 b782 b795 u821_) [(.ref b822)])
          refine gob (fun _ k => XS.astore X831.here hx rfl (hb hby at_276) rfl rfl (l' := (la12 p0 q1 q2 q3 q4 x1 b2 b21 b41 2 b782 b795 u821_ b822)) rfl k) ?_
          show gO (tF T831 m 278 (la12 p0 q1 q2 q3 q4 x1 b2 b21 b41 2 b782 b795 u821_ b822) [])
          refine gob (fun _ k => XS.aload X831.here hx rfl (hb hby at_278) rfl rfl k) ?_
          show gO (tF T831 m 280 (la12 p0 q1 q2 q3 q4 x1 b2 b21 b41 2 b782 b795 u821_ b822) [(.ref b822)])
          refine gob (fun _ k => XS.aload X831.here hx rfl (hb hby at_280) rfl rfl k) ?_
          show gO (tF T831 m 282 (la12 p0 q1 q2 q3 q4 x1 b2 b21 b41 2 b782 b795 u821_ b822) [(.ref b2), (.ref b822)])
          have c836 := ((c826.ext E822).keep K831 (ninS n827 nin0))
          have c837 := ((F798.ext E822).keep K831 (ninS n828 nin0))
          have c838 := ((c812.ext E822).keep K831 (ninS n823 nin0))
          have c839 := (A822.keep K831)
          obtain ⟨cq835, kq835, q835a, q835b, q835c⟩ := isOf hZ (rfl : T831.heap = _) c839
          obtain ⟨_, _, ⟨T835, L835, k835, n835⟩, -, X835, ⟨Lc835, hQ835, l835, y835, z835⟩, st835⟩ := X831.virtualBack hx (y := (⟨"com/example/fenda/fenda/analysis/Combination", "of", "([D)D"⟩ : MethodName)) (z := (⟨"com/example/fenda/fenda/analysis/Combination", "of", "([D)D"⟩ : MethodName)) hown (mvT hZ (hW hw 27 rfl)) (mvT hZ (hW hw 28 rfl)) (notFace_of_selects (args := #[]) (mvT hZ (hW hw 30 rfl))) (mvT hZ (hW hw 30 rfl)) (mvT hZ (hW hw 29 rfl)) (by decide) (backOf (W := 0) (rmof_01 l Z a0 hw [] b822 b2 b782 b795 k783 k796 y25_ y29_ k2 y5_ y9_ y13_ y17_ T831.heap n0 z834 F832 F833 c836 my25_ my29_ c837 my5_ my9_ my13_ my17_ c838) hZ (hW hw 31 rfl) (hW hw 11 rfl) (by decide) (by decide)) q835a q835c (g := (mkF m 282 (la12 p0 q1 q2 q3 q4 x1 b2 b21 b41 2 b782 b795 u821_ b822) [(.ref b2), (.ref b822)])) rfl (by rw [hml]; rfl) (Steps.refl _) (argsL := [(.ref b2)]) (rest := []) (lenOf pd_4 rfl) rfl (by show 2 * 0 + _ ≤ _; exact Nat.le_of_eq rfl) (hb hby at_282) (fun _ _ => ⟨rfl, (rfl : T831.heap = _), (by decide : 6 + 0 ≤ _), (by decide : 18 + 0 ≤ _)⟩)
          dsimp only [Pt.U, Pt.locs, Pt.cells, Pt.slots] at X835 l835 y835 z835 st835 hQ835
          replace X835 := castX X835 (y835.trans (rfl : _ = 6)) (z835.trans (rfl : _ = 18))
          obtain ⟨r835, rfl, hr835, Nq835, e835⟩ := hQ835
          have N835 : Fr n0 L835 := l835 ▸ Fr.app N831 Nq835
          refine gob (fun _ k => st835.trans k) ?_
          show gO (tF T835 m 285 (la12 p0 q1 q2 q3 q4 x1 b2 b21 b41 2 b782 b795 u821_ b822) [(.double r835)])
          refine gob (fun _ k => XS.dstore X835.here hx rfl (hb hby at_285) rfl (l' := (la13 p0 q1 q2 q3 q4 x1 b2 b21 b41 2 b782 b795 u821_ b822 r835)) rfl k) ?_
          show gO (tF T835 m 287 (la13 p0 q1 q2 q3 q4 x1 b2 b21 b41 2 b782 b795 u821_ b822 r835) [])
          refine gob (fun _ k => XS.dload X835.here hx rfl (hb hby at_287) rfl k) ?_
          show gO (tF T835 m 289 (la13 p0 q1 q2 q3 q4 x1 b2 b21 b41 2 b782 b795 u821_ b822 r835) [(.double r835)])
          refine gob (fun _ k => XS.dload X835.here hx rfl (hb hby at_289) rfl k) ?_
          show gO (tF T835 m 291 (la13 p0 q1 q2 q3 q4 x1 b2 b21 b41 2 b782 b795 u821_ b822 r835) [(.double u821_), (.double r835)])
          have hqr835 : r835 = u821_ := hr835.trans (by rw [hu821_, hu815_])
          refine gob (fun _ k => XS.dcmpS X835.here hx rfl (hb hby at_291) rfl (v := (0 : Int32)) (dcmpV_eq hqr835 (by rw [hqr835]; exact (mu821_.fin (by decide)).noNaN) .l) k) ?_
          show gO (tF T835 m 292 (la13 p0 q1 q2 q3 q4 x1 b2 b21 b41 2 b782 b795 u821_ b822 r835) [(.int 0)])
          refine gob (fun _ k => XS.ifNo X835.here hx rfl (hb hby at_292) rfl ((if0 _ _).trans (teq (by decide : (0 : Int32) = (0 : Int32))).2) k) ?_
          show gO (tF T835 m 295 (la13 p0 q1 q2 q3 q4 x1 b2 b21 b41 2 b782 b795 u821_ b822 r835) [])
          refine gob (fun _ k => XS.iconst X835.here hx rfl (hb hby at_295) k) ?_
          show gO (tF T835 m 296 (la13 p0 q1 q2 q3 q4 x1 b2 b21 b41 2 b782 b795 u821_ b822 r835) [(.int 1)])
          refine gob (fun _ k => XS.goto X835.here hx rfl (pc0 := 296) (pc' := 300) rfl (hb hby at_296) (by decide) (by decide) k) ?_
          show gO (tF T835 m 300 (la13 p0 q1 q2 q3 q4 x1 b2 b21 b41 2 b782 b795 u821_ b822 r835) [(.int 1)])
          refine goZ X835 hx hlk (t := .boolean) Bd.returns (by simp) (hb hby at_300) (z' := (1 : Int32)) rfl ?_ (by decide) (by decide)
          show Q0 Z p0 q1 q2 q3 q4 h0 n0 (some (.int (1 : Int32))) T835.heap _
          exact ⟨rfl, N835⟩
        · skip
          refine gob (fun _ k => XS.ifNo X777.here hx rfl (hb hby at_141) rfl ((if0 _ _).trans (feq hc141_780).1) k) ?_
          show gO (tF T777 m 144 (la8 p0 q1 q2 q3 q4 x1 b2 b21 b41 2) [])
          refine gob (fun _ k => XS.aload X777.here hx rfl (hb hby at_144) rfl rfl k) ?_
          show gO (tF T777 m 146 (la8 p0 q1 q2 q3 q4 x1 b2 b21 b41 2) [(.ref b41)])
          refine gob (fun _ k => XS.iload X777.here hx rfl (hb hby at_146) rfl k) ?_
          show gO (tF T777 m 148 (la8 p0 q1 q2 q3 q4 x1 b2 b21 b41 2) [(.int 2), (.ref b41)])
          refine gob (fun _ k => XS.iconst X777.here hx rfl (hb hby at_148) k) ?_
          show gO (tF T777 m 149 (la8 p0 q1 q2 q3 q4 x1 b2 b21 b41 2) [(.int 3), (.int 2), (.ref b41)])
          obtain ⟨cl840, Ar840, aq840, S840, N840, H840, G840⟩ := id V777
          have hin840 : ¬ ((2 : Int32) < 0 ∨ cl840.slots.size ≤ ((2 : Int32)).toNatClampNeg) := inb_of S840 ⟨by decide, by decide⟩
          obtain ⟨T841, h841, X841, e841, W841, st841⟩ := stI X777 hx hZ e777 Ar840 (j := (2 : Int32)) hin840 (g := (mkF m 149 (la8 p0 q1 q2 q3 q4 x1 b2 b21 b41 2) [(.int 3), (.int 2), (.ref b41)])) rfl rfl (hb hby at_149)
          refine gob st841 ?_
          have z842 : n0 ≤ h841.size := Nat.le_trans z778 (Keep.of_wr W841).1
          have N841 := Fr.snoc X841 N777 g45
          have V841 : Arv Z h841 b41 k41 .int (4 : Int32) [(.int 0), (.int 1), (.int 3), (.int 0)] (.int 0) := Arv.set Ar840 aq840 S840 N840 H840 G840 rfl W841 2 rfl (Nat.le_of_ble_eq_true rfl)
          show gO (tF T841 m 150 (la8 p0 q1 q2 q3 q4 x1 b2 b21 b41 2) [])
          refine gob (fun _ k => XS.iinc X841.here hx rfl (hb hby at_150) rfl (l' := (la8 p0 q1 q2 q3 q4 x1 b2 b21 b41 3)) rfl k) ?_
          show gO (tF T841 m 153 (la8 p0 q1 q2 q3 q4 x1 b2 b21 b41 3) [])
          refine gob (fun _ k => XS.aload X841.here hx rfl (hb hby at_153) rfl rfl k) ?_
          show gO (tF T841 m 155 (la8 p0 q1 q2 q3 q4 x1 b2 b21 b41 3) [(.ref b41)])
          refine gob (fun _ k => XS.iload X841.here hx rfl (hb hby at_155) rfl k) ?_
          show gO (tF T841 m 157 (la8 p0 q1 q2 q3 q4 x1 b2 b21 b41 3) [(.int 3), (.ref b41)])
          obtain ⟨_, _, ⟨T843, L843, k843, n843⟩, -, X843, ⟨Lc843, hQ843, l843, y843, z843⟩, st843⟩ := Jvm.LawKit.callS X841 hx (y := (⟨"com/example/fenda/fenda/analysis/CombinationOfPinLaw", "prefixInt", "([II)[I"⟩ : MethodName)) hown (mvT hZ (hW hw 2 rfl)) (mvT hZ (hW hw 3 rfl)) (mvT hZ (hW hw 4 rfl)) (mvT hZ (hW hw 5 rfl)) (by decide) (backOf (W := 0) (rmpi3 l Z a0 hw [] b41 k41 (0 : Int32) (1 : Int32) (3 : Int32) (0 : Int32) h841 n0 z842 V841) hZ (hW hw 5 rfl) (hW hw 4 rfl) (by decide) (by decide)) (g := (mkF m 157 (la8 p0 q1 q2 q3 q4 x1 b2 b21 b41 3) [(.int 3), (.ref b41)])) rfl (by rw [hml]; rfl) (argsL := [(.ref b41), (.int 3)]) (rest := []) (lenOf pd_1 rfl) rfl (by show 2 * 0 + _ ≤ _; exact Nat.le_of_eq rfl) (hb hby at_157) (fun _ _ => ⟨rfl, e841, (by decide : 3 + 1 ≤ _), (by decide : 12 + 3 ≤ _)⟩)
          dsimp only [Pt.U, Pt.locs, Pt.cells, Pt.slots] at X843 l843 y843 z843 st843 hQ843
          replace X843 := castX X843 (y843.trans (rfl : _ = 4)) (z843.trans (rfl : _ = 15))
          obtain ⟨b844, k845, rfl, Nq843, K843, hz846, F847⟩ := hQ843
          have N843 : Fr n0 L843 := l843 ▸ Fr.app N841 Nq843
          have c849 := ((((c42.ext E41).other W525 n43).other W777 n43).other W841 n43)
          have n848 : b2 ≠ b844 := Nat.ne_of_lt (Nat.lt_of_lt_of_le c849.lt hz846)
          have c851 := ((((V39.ext E41).other W525 n44).other W777 n44).other W841 n44)
          have n850 : b21 ≠ b844 := Nat.ne_of_lt (Nat.lt_of_lt_of_le c851.lt hz846)
          have n852 : b41 ≠ b844 := Nat.ne_of_lt (Nat.lt_of_lt_of_le V841.lt hz846)
          have g853 : n0 ≤ b844 := Nat.le_trans z842 hz846
          have z854 : n0 ≤ T843.heap.size := Nat.le_trans z842 K843.1
          refine gob st843 ?_
          show gO (tF T843 m 160 (la8 p0 q1 q2 q3 q4 x1 b2 b21 b41 3) [(.ref b844)])
          refine gob (fun _ k => XS.astore X843.here hx rfl (hb hby at_160) rfl rfl (l' := (la9 p0 q1 q2 q3 q4 x1 b2 b21 b41 3 b844)) rfl k) ?_
          show gO (tF T843 m 162 (la9 p0 q1 q2 q3 q4 x1 b2 b21 b41 3 b844) [])
          refine gob (fun _ k => XS.aload X843.here hx rfl (hb hby at_162) rfl rfl k) ?_
          show gO (tF T843 m 164 (la9 p0 q1 q2 q3 q4 x1 b2 b21 b41 3 b844) [(.ref b21)])
          refine gob (fun _ k => XS.iload X843.here hx rfl (hb hby at_164) rfl k) ?_
          show gO (tF T843 m 166 (la9 p0 q1 q2 q3 q4 x1 b2 b21 b41 3 b844) [(.int 3), (.ref b21)])
          have c856 := (c851.keep K843 nin0)
          obtain ⟨_, _, ⟨T855, L855, k855, n855⟩, -, X855, ⟨Lc855, hQ855, l855, y855, z855⟩, st855⟩ := Jvm.LawKit.callS X843 hx (y := (⟨"com/example/fenda/fenda/analysis/CombinationOfPinLaw", "prefixDouble", "([DI)[D"⟩ : MethodName)) hown (mvT hZ (hW hw 6 rfl)) (mvT hZ (hW hw 7 rfl)) (mvT hZ (hW hw 4 rfl)) (mvT hZ (hW hw 8 rfl)) (by decide) (backOf (W := 0) (rmpd3 l Z a0 hw [] b21 k21 y25_ y29_ y33_ y37_ T843.heap n0 z854 c856) hZ (hW hw 8 rfl) (hW hw 4 rfl) (by decide) (by decide)) (g := (mkF m 166 (la9 p0 q1 q2 q3 q4 x1 b2 b21 b41 3 b844) [(.int 3), (.ref b21)])) rfl (by rw [hml]; rfl) (argsL := [(.ref b21), (.int 3)]) (rest := []) (lenOf pd_2 rfl) rfl (by show 2 * 0 + _ ≤ _; exact Nat.le_of_eq rfl) (hb hby at_166) (fun _ _ => ⟨rfl, (rfl : T843.heap = _), (by decide : 4 + 1 ≤ _), (by decide : 15 + 3 ≤ _)⟩)
          dsimp only [Pt.U, Pt.locs, Pt.cells, Pt.slots] at X855 l855 y855 z855 st855 hQ855
          replace X855 := castX X855 (y855.trans (rfl : _ = 5)) (z855.trans (rfl : _ = 18))
          obtain ⟨b857, k858, rfl, Nq855, K855, hz859, F860⟩ := hQ855
          have N855 : Fr n0 L855 := l855 ▸ Fr.app N843 Nq855
          have c862 := (c849.keep K843 nin0)
          have n861 : b2 ≠ b857 := Nat.ne_of_lt (Nat.lt_of_lt_of_le c862.lt hz859)
          have n863 : b21 ≠ b857 := Nat.ne_of_lt (Nat.lt_of_lt_of_le c856.lt hz859)
          have c865 := (V841.keep K843 nin0)
          have n864 : b41 ≠ b857 := Nat.ne_of_lt (Nat.lt_of_lt_of_le c865.lt hz859)
          have n866 : b844 ≠ b857 := Nat.ne_of_lt (Nat.lt_of_lt_of_le F847.lt hz859)
          have g867 : n0 ≤ b857 := Nat.le_trans z854 hz859
          have z868 : n0 ≤ T855.heap.size := Nat.le_trans z854 K855.1
          refine gob st855 ?_
          show gO (tF T855 m 169 (la9 p0 q1 q2 q3 q4 x1 b2 b21 b41 3 b844) [(.ref b857)])
          refine gob (fun _ k => XS.astore X855.here hx rfl (hb hby at_169) rfl rfl (l' := (la10 p0 q1 q2 q3 q4 x1 b2 b21 b41 3 b844 b857)) rfl k) ?_
          show gO (tF T855 m 171 (la10 p0 q1 q2 q3 q4 x1 b2 b21 b41 3 b844 b857) [])
          refine gob (fun _ k => XS.dconst0 X855.here hx rfl (hb hby at_171) (v := (0 : UInt64)) (by decide +kernel) k) ?_
          show gO (tF T855 m 172 (la10 p0 q1 q2 q3 q4 x1 b2 b21 b41 3 b844 b857) [(.double (0 : UInt64))])
          refine gob (fun _ k => XS.dstore X855.here hx rfl (hb hby at_172) rfl (l' := (la11 p0 q1 q2 q3 q4 x1 b2 b21 b41 3 b844 b857 (0 : UInt64))) rfl k) ?_
          show gO (tF T855 m 174 (la11 p0 q1 q2 q3 q4 x1 b2 b21 b41 3 b844 b857 (0 : UInt64)) [])
          refine gob (fun _ k => XS.iload X855.here hx rfl (hb hby at_174) rfl k) ?_
          show gO (tF T855 m 176 (la11 p0 q1 q2 q3 q4 x1 b2 b21 b41 3 b844 b857 (0 : UInt64)) [(.int 3)])
          refine gob (fun _ k => XS.ifNo X855.here hx rfl (hb hby at_176) rfl ((if0 _ _).trans (tlt (by decide : (0 : Int32) < (3 : Int32))).2.2.2) k) ?_
          show gO (tF T855 m 179 (la11 p0 q1 q2 q3 q4 x1 b2 b21 b41 3 b844 b857 (0 : UInt64)) [])
          refine gob (fun _ k => XS.dload X855.here hx rfl (hb hby at_179) rfl k) ?_
          show gO (tF T855 m 181 (la11 p0 q1 q2 q3 q4 x1 b2 b21 b41 3 b844 b857 (0 : UInt64)) [(.double (0 : UInt64))])
          refine gob (fun _ k => XS.aload X855.here hx rfl (hb hby at_181) rfl rfl k) ?_
          show gO (tF T855 m 183 (la11 p0 q1 q2 q3 q4 x1 b2 b21 b41 3 b844 b857 (0 : UInt64)) [(.ref b21), (.double (0 : UInt64))])
          refine gob (fun _ k => XS.iconst X855.here hx rfl (hb hby at_183) k) ?_
          show gO (tF T855 m 184 (la11 p0 q1 q2 q3 q4 x1 b2 b21 b41 3 b844 b857 (0 : UInt64)) [(.int 0), (.ref b21), (.double (0 : UInt64))])
          have c870 := (c856.keep K855 nin0)
          obtain ⟨cl869, Ar869, aq869, S869, N869, H869, G869⟩ := id c870
          have hin869 : ¬ ((0 : Int32) < 0 ∨ cl869.slots.size ≤ ((0 : Int32)).toNatClampNeg) := inb_of S869 ⟨by decide, by decide⟩
          refine gob (X855.daload hx (j := (0 : Int32)) (v := (.double y25_)) (by rw [(rfl : T855.heap = _)]; exact Ar869.1) (State.isArrayOf_alike hZ.alike Ar869.2.1) Ar869.2.2 hin869 (Has.at H869 hin869 rfl) (g := (mkF m 184 (la11 p0 q1 q2 q3 q4 x1 b2 b21 b41 3 b844 b857 (0 : UInt64)) [(.int 0), (.ref b21), (.double (0 : UInt64))])) rfl rfl (hb hby at_184)) ?_
          show gO (tF T855 m 185 (la11 p0 q1 q2 q3 q4 x1 b2 b21 b41 3 b844 b857 (0 : UInt64)) [(.double y25_), (.double (0 : UInt64))])
          refine gob (fun _ k => XS.aload X855.here hx rfl (hb hby at_185) rfl rfl k) ?_
          show gO (tF T855 m 187 (la11 p0 q1 q2 q3 q4 x1 b2 b21 b41 3 b844 b857 (0 : UInt64)) [(.ref b2), (.double y25_), (.double (0 : UInt64))])
          refine gob (fun _ k => XS.aload X855.here hx rfl (hb hby at_187) rfl rfl k) ?_
          show gO (tF T855 m 189 (la11 p0 q1 q2 q3 q4 x1 b2 b21 b41 3 b844 b857 (0 : UInt64)) [(.ref b41), (.ref b2), (.double y25_), (.double (0 : UInt64))])
          refine gob (fun _ k => XS.iconst X855.here hx rfl (hb hby at_189) k) ?_
          show gO (tF T855 m 190 (la11 p0 q1 q2 q3 q4 x1 b2 b21 b41 3 b844 b857 (0 : UInt64)) [(.int 0), (.ref b41), (.ref b2), (.double y25_), (.double (0 : UInt64))])
          have c872 := (c865.keep K855 nin0)
          obtain ⟨cl871, Ar871, aq871, S871, N871, H871, G871⟩ := id c872
          have hin871 : ¬ ((0 : Int32) < 0 ∨ cl871.slots.size ≤ ((0 : Int32)).toNatClampNeg) := inb_of S871 ⟨by decide, by decide⟩
          refine gob (X855.iaload hx (j := (0 : Int32)) (v := (.int 0)) (by rw [(rfl : T855.heap = _)]; exact Ar871.1) (State.isArrayOf_alike hZ.alike Ar871.2.1) Ar871.2.2 hin871 (Has.at H871 hin871 rfl) (g := (mkF m 190 (la11 p0 q1 q2 q3 q4 x1 b2 b21 b41 3 b844 b857 (0 : UInt64)) [(.int 0), (.ref b41), (.ref b2), (.double y25_), (.double (0 : UInt64))])) rfl rfl (hb hby at_190)) ?_
          show gO (tF T855 m 191 (la11 p0 q1 q2 q3 q4 x1 b2 b21 b41 3 b844 b857 (0 : UInt64)) [(.int 0), (.ref b2), (.double y25_), (.double (0 : UInt64))])
          have c874 := (c862.keep K855 nin0)
          obtain ⟨cl873, Ar873, aq873, S873, N873, H873, G873⟩ := id c874
          have hin873 : ¬ ((0 : Int32) < 0 ∨ cl873.slots.size ≤ ((0 : Int32)).toNatClampNeg) := inb_of S873 ⟨by decide, by decide⟩
          refine gob (X855.daload hx (j := (0 : Int32)) (v := (.double y5_)) (by rw [(rfl : T855.heap = _)]; exact Ar873.1) (State.isArrayOf_alike hZ.alike Ar873.2.1) Ar873.2.2 hin873 (Has.at H873 hin873 rfl) (g := (mkF m 191 (la11 p0 q1 q2 q3 q4 x1 b2 b21 b41 3 b844 b857 (0 : UInt64)) [(.int 0), (.ref b2), (.double y25_), (.double (0 : UInt64))])) rfl rfl (hb hby at_191)) ?_
          show gO (tF T855 m 192 (la11 p0 q1 q2 q3 q4 x1 b2 b21 b41 3 b844 b857 (0 : UInt64)) [(.double y5_), (.double y25_), (.double (0 : UInt64))])
          have mg875 : Mag64 1090 (FP.dmul y25_ y5_) := own_dmul my25_ my5_ (by decide) (by decide) (by decide)
          refine gob (fun _ k => XS.dmulS X855.here hx rfl (hb hby at_192) rfl (v := (FP.dmul y25_ y5_)) (mg875.fin (by decide)).noNaN rfl k) ?_
          show gO (tF T855 m 193 (la11 p0 q1 q2 q3 q4 x1 b2 b21 b41 3 b844 b857 (0 : UInt64)) [(.double (FP.dmul y25_ y5_)), (.double (0 : UInt64))])
          have mg876 : Mag64 1092 (FP.dadd (0 : UInt64) (FP.dmul y25_ y5_)) := own_dadd (K := 1090) (own_m0.mono (by decide)) (mg875.mono (by decide)) (by decide) (by decide)
          refine gob (fun _ k => XS.daddS X855.here hx rfl (hb hby at_193) rfl (v := (FP.dadd (0 : UInt64) (FP.dmul y25_ y5_))) (mg876.fin (by decide)).noNaN rfl k) ?_
          show gO (tF T855 m 194 (la11 p0 q1 q2 q3 q4 x1 b2 b21 b41 3 b844 b857 (0 : UInt64)) [(.double (FP.dadd (0 : UInt64) (FP.dmul y25_ y5_)))])
          obtain ⟨u877_, hu877_⟩ : ∃ z, z = (FP.dadd (0 : UInt64) (FP.dmul y25_ y5_)) := ⟨_, rfl⟩
          have mu877_ : Mag64 1092 u877_ := by rw [hu877_]; exact mg876
          rw [← hu877_]
          show gO (tF T855 m 194 (la11 p0 q1 q2 q3 q4 x1 b2 b21 b41 3 b844 b857 (0 : UInt64)) [(.double u877_)])
          refine gob (fun _ k => XS.dstore X855.here hx rfl (hb hby at_194) rfl (l' := (la11 p0 q1 q2 q3 q4 x1 b2 b21 b41 3 b844 b857 u877_)) rfl k) ?_
          show gO (tF T855 m 196 (la11 p0 q1 q2 q3 q4 x1 b2 b21 b41 3 b844 b857 u877_) [])
          refine gob (fun _ k => XS.iload X855.here hx rfl (hb hby at_196) rfl k) ?_
          show gO (tF T855 m 198 (la11 p0 q1 q2 q3 q4 x1 b2 b21 b41 3 b844 b857 u877_) [(.int 3)])
          refine gob (fun _ k => XS.iconst X855.here hx rfl (hb hby at_198) k) ?_
          show gO (tF T855 m 199 (la11 p0 q1 q2 q3 q4 x1 b2 b21 b41 3 b844 b857 u877_) [(.int 1), (.int 3)])
          refine gob (fun _ k => XS.icmpNo X855.here hx rfl (hb hby at_199) rfl (tlt (by decide : (1 : Int32) < (3 : Int32))).2.2.2 k) ?_
          show gO (tF T855 m 202 (la11 p0 q1 q2 q3 q4 x1 b2 b21 b41 3 b844 b857 u877_) [])
          refine gob (fun _ k => XS.dload X855.here hx rfl (hb hby at_202) rfl k) ?_
          show gO (tF T855 m 204 (la11 p0 q1 q2 q3 q4 x1 b2 b21 b41 3 b844 b857 u877_) [(.double u877_)])
          refine gob (fun _ k => XS.aload X855.here hx rfl (hb hby at_204) rfl rfl k) ?_
          show gO (tF T855 m 206 (la11 p0 q1 q2 q3 q4 x1 b2 b21 b41 3 b844 b857 u877_) [(.ref b21), (.double u877_)])
          refine gob (fun _ k => XS.iconst X855.here hx rfl (hb hby at_206) k) ?_
          show gO (tF T855 m 207 (la11 p0 q1 q2 q3 q4 x1 b2 b21 b41 3 b844 b857 u877_) [(.int 1), (.ref b21), (.double u877_)])
          obtain ⟨cl878, Ar878, aq878, S878, N878, H878, G878⟩ := id c870
          have hin878 : ¬ ((1 : Int32) < 0 ∨ cl878.slots.size ≤ ((1 : Int32)).toNatClampNeg) := inb_of S878 ⟨by decide, by decide⟩
          refine gob (X855.daload hx (j := (1 : Int32)) (v := (.double y29_)) (by rw [(rfl : T855.heap = _)]; exact Ar878.1) (State.isArrayOf_alike hZ.alike Ar878.2.1) Ar878.2.2 hin878 (Has.at H878 hin878 rfl) (g := (mkF m 207 (la11 p0 q1 q2 q3 q4 x1 b2 b21 b41 3 b844 b857 u877_) [(.int 1), (.ref b21), (.double u877_)])) rfl rfl (hb hby at_207)) ?_
          show gO (tF T855 m 208 (la11 p0 q1 q2 q3 q4 x1 b2 b21 b41 3 b844 b857 u877_) [(.double y29_), (.double u877_)])
          refine gob (fun _ k => XS.aload X855.here hx rfl (hb hby at_208) rfl rfl k) ?_
          show gO (tF T855 m 210 (la11 p0 q1 q2 q3 q4 x1 b2 b21 b41 3 b844 b857 u877_) [(.ref b2), (.double y29_), (.double u877_)])
          refine gob (fun _ k => XS.aload X855.here hx rfl (hb hby at_210) rfl rfl k) ?_
          show gO (tF T855 m 212 (la11 p0 q1 q2 q3 q4 x1 b2 b21 b41 3 b844 b857 u877_) [(.ref b41), (.ref b2), (.double y29_), (.double u877_)])
          refine gob (fun _ k => XS.iconst X855.here hx rfl (hb hby at_212) k) ?_
          show gO (tF T855 m 213 (la11 p0 q1 q2 q3 q4 x1 b2 b21 b41 3 b844 b857 u877_) [(.int 1), (.ref b41), (.ref b2), (.double y29_), (.double u877_)])
          obtain ⟨cl879, Ar879, aq879, S879, N879, H879, G879⟩ := id c872
          have hin879 : ¬ ((1 : Int32) < 0 ∨ cl879.slots.size ≤ ((1 : Int32)).toNatClampNeg) := inb_of S879 ⟨by decide, by decide⟩
          refine gob (X855.iaload hx (j := (1 : Int32)) (v := (.int 1)) (by rw [(rfl : T855.heap = _)]; exact Ar879.1) (State.isArrayOf_alike hZ.alike Ar879.2.1) Ar879.2.2 hin879 (Has.at H879 hin879 rfl) (g := (mkF m 213 (la11 p0 q1 q2 q3 q4 x1 b2 b21 b41 3 b844 b857 u877_) [(.int 1), (.ref b41), (.ref b2), (.double y29_), (.double u877_)])) rfl rfl (hb hby at_213)) ?_
          show gO (tF T855 m 214 (la11 p0 q1 q2 q3 q4 x1 b2 b21 b41 3 b844 b857 u877_) [(.int 1), (.ref b2), (.double y29_), (.double u877_)])
          obtain ⟨cl880, Ar880, aq880, S880, N880, H880, G880⟩ := id c874
          have hin880 : ¬ ((1 : Int32) < 0 ∨ cl880.slots.size ≤ ((1 : Int32)).toNatClampNeg) := inb_of S880 ⟨by decide, by decide⟩
          refine gob (X855.daload hx (j := (1 : Int32)) (v := (.double y9_)) (by rw [(rfl : T855.heap = _)]; exact Ar880.1) (State.isArrayOf_alike hZ.alike Ar880.2.1) Ar880.2.2 hin880 (Has.at H880 hin880 rfl) (g := (mkF m 214 (la11 p0 q1 q2 q3 q4 x1 b2 b21 b41 3 b844 b857 u877_) [(.int 1), (.ref b2), (.double y29_), (.double u877_)])) rfl rfl (hb hby at_214)) ?_
          show gO (tF T855 m 215 (la11 p0 q1 q2 q3 q4 x1 b2 b21 b41 3 b844 b857 u877_) [(.double y9_), (.double y29_), (.double u877_)])
          have mg881 : Mag64 1090 (FP.dmul y29_ y9_) := own_dmul my29_ my9_ (by decide) (by decide) (by decide)
          refine gob (fun _ k => XS.dmulS X855.here hx rfl (hb hby at_215) rfl (v := (FP.dmul y29_ y9_)) (mg881.fin (by decide)).noNaN rfl k) ?_
          show gO (tF T855 m 216 (la11 p0 q1 q2 q3 q4 x1 b2 b21 b41 3 b844 b857 u877_) [(.double (FP.dmul y29_ y9_)), (.double u877_)])
          have mg882 : Mag64 1094 (FP.dadd u877_ (FP.dmul y29_ y9_)) := own_dadd (K := 1092) (mu877_.mono (by decide)) (mg881.mono (by decide)) (by decide) (by decide)
          refine gob (fun _ k => XS.daddS X855.here hx rfl (hb hby at_216) rfl (v := (FP.dadd u877_ (FP.dmul y29_ y9_))) (mg882.fin (by decide)).noNaN rfl k) ?_
          show gO (tF T855 m 217 (la11 p0 q1 q2 q3 q4 x1 b2 b21 b41 3 b844 b857 u877_) [(.double (FP.dadd u877_ (FP.dmul y29_ y9_)))])
          obtain ⟨u883_, hu883_⟩ : ∃ z, z = (FP.dadd u877_ (FP.dmul y29_ y9_)) := ⟨_, rfl⟩
          have mu883_ : Mag64 1094 u883_ := by rw [hu883_]; exact mg882
          rw [← hu883_]
          show gO (tF T855 m 217 (la11 p0 q1 q2 q3 q4 x1 b2 b21 b41 3 b844 b857 u877_) [(.double u883_)])
          refine gob (fun _ k => XS.dstore X855.here hx rfl (hb hby at_217) rfl (l' := (la11 p0 q1 q2 q3 q4 x1 b2 b21 b41 3 b844 b857 u883_)) rfl k) ?_
          show gO (tF T855 m 219 (la11 p0 q1 q2 q3 q4 x1 b2 b21 b41 3 b844 b857 u883_) [])
          refine gob (fun _ k => XS.iload X855.here hx rfl (hb hby at_219) rfl k) ?_
          show gO (tF T855 m 221 (la11 p0 q1 q2 q3 q4 x1 b2 b21 b41 3 b844 b857 u883_) [(.int 3)])
          refine gob (fun _ k => XS.iconst X855.here hx rfl (hb hby at_221) k) ?_
          show gO (tF T855 m 222 (la11 p0 q1 q2 q3 q4 x1 b2 b21 b41 3 b844 b857 u883_) [(.int 2), (.int 3)])
          refine gob (fun _ k => XS.icmpNo X855.here hx rfl (hb hby at_222) rfl (tlt (by decide : (2 : Int32) < (3 : Int32))).2.2.2 k) ?_
          show gO (tF T855 m 225 (la11 p0 q1 q2 q3 q4 x1 b2 b21 b41 3 b844 b857 u883_) [])
          refine gob (fun _ k => XS.dload X855.here hx rfl (hb hby at_225) rfl k) ?_
          show gO (tF T855 m 227 (la11 p0 q1 q2 q3 q4 x1 b2 b21 b41 3 b844 b857 u883_) [(.double u883_)])
          refine gob (fun _ k => XS.aload X855.here hx rfl (hb hby at_227) rfl rfl k) ?_
          show gO (tF T855 m 229 (la11 p0 q1 q2 q3 q4 x1 b2 b21 b41 3 b844 b857 u883_) [(.ref b21), (.double u883_)])
          refine gob (fun _ k => XS.iconst X855.here hx rfl (hb hby at_229) k) ?_
          show gO (tF T855 m 230 (la11 p0 q1 q2 q3 q4 x1 b2 b21 b41 3 b844 b857 u883_) [(.int 2), (.ref b21), (.double u883_)])
          obtain ⟨cl884, Ar884, aq884, S884, N884, H884, G884⟩ := id c870
          have hin884 : ¬ ((2 : Int32) < 0 ∨ cl884.slots.size ≤ ((2 : Int32)).toNatClampNeg) := inb_of S884 ⟨by decide, by decide⟩
          refine gob (X855.daload hx (j := (2 : Int32)) (v := (.double y33_)) (by rw [(rfl : T855.heap = _)]; exact Ar884.1) (State.isArrayOf_alike hZ.alike Ar884.2.1) Ar884.2.2 hin884 (Has.at H884 hin884 rfl) (g := (mkF m 230 (la11 p0 q1 q2 q3 q4 x1 b2 b21 b41 3 b844 b857 u883_) [(.int 2), (.ref b21), (.double u883_)])) rfl rfl (hb hby at_230)) ?_
          show gO (tF T855 m 231 (la11 p0 q1 q2 q3 q4 x1 b2 b21 b41 3 b844 b857 u883_) [(.double y33_), (.double u883_)])
          refine gob (fun _ k => XS.aload X855.here hx rfl (hb hby at_231) rfl rfl k) ?_
          show gO (tF T855 m 233 (la11 p0 q1 q2 q3 q4 x1 b2 b21 b41 3 b844 b857 u883_) [(.ref b2), (.double y33_), (.double u883_)])
          refine gob (fun _ k => XS.aload X855.here hx rfl (hb hby at_233) rfl rfl k) ?_
          show gO (tF T855 m 235 (la11 p0 q1 q2 q3 q4 x1 b2 b21 b41 3 b844 b857 u883_) [(.ref b41), (.ref b2), (.double y33_), (.double u883_)])
          refine gob (fun _ k => XS.iconst X855.here hx rfl (hb hby at_235) k) ?_
          show gO (tF T855 m 236 (la11 p0 q1 q2 q3 q4 x1 b2 b21 b41 3 b844 b857 u883_) [(.int 2), (.ref b41), (.ref b2), (.double y33_), (.double u883_)])
          obtain ⟨cl885, Ar885, aq885, S885, N885, H885, G885⟩ := id c872
          have hin885 : ¬ ((2 : Int32) < 0 ∨ cl885.slots.size ≤ ((2 : Int32)).toNatClampNeg) := inb_of S885 ⟨by decide, by decide⟩
          refine gob (X855.iaload hx (j := (2 : Int32)) (v := (.int 3)) (by rw [(rfl : T855.heap = _)]; exact Ar885.1) (State.isArrayOf_alike hZ.alike Ar885.2.1) Ar885.2.2 hin885 (Has.at H885 hin885 rfl) (g := (mkF m 236 (la11 p0 q1 q2 q3 q4 x1 b2 b21 b41 3 b844 b857 u883_) [(.int 2), (.ref b41), (.ref b2), (.double y33_), (.double u883_)])) rfl rfl (hb hby at_236)) ?_
          show gO (tF T855 m 237 (la11 p0 q1 q2 q3 q4 x1 b2 b21 b41 3 b844 b857 u883_) [(.int 3), (.ref b2), (.double y33_), (.double u883_)])
          obtain ⟨cl886, Ar886, aq886, S886, N886, H886, G886⟩ := id c874
          have hin886 : ¬ ((3 : Int32) < 0 ∨ cl886.slots.size ≤ ((3 : Int32)).toNatClampNeg) := inb_of S886 ⟨by decide, by decide⟩
          refine gob (X855.daload hx (j := (3 : Int32)) (v := (.double y17_)) (by rw [(rfl : T855.heap = _)]; exact Ar886.1) (State.isArrayOf_alike hZ.alike Ar886.2.1) Ar886.2.2 hin886 (Has.at H886 hin886 rfl) (g := (mkF m 237 (la11 p0 q1 q2 q3 q4 x1 b2 b21 b41 3 b844 b857 u883_) [(.int 3), (.ref b2), (.double y33_), (.double u883_)])) rfl rfl (hb hby at_237)) ?_
          show gO (tF T855 m 238 (la11 p0 q1 q2 q3 q4 x1 b2 b21 b41 3 b844 b857 u883_) [(.double y17_), (.double y33_), (.double u883_)])
          have mg887 : Mag64 1090 (FP.dmul y33_ y17_) := own_dmul my33_ my17_ (by decide) (by decide) (by decide)
          refine gob (fun _ k => XS.dmulS X855.here hx rfl (hb hby at_238) rfl (v := (FP.dmul y33_ y17_)) (mg887.fin (by decide)).noNaN rfl k) ?_
          show gO (tF T855 m 239 (la11 p0 q1 q2 q3 q4 x1 b2 b21 b41 3 b844 b857 u883_) [(.double (FP.dmul y33_ y17_)), (.double u883_)])
          have mg888 : Mag64 1096 (FP.dadd u883_ (FP.dmul y33_ y17_)) := own_dadd (K := 1094) (mu883_.mono (by decide)) (mg887.mono (by decide)) (by decide) (by decide)
          refine gob (fun _ k => XS.daddS X855.here hx rfl (hb hby at_239) rfl (v := (FP.dadd u883_ (FP.dmul y33_ y17_))) (mg888.fin (by decide)).noNaN rfl k) ?_
          show gO (tF T855 m 240 (la11 p0 q1 q2 q3 q4 x1 b2 b21 b41 3 b844 b857 u883_) [(.double (FP.dadd u883_ (FP.dmul y33_ y17_)))])
          obtain ⟨u889_, hu889_⟩ : ∃ z, z = (FP.dadd u883_ (FP.dmul y33_ y17_)) := ⟨_, rfl⟩
          have mu889_ : Mag64 1096 u889_ := by rw [hu889_]; exact mg888
          rw [← hu889_]
          show gO (tF T855 m 240 (la11 p0 q1 q2 q3 q4 x1 b2 b21 b41 3 b844 b857 u883_) [(.double u889_)])
          refine gob (fun _ k => XS.dstore X855.here hx rfl (hb hby at_240) rfl (l' := (la11 p0 q1 q2 q3 q4 x1 b2 b21 b41 3 b844 b857 u889_)) rfl k) ?_
          show gO (tF T855 m 242 (la11 p0 q1 q2 q3 q4 x1 b2 b21 b41 3 b844 b857 u889_) [])
          refine gob (fun _ k => XS.iload X855.here hx rfl (hb hby at_242) rfl k) ?_
          show gO (tF T855 m 244 (la11 p0 q1 q2 q3 q4 x1 b2 b21 b41 3 b844 b857 u889_) [(.int 3)])
          refine gob (fun _ k => XS.iconst X855.here hx rfl (hb hby at_244) k) ?_
          show gO (tF T855 m 245 (la11 p0 q1 q2 q3 q4 x1 b2 b21 b41 3 b844 b857 u889_) [(.int 3), (.int 3)])
          refine gob (fun _ k => XS.icmpYes X855.here hx rfl (pc0 := 245) (pc' := 265) rfl (hb hby at_245) rfl (flt (by decide : ¬ ((3 : Int32) < (3 : Int32)))).2.2.2 (by decide) (by decide) k) ?_
          show gO (tF T855 m 265 (la11 p0 q1 q2 q3 q4 x1 b2 b21 b41 3 b844 b857 u889_) [])
          obtain ⟨T890, h890, X890, e890, E890, A890, D890, -, st890⟩ := newO X855 hx hZ hown (hW hw 9 rfl) (hW hw 10 rfl) (hW hw 11 rfl) (rfl : T855.heap = _) (g := (mkF m 265 (la11 p0 q1 q2 q3 q4 x1 b2 b21 b41 3 b844 b857 u889_) [])) rfl (hb hby at_265) (by decide) (by decide)
          obtain ⟨b890, g890⟩ : ∃ z, z = T855.heap.size := ⟨_, rfl⟩
          rw [← g890] at A890 D890 st890
          have n891 : b2 ≠ b890 := Nat.ne_of_lt (Nat.lt_of_lt_of_le c874.lt (Nat.le_of_eq g890.symm))
          have n892 : b21 ≠ b890 := Nat.ne_of_lt (Nat.lt_of_lt_of_le c870.lt (Nat.le_of_eq g890.symm))
          have n893 : b41 ≠ b890 := Nat.ne_of_lt (Nat.lt_of_lt_of_le c872.lt (Nat.le_of_eq g890.symm))
          have c894 := (F847.keep K855 nin0)
          have n895 : b844 ≠ b890 := Nat.ne_of_lt (Nat.lt_of_lt_of_le c894.lt (Nat.le_of_eq g890.symm))
          have n896 : b857 ≠ b890 := Nat.ne_of_lt (Nat.lt_of_lt_of_le F860.lt (Nat.le_of_eq g890.symm))
          have g897 : n0 ≤ b890 := Nat.le_trans z868 (Nat.le_of_eq g890.symm)
          have z898 : n0 ≤ h890.size := Nat.le_trans z868 E890.1
          have F890_dofs : Fld Z h890 b890 "com/example/fenda/fenda/analysis/Combination" "dofs" "[I" .null := D890 (Or.inr (hW hw 24 rfl)) (ty := (.array .int)) (by decide)
          have F890_weights : Fld Z h890 b890 "com/example/fenda/fenda/analysis/Combination" "weights" "[D" .null := D890 (Or.inr (hW hw 26 rfl)) (ty := (.array .double)) (by decide)
          refine gob st890 ?_
          replace X890 := castX X890 (rfl : _ = 6) (rfl : _ = 20)
          show gO (tF T890 m 268 (la11 p0 q1 q2 q3 q4 x1 b2 b21 b41 3 b844 b857 u889_) [(.ref b890)])
          refine gob (fun _ k => XS.dup X890.here hx rfl (hb hby at_268) rfl rfl k) ?_
          show gO (tF T890 m 269 (la11 p0 q1 q2 q3 q4 x1 b2 b21 b41 3 b844 b857 u889_) [(.ref b890), (.ref b890)])
          refine gob (fun _ k => XS.aload X890.here hx rfl (hb hby at_269) rfl rfl k) ?_
          show gO (tF T890 m 271 (la11 p0 q1 q2 q3 q4 x1 b2 b21 b41 3 b844 b857 u889_) [(.ref b844), (.ref b890), (.ref b890)])
          refine gob (fun _ k => XS.aload X890.here hx rfl (hb hby at_271) rfl rfl k) ?_
          show gO (tF T890 m 273 (la11 p0 q1 q2 q3 q4 x1 b2 b21 b41 3 b844 b857 u889_) [(.ref b857), (.ref b844), (.ref b890), (.ref b890)])
          obtain ⟨_, _, ⟨T899, L899, k899, n899⟩, -, X899, ⟨Lc899, hQ899, l899, y899, z899⟩, st899⟩ := X890.specialBack hx (y := (⟨"com/example/fenda/fenda/analysis/Combination", "<init>", "([I[D)V"⟩ : MethodName)) rfl hown (mvT hZ (hW hw 12 rfl)) (mvT hZ (hW hw 13 rfl)) (mvT hZ (hW hw 14 rfl)) (by decide) (backOf (W := 1) (rm3 l Z a0 hw [] b890 b844 b857 h890 n0 z898 A890 F890_dofs g897 F890_weights) hZ (hW hw 14 rfl) (hW hw 11 rfl) (by decide) (by decide)) (g := (mkF m 273 (la11 p0 q1 q2 q3 q4 x1 b2 b21 b41 3 b844 b857 u889_) [(.ref b857), (.ref b844), (.ref b890), (.ref b890)])) rfl (by rw [hml]; rfl) (Steps.refl _) (a := b890) (argsL := [(.ref b844), (.ref b857)]) (rest := [(.ref b890)]) (lenOf pd_3 rfl) rfl (by show 2 * 0 + _ ≤ _; exact Nat.le_of_eq rfl) (hb hby at_273) (fun _ _ => ⟨rfl, e890, (by decide : 6 + 0 ≤ _), (by decide : 20 + 0 ≤ _)⟩)
          dsimp only [Pt.U, Pt.locs, Pt.cells, Pt.slots] at X899 l899 y899 z899 st899 hQ899
          replace X899 := castX X899 (y899.trans (rfl : _ = 6)) (z899.trans (rfl : _ = 20))
          obtain ⟨rfl, Nq899, K899, F900, F901⟩ := hQ899
          have N899 : Fr n0 L899 := l899 ▸ Fr.app N855 Nq899
          have z902 : n0 ≤ T899.heap.size := Nat.le_trans z898 K899.1
          refine gob (fun _ k => st899.trans k) ?_
          show gO (tF T899 m 276 (la11 p0 q1 q2 q3 q4 x1 b2 b21 b41 3 b844 b857 u889_) [(.ref b890)])
          refine gob (fun _ k => XS.astore X899.here hx rfl (hb hby at_276) rfl rfl (l' := (la12 p0 q1 q2 q3 q4 x1 b2 b21 b41 3 b844 b857 u889_ b890)) rfl k) ?_
          show gO (tF T899 m 278 (la12 p0 q1 q2 q3 q4 x1 b2 b21 b41 3 b844 b857 u889_ b890) [])
          refine gob (fun _ k => XS.aload X899.here hx rfl (hb hby at_278) rfl rfl k) ?_
          show gO (tF T899 m 280 (la12 p0 q1 q2 q3 q4 x1 b2 b21 b41 3 b844 b857 u889_ b890) [(.ref b890)])
          refine gob (fun _ k => XS.aload X899.here hx rfl (hb hby at_280) rfl rfl k) ?_
          show gO (tF T899 m 282 (la12 p0 q1 q2 q3 q4 x1 b2 b21 b41 3 b844 b857 u889_ b890) [(.ref b2), (.ref b890)])
          have c904 := ((c894.ext E890).keep K899 (ninS n895 nin0))
          have c905 := ((F860.ext E890).keep K899 (ninS n896 nin0))
          have c906 := ((c874.ext E890).keep K899 (ninS n891 nin0))
          have c907 := (A890.keep K899)
          obtain ⟨cq903, kq903, q903a, q903b, q903c⟩ := isOf hZ (rfl : T899.heap = _) c907
          obtain ⟨_, _, ⟨T903, L903, k903, n903⟩, -, X903, ⟨Lc903, hQ903, l903, y903, z903⟩, st903⟩ := X899.virtualBack hx (y := (⟨"com/example/fenda/fenda/analysis/Combination", "of", "([D)D"⟩ : MethodName)) (z := (⟨"com/example/fenda/fenda/analysis/Combination", "of", "([D)D"⟩ : MethodName)) hown (mvT hZ (hW hw 27 rfl)) (mvT hZ (hW hw 28 rfl)) (notFace_of_selects (args := #[]) (mvT hZ (hW hw 30 rfl))) (mvT hZ (hW hw 30 rfl)) (mvT hZ (hW hw 29 rfl)) (by decide) (backOf (W := 0) (rmof_013 l Z a0 hw [] b890 b2 b844 b857 k845 k858 y25_ y29_ y33_ k2 y5_ y9_ y13_ y17_ T899.heap n0 z902 F900 F901 c904 my25_ my29_ my33_ c905 my5_ my9_ my13_ my17_ c906) hZ (hW hw 31 rfl) (hW hw 11 rfl) (by decide) (by decide)) q903a q903c (g := (mkF m 282 (la12 p0 q1 q2 q3 q4 x1 b2 b21 b41 3 b844 b857 u889_ b890) [(.ref b2), (.ref b890)])) rfl (by rw [hml]; rfl) (Steps.refl _) (argsL := [(.ref b2)]) (rest := []) (lenOf pd_4 rfl) rfl (by show 2 * 0 + _ ≤ _; exact Nat.le_of_eq rfl) (hb hby at_282) (fun _ _ => ⟨rfl, (rfl : T899.heap = _), (by decide : 6 + 0 ≤ _), (by decide : 20 + 0 ≤ _)⟩)
          dsimp only [Pt.U, Pt.locs, Pt.cells, Pt.slots] at X903 l903 y903 z903 st903 hQ903
          replace X903 := castX X903 (y903.trans (rfl : _ = 6)) (z903.trans (rfl : _ = 20))
          obtain ⟨r903, rfl, hr903, Nq903, e903⟩ := hQ903
          have N903 : Fr n0 L903 := l903 ▸ Fr.app N899 Nq903
          refine gob (fun _ k => st903.trans k) ?_
          show gO (tF T903 m 285 (la12 p0 q1 q2 q3 q4 x1 b2 b21 b41 3 b844 b857 u889_ b890) [(.double r903)])
          refine gob (fun _ k => XS.dstore X903.here hx rfl (hb hby at_285) rfl (l' := (la13 p0 q1 q2 q3 q4 x1 b2 b21 b41 3 b844 b857 u889_ b890 r903)) rfl k) ?_
          show gO (tF T903 m 287 (la13 p0 q1 q2 q3 q4 x1 b2 b21 b41 3 b844 b857 u889_ b890 r903) [])
          refine gob (fun _ k => XS.dload X903.here hx rfl (hb hby at_287) rfl k) ?_
          show gO (tF T903 m 289 (la13 p0 q1 q2 q3 q4 x1 b2 b21 b41 3 b844 b857 u889_ b890 r903) [(.double r903)])
          refine gob (fun _ k => XS.dload X903.here hx rfl (hb hby at_289) rfl k) ?_
          show gO (tF T903 m 291 (la13 p0 q1 q2 q3 q4 x1 b2 b21 b41 3 b844 b857 u889_ b890 r903) [(.double u889_), (.double r903)])
          have hqr903 : r903 = u889_ := hr903.trans (by rw [hu889_, hu883_, hu877_])
          refine gob (fun _ k => XS.dcmpS X903.here hx rfl (hb hby at_291) rfl (v := (0 : Int32)) (dcmpV_eq hqr903 (by rw [hqr903]; exact (mu889_.fin (by decide)).noNaN) .l) k) ?_
          show gO (tF T903 m 292 (la13 p0 q1 q2 q3 q4 x1 b2 b21 b41 3 b844 b857 u889_ b890 r903) [(.int 0)])
          refine gob (fun _ k => XS.ifNo X903.here hx rfl (hb hby at_292) rfl ((if0 _ _).trans (teq (by decide : (0 : Int32) = (0 : Int32))).2) k) ?_
          show gO (tF T903 m 295 (la13 p0 q1 q2 q3 q4 x1 b2 b21 b41 3 b844 b857 u889_ b890 r903) [])
          refine gob (fun _ k => XS.iconst X903.here hx rfl (hb hby at_295) k) ?_
          show gO (tF T903 m 296 (la13 p0 q1 q2 q3 q4 x1 b2 b21 b41 3 b844 b857 u889_ b890 r903) [(.int 1)])
          refine gob (fun _ k => XS.goto X903.here hx rfl (pc0 := 296) (pc' := 300) rfl (hb hby at_296) (by decide) (by decide) k) ?_
          show gO (tF T903 m 300 (la13 p0 q1 q2 q3 q4 x1 b2 b21 b41 3 b844 b857 u889_ b890 r903) [(.int 1)])
          refine goZ X903 hx hlk (t := .boolean) Bd.returns (by simp) (hb hby at_300) (z' := (1 : Int32)) rfl ?_ (by decide) (by decide)
          show Q0 Z p0 q1 q2 q3 q4 h0 n0 (some (.int (1 : Int32))) T903.heap _
          exact ⟨rfl, N903⟩
      · skip
        refine gob (fun _ k => XS.ifNo X777.here hx rfl (hb hby at_124) rfl ((if0 _ _).trans (feq hc124_779).1) k) ?_
        show gO (tF T777 m 127 (la8 p0 q1 q2 q3 q4 x1 b2 b21 b41 2) [])
        refine gob (fun _ k => XS.aload X777.here hx rfl (hb hby at_127) rfl rfl k) ?_
        show gO (tF T777 m 129 (la8 p0 q1 q2 q3 q4 x1 b2 b21 b41 2) [(.ref b41)])
        refine gob (fun _ k => XS.iload X777.here hx rfl (hb hby at_129) rfl k) ?_
        show gO (tF T777 m 131 (la8 p0 q1 q2 q3 q4 x1 b2 b21 b41 2) [(.int 2), (.ref b41)])
        refine gob (fun _ k => XS.iconst X777.here hx rfl (hb hby at_131) k) ?_
        show gO (tF T777 m 132 (la8 p0 q1 q2 q3 q4 x1 b2 b21 b41 2) [(.int 2), (.int 2), (.ref b41)])
        obtain ⟨cl908, Ar908, aq908, S908, N908, H908, G908⟩ := id V777
        have hin908 : ¬ ((2 : Int32) < 0 ∨ cl908.slots.size ≤ ((2 : Int32)).toNatClampNeg) := inb_of S908 ⟨by decide, by decide⟩
        obtain ⟨T909, h909, X909, e909, W909, st909⟩ := stI X777 hx hZ e777 Ar908 (j := (2 : Int32)) hin908 (g := (mkF m 132 (la8 p0 q1 q2 q3 q4 x1 b2 b21 b41 2) [(.int 2), (.int 2), (.ref b41)])) rfl rfl (hb hby at_132)
        refine gob st909 ?_
        have z910 : n0 ≤ h909.size := Nat.le_trans z778 (Keep.of_wr W909).1
        have N909 := Fr.snoc X909 N777 g45
        have V909 : Arv Z h909 b41 k41 .int (4 : Int32) [(.int 0), (.int 1), (.int 2), (.int 0)] (.int 0) := Arv.set Ar908 aq908 S908 N908 H908 G908 rfl W909 2 rfl (Nat.le_of_ble_eq_true rfl)
        show gO (tF T909 m 133 (la8 p0 q1 q2 q3 q4 x1 b2 b21 b41 2) [])
        refine gob (fun _ k => XS.iinc X909.here hx rfl (hb hby at_133) rfl (l' := (la8 p0 q1 q2 q3 q4 x1 b2 b21 b41 3)) rfl k) ?_
        show gO (tF T909 m 136 (la8 p0 q1 q2 q3 q4 x1 b2 b21 b41 3) [])
        refine gob (fun _ k => XS.iload X909.here hx rfl (hb hby at_136) rfl k) ?_
        show gO (tF T909 m 138 (la8 p0 q1 q2 q3 q4 x1 b2 b21 b41 3) [(.int x1)])
        refine gob (fun _ k => XS.bipush X909.here hx rfl (hb hby at_138) k) ?_
        show gO (tF T909 m 140 (la8 p0 q1 q2 q3 q4 x1 b2 b21 b41 3) [(.int 8), (.int x1)])
        refine gob (fun _ k => XS.iand X909.here hx rfl (hb hby at_140) rfl k) ?_
        show gO (tF T909 m 141 (la8 p0 q1 q2 q3 q4 x1 b2 b21 b41 3) [(.int (x1 &&& (8 : Int32)))])
        by_cases hc141_911 : (x1 &&& (8 : Int32)) = (0 : Int32)
        · skip
          refine gob (fun _ k => XS.ifYes X909.here hx rfl (pc0 := 141) (pc' := 153) rfl (hb hby at_141) rfl ((if0 _ _).trans (teq hc141_911).1) (by decide) (by decide) k) ?_
          show gO (tF T909 m 153 (la8 p0 q1 q2 q3 q4 x1 b2 b21 b41 3) [])
          refine gob (fun _ k => XS.aload X909.here hx rfl (hb hby at_153) rfl rfl k) ?_
          show gO (tF T909 m 155 (la8 p0 q1 q2 q3 q4 x1 b2 b21 b41 3) [(.ref b41)])
          refine gob (fun _ k => XS.iload X909.here hx rfl (hb hby at_155) rfl k) ?_
          show gO (tF T909 m 157 (la8 p0 q1 q2 q3 q4 x1 b2 b21 b41 3) [(.int 3), (.ref b41)])
          obtain ⟨_, _, ⟨T912, L912, k912, n912⟩, -, X912, ⟨Lc912, hQ912, l912, y912, z912⟩, st912⟩ := Jvm.LawKit.callS X909 hx (y := (⟨"com/example/fenda/fenda/analysis/CombinationOfPinLaw", "prefixInt", "([II)[I"⟩ : MethodName)) hown (mvT hZ (hW hw 2 rfl)) (mvT hZ (hW hw 3 rfl)) (mvT hZ (hW hw 4 rfl)) (mvT hZ (hW hw 5 rfl)) (by decide) (backOf (W := 0) (rmpi3 l Z a0 hw [] b41 k41 (0 : Int32) (1 : Int32) (2 : Int32) (0 : Int32) h909 n0 z910 V909) hZ (hW hw 5 rfl) (hW hw 4 rfl) (by decide) (by decide)) (g := (mkF m 157 (la8 p0 q1 q2 q3 q4 x1 b2 b21 b41 3) [(.int 3), (.ref b41)])) rfl (by rw [hml]; rfl) (argsL := [(.ref b41), (.int 3)]) (rest := []) (lenOf pd_1 rfl) rfl (by show 2 * 0 + _ ≤ _; exact Nat.le_of_eq rfl) (hb hby at_157) (fun _ _ => ⟨rfl, e909, (by decide : 3 + 1 ≤ _), (by decide : 12 + 3 ≤ _)⟩)
          dsimp only [Pt.U, Pt.locs, Pt.cells, Pt.slots] at X912 l912 y912 z912 st912 hQ912
          replace X912 := castX X912 (y912.trans (rfl : _ = 4)) (z912.trans (rfl : _ = 15))
          obtain ⟨b913, k914, rfl, Nq912, K912, hz915, F916⟩ := hQ912
          have N912 : Fr n0 L912 := l912 ▸ Fr.app N909 Nq912
          have c918 := ((((c42.ext E41).other W525 n43).other W777 n43).other W909 n43)
          have n917 : b2 ≠ b913 := Nat.ne_of_lt (Nat.lt_of_lt_of_le c918.lt hz915)
          have c920 := ((((V39.ext E41).other W525 n44).other W777 n44).other W909 n44)
          have n919 : b21 ≠ b913 := Nat.ne_of_lt (Nat.lt_of_lt_of_le c920.lt hz915)
          have n921 : b41 ≠ b913 := Nat.ne_of_lt (Nat.lt_of_lt_of_le V909.lt hz915)
          have g922 : n0 ≤ b913 := Nat.le_trans z910 hz915
          have z923 : n0 ≤ T912.heap.size := Nat.le_trans z910 K912.1
          refine gob st912 ?_
          show gO (tF T912 m 160 (la8 p0 q1 q2 q3 q4 x1 b2 b21 b41 3) [(.ref b913)])
          refine gob (fun _ k => XS.astore X912.here hx rfl (hb hby at_160) rfl rfl (l' := (la9 p0 q1 q2 q3 q4 x1 b2 b21 b41 3 b913)) rfl k) ?_
          show gO (tF T912 m 162 (la9 p0 q1 q2 q3 q4 x1 b2 b21 b41 3 b913) [])
          refine gob (fun _ k => XS.aload X912.here hx rfl (hb hby at_162) rfl rfl k) ?_
          show gO (tF T912 m 164 (la9 p0 q1 q2 q3 q4 x1 b2 b21 b41 3 b913) [(.ref b21)])
          refine gob (fun _ k => XS.iload X912.here hx rfl (hb hby at_164) rfl k) ?_
          show gO (tF T912 m 166 (la9 p0 q1 q2 q3 q4 x1 b2 b21 b41 3 b913) [(.int 3), (.ref b21)])
          have c925 := (c920.keep K912 nin0)
          obtain ⟨_, _, ⟨T924, L924, k924, n924⟩, -, X924, ⟨Lc924, hQ924, l924, y924, z924⟩, st924⟩ := Jvm.LawKit.callS X912 hx (y := (⟨"com/example/fenda/fenda/analysis/CombinationOfPinLaw", "prefixDouble", "([DI)[D"⟩ : MethodName)) hown (mvT hZ (hW hw 6 rfl)) (mvT hZ (hW hw 7 rfl)) (mvT hZ (hW hw 4 rfl)) (mvT hZ (hW hw 8 rfl)) (by decide) (backOf (W := 0) (rmpd3 l Z a0 hw [] b21 k21 y25_ y29_ y33_ y37_ T912.heap n0 z923 c925) hZ (hW hw 8 rfl) (hW hw 4 rfl) (by decide) (by decide)) (g := (mkF m 166 (la9 p0 q1 q2 q3 q4 x1 b2 b21 b41 3 b913) [(.int 3), (.ref b21)])) rfl (by rw [hml]; rfl) (argsL := [(.ref b21), (.int 3)]) (rest := []) (lenOf pd_2 rfl) rfl (by show 2 * 0 + _ ≤ _; exact Nat.le_of_eq rfl) (hb hby at_166) (fun _ _ => ⟨rfl, (rfl : T912.heap = _), (by decide : 4 + 1 ≤ _), (by decide : 15 + 3 ≤ _)⟩)
          dsimp only [Pt.U, Pt.locs, Pt.cells, Pt.slots] at X924 l924 y924 z924 st924 hQ924
          replace X924 := castX X924 (y924.trans (rfl : _ = 5)) (z924.trans (rfl : _ = 18))
          obtain ⟨b926, k927, rfl, Nq924, K924, hz928, F929⟩ := hQ924
          have N924 : Fr n0 L924 := l924 ▸ Fr.app N912 Nq924
          have c931 := (c918.keep K912 nin0)
          have n930 : b2 ≠ b926 := Nat.ne_of_lt (Nat.lt_of_lt_of_le c931.lt hz928)
          have n932 : b21 ≠ b926 := Nat.ne_of_lt (Nat.lt_of_lt_of_le c925.lt hz928)
          have c934 := (V909.keep K912 nin0)
          have n933 : b41 ≠ b926 := Nat.ne_of_lt (Nat.lt_of_lt_of_le c934.lt hz928)
          have n935 : b913 ≠ b926 := Nat.ne_of_lt (Nat.lt_of_lt_of_le F916.lt hz928)
          have g936 : n0 ≤ b926 := Nat.le_trans z923 hz928
          have z937 : n0 ≤ T924.heap.size := Nat.le_trans z923 K924.1
          refine gob st924 ?_
          show gO (tF T924 m 169 (la9 p0 q1 q2 q3 q4 x1 b2 b21 b41 3 b913) [(.ref b926)])
          refine gob (fun _ k => XS.astore X924.here hx rfl (hb hby at_169) rfl rfl (l' := (la10 p0 q1 q2 q3 q4 x1 b2 b21 b41 3 b913 b926)) rfl k) ?_
          show gO (tF T924 m 171 (la10 p0 q1 q2 q3 q4 x1 b2 b21 b41 3 b913 b926) [])
          refine gob (fun _ k => XS.dconst0 X924.here hx rfl (hb hby at_171) (v := (0 : UInt64)) (by decide +kernel) k) ?_
          show gO (tF T924 m 172 (la10 p0 q1 q2 q3 q4 x1 b2 b21 b41 3 b913 b926) [(.double (0 : UInt64))])
          refine gob (fun _ k => XS.dstore X924.here hx rfl (hb hby at_172) rfl (l' := (la11 p0 q1 q2 q3 q4 x1 b2 b21 b41 3 b913 b926 (0 : UInt64))) rfl k) ?_
          show gO (tF T924 m 174 (la11 p0 q1 q2 q3 q4 x1 b2 b21 b41 3 b913 b926 (0 : UInt64)) [])
          refine gob (fun _ k => XS.iload X924.here hx rfl (hb hby at_174) rfl k) ?_
          show gO (tF T924 m 176 (la11 p0 q1 q2 q3 q4 x1 b2 b21 b41 3 b913 b926 (0 : UInt64)) [(.int 3)])
          refine gob (fun _ k => XS.ifNo X924.here hx rfl (hb hby at_176) rfl ((if0 _ _).trans (tlt (by decide : (0 : Int32) < (3 : Int32))).2.2.2) k) ?_
          show gO (tF T924 m 179 (la11 p0 q1 q2 q3 q4 x1 b2 b21 b41 3 b913 b926 (0 : UInt64)) [])
          refine gob (fun _ k => XS.dload X924.here hx rfl (hb hby at_179) rfl k) ?_
          show gO (tF T924 m 181 (la11 p0 q1 q2 q3 q4 x1 b2 b21 b41 3 b913 b926 (0 : UInt64)) [(.double (0 : UInt64))])
          refine gob (fun _ k => XS.aload X924.here hx rfl (hb hby at_181) rfl rfl k) ?_
          show gO (tF T924 m 183 (la11 p0 q1 q2 q3 q4 x1 b2 b21 b41 3 b913 b926 (0 : UInt64)) [(.ref b21), (.double (0 : UInt64))])
          refine gob (fun _ k => XS.iconst X924.here hx rfl (hb hby at_183) k) ?_
          show gO (tF T924 m 184 (la11 p0 q1 q2 q3 q4 x1 b2 b21 b41 3 b913 b926 (0 : UInt64)) [(.int 0), (.ref b21), (.double (0 : UInt64))])
          have c939 := (c925.keep K924 nin0)
          obtain ⟨cl938, Ar938, aq938, S938, N938, H938, G938⟩ := id c939
          have hin938 : ¬ ((0 : Int32) < 0 ∨ cl938.slots.size ≤ ((0 : Int32)).toNatClampNeg) := inb_of S938 ⟨by decide, by decide⟩
          refine gob (X924.daload hx (j := (0 : Int32)) (v := (.double y25_)) (by rw [(rfl : T924.heap = _)]; exact Ar938.1) (State.isArrayOf_alike hZ.alike Ar938.2.1) Ar938.2.2 hin938 (Has.at H938 hin938 rfl) (g := (mkF m 184 (la11 p0 q1 q2 q3 q4 x1 b2 b21 b41 3 b913 b926 (0 : UInt64)) [(.int 0), (.ref b21), (.double (0 : UInt64))])) rfl rfl (hb hby at_184)) ?_
          show gO (tF T924 m 185 (la11 p0 q1 q2 q3 q4 x1 b2 b21 b41 3 b913 b926 (0 : UInt64)) [(.double y25_), (.double (0 : UInt64))])
          refine gob (fun _ k => XS.aload X924.here hx rfl (hb hby at_185) rfl rfl k) ?_
          show gO (tF T924 m 187 (la11 p0 q1 q2 q3 q4 x1 b2 b21 b41 3 b913 b926 (0 : UInt64)) [(.ref b2), (.double y25_), (.double (0 : UInt64))])
          refine gob (fun _ k => XS.aload X924.here hx rfl (hb hby at_187) rfl rfl k) ?_
          show gO (tF T924 m 189 (la11 p0 q1 q2 q3 q4 x1 b2 b21 b41 3 b913 b926 (0 : UInt64)) [(.ref b41), (.ref b2), (.double y25_), (.double (0 : UInt64))])
          refine gob (fun _ k => XS.iconst X924.here hx rfl (hb hby at_189) k) ?_
          show gO (tF T924 m 190 (la11 p0 q1 q2 q3 q4 x1 b2 b21 b41 3 b913 b926 (0 : UInt64)) [(.int 0), (.ref b41), (.ref b2), (.double y25_), (.double (0 : UInt64))])
          have c941 := (c934.keep K924 nin0)
          obtain ⟨cl940, Ar940, aq940, S940, N940, H940, G940⟩ := id c941
          have hin940 : ¬ ((0 : Int32) < 0 ∨ cl940.slots.size ≤ ((0 : Int32)).toNatClampNeg) := inb_of S940 ⟨by decide, by decide⟩
          refine gob (X924.iaload hx (j := (0 : Int32)) (v := (.int 0)) (by rw [(rfl : T924.heap = _)]; exact Ar940.1) (State.isArrayOf_alike hZ.alike Ar940.2.1) Ar940.2.2 hin940 (Has.at H940 hin940 rfl) (g := (mkF m 190 (la11 p0 q1 q2 q3 q4 x1 b2 b21 b41 3 b913 b926 (0 : UInt64)) [(.int 0), (.ref b41), (.ref b2), (.double y25_), (.double (0 : UInt64))])) rfl rfl (hb hby at_190)) ?_
          show gO (tF T924 m 191 (la11 p0 q1 q2 q3 q4 x1 b2 b21 b41 3 b913 b926 (0 : UInt64)) [(.int 0), (.ref b2), (.double y25_), (.double (0 : UInt64))])
          have c943 := (c931.keep K924 nin0)
          obtain ⟨cl942, Ar942, aq942, S942, N942, H942, G942⟩ := id c943
          have hin942 : ¬ ((0 : Int32) < 0 ∨ cl942.slots.size ≤ ((0 : Int32)).toNatClampNeg) := inb_of S942 ⟨by decide, by decide⟩
          refine gob (X924.daload hx (j := (0 : Int32)) (v := (.double y5_)) (by rw [(rfl : T924.heap = _)]; exact Ar942.1) (State.isArrayOf_alike hZ.alike Ar942.2.1) Ar942.2.2 hin942 (Has.at H942 hin942 rfl) (g := (mkF m 191 (la11 p0 q1 q2 q3 q4 x1 b2 b21 b41 3 b913 b926 (0 : UInt64)) [(.int 0), (.ref b2), (.double y25_), (.double (0 : UInt64))])) rfl rfl (hb hby at_191)) ?_
          show gO (tF T924 m 192 (la11 p0 q1 q2 q3 q4 x1 b2 b21 b41 3 b913 b926 (0 : UInt64)) [(.double y5_), (.double y25_), (.double (0 : UInt64))])
          have mg944 : Mag64 1090 (FP.dmul y25_ y5_) := own_dmul my25_ my5_ (by decide) (by decide) (by decide)
          refine gob (fun _ k => XS.dmulS X924.here hx rfl (hb hby at_192) rfl (v := (FP.dmul y25_ y5_)) (mg944.fin (by decide)).noNaN rfl k) ?_
          show gO (tF T924 m 193 (la11 p0 q1 q2 q3 q4 x1 b2 b21 b41 3 b913 b926 (0 : UInt64)) [(.double (FP.dmul y25_ y5_)), (.double (0 : UInt64))])
          have mg945 : Mag64 1092 (FP.dadd (0 : UInt64) (FP.dmul y25_ y5_)) := own_dadd (K := 1090) (own_m0.mono (by decide)) (mg944.mono (by decide)) (by decide) (by decide)
          refine gob (fun _ k => XS.daddS X924.here hx rfl (hb hby at_193) rfl (v := (FP.dadd (0 : UInt64) (FP.dmul y25_ y5_))) (mg945.fin (by decide)).noNaN rfl k) ?_
          show gO (tF T924 m 194 (la11 p0 q1 q2 q3 q4 x1 b2 b21 b41 3 b913 b926 (0 : UInt64)) [(.double (FP.dadd (0 : UInt64) (FP.dmul y25_ y5_)))])
          obtain ⟨u946_, hu946_⟩ : ∃ z, z = (FP.dadd (0 : UInt64) (FP.dmul y25_ y5_)) := ⟨_, rfl⟩
          have mu946_ : Mag64 1092 u946_ := by rw [hu946_]; exact mg945
          rw [← hu946_]
          show gO (tF T924 m 194 (la11 p0 q1 q2 q3 q4 x1 b2 b21 b41 3 b913 b926 (0 : UInt64)) [(.double u946_)])
          refine gob (fun _ k => XS.dstore X924.here hx rfl (hb hby at_194) rfl (l' := (la11 p0 q1 q2 q3 q4 x1 b2 b21 b41 3 b913 b926 u946_)) rfl k) ?_
          show gO (tF T924 m 196 (la11 p0 q1 q2 q3 q4 x1 b2 b21 b41 3 b913 b926 u946_) [])
          refine gob (fun _ k => XS.iload X924.here hx rfl (hb hby at_196) rfl k) ?_
          show gO (tF T924 m 198 (la11 p0 q1 q2 q3 q4 x1 b2 b21 b41 3 b913 b926 u946_) [(.int 3)])
          refine gob (fun _ k => XS.iconst X924.here hx rfl (hb hby at_198) k) ?_
          show gO (tF T924 m 199 (la11 p0 q1 q2 q3 q4 x1 b2 b21 b41 3 b913 b926 u946_) [(.int 1), (.int 3)])
          refine gob (fun _ k => XS.icmpNo X924.here hx rfl (hb hby at_199) rfl (tlt (by decide : (1 : Int32) < (3 : Int32))).2.2.2 k) ?_
          show gO (tF T924 m 202 (la11 p0 q1 q2 q3 q4 x1 b2 b21 b41 3 b913 b926 u946_) [])
          refine gob (fun _ k => XS.dload X924.here hx rfl (hb hby at_202) rfl k) ?_
          show gO (tF T924 m 204 (la11 p0 q1 q2 q3 q4 x1 b2 b21 b41 3 b913 b926 u946_) [(.double u946_)])
          refine gob (fun _ k => XS.aload X924.here hx rfl (hb hby at_204) rfl rfl k) ?_
          show gO (tF T924 m 206 (la11 p0 q1 q2 q3 q4 x1 b2 b21 b41 3 b913 b926 u946_) [(.ref b21), (.double u946_)])
          refine gob (fun _ k => XS.iconst X924.here hx rfl (hb hby at_206) k) ?_
          show gO (tF T924 m 207 (la11 p0 q1 q2 q3 q4 x1 b2 b21 b41 3 b913 b926 u946_) [(.int 1), (.ref b21), (.double u946_)])
          obtain ⟨cl947, Ar947, aq947, S947, N947, H947, G947⟩ := id c939
          have hin947 : ¬ ((1 : Int32) < 0 ∨ cl947.slots.size ≤ ((1 : Int32)).toNatClampNeg) := inb_of S947 ⟨by decide, by decide⟩
          refine gob (X924.daload hx (j := (1 : Int32)) (v := (.double y29_)) (by rw [(rfl : T924.heap = _)]; exact Ar947.1) (State.isArrayOf_alike hZ.alike Ar947.2.1) Ar947.2.2 hin947 (Has.at H947 hin947 rfl) (g := (mkF m 207 (la11 p0 q1 q2 q3 q4 x1 b2 b21 b41 3 b913 b926 u946_) [(.int 1), (.ref b21), (.double u946_)])) rfl rfl (hb hby at_207)) ?_
          show gO (tF T924 m 208 (la11 p0 q1 q2 q3 q4 x1 b2 b21 b41 3 b913 b926 u946_) [(.double y29_), (.double u946_)])
          refine gob (fun _ k => XS.aload X924.here hx rfl (hb hby at_208) rfl rfl k) ?_
          show gO (tF T924 m 210 (la11 p0 q1 q2 q3 q4 x1 b2 b21 b41 3 b913 b926 u946_) [(.ref b2), (.double y29_), (.double u946_)])
          refine gob (fun _ k => XS.aload X924.here hx rfl (hb hby at_210) rfl rfl k) ?_
          show gO (tF T924 m 212 (la11 p0 q1 q2 q3 q4 x1 b2 b21 b41 3 b913 b926 u946_) [(.ref b41), (.ref b2), (.double y29_), (.double u946_)])
          refine gob (fun _ k => XS.iconst X924.here hx rfl (hb hby at_212) k) ?_
          show gO (tF T924 m 213 (la11 p0 q1 q2 q3 q4 x1 b2 b21 b41 3 b913 b926 u946_) [(.int 1), (.ref b41), (.ref b2), (.double y29_), (.double u946_)])
          obtain ⟨cl948, Ar948, aq948, S948, N948, H948, G948⟩ := id c941
          have hin948 : ¬ ((1 : Int32) < 0 ∨ cl948.slots.size ≤ ((1 : Int32)).toNatClampNeg) := inb_of S948 ⟨by decide, by decide⟩
          refine gob (X924.iaload hx (j := (1 : Int32)) (v := (.int 1)) (by rw [(rfl : T924.heap = _)]; exact Ar948.1) (State.isArrayOf_alike hZ.alike Ar948.2.1) Ar948.2.2 hin948 (Has.at H948 hin948 rfl) (g := (mkF m 213 (la11 p0 q1 q2 q3 q4 x1 b2 b21 b41 3 b913 b926 u946_) [(.int 1), (.ref b41), (.ref b2), (.double y29_), (.double u946_)])) rfl rfl (hb hby at_213)) ?_
          show gO (tF T924 m 214 (la11 p0 q1 q2 q3 q4 x1 b2 b21 b41 3 b913 b926 u946_) [(.int 1), (.ref b2), (.double y29_), (.double u946_)])
          obtain ⟨cl949, Ar949, aq949, S949, N949, H949, G949⟩ := id c943
          have hin949 : ¬ ((1 : Int32) < 0 ∨ cl949.slots.size ≤ ((1 : Int32)).toNatClampNeg) := inb_of S949 ⟨by decide, by decide⟩
          refine gob (X924.daload hx (j := (1 : Int32)) (v := (.double y9_)) (by rw [(rfl : T924.heap = _)]; exact Ar949.1) (State.isArrayOf_alike hZ.alike Ar949.2.1) Ar949.2.2 hin949 (Has.at H949 hin949 rfl) (g := (mkF m 214 (la11 p0 q1 q2 q3 q4 x1 b2 b21 b41 3 b913 b926 u946_) [(.int 1), (.ref b2), (.double y29_), (.double u946_)])) rfl rfl (hb hby at_214)) ?_
          show gO (tF T924 m 215 (la11 p0 q1 q2 q3 q4 x1 b2 b21 b41 3 b913 b926 u946_) [(.double y9_), (.double y29_), (.double u946_)])
          have mg950 : Mag64 1090 (FP.dmul y29_ y9_) := own_dmul my29_ my9_ (by decide) (by decide) (by decide)
          refine gob (fun _ k => XS.dmulS X924.here hx rfl (hb hby at_215) rfl (v := (FP.dmul y29_ y9_)) (mg950.fin (by decide)).noNaN rfl k) ?_
          show gO (tF T924 m 216 (la11 p0 q1 q2 q3 q4 x1 b2 b21 b41 3 b913 b926 u946_) [(.double (FP.dmul y29_ y9_)), (.double u946_)])
          have mg951 : Mag64 1094 (FP.dadd u946_ (FP.dmul y29_ y9_)) := own_dadd (K := 1092) (mu946_.mono (by decide)) (mg950.mono (by decide)) (by decide) (by decide)
          refine gob (fun _ k => XS.daddS X924.here hx rfl (hb hby at_216) rfl (v := (FP.dadd u946_ (FP.dmul y29_ y9_))) (mg951.fin (by decide)).noNaN rfl k) ?_
          show gO (tF T924 m 217 (la11 p0 q1 q2 q3 q4 x1 b2 b21 b41 3 b913 b926 u946_) [(.double (FP.dadd u946_ (FP.dmul y29_ y9_)))])
          obtain ⟨u952_, hu952_⟩ : ∃ z, z = (FP.dadd u946_ (FP.dmul y29_ y9_)) := ⟨_, rfl⟩
          have mu952_ : Mag64 1094 u952_ := by rw [hu952_]; exact mg951
          rw [← hu952_]
          show gO (tF T924 m 217 (la11 p0 q1 q2 q3 q4 x1 b2 b21 b41 3 b913 b926 u946_) [(.double u952_)])
          refine gob (fun _ k => XS.dstore X924.here hx rfl (hb hby at_217) rfl (l' := (la11 p0 q1 q2 q3 q4 x1 b2 b21 b41 3 b913 b926 u952_)) rfl k) ?_
          show gO (tF T924 m 219 (la11 p0 q1 q2 q3 q4 x1 b2 b21 b41 3 b913 b926 u952_) [])
          refine gob (fun _ k => XS.iload X924.here hx rfl (hb hby at_219) rfl k) ?_
          show gO (tF T924 m 221 (la11 p0 q1 q2 q3 q4 x1 b2 b21 b41 3 b913 b926 u952_) [(.int 3)])
          refine gob (fun _ k => XS.iconst X924.here hx rfl (hb hby at_221) k) ?_
          show gO (tF T924 m 222 (la11 p0 q1 q2 q3 q4 x1 b2 b21 b41 3 b913 b926 u952_) [(.int 2), (.int 3)])
          refine gob (fun _ k => XS.icmpNo X924.here hx rfl (hb hby at_222) rfl (tlt (by decide : (2 : Int32) < (3 : Int32))).2.2.2 k) ?_
          show gO (tF T924 m 225 (la11 p0 q1 q2 q3 q4 x1 b2 b21 b41 3 b913 b926 u952_) [])
          refine gob (fun _ k => XS.dload X924.here hx rfl (hb hby at_225) rfl k) ?_
          show gO (tF T924 m 227 (la11 p0 q1 q2 q3 q4 x1 b2 b21 b41 3 b913 b926 u952_) [(.double u952_)])
          refine gob (fun _ k => XS.aload X924.here hx rfl (hb hby at_227) rfl rfl k) ?_
          show gO (tF T924 m 229 (la11 p0 q1 q2 q3 q4 x1 b2 b21 b41 3 b913 b926 u952_) [(.ref b21), (.double u952_)])
          refine gob (fun _ k => XS.iconst X924.here hx rfl (hb hby at_229) k) ?_
          show gO (tF T924 m 230 (la11 p0 q1 q2 q3 q4 x1 b2 b21 b41 3 b913 b926 u952_) [(.int 2), (.ref b21), (.double u952_)])
          obtain ⟨cl953, Ar953, aq953, S953, N953, H953, G953⟩ := id c939
          have hin953 : ¬ ((2 : Int32) < 0 ∨ cl953.slots.size ≤ ((2 : Int32)).toNatClampNeg) := inb_of S953 ⟨by decide, by decide⟩
          refine gob (X924.daload hx (j := (2 : Int32)) (v := (.double y33_)) (by rw [(rfl : T924.heap = _)]; exact Ar953.1) (State.isArrayOf_alike hZ.alike Ar953.2.1) Ar953.2.2 hin953 (Has.at H953 hin953 rfl) (g := (mkF m 230 (la11 p0 q1 q2 q3 q4 x1 b2 b21 b41 3 b913 b926 u952_) [(.int 2), (.ref b21), (.double u952_)])) rfl rfl (hb hby at_230)) ?_
          show gO (tF T924 m 231 (la11 p0 q1 q2 q3 q4 x1 b2 b21 b41 3 b913 b926 u952_) [(.double y33_), (.double u952_)])
          refine gob (fun _ k => XS.aload X924.here hx rfl (hb hby at_231) rfl rfl k) ?_
          show gO (tF T924 m 233 (la11 p0 q1 q2 q3 q4 x1 b2 b21 b41 3 b913 b926 u952_) [(.ref b2), (.double y33_), (.double u952_)])
          refine gob (fun _ k => XS.aload X924.here hx rfl (hb hby at_233) rfl rfl k) ?_
          show gO (tF T924 m 235 (la11 p0 q1 q2 q3 q4 x1 b2 b21 b41 3 b913 b926 u952_) [(.ref b41), (.ref b2), (.double y33_), (.double u952_)])
          refine gob (fun _ k => XS.iconst X924.here hx rfl (hb hby at_235) k) ?_
          show gO (tF T924 m 236 (la11 p0 q1 q2 q3 q4 x1 b2 b21 b41 3 b913 b926 u952_) [(.int 2), (.ref b41), (.ref b2), (.double y33_), (.double u952_)])
          obtain ⟨cl954, Ar954, aq954, S954, N954, H954, G954⟩ := id c941
          have hin954 : ¬ ((2 : Int32) < 0 ∨ cl954.slots.size ≤ ((2 : Int32)).toNatClampNeg) := inb_of S954 ⟨by decide, by decide⟩
          refine gob (X924.iaload hx (j := (2 : Int32)) (v := (.int 2)) (by rw [(rfl : T924.heap = _)]; exact Ar954.1) (State.isArrayOf_alike hZ.alike Ar954.2.1) Ar954.2.2 hin954 (Has.at H954 hin954 rfl) (g := (mkF m 236 (la11 p0 q1 q2 q3 q4 x1 b2 b21 b41 3 b913 b926 u952_) [(.int 2), (.ref b41), (.ref b2), (.double y33_), (.double u952_)])) rfl rfl (hb hby at_236)) ?_
          show gO (tF T924 m 237 (la11 p0 q1 q2 q3 q4 x1 b2 b21 b41 3 b913 b926 u952_) [(.int 2), (.ref b2), (.double y33_), (.double u952_)])
          obtain ⟨cl955, Ar955, aq955, S955, N955, H955, G955⟩ := id c943
          have hin955 : ¬ ((2 : Int32) < 0 ∨ cl955.slots.size ≤ ((2 : Int32)).toNatClampNeg) := inb_of S955 ⟨by decide, by decide⟩
          refine gob (X924.daload hx (j := (2 : Int32)) (v := (.double y13_)) (by rw [(rfl : T924.heap = _)]; exact Ar955.1) (State.isArrayOf_alike hZ.alike Ar955.2.1) Ar955.2.2 hin955 (Has.at H955 hin955 rfl) (g := (mkF m 237 (la11 p0 q1 q2 q3 q4 x1 b2 b21 b41 3 b913 b926 u952_) [(.int 2), (.ref b2), (.double y33_), (.double u952_)])) rfl rfl (hb hby at_237)) ?_
          show gO (tF T924 m 238 (la11 p0 q1 q2 q3 q4 x1 b2 b21 b41 3 b913 b926 u952_) [(.double y13_), (.double y33_), (.double u952_)])
          have mg956 : Mag64 1090 (FP.dmul y33_ y13_) := own_dmul my33_ my13_ (by decide) (by decide) (by decide)
          refine gob (fun _ k => XS.dmulS X924.here hx rfl (hb hby at_238) rfl (v := (FP.dmul y33_ y13_)) (mg956.fin (by decide)).noNaN rfl k) ?_
          show gO (tF T924 m 239 (la11 p0 q1 q2 q3 q4 x1 b2 b21 b41 3 b913 b926 u952_) [(.double (FP.dmul y33_ y13_)), (.double u952_)])
          have mg957 : Mag64 1096 (FP.dadd u952_ (FP.dmul y33_ y13_)) := own_dadd (K := 1094) (mu952_.mono (by decide)) (mg956.mono (by decide)) (by decide) (by decide)
          refine gob (fun _ k => XS.daddS X924.here hx rfl (hb hby at_239) rfl (v := (FP.dadd u952_ (FP.dmul y33_ y13_))) (mg957.fin (by decide)).noNaN rfl k) ?_
          show gO (tF T924 m 240 (la11 p0 q1 q2 q3 q4 x1 b2 b21 b41 3 b913 b926 u952_) [(.double (FP.dadd u952_ (FP.dmul y33_ y13_)))])
          obtain ⟨u958_, hu958_⟩ : ∃ z, z = (FP.dadd u952_ (FP.dmul y33_ y13_)) := ⟨_, rfl⟩
          have mu958_ : Mag64 1096 u958_ := by rw [hu958_]; exact mg957
          rw [← hu958_]
          show gO (tF T924 m 240 (la11 p0 q1 q2 q3 q4 x1 b2 b21 b41 3 b913 b926 u952_) [(.double u958_)])
          refine gob (fun _ k => XS.dstore X924.here hx rfl (hb hby at_240) rfl (l' := (la11 p0 q1 q2 q3 q4 x1 b2 b21 b41 3 b913 b926 u958_)) rfl k) ?_
          show gO (tF T924 m 242 (la11 p0 q1 q2 q3 q4 x1 b2 b21 b41 3 b913 b926 u958_) [])
          refine gob (fun _ k => XS.iload X924.here hx rfl (hb hby at_242) rfl k) ?_
          show gO (tF T924 m 244 (la11 p0 q1 q2 q3 q4 x1 b2 b21 b41 3 b913 b926 u958_) [(.int 3)])
          refine gob (fun _ k => XS.iconst X924.here hx rfl (hb hby at_244) k) ?_
          show gO (tF T924 m 245 (la11 p0 q1 q2 q3 q4 x1 b2 b21 b41 3 b913 b926 u958_) [(.int 3), (.int 3)])
          refine gob (fun _ k => XS.icmpYes X924.here hx rfl (pc0 := 245) (pc' := 265) rfl (hb hby at_245) rfl (flt (by decide : ¬ ((3 : Int32) < (3 : Int32)))).2.2.2 (by decide) (by decide) k) ?_
          show gO (tF T924 m 265 (la11 p0 q1 q2 q3 q4 x1 b2 b21 b41 3 b913 b926 u958_) [])
          obtain ⟨T959, h959, X959, e959, E959, A959, D959, -, st959⟩ := newO X924 hx hZ hown (hW hw 9 rfl) (hW hw 10 rfl) (hW hw 11 rfl) (rfl : T924.heap = _) (g := (mkF m 265 (la11 p0 q1 q2 q3 q4 x1 b2 b21 b41 3 b913 b926 u958_) [])) rfl (hb hby at_265) (by decide) (by decide)
          obtain ⟨b959, g959⟩ : ∃ z, z = T924.heap.size := ⟨_, rfl⟩
          rw [← g959] at A959 D959 st959
          have n960 : b2 ≠ b959 := Nat.ne_of_lt (Nat.lt_of_lt_of_le c943.lt (Nat.le_of_eq g959.symm))
          have n961 : b21 ≠ b959 := Nat.ne_of_lt (Nat.lt_of_lt_of_le c939.lt (Nat.le_of_eq g959.symm))
          have n962 : b41 ≠ b959 := Nat.ne_of_lt (Nat.lt_of_lt_of_le c941.lt (Nat.le_of_eq g959.symm))
          have c963 := (F916.keep K924 nin0)
          have n964 : b913 ≠ b959 := Nat.ne_of_lt (Nat.lt_of_lt_of_le c963.lt (Nat.le_of_eq g959.symm))
          have n965 : b926 ≠ b959 := Nat.ne_of_lt (Nat.lt_of_lt_of_le F929.lt (Nat.le_of_eq g959.symm))
          have g966 : n0 ≤ b959 := Nat.le_trans z937 (Nat.le_of_eq g959.symm)
          have z967 : n0 ≤ h959.size := Nat.le_trans z937 E959.1
          have F959_dofs : Fld Z h959 b959 "com/example/fenda/fenda/analysis/Combination" "dofs" "[I" .null := D959 (Or.inr (hW hw 24 rfl)) (ty := (.array .int)) (by decide)
          have F959_weights : Fld Z h959 b959 "com/example/fenda/fenda/analysis/Combination" "weights" "[D" .null := D959 (Or.inr (hW hw 26 rfl)) (ty := (.array .double)) (by decide)
          refine gob st959 ?_
          replace X959 := castX X959 (rfl : _ = 6) (rfl : _ = 20)
          show gO (tF T959 m 268 (la11 p0 q1 q2 q3 q4 x1 b2 b21 b41 3 b913 b926 u958_) [(.ref b959)])
          refine gob (fun _ k => XS.dup X959.here hx rfl (hb hby at_268) rfl rfl k) ?_
          show gO (tF T959 m 269 (la11 p0 q1 q2 q3 q4 x1 b2 b21 b41 3 b913 b926 u958_) [(.ref b959), (.ref b959)])
          refine gob (fun _ k => XS.aload X959.here hx rfl (hb hby at_269) rfl rfl k) ?_
          show gO (tF T959 m 271 (la11 p0 q1 q2 q3 q4 x1 b2 b21 b41 3 b913 b926 u958_) [(.ref b913), (.ref b959), (.ref b959)])
          refine gob (fun _ k => XS.aload X959.here hx rfl (hb hby at_271) rfl rfl k) ?_
          show gO (tF T959 m 273 (la11 p0 q1 q2 q3 q4 x1 b2 b21 b41 3 b913 b926 u958_) [(.ref b926), (.ref b913), (.ref b959), (.ref b959)])
          obtain ⟨_, _, ⟨T968, L968, k968, n968⟩, -, X968, ⟨Lc968, hQ968, l968, y968, z968⟩, st968⟩ := X959.specialBack hx (y := (⟨"com/example/fenda/fenda/analysis/Combination", "<init>", "([I[D)V"⟩ : MethodName)) rfl hown (mvT hZ (hW hw 12 rfl)) (mvT hZ (hW hw 13 rfl)) (mvT hZ (hW hw 14 rfl)) (by decide) (backOf (W := 1) (rm3 l Z a0 hw [] b959 b913 b926 h959 n0 z967 A959 F959_dofs g966 F959_weights) hZ (hW hw 14 rfl) (hW hw 11 rfl) (by decide) (by decide)) (g := (mkF m 273 (la11 p0 q1 q2 q3 q4 x1 b2 b21 b41 3 b913 b926 u958_) [(.ref b926), (.ref b913), (.ref b959), (.ref b959)])) rfl (by rw [hml]; rfl) (Steps.refl _) (a := b959) (argsL := [(.ref b913), (.ref b926)]) (rest := [(.ref b959)]) (lenOf pd_3 rfl) rfl (by show 2 * 0 + _ ≤ _; exact Nat.le_of_eq rfl) (hb hby at_273) (fun _ _ => ⟨rfl, e959, (by decide : 6 + 0 ≤ _), (by decide : 20 + 0 ≤ _)⟩)
          dsimp only [Pt.U, Pt.locs, Pt.cells, Pt.slots] at X968 l968 y968 z968 st968 hQ968
          replace X968 := castX X968 (y968.trans (rfl : _ = 6)) (z968.trans (rfl : _ = 20))
          obtain ⟨rfl, Nq968, K968, F969, F970⟩ := hQ968
          have N968 : Fr n0 L968 := l968 ▸ Fr.app N924 Nq968
          have z971 : n0 ≤ T968.heap.size := Nat.le_trans z967 K968.1
          refine gob (fun _ k => st968.trans k) ?_
          show gO (tF T968 m 276 (la11 p0 q1 q2 q3 q4 x1 b2 b21 b41 3 b913 b926 u958_) [(.ref b959)])
          refine gob (fun _ k => XS.astore X968.here hx rfl (hb hby at_276) rfl rfl (l' := (la12 p0 q1 q2 q3 q4 x1 b2 b21 b41 3 b913 b926 u958_ b959)) rfl k) ?_
          show gO (tF T968 m 278 (la12 p0 q1 q2 q3 q4 x1 b2 b21 b41 3 b913 b926 u958_ b959) [])
          refine gob (fun _ k => XS.aload X968.here hx rfl (hb hby at_278) rfl rfl k) ?_
          show gO (tF T968 m 280 (la12 p0 q1 q2 q3 q4 x1 b2 b21 b41 3 b913 b926 u958_ b959) [(.ref b959)])
          refine gob (fun _ k => XS.aload X968.here hx rfl (hb hby at_280) rfl rfl k) ?_
          show gO (tF T968 m 282 (la12 p0 q1 q2 q3 q4 x1 b2 b21 b41 3 b913 b926 u958_ b959) [(.ref b2), (.ref b959)])
          have c973 := ((c963.ext E959).keep K968 (ninS n964 nin0))
          have c974 := ((F929.ext E959).keep K968 (ninS n965 nin0))
          have c975 := ((c943.ext E959).keep K968 (ninS n960 nin0))
          have c976 := (A959.keep K968)
          obtain ⟨cq972, kq972, q972a, q972b, q972c⟩ := isOf hZ (rfl : T968.heap = _) c976
          obtain ⟨_, _, ⟨T972, L972, k972, n972⟩, -, X972, ⟨Lc972, hQ972, l972, y972, z972⟩, st972⟩ := X968.virtualBack hx (y := (⟨"com/example/fenda/fenda/analysis/Combination", "of", "([D)D"⟩ : MethodName)) (z := (⟨"com/example/fenda/fenda/analysis/Combination", "of", "([D)D"⟩ : MethodName)) hown (mvT hZ (hW hw 27 rfl)) (mvT hZ (hW hw 28 rfl)) (notFace_of_selects (args := #[]) (mvT hZ (hW hw 30 rfl))) (mvT hZ (hW hw 30 rfl)) (mvT hZ (hW hw 29 rfl)) (by decide) (backOf (W := 0) (rmof_012 l Z a0 hw [] b959 b2 b913 b926 k914 k927 y25_ y29_ y33_ k2 y5_ y9_ y13_ y17_ T968.heap n0 z971 F969 F970 c973 my25_ my29_ my33_ c974 my5_ my9_ my13_ my17_ c975) hZ (hW hw 31 rfl) (hW hw 11 rfl) (by decide) (by decide)) q972a q972c (g := (mkF m 282 (la12 p0 q1 q2 q3 q4 x1 b2 b21 b41 3 b913 b926 u958_ b959) [(.ref b2), (.ref b959)])) rfl (by rw [hml]; rfl) (Steps.refl _) (argsL := [(.ref b2)]) (rest := []) (lenOf pd_4 rfl) rfl (by show 2 * 0 + _ ≤ _; exact Nat.le_of_eq rfl) (hb hby at_282) (fun _ _ => ⟨rfl, (rfl : T968.heap = _), (by decide : 6 + 0 ≤ _), (by decide : 20 + 0 ≤ _)⟩)
          dsimp only [Pt.U, Pt.locs, Pt.cells, Pt.slots] at X972 l972 y972 z972 st972 hQ972
          replace X972 := castX X972 (y972.trans (rfl : _ = 6)) (z972.trans (rfl : _ = 20))
          obtain ⟨r972, rfl, hr972, Nq972, e972⟩ := hQ972
          have N972 : Fr n0 L972 := l972 ▸ Fr.app N968 Nq972
          refine gob (fun _ k => st972.trans k) ?_
          show gO (tF T972 m 285 (la12 p0 q1 q2 q3 q4 x1 b2 b21 b41 3 b913 b926 u958_ b959) [(.double r972)])
          refine gob (fun _ k => XS.dstore X972.here hx rfl (hb hby at_285) rfl (l' := (la13 p0 q1 q2 q3 q4 x1 b2 b21 b41 3 b913 b926 u958_ b959 r972)) rfl k) ?_
          show gO (tF T972 m 287 (la13 p0 q1 q2 q3 q4 x1 b2 b21 b41 3 b913 b926 u958_ b959 r972) [])
          refine gob (fun _ k => XS.dload X972.here hx rfl (hb hby at_287) rfl k) ?_
          show gO (tF T972 m 289 (la13 p0 q1 q2 q3 q4 x1 b2 b21 b41 3 b913 b926 u958_ b959 r972) [(.double r972)])
          refine gob (fun _ k => XS.dload X972.here hx rfl (hb hby at_289) rfl k) ?_
          show gO (tF T972 m 291 (la13 p0 q1 q2 q3 q4 x1 b2 b21 b41 3 b913 b926 u958_ b959 r972) [(.double u958_), (.double r972)])
          have hqr972 : r972 = u958_ := hr972.trans (by rw [hu958_, hu952_, hu946_])
          refine gob (fun _ k => XS.dcmpS X972.here hx rfl (hb hby at_291) rfl (v := (0 : Int32)) (dcmpV_eq hqr972 (by rw [hqr972]; exact (mu958_.fin (by decide)).noNaN) .l) k) ?_
          show gO (tF T972 m 292 (la13 p0 q1 q2 q3 q4 x1 b2 b21 b41 3 b913 b926 u958_ b959 r972) [(.int 0)])
          refine gob (fun _ k => XS.ifNo X972.here hx rfl (hb hby at_292) rfl ((if0 _ _).trans (teq (by decide : (0 : Int32) = (0 : Int32))).2) k) ?_
          show gO (tF T972 m 295 (la13 p0 q1 q2 q3 q4 x1 b2 b21 b41 3 b913 b926 u958_ b959 r972) [])
          refine gob (fun _ k => XS.iconst X972.here hx rfl (hb hby at_295) k) ?_
          show gO (tF T972 m 296 (la13 p0 q1 q2 q3 q4 x1 b2 b21 b41 3 b913 b926 u958_ b959 r972) [(.int 1)])
          refine gob (fun _ k => XS.goto X972.here hx rfl (pc0 := 296) (pc' := 300) rfl (hb hby at_296) (by decide) (by decide) k) ?_
          show gO (tF T972 m 300 (la13 p0 q1 q2 q3 q4 x1 b2 b21 b41 3 b913 b926 u958_ b959 r972) [(.int 1)])
          refine goZ X972 hx hlk (t := .boolean) Bd.returns (by simp) (hb hby at_300) (z' := (1 : Int32)) rfl ?_ (by decide) (by decide)
          show Q0 Z p0 q1 q2 q3 q4 h0 n0 (some (.int (1 : Int32))) T972.heap _
          exact ⟨rfl, N972⟩
        · skip
          refine gob (fun _ k => XS.ifNo X909.here hx rfl (hb hby at_141) rfl ((if0 _ _).trans (feq hc141_911).1) k) ?_
          show gO (tF T909 m 144 (la8 p0 q1 q2 q3 q4 x1 b2 b21 b41 3) [])
          refine gob (fun _ k => XS.aload X909.here hx rfl (hb hby at_144) rfl rfl k) ?_
          show gO (tF T909 m 146 (la8 p0 q1 q2 q3 q4 x1 b2 b21 b41 3) [(.ref b41)])
          refine gob (fun _ k => XS.iload X909.here hx rfl (hb hby at_146) rfl k) ?_
          show gO (tF T909 m 148 (la8 p0 q1 q2 q3 q4 x1 b2 b21 b41 3) [(.int 3), (.ref b41)])
          refine gob (fun _ k => XS.iconst X909.here hx rfl (hb hby at_148) k) ?_
          show gO (tF T909 m 149 (la8 p0 q1 q2 q3 q4 x1 b2 b21 b41 3) [(.int 3), (.int 3), (.ref b41)])
          obtain ⟨cl977, Ar977, aq977, S977, N977, H977, G977⟩ := id V909
          have hin977 : ¬ ((3 : Int32) < 0 ∨ cl977.slots.size ≤ ((3 : Int32)).toNatClampNeg) := inb_of S977 ⟨by decide, by decide⟩
          obtain ⟨T978, h978, X978, e978, W978, st978⟩ := stI X909 hx hZ e909 Ar977 (j := (3 : Int32)) hin977 (g := (mkF m 149 (la8 p0 q1 q2 q3 q4 x1 b2 b21 b41 3) [(.int 3), (.int 3), (.ref b41)])) rfl rfl (hb hby at_149)
          refine gob st978 ?_
          have z979 : n0 ≤ h978.size := Nat.le_trans z910 (Keep.of_wr W978).1
          have N978 := Fr.snoc X978 N909 g45
          have V978 : Arv Z h978 b41 k41 .int (4 : Int32) [(.int 0), (.int 1), (.int 2), (.int 3)] (.int 0) := Arv.set Ar977 aq977 S977 N977 H977 G977 rfl W978 3 rfl (Nat.le_of_ble_eq_true rfl)
          show gO (tF T978 m 150 (la8 p0 q1 q2 q3 q4 x1 b2 b21 b41 3) [])
          refine gob (fun _ k => XS.iinc X978.here hx rfl (hb hby at_150) rfl (l' := (la8 p0 q1 q2 q3 q4 x1 b2 b21 b41 4)) rfl k) ?_
          show gO (tF T978 m 153 (la8 p0 q1 q2 q3 q4 x1 b2 b21 b41 4) [])
          refine gob (fun _ k => XS.aload X978.here hx rfl (hb hby at_153) rfl rfl k) ?_
          show gO (tF T978 m 155 (la8 p0 q1 q2 q3 q4 x1 b2 b21 b41 4) [(.ref b41)])
          refine gob (fun _ k => XS.iload X978.here hx rfl (hb hby at_155) rfl k) ?_
          show gO (tF T978 m 157 (la8 p0 q1 q2 q3 q4 x1 b2 b21 b41 4) [(.int 4), (.ref b41)])
          obtain ⟨_, _, ⟨T980, L980, k980, n980⟩, -, X980, ⟨Lc980, hQ980, l980, y980, z980⟩, st980⟩ := Jvm.LawKit.callS X978 hx (y := (⟨"com/example/fenda/fenda/analysis/CombinationOfPinLaw", "prefixInt", "([II)[I"⟩ : MethodName)) hown (mvT hZ (hW hw 2 rfl)) (mvT hZ (hW hw 3 rfl)) (mvT hZ (hW hw 4 rfl)) (mvT hZ (hW hw 5 rfl)) (by decide) (backOf (W := 0) (rmpi4 l Z a0 hw [] b41 k41 (0 : Int32) (1 : Int32) (2 : Int32) (3 : Int32) h978 n0 z979 V978) hZ (hW hw 5 rfl) (hW hw 4 rfl) (by decide) (by decide)) (g := (mkF m 157 (la8 p0 q1 q2 q3 q4 x1 b2 b21 b41 4) [(.int 4), (.ref b41)])) rfl (by rw [hml]; rfl) (argsL := [(.ref b41), (.int 4)]) (rest := []) (lenOf pd_1 rfl) rfl (by show 2 * 0 + _ ≤ _; exact Nat.le_of_eq rfl) (hb hby at_157) (fun _ _ => ⟨rfl, e978, (by decide : 3 + 1 ≤ _), (by decide : 12 + 4 ≤ _)⟩)
          dsimp only [Pt.U, Pt.locs, Pt.cells, Pt.slots] at X980 l980 y980 z980 st980 hQ980
          replace X980 := castX X980 (y980.trans (rfl : _ = 4)) (z980.trans (rfl : _ = 16))
          obtain ⟨b981, k982, rfl, Nq980, K980, hz983, F984⟩ := hQ980
          have N980 : Fr n0 L980 := l980 ▸ Fr.app N978 Nq980
          have c986 := (((((c42.ext E41).other W525 n43).other W777 n43).other W909 n43).other W978 n43)
          have n985 : b2 ≠ b981 := Nat.ne_of_lt (Nat.lt_of_lt_of_le c986.lt hz983)
          have c988 := (((((V39.ext E41).other W525 n44).other W777 n44).other W909 n44).other W978 n44)
          have n987 : b21 ≠ b981 := Nat.ne_of_lt (Nat.lt_of_lt_of_le c988.lt hz983)
          have n989 : b41 ≠ b981 := Nat.ne_of_lt (Nat.lt_of_lt_of_le V978.lt hz983)
          have g990 : n0 ≤ b981 := Nat.le_trans z979 hz983
          have z991 : n0 ≤ T980.heap.size := Nat.le_trans z979 K980.1
          refine gob st980 ?_
          show gO (tF T980 m 160 (la8 p0 q1 q2 q3 q4 x1 b2 b21 b41 4) [(.ref b981)])
          refine gob (fun _ k => XS.astore X980.here hx rfl (hb hby at_160) rfl rfl (l' := (la9 p0 q1 q2 q3 q4 x1 b2 b21 b41 4 b981)) rfl k) ?_
          show gO (tF T980 m 162 (la9 p0 q1 q2 q3 q4 x1 b2 b21 b41 4 b981) [])
          refine gob (fun _ k => XS.aload X980.here hx rfl (hb hby at_162) rfl rfl k) ?_
          show gO (tF T980 m 164 (la9 p0 q1 q2 q3 q4 x1 b2 b21 b41 4 b981) [(.ref b21)])
          refine gob (fun _ k => XS.iload X980.here hx rfl (hb hby at_164) rfl k) ?_
          show gO (tF T980 m 166 (la9 p0 q1 q2 q3 q4 x1 b2 b21 b41 4 b981) [(.int 4), (.ref b21)])
          have c993 := (c988.keep K980 nin0)
          obtain ⟨_, _, ⟨T992, L992, k992, n992⟩, -, X992, ⟨Lc992, hQ992, l992, y992, z992⟩, st992⟩ := Jvm.LawKit.callS X980 hx (y := (⟨"com/example/fenda/fenda/analysis/CombinationOfPinLaw", "prefixDouble", "([DI)[D"⟩ : MethodName)) hown (mvT hZ (hW hw 6 rfl)) (mvT hZ (hW hw 7 rfl)) (mvT hZ (hW hw 4 rfl)) (mvT hZ (hW hw 8 rfl)) (by decide) (backOf (W := 0) (rmpd4 l Z a0 hw [] b21 k21 y25_ y29_ y33_ y37_ T980.heap n0 z991 c993) hZ (hW hw 8 rfl) (hW hw 4 rfl) (by decide) (by decide)) (g := (mkF m 166 (la9 p0 q1 q2 q3 q4 x1 b2 b21 b41 4 b981) [(.int 4), (.ref b21)])) rfl (by rw [hml]; rfl) (argsL := [(.ref b21), (.int 4)]) (rest := []) (lenOf pd_2 rfl) rfl (by show 2 * 0 + _ ≤ _; exact Nat.le_of_eq rfl) (hb hby at_166) (fun _ _ => ⟨rfl, (rfl : T980.heap = _), (by decide : 4 + 1 ≤ _), (by decide : 16 + 4 ≤ _)⟩)
          dsimp only [Pt.U, Pt.locs, Pt.cells, Pt.slots] at X992 l992 y992 z992 st992 hQ992
          replace X992 := castX X992 (y992.trans (rfl : _ = 5)) (z992.trans (rfl : _ = 20))
          obtain ⟨b994, k995, rfl, Nq992, K992, hz996, F997⟩ := hQ992
          have N992 : Fr n0 L992 := l992 ▸ Fr.app N980 Nq992
          have c999 := (c986.keep K980 nin0)
          have n998 : b2 ≠ b994 := Nat.ne_of_lt (Nat.lt_of_lt_of_le c999.lt hz996)
          have n1000 : b21 ≠ b994 := Nat.ne_of_lt (Nat.lt_of_lt_of_le c993.lt hz996)
          have c1002 := (V978.keep K980 nin0)
          have n1001 : b41 ≠ b994 := Nat.ne_of_lt (Nat.lt_of_lt_of_le c1002.lt hz996)
          have n1003 : b981 ≠ b994 := Nat.ne_of_lt (Nat.lt_of_lt_of_le F984.lt hz996)
          have g1004 : n0 ≤ b994 := Nat.le_trans z991 hz996
          have z1005 : n0 ≤ T992.heap.size := Nat.le_trans z991 K992.1
          refine gob st992 ?_
          show gO (tF T992 m 169 (la9 p0 q1 q2 q3 q4 x1 b2 b21 b41 4 b981) [(.ref b994)])
          refine gob (fun _ k => XS.astore X992.here hx rfl (hb hby at_169) rfl rfl (l' := (la10 p0 q1 q2 q3 q4 x1 b2 b21 b41 4 b981 b994)) rfl k) ?_
          show gO (tF T992 m 171 (la10 p0 q1 q2 q3 q4 x1 b2 b21 b41 4 b981 b994) [])
          refine gob (fun _ k => XS.dconst0 X992.here hx rfl (hb hby at_171) (v := (0 : UInt64)) (by decide +kernel) k) ?_
          show gO (tF T992 m 172 (la10 p0 q1 q2 q3 q4 x1 b2 b21 b41 4 b981 b994) [(.double (0 : UInt64))])
          refine gob (fun _ k => XS.dstore X992.here hx rfl (hb hby at_172) rfl (l' := (la11 p0 q1 q2 q3 q4 x1 b2 b21 b41 4 b981 b994 (0 : UInt64))) rfl k) ?_
          show gO (tF T992 m 174 (la11 p0 q1 q2 q3 q4 x1 b2 b21 b41 4 b981 b994 (0 : UInt64)) [])
          refine gob (fun _ k => XS.iload X992.here hx rfl (hb hby at_174) rfl k) ?_
          show gO (tF T992 m 176 (la11 p0 q1 q2 q3 q4 x1 b2 b21 b41 4 b981 b994 (0 : UInt64)) [(.int 4)])
          refine gob (fun _ k => XS.ifNo X992.here hx rfl (hb hby at_176) rfl ((if0 _ _).trans (tlt (by decide : (0 : Int32) < (4 : Int32))).2.2.2) k) ?_
          show gO (tF T992 m 179 (la11 p0 q1 q2 q3 q4 x1 b2 b21 b41 4 b981 b994 (0 : UInt64)) [])
          refine gob (fun _ k => XS.dload X992.here hx rfl (hb hby at_179) rfl k) ?_
          show gO (tF T992 m 181 (la11 p0 q1 q2 q3 q4 x1 b2 b21 b41 4 b981 b994 (0 : UInt64)) [(.double (0 : UInt64))])
          refine gob (fun _ k => XS.aload X992.here hx rfl (hb hby at_181) rfl rfl k) ?_
          show gO (tF T992 m 183 (la11 p0 q1 q2 q3 q4 x1 b2 b21 b41 4 b981 b994 (0 : UInt64)) [(.ref b21), (.double (0 : UInt64))])
          refine gob (fun _ k => XS.iconst X992.here hx rfl (hb hby at_183) k) ?_
          show gO (tF T992 m 184 (la11 p0 q1 q2 q3 q4 x1 b2 b21 b41 4 b981 b994 (0 : UInt64)) [(.int 0), (.ref b21), (.double (0 : UInt64))])
          have c1007 := (c993.keep K992 nin0)
          obtain ⟨cl1006, Ar1006, aq1006, S1006, N1006, H1006, G1006⟩ := id c1007
          have hin1006 : ¬ ((0 : Int32) < 0 ∨ cl1006.slots.size ≤ ((0 : Int32)).toNatClampNeg) := inb_of S1006 ⟨by decide, by decide⟩
          refine gob (X992.daload hx (j := (0 : Int32)) (v := (.double y25_)) (by rw [(rfl : T992.heap = _)]; exact Ar1006.1) (State.isArrayOf_alike hZ.alike Ar1006.2.1) Ar1006.2.2 hin1006 (Has.at H1006 hin1006 rfl) (g := (mkF m 184 (la11 p0 q1 q2 q3 q4 x1 b2 b21 b41 4 b981 b994 (0 : UInt64)) [(.int 0), (.ref b21), (.double (0 : UInt64))])) rfl rfl (hb hby at_184)) ?_
          show gO (tF T992 m 185 (la11 p0 q1 q2 q3 q4 x1 b2 b21 b41 4 b981 b994 (0 : UInt64)) [(.double y25_), (.double (0 : UInt64))])
          refine gob (fun _ k => XS.aload X992.here hx rfl (hb hby at_185) rfl rfl k) ?_
          show gO (tF T992 m 187 (la11 p0 q1 q2 q3 q4 x1 b2 b21 b41 4 b981 b994 (0 : UInt64)) [(.ref b2), (.double y25_), (.double (0 : UInt64))])
          refine gob (fun _ k => XS.aload X992.here hx rfl (hb hby at_187) rfl rfl k) ?_
          show gO (tF T992 m 189 (la11 p0 q1 q2 q3 q4 x1 b2 b21 b41 4 b981 b994 (0 : UInt64)) [(.ref b41), (.ref b2), (.double y25_), (.double (0 : UInt64))])
          refine gob (fun _ k => XS.iconst X992.here hx rfl (hb hby at_189) k) ?_
          show gO (tF T992 m 190 (la11 p0 q1 q2 q3 q4 x1 b2 b21 b41 4 b981 b994 (0 : UInt64)) [(.int 0), (.ref b41), (.ref b2), (.double y25_), (.double (0 : UInt64))])
          have c1009 := (c1002.keep K992 nin0)
          obtain ⟨cl1008, Ar1008, aq1008, S1008, N1008, H1008, G1008⟩ := id c1009
          have hin1008 : ¬ ((0 : Int32) < 0 ∨ cl1008.slots.size ≤ ((0 : Int32)).toNatClampNeg) := inb_of S1008 ⟨by decide, by decide⟩
          refine gob (X992.iaload hx (j := (0 : Int32)) (v := (.int 0)) (by rw [(rfl : T992.heap = _)]; exact Ar1008.1) (State.isArrayOf_alike hZ.alike Ar1008.2.1) Ar1008.2.2 hin1008 (Has.at H1008 hin1008 rfl) (g := (mkF m 190 (la11 p0 q1 q2 q3 q4 x1 b2 b21 b41 4 b981 b994 (0 : UInt64)) [(.int 0), (.ref b41), (.ref b2), (.double y25_), (.double (0 : UInt64))])) rfl rfl (hb hby at_190)) ?_
          show gO (tF T992 m 191 (la11 p0 q1 q2 q3 q4 x1 b2 b21 b41 4 b981 b994 (0 : UInt64)) [(.int 0), (.ref b2), (.double y25_), (.double (0 : UInt64))])
          have c1011 := (c999.keep K992 nin0)
          obtain ⟨cl1010, Ar1010, aq1010, S1010, N1010, H1010, G1010⟩ := id c1011
          have hin1010 : ¬ ((0 : Int32) < 0 ∨ cl1010.slots.size ≤ ((0 : Int32)).toNatClampNeg) := inb_of S1010 ⟨by decide, by decide⟩
          refine gob (X992.daload hx (j := (0 : Int32)) (v := (.double y5_)) (by rw [(rfl : T992.heap = _)]; exact Ar1010.1) (State.isArrayOf_alike hZ.alike Ar1010.2.1) Ar1010.2.2 hin1010 (Has.at H1010 hin1010 rfl) (g := (mkF m 191 (la11 p0 q1 q2 q3 q4 x1 b2 b21 b41 4 b981 b994 (0 : UInt64)) [(.int 0), (.ref b2), (.double y25_), (.double (0 : UInt64))])) rfl rfl (hb hby at_191)) ?_
          show gO (tF T992 m 192 (la11 p0 q1 q2 q3 q4 x1 b2 b21 b41 4 b981 b994 (0 : UInt64)) [(.double y5_), (.double y25_), (.double (0 : UInt64))])
          have mg1012 : Mag64 1090 (FP.dmul y25_ y5_) := own_dmul my25_ my5_ (by decide) (by decide) (by decide)
          refine gob (fun _ k => XS.dmulS X992.here hx rfl (hb hby at_192) rfl (v := (FP.dmul y25_ y5_)) (mg1012.fin (by decide)).noNaN rfl k) ?_
          show gO (tF T992 m 193 (la11 p0 q1 q2 q3 q4 x1 b2 b21 b41 4 b981 b994 (0 : UInt64)) [(.double (FP.dmul y25_ y5_)), (.double (0 : UInt64))])
          have mg1013 : Mag64 1092 (FP.dadd (0 : UInt64) (FP.dmul y25_ y5_)) := own_dadd (K := 1090) (own_m0.mono (by decide)) (mg1012.mono (by decide)) (by decide) (by decide)
          refine gob (fun _ k => XS.daddS X992.here hx rfl (hb hby at_193) rfl (v := (FP.dadd (0 : UInt64) (FP.dmul y25_ y5_))) (mg1013.fin (by decide)).noNaN rfl k) ?_
          show gO (tF T992 m 194 (la11 p0 q1 q2 q3 q4 x1 b2 b21 b41 4 b981 b994 (0 : UInt64)) [(.double (FP.dadd (0 : UInt64) (FP.dmul y25_ y5_)))])
          obtain ⟨u1014_, hu1014_⟩ : ∃ z, z = (FP.dadd (0 : UInt64) (FP.dmul y25_ y5_)) := ⟨_, rfl⟩
          have mu1014_ : Mag64 1092 u1014_ := by rw [hu1014_]; exact mg1013
          rw [← hu1014_]
          show gO (tF T992 m 194 (la11 p0 q1 q2 q3 q4 x1 b2 b21 b41 4 b981 b994 (0 : UInt64)) [(.double u1014_)])
          refine gob (fun _ k => XS.dstore X992.here hx rfl (hb hby at_194) rfl (l' := (la11 p0 q1 q2 q3 q4 x1 b2 b21 b41 4 b981 b994 u1014_)) rfl k) ?_
          show gO (tF T992 m 196 (la11 p0 q1 q2 q3 q4 x1 b2 b21 b41 4 b981 b994 u1014_) [])
          refine gob (fun _ k => XS.iload X992.here hx rfl (hb hby at_196) rfl k) ?_
          show gO (tF T992 m 198 (la11 p0 q1 q2 q3 q4 x1 b2 b21 b41 4 b981 b994 u1014_) [(.int 4)])
          refine gob (fun _ k => XS.iconst X992.here hx rfl (hb hby at_198) k) ?_
          show gO (tF T992 m 199 (la11 p0 q1 q2 q3 q4 x1 b2 b21 b41 4 b981 b994 u1014_) [(.int 1), (.int 4)])
          refine gob (fun _ k => XS.icmpNo X992.here hx rfl (hb hby at_199) rfl (tlt (by decide : (1 : Int32) < (4 : Int32))).2.2.2 k) ?_
          show gO (tF T992 m 202 (la11 p0 q1 q2 q3 q4 x1 b2 b21 b41 4 b981 b994 u1014_) [])
          refine gob (fun _ k => XS.dload X992.here hx rfl (hb hby at_202) rfl k) ?_
          show gO (tF T992 m 204 (la11 p0 q1 q2 q3 q4 x1 b2 b21 b41 4 b981 b994 u1014_) [(.double u1014_)])
          refine gob (fun _ k => XS.aload X992.here hx rfl (hb hby at_204) rfl rfl k) ?_
          show gO (tF T992 m 206 (la11 p0 q1 q2 q3 q4 x1 b2 b21 b41 4 b981 b994 u1014_) [(.ref b21), (.double u1014_)])
          refine gob (fun _ k => XS.iconst X992.here hx rfl (hb hby at_206) k) ?_
          show gO (tF T992 m 207 (la11 p0 q1 q2 q3 q4 x1 b2 b21 b41 4 b981 b994 u1014_) [(.int 1), (.ref b21), (.double u1014_)])
          obtain ⟨cl1015, Ar1015, aq1015, S1015, N1015, H1015, G1015⟩ := id c1007
          have hin1015 : ¬ ((1 : Int32) < 0 ∨ cl1015.slots.size ≤ ((1 : Int32)).toNatClampNeg) := inb_of S1015 ⟨by decide, by decide⟩
          refine gob (X992.daload hx (j := (1 : Int32)) (v := (.double y29_)) (by rw [(rfl : T992.heap = _)]; exact Ar1015.1) (State.isArrayOf_alike hZ.alike Ar1015.2.1) Ar1015.2.2 hin1015 (Has.at H1015 hin1015 rfl) (g := (mkF m 207 (la11 p0 q1 q2 q3 q4 x1 b2 b21 b41 4 b981 b994 u1014_) [(.int 1), (.ref b21), (.double u1014_)])) rfl rfl (hb hby at_207)) ?_
          show gO (tF T992 m 208 (la11 p0 q1 q2 q3 q4 x1 b2 b21 b41 4 b981 b994 u1014_) [(.double y29_), (.double u1014_)])
          refine gob (fun _ k => XS.aload X992.here hx rfl (hb hby at_208) rfl rfl k) ?_
          show gO (tF T992 m 210 (la11 p0 q1 q2 q3 q4 x1 b2 b21 b41 4 b981 b994 u1014_) [(.ref b2), (.double y29_), (.double u1014_)])
          refine gob (fun _ k => XS.aload X992.here hx rfl (hb hby at_210) rfl rfl k) ?_
          show gO (tF T992 m 212 (la11 p0 q1 q2 q3 q4 x1 b2 b21 b41 4 b981 b994 u1014_) [(.ref b41), (.ref b2), (.double y29_), (.double u1014_)])
          refine gob (fun _ k => XS.iconst X992.here hx rfl (hb hby at_212) k) ?_
          show gO (tF T992 m 213 (la11 p0 q1 q2 q3 q4 x1 b2 b21 b41 4 b981 b994 u1014_) [(.int 1), (.ref b41), (.ref b2), (.double y29_), (.double u1014_)])
          obtain ⟨cl1016, Ar1016, aq1016, S1016, N1016, H1016, G1016⟩ := id c1009
          have hin1016 : ¬ ((1 : Int32) < 0 ∨ cl1016.slots.size ≤ ((1 : Int32)).toNatClampNeg) := inb_of S1016 ⟨by decide, by decide⟩
          refine gob (X992.iaload hx (j := (1 : Int32)) (v := (.int 1)) (by rw [(rfl : T992.heap = _)]; exact Ar1016.1) (State.isArrayOf_alike hZ.alike Ar1016.2.1) Ar1016.2.2 hin1016 (Has.at H1016 hin1016 rfl) (g := (mkF m 213 (la11 p0 q1 q2 q3 q4 x1 b2 b21 b41 4 b981 b994 u1014_) [(.int 1), (.ref b41), (.ref b2), (.double y29_), (.double u1014_)])) rfl rfl (hb hby at_213)) ?_
          show gO (tF T992 m 214 (la11 p0 q1 q2 q3 q4 x1 b2 b21 b41 4 b981 b994 u1014_) [(.int 1), (.ref b2), (.double y29_), (.double u1014_)])
          obtain ⟨cl1017, Ar1017, aq1017, S1017, N1017, H1017, G1017⟩ := id c1011
          have hin1017 : ¬ ((1 : Int32) < 0 ∨ cl1017.slots.size ≤ ((1 : Int32)).toNatClampNeg) := inb_of S1017 ⟨by decide, by decide⟩
          refine gob (X992.daload hx (j := (1 : Int32)) (v := (.double y9_)) (by rw [(rfl : T992.heap = _)]; exact Ar1017.1) (State.isArrayOf_alike hZ.alike Ar1017.2.1) Ar1017.2.2 hin1017 (Has.at H1017 hin1017 rfl) (g := (mkF m 214 (la11 p0 q1 q2 q3 q4 x1 b2 b21 b41 4 b981 b994 u1014_) [(.int 1), (.ref b2), (.double y29_), (.double u1014_)])) rfl rfl (hb hby at_214)) ?_
          show gO (tF T992 m 215 (la11 p0 q1 q2 q3 q4 x1 b2 b21 b41 4 b981 b994 u1014_) [(.double y9_), (.double y29_), (.double u1014_)])
          have mg1018 : Mag64 1090 (FP.dmul y29_ y9_) := own_dmul my29_ my9_ (by decide) (by decide) (by decide)
          refine gob (fun _ k => XS.dmulS X992.here hx rfl (hb hby at_215) rfl (v := (FP.dmul y29_ y9_)) (mg1018.fin (by decide)).noNaN rfl k) ?_
          show gO (tF T992 m 216 (la11 p0 q1 q2 q3 q4 x1 b2 b21 b41 4 b981 b994 u1014_) [(.double (FP.dmul y29_ y9_)), (.double u1014_)])
          have mg1019 : Mag64 1094 (FP.dadd u1014_ (FP.dmul y29_ y9_)) := own_dadd (K := 1092) (mu1014_.mono (by decide)) (mg1018.mono (by decide)) (by decide) (by decide)
          refine gob (fun _ k => XS.daddS X992.here hx rfl (hb hby at_216) rfl (v := (FP.dadd u1014_ (FP.dmul y29_ y9_))) (mg1019.fin (by decide)).noNaN rfl k) ?_
          show gO (tF T992 m 217 (la11 p0 q1 q2 q3 q4 x1 b2 b21 b41 4 b981 b994 u1014_) [(.double (FP.dadd u1014_ (FP.dmul y29_ y9_)))])
          obtain ⟨u1020_, hu1020_⟩ : ∃ z, z = (FP.dadd u1014_ (FP.dmul y29_ y9_)) := ⟨_, rfl⟩
          have mu1020_ : Mag64 1094 u1020_ := by rw [hu1020_]; exact mg1019
          rw [← hu1020_]
          show gO (tF T992 m 217 (la11 p0 q1 q2 q3 q4 x1 b2 b21 b41 4 b981 b994 u1014_) [(.double u1020_)])
          refine gob (fun _ k => XS.dstore X992.here hx rfl (hb hby at_217) rfl (l' := (la11 p0 q1 q2 q3 q4 x1 b2 b21 b41 4 b981 b994 u1020_)) rfl k) ?_
          show gO (tF T992 m 219 (la11 p0 q1 q2 q3 q4 x1 b2 b21 b41 4 b981 b994 u1020_) [])
          refine gob (fun _ k => XS.iload X992.here hx rfl (hb hby at_219) rfl k) ?_
          show gO (tF T992 m 221 (la11 p0 q1 q2 q3 q4 x1 b2 b21 b41 4 b981 b994 u1020_) [(.int 4)])
          refine gob (fun _ k => XS.iconst X992.here hx rfl (hb hby at_221) k) ?_
          show gO (tF T992 m 222 (la11 p0 q1 q2 q3 q4 x1 b2 b21 b41 4 b981 b994 u1020_) [(.int 2), (.int 4)])
          refine gob (fun _ k => XS.icmpNo X992.here hx rfl (hb hby at_222) rfl (tlt (by decide : (2 : Int32) < (4 : Int32))).2.2.2 k) ?_
          show gO (tF T992 m 225 (la11 p0 q1 q2 q3 q4 x1 b2 b21 b41 4 b981 b994 u1020_) [])
          refine gob (fun _ k => XS.dload X992.here hx rfl (hb hby at_225) rfl k) ?_
          show gO (tF T992 m 227 (la11 p0 q1 q2 q3 q4 x1 b2 b21 b41 4 b981 b994 u1020_) [(.double u1020_)])
          refine gob (fun _ k => XS.aload X992.here hx rfl (hb hby at_227) rfl rfl k) ?_
          show gO (tF T992 m 229 (la11 p0 q1 q2 q3 q4 x1 b2 b21 b41 4 b981 b994 u1020_) [(.ref b21), (.double u1020_)])
          refine gob (fun _ k => XS.iconst X992.here hx rfl (hb hby at_229) k) ?_
          show gO (tF T992 m 230 (la11 p0 q1 q2 q3 q4 x1 b2 b21 b41 4 b981 b994 u1020_) [(.int 2), (.ref b21), (.double u1020_)])
          obtain ⟨cl1021, Ar1021, aq1021, S1021, N1021, H1021, G1021⟩ := id c1007
          have hin1021 : ¬ ((2 : Int32) < 0 ∨ cl1021.slots.size ≤ ((2 : Int32)).toNatClampNeg) := inb_of S1021 ⟨by decide, by decide⟩
          refine gob (X992.daload hx (j := (2 : Int32)) (v := (.double y33_)) (by rw [(rfl : T992.heap = _)]; exact Ar1021.1) (State.isArrayOf_alike hZ.alike Ar1021.2.1) Ar1021.2.2 hin1021 (Has.at H1021 hin1021 rfl) (g := (mkF m 230 (la11 p0 q1 q2 q3 q4 x1 b2 b21 b41 4 b981 b994 u1020_) [(.int 2), (.ref b21), (.double u1020_)])) rfl rfl (hb hby at_230)) ?_
          show gO (tF T992 m 231 (la11 p0 q1 q2 q3 q4 x1 b2 b21 b41 4 b981 b994 u1020_) [(.double y33_), (.double u1020_)])
          refine gob (fun _ k => XS.aload X992.here hx rfl (hb hby at_231) rfl rfl k) ?_
          show gO (tF T992 m 233 (la11 p0 q1 q2 q3 q4 x1 b2 b21 b41 4 b981 b994 u1020_) [(.ref b2), (.double y33_), (.double u1020_)])
          refine gob (fun _ k => XS.aload X992.here hx rfl (hb hby at_233) rfl rfl k) ?_
          show gO (tF T992 m 235 (la11 p0 q1 q2 q3 q4 x1 b2 b21 b41 4 b981 b994 u1020_) [(.ref b41), (.ref b2), (.double y33_), (.double u1020_)])
          refine gob (fun _ k => XS.iconst X992.here hx rfl (hb hby at_235) k) ?_
          show gO (tF T992 m 236 (la11 p0 q1 q2 q3 q4 x1 b2 b21 b41 4 b981 b994 u1020_) [(.int 2), (.ref b41), (.ref b2), (.double y33_), (.double u1020_)])
          obtain ⟨cl1022, Ar1022, aq1022, S1022, N1022, H1022, G1022⟩ := id c1009
          have hin1022 : ¬ ((2 : Int32) < 0 ∨ cl1022.slots.size ≤ ((2 : Int32)).toNatClampNeg) := inb_of S1022 ⟨by decide, by decide⟩
          refine gob (X992.iaload hx (j := (2 : Int32)) (v := (.int 2)) (by rw [(rfl : T992.heap = _)]; exact Ar1022.1) (State.isArrayOf_alike hZ.alike Ar1022.2.1) Ar1022.2.2 hin1022 (Has.at H1022 hin1022 rfl) (g := (mkF m 236 (la11 p0 q1 q2 q3 q4 x1 b2 b21 b41 4 b981 b994 u1020_) [(.int 2), (.ref b41), (.ref b2), (.double y33_), (.double u1020_)])) rfl rfl (hb hby at_236)) ?_
          show gO (tF T992 m 237 (la11 p0 q1 q2 q3 q4 x1 b2 b21 b41 4 b981 b994 u1020_) [(.int 2), (.ref b2), (.double y33_), (.double u1020_)])
          obtain ⟨cl1023, Ar1023, aq1023, S1023, N1023, H1023, G1023⟩ := id c1011
          have hin1023 : ¬ ((2 : Int32) < 0 ∨ cl1023.slots.size ≤ ((2 : Int32)).toNatClampNeg) := inb_of S1023 ⟨by decide, by decide⟩
          refine gob (X992.daload hx (j := (2 : Int32)) (v := (.double y13_)) (by rw [(rfl : T992.heap = _)]; exact Ar1023.1) (State.isArrayOf_alike hZ.alike Ar1023.2.1) Ar1023.2.2 hin1023 (Has.at H1023 hin1023 rfl) (g := (mkF m 237 (la11 p0 q1 q2 q3 q4 x1 b2 b21 b41 4 b981 b994 u1020_) [(.int 2), (.ref b2), (.double y33_), (.double u1020_)])) rfl rfl (hb hby at_237)) ?_
          show gO (tF T992 m 238 (la11 p0 q1 q2 q3 q4 x1 b2 b21 b41 4 b981 b994 u1020_) [(.double y13_), (.double y33_), (.double u1020_)])
          have mg1024 : Mag64 1090 (FP.dmul y33_ y13_) := own_dmul my33_ my13_ (by decide) (by decide) (by decide)
          refine gob (fun _ k => XS.dmulS X992.here hx rfl (hb hby at_238) rfl (v := (FP.dmul y33_ y13_)) (mg1024.fin (by decide)).noNaN rfl k) ?_
          show gO (tF T992 m 239 (la11 p0 q1 q2 q3 q4 x1 b2 b21 b41 4 b981 b994 u1020_) [(.double (FP.dmul y33_ y13_)), (.double u1020_)])
          have mg1025 : Mag64 1096 (FP.dadd u1020_ (FP.dmul y33_ y13_)) := own_dadd (K := 1094) (mu1020_.mono (by decide)) (mg1024.mono (by decide)) (by decide) (by decide)
          refine gob (fun _ k => XS.daddS X992.here hx rfl (hb hby at_239) rfl (v := (FP.dadd u1020_ (FP.dmul y33_ y13_))) (mg1025.fin (by decide)).noNaN rfl k) ?_
          show gO (tF T992 m 240 (la11 p0 q1 q2 q3 q4 x1 b2 b21 b41 4 b981 b994 u1020_) [(.double (FP.dadd u1020_ (FP.dmul y33_ y13_)))])
          obtain ⟨u1026_, hu1026_⟩ : ∃ z, z = (FP.dadd u1020_ (FP.dmul y33_ y13_)) := ⟨_, rfl⟩
          have mu1026_ : Mag64 1096 u1026_ := by rw [hu1026_]; exact mg1025
          rw [← hu1026_]
          show gO (tF T992 m 240 (la11 p0 q1 q2 q3 q4 x1 b2 b21 b41 4 b981 b994 u1020_) [(.double u1026_)])
          refine gob (fun _ k => XS.dstore X992.here hx rfl (hb hby at_240) rfl (l' := (la11 p0 q1 q2 q3 q4 x1 b2 b21 b41 4 b981 b994 u1026_)) rfl k) ?_
          show gO (tF T992 m 242 (la11 p0 q1 q2 q3 q4 x1 b2 b21 b41 4 b981 b994 u1026_) [])
          refine gob (fun _ k => XS.iload X992.here hx rfl (hb hby at_242) rfl k) ?_
          show gO (tF T992 m 244 (la11 p0 q1 q2 q3 q4 x1 b2 b21 b41 4 b981 b994 u1026_) [(.int 4)])
          refine gob (fun _ k => XS.iconst X992.here hx rfl (hb hby at_244) k) ?_
          show gO (tF T992 m 245 (la11 p0 q1 q2 q3 q4 x1 b2 b21 b41 4 b981 b994 u1026_) [(.int 3), (.int 4)])
          refine gob (fun _ k => XS.icmpNo X992.here hx rfl (hb hby at_245) rfl (tlt (by decide : (3 : Int32) < (4 : Int32))).2.2.2 k) ?_
          show gO (tF T992 m 248 (la11 p0 q1 q2 q3 q4 x1 b2 b21 b41 4 b981 b994 u1026_) [])
          refine gob (fun _ k => XS.dload X992.here hx rfl (hb hby at_248) rfl k) ?_
          show gO (tF T992 m 250 (la11 p0 q1 q2 q3 q4 x1 b2 b21 b41 4 b981 b994 u1026_) [(.double u1026_)])
          refine gob (fun _ k => XS.aload X992.here hx rfl (hb hby at_250) rfl rfl k) ?_
          show gO (tF T992 m 252 (la11 p0 q1 q2 q3 q4 x1 b2 b21 b41 4 b981 b994 u1026_) [(.ref b21), (.double u1026_)])
          refine gob (fun _ k => XS.iconst X992.here hx rfl (hb hby at_252) k) ?_
          show gO (tF T992 m 253 (la11 p0 q1 q2 q3 q4 x1 b2 b21 b41 4 b981 b994 u1026_) [(.int 3), (.ref b21), (.double u1026_)])
          obtain ⟨cl1027, Ar1027, aq1027, S1027, N1027, H1027, G1027⟩ := id c1007
          have hin1027 : ¬ ((3 : Int32) < 0 ∨ cl1027.slots.size ≤ ((3 : Int32)).toNatClampNeg) := inb_of S1027 ⟨by decide, by decide⟩
          refine gob (X992.daload hx (j := (3 : Int32)) (v := (.double y37_)) (by rw [(rfl : T992.heap = _)]; exact Ar1027.1) (State.isArrayOf_alike hZ.alike Ar1027.2.1) Ar1027.2.2 hin1027 (Has.at H1027 hin1027 rfl) (g := (mkF m 253 (la11 p0 q1 q2 q3 q4 x1 b2 b21 b41 4 b981 b994 u1026_) [(.int 3), (.ref b21), (.double u1026_)])) rfl rfl (hb hby at_253)) ?_
          show gO (tF T992 m 254 (la11 p0 q1 q2 q3 q4 x1 b2 b21 b41 4 b981 b994 u1026_) [(.double y37_), (.double u1026_)])
          refine gob (fun _ k => XS.aload X992.here hx rfl (hb hby at_254) rfl rfl k) ?_
          show gO (tF T992 m 256 (la11 p0 q1 q2 q3 q4 x1 b2 b21 b41 4 b981 b994 u1026_) [(.ref b2), (.double y37_), (.double u1026_)])
          refine gob (fun _ k => XS.aload X992.here hx rfl (hb hby at_256) rfl rfl k) ?_
          show gO (tF T992 m 258 (la11 p0 q1 q2 q3 q4 x1 b2 b21 b41 4 b981 b994 u1026_) [(.ref b41), (.ref b2), (.double y37_), (.double u1026_)])
          refine gob (fun _ k => XS.iconst X992.here hx rfl (hb hby at_258) k) ?_
          show gO (tF T992 m 259 (la11 p0 q1 q2 q3 q4 x1 b2 b21 b41 4 b981 b994 u1026_) [(.int 3), (.ref b41), (.ref b2), (.double y37_), (.double u1026_)])
          obtain ⟨cl1028, Ar1028, aq1028, S1028, N1028, H1028, G1028⟩ := id c1009
          have hin1028 : ¬ ((3 : Int32) < 0 ∨ cl1028.slots.size ≤ ((3 : Int32)).toNatClampNeg) := inb_of S1028 ⟨by decide, by decide⟩
          refine gob (X992.iaload hx (j := (3 : Int32)) (v := (.int 3)) (by rw [(rfl : T992.heap = _)]; exact Ar1028.1) (State.isArrayOf_alike hZ.alike Ar1028.2.1) Ar1028.2.2 hin1028 (Has.at H1028 hin1028 rfl) (g := (mkF m 259 (la11 p0 q1 q2 q3 q4 x1 b2 b21 b41 4 b981 b994 u1026_) [(.int 3), (.ref b41), (.ref b2), (.double y37_), (.double u1026_)])) rfl rfl (hb hby at_259)) ?_
          show gO (tF T992 m 260 (la11 p0 q1 q2 q3 q4 x1 b2 b21 b41 4 b981 b994 u1026_) [(.int 3), (.ref b2), (.double y37_), (.double u1026_)])
          obtain ⟨cl1029, Ar1029, aq1029, S1029, N1029, H1029, G1029⟩ := id c1011
          have hin1029 : ¬ ((3 : Int32) < 0 ∨ cl1029.slots.size ≤ ((3 : Int32)).toNatClampNeg) := inb_of S1029 ⟨by decide, by decide⟩
          refine gob (X992.daload hx (j := (3 : Int32)) (v := (.double y17_)) (by rw [(rfl : T992.heap = _)]; exact Ar1029.1) (State.isArrayOf_alike hZ.alike Ar1029.2.1) Ar1029.2.2 hin1029 (Has.at H1029 hin1029 rfl) (g := (mkF m 260 (la11 p0 q1 q2 q3 q4 x1 b2 b21 b41 4 b981 b994 u1026_) [(.int 3), (.ref b2), (.double y37_), (.double u1026_)])) rfl rfl (hb hby at_260)) ?_
          show gO (tF T992 m 261 (la11 p0 q1 q2 q3 q4 x1 b2 b21 b41 4 b981 b994 u1026_) [(.double y17_), (.double y37_), (.double u1026_)])
          have mg1030 : Mag64 1090 (FP.dmul y37_ y17_) := own_dmul my37_ my17_ (by decide) (by decide) (by decide)
          refine gob (fun _ k => XS.dmulS X992.here hx rfl (hb hby at_261) rfl (v := (FP.dmul y37_ y17_)) (mg1030.fin (by decide)).noNaN rfl k) ?_
          show gO (tF T992 m 262 (la11 p0 q1 q2 q3 q4 x1 b2 b21 b41 4 b981 b994 u1026_) [(.double (FP.dmul y37_ y17_)), (.double u1026_)])
          have mg1031 : Mag64 1098 (FP.dadd u1026_ (FP.dmul y37_ y17_)) := own_dadd (K := 1096) (mu1026_.mono (by decide)) (mg1030.mono (by decide)) (by decide) (by decide)
          refine gob (fun _ k => XS.daddS X992.here hx rfl (hb hby at_262) rfl (v := (FP.dadd u1026_ (FP.dmul y37_ y17_))) (mg1031.fin (by decide)).noNaN rfl k) ?_
          show gO (tF T992 m 263 (la11 p0 q1 q2 q3 q4 x1 b2 b21 b41 4 b981 b994 u1026_) [(.double (FP.dadd u1026_ (FP.dmul y37_ y17_)))])
          obtain ⟨u1032_, hu1032_⟩ : ∃ z, z = (FP.dadd u1026_ (FP.dmul y37_ y17_)) := ⟨_, rfl⟩
          have mu1032_ : Mag64 1098 u1032_ := by rw [hu1032_]; exact mg1031
          rw [← hu1032_]
          show gO (tF T992 m 263 (la11 p0 q1 q2 q3 q4 x1 b2 b21 b41 4 b981 b994 u1026_) [(.double u1032_)])
          refine gob (fun _ k => XS.dstore X992.here hx rfl (hb hby at_263) rfl (l' := (la11 p0 q1 q2 q3 q4 x1 b2 b21 b41 4 b981 b994 u1032_)) rfl k) ?_
          show gO (tF T992 m 265 (la11 p0 q1 q2 q3 q4 x1 b2 b21 b41 4 b981 b994 u1032_) [])
          obtain ⟨T1033, h1033, X1033, e1033, E1033, A1033, D1033, -, st1033⟩ := newO X992 hx hZ hown (hW hw 9 rfl) (hW hw 10 rfl) (hW hw 11 rfl) (rfl : T992.heap = _) (g := (mkF m 265 (la11 p0 q1 q2 q3 q4 x1 b2 b21 b41 4 b981 b994 u1032_) [])) rfl (hb hby at_265) (by decide) (by decide)
          obtain ⟨b1033, g1033⟩ : ∃ z, z = T992.heap.size := ⟨_, rfl⟩
          rw [← g1033] at A1033 D1033 st1033
          have n1034 : b2 ≠ b1033 := Nat.ne_of_lt (Nat.lt_of_lt_of_le c1011.lt (Nat.le_of_eq g1033.symm))
          have n1035 : b21 ≠ b1033 := Nat.ne_of_lt (Nat.lt_of_lt_of_le c1007.lt (Nat.le_of_eq g1033.symm))
          have n1036 : b41 ≠ b1033 := Nat.ne_of_lt (Nat.lt_of_lt_of_le c1009.lt (Nat.le_of_eq g1033.symm))
          have c1037 := (F984.keep K992 nin0)
          have n1038 : b981 ≠ b1033 := Nat.ne_of_lt (Nat.lt_of_lt_of_le c1037.lt (Nat.le_of_eq g1033.symm))
          have n1039 : b994 ≠ b1033 := Nat.ne_of_lt (Nat.lt_of_lt_of_le F997.lt (Nat.le_of_eq g1033.symm))
          have g1040 : n0 ≤ b1033 := Nat.le_trans z1005 (Nat.le_of_eq g1033.symm)
          have z1041 : n0 ≤ h1033.size := Nat.le_trans z1005 E1033.1
          have F1033_dofs : Fld Z h1033 b1033 "com/example/fenda/fenda/analysis/Combination" "dofs" "[I" .null := D1033 (Or.inr (hW hw 24 rfl)) (ty := (.array .int)) (by decide)
          have F1033_weights : Fld Z h1033 b1033 "com/example/fenda/fenda/analysis/Combination" "weights" "[D" .null := D1033 (Or.inr (hW hw 26 rfl)) (ty := (.array .double)) (by decide)
          refine gob st1033 ?_
          replace X1033 := castX X1033 (rfl : _ = 6) (rfl : _ = 22)
          show gO (tF T1033 m 268 (la11 p0 q1 q2 q3 q4 x1 b2 b21 b41 4 b981 b994 u1032_) [(.ref b1033)])
          refine gob (fun _ k => XS.dup X1033.here hx rfl (hb hby at_268) rfl rfl k) ?_
          show gO (tF T1033 m 269 (la11 p0 q1 q2 q3 q4 x1 b2 b21 b41 4 b981 b994 u1032_) [(.ref b1033), (.ref b1033)])
          refine gob (fun _ k => XS.aload X1033.here hx rfl (hb hby at_269) rfl rfl k) ?_
          show gO (tF T1033 m 271 (la11 p0 q1 q2 q3 q4 x1 b2 b21 b41 4 b981 b994 u1032_) [(.ref b981), (.ref b1033), (.ref b1033)])
          refine gob (fun _ k => XS.aload X1033.here hx rfl (hb hby at_271) rfl rfl k) ?_
          show gO (tF T1033 m 273 (la11 p0 q1 q2 q3 q4 x1 b2 b21 b41 4 b981 b994 u1032_) [(.ref b994), (.ref b981), (.ref b1033), (.ref b1033)])
          obtain ⟨_, _, ⟨T1042, L1042, k1042, n1042⟩, -, X1042, ⟨Lc1042, hQ1042, l1042, y1042, z1042⟩, st1042⟩ := X1033.specialBack hx (y := (⟨"com/example/fenda/fenda/analysis/Combination", "<init>", "([I[D)V"⟩ : MethodName)) rfl hown (mvT hZ (hW hw 12 rfl)) (mvT hZ (hW hw 13 rfl)) (mvT hZ (hW hw 14 rfl)) (by decide) (backOf (W := 1) (rm3 l Z a0 hw [] b1033 b981 b994 h1033 n0 z1041 A1033 F1033_dofs g1040 F1033_weights) hZ (hW hw 14 rfl) (hW hw 11 rfl) (by decide) (by decide)) (g := (mkF m 273 (la11 p0 q1 q2 q3 q4 x1 b2 b21 b41 4 b981 b994 u1032_) [(.ref b994), (.ref b981), (.ref b1033), (.ref b1033)])) rfl (by rw [hml]; rfl) (Steps.refl _) (a := b1033) (argsL := [(.ref b981), (.ref b994)]) (rest := [(.ref b1033)]) (lenOf pd_3 rfl) rfl (by show 2 * 0 + _ ≤ _; exact Nat.le_of_eq rfl) (hb hby at_273) (fun _ _ => ⟨rfl, e1033, (by decide : 6 + 0 ≤ _), (by decide : 22 + 0 ≤ _)⟩)
          dsimp only [Pt.U, Pt.locs, Pt.cells, Pt.slots] at X1042 l1042 y1042 z1042 st1042 hQ1042
          replace X1042 := castX X1042 (y1042.trans (rfl : _ = 6)) (z1042.trans (rfl : _ = 22))
          obtain ⟨rfl, Nq1042, K1042, F1043, F1044⟩ := hQ1042
          have N1042 : Fr n0 L1042 := l1042 ▸ Fr.app N992 Nq1042
          have z1045 : n0 ≤ T1042.heap.size := Nat.le_trans z1041 K1042.1
          refine gob (fun _ k => st1042.trans k) ?_
          show gO (tF T1042 m 276 (la11 p0 q1 q2 q3 q4 x1 b2 b21 b41 4 b981 b994 u1032_) [(.ref b1033)])
          refine gob (fun _ k => XS.astore X1042.here hx rfl (hb hby at_276) rfl rfl (l' := (la12 p0 q1 q2 q3 q4 x1 b2 b21 b41 4 b981 b994 u1032_ b1033)) rfl k) ?_
          show gO (tF T1042 m 278 (la12 p0 q1 q2 q3 q4 x1 b2 b21 b41 4 b981 b994 u1032_ b1033) [])
          refine gob (fun _ k => XS.aload X1042.here hx rfl (hb hby at_278) rfl rfl k) ?_
          show gO (tF T1042 m 280 (la12 p0 q1 q2 q3 q4 x1 b2 b21 b41 4 b981 b994 u1032_ b1033) [(.ref b1033)])
          refine gob (fun _ k => XS.aload X1042.here hx rfl (hb hby at_280) rfl rfl k) ?_
          show gO (tF T1042 m 282 (la12 p0 q1 q2 q3 q4 x1 b2 b21 b41 4 b981 b994 u1032_ b1033) [(.ref b2), (.ref b1033)])
          have c1047 := ((c1037.ext E1033).keep K1042 (ninS n1038 nin0))
          have c1048 := ((F997.ext E1033).keep K1042 (ninS n1039 nin0))
          have c1049 := ((c1011.ext E1033).keep K1042 (ninS n1034 nin0))
          have c1050 := (A1033.keep K1042)
          obtain ⟨cq1046, kq1046, q1046a, q1046b, q1046c⟩ := isOf hZ (rfl : T1042.heap = _) c1050
          obtain ⟨_, _, ⟨T1046, L1046, k1046, n1046⟩, -, X1046, ⟨Lc1046, hQ1046, l1046, y1046, z1046⟩, st1046⟩ := X1042.virtualBack hx (y := (⟨"com/example/fenda/fenda/analysis/Combination", "of", "([D)D"⟩ : MethodName)) (z := (⟨"com/example/fenda/fenda/analysis/Combination", "of", "([D)D"⟩ : MethodName)) hown (mvT hZ (hW hw 27 rfl)) (mvT hZ (hW hw 28 rfl)) (notFace_of_selects (args := #[]) (mvT hZ (hW hw 30 rfl))) (mvT hZ (hW hw 30 rfl)) (mvT hZ (hW hw 29 rfl)) (by decide) (backOf (W := 0) (rmof_0123 l Z a0 hw [] b1033 b2 b981 b994 k982 k995 y25_ y29_ y33_ y37_ k2 y5_ y9_ y13_ y17_ T1042.heap n0 z1045 F1043 F1044 c1047 my25_ my29_ my33_ my37_ c1048 my5_ my9_ my13_ my17_ c1049) hZ (hW hw 31 rfl) (hW hw 11 rfl) (by decide) (by decide)) q1046a q1046c (g := (mkF m 282 (la12 p0 q1 q2 q3 q4 x1 b2 b21 b41 4 b981 b994 u1032_ b1033) [(.ref b2), (.ref b1033)])) rfl (by rw [hml]; rfl) (Steps.refl _) (argsL := [(.ref b2)]) (rest := []) (lenOf pd_4 rfl) rfl (by show 2 * 0 + _ ≤ _; exact Nat.le_of_eq rfl) (hb hby at_282) (fun _ _ => ⟨rfl, (rfl : T1042.heap = _), (by decide : 6 + 0 ≤ _), (by decide : 22 + 0 ≤ _)⟩)
          dsimp only [Pt.U, Pt.locs, Pt.cells, Pt.slots] at X1046 l1046 y1046 z1046 st1046 hQ1046
          replace X1046 := castX X1046 (y1046.trans (rfl : _ = 6)) (z1046.trans (rfl : _ = 22))
          obtain ⟨r1046, rfl, hr1046, Nq1046, e1046⟩ := hQ1046
          have N1046 : Fr n0 L1046 := l1046 ▸ Fr.app N1042 Nq1046
          refine gob (fun _ k => st1046.trans k) ?_
          show gO (tF T1046 m 285 (la12 p0 q1 q2 q3 q4 x1 b2 b21 b41 4 b981 b994 u1032_ b1033) [(.double r1046)])
          refine gob (fun _ k => XS.dstore X1046.here hx rfl (hb hby at_285) rfl (l' := (la13 p0 q1 q2 q3 q4 x1 b2 b21 b41 4 b981 b994 u1032_ b1033 r1046)) rfl k) ?_
          show gO (tF T1046 m 287 (la13 p0 q1 q2 q3 q4 x1 b2 b21 b41 4 b981 b994 u1032_ b1033 r1046) [])
          refine gob (fun _ k => XS.dload X1046.here hx rfl (hb hby at_287) rfl k) ?_
          show gO (tF T1046 m 289 (la13 p0 q1 q2 q3 q4 x1 b2 b21 b41 4 b981 b994 u1032_ b1033 r1046) [(.double r1046)])
          refine gob (fun _ k => XS.dload X1046.here hx rfl (hb hby at_289) rfl k) ?_
          show gO (tF T1046 m 291 (la13 p0 q1 q2 q3 q4 x1 b2 b21 b41 4 b981 b994 u1032_ b1033 r1046) [(.double u1032_), (.double r1046)])
          have hqr1046 : r1046 = u1032_ := hr1046.trans (by rw [hu1032_, hu1026_, hu1020_, hu1014_])
          refine gob (fun _ k => XS.dcmpS X1046.here hx rfl (hb hby at_291) rfl (v := (0 : Int32)) (dcmpV_eq hqr1046 (by rw [hqr1046]; exact (mu1032_.fin (by decide)).noNaN) .l) k) ?_
          show gO (tF T1046 m 292 (la13 p0 q1 q2 q3 q4 x1 b2 b21 b41 4 b981 b994 u1032_ b1033 r1046) [(.int 0)])
          refine gob (fun _ k => XS.ifNo X1046.here hx rfl (hb hby at_292) rfl ((if0 _ _).trans (teq (by decide : (0 : Int32) = (0 : Int32))).2) k) ?_
          show gO (tF T1046 m 295 (la13 p0 q1 q2 q3 q4 x1 b2 b21 b41 4 b981 b994 u1032_ b1033 r1046) [])
          refine gob (fun _ k => XS.iconst X1046.here hx rfl (hb hby at_295) k) ?_
          show gO (tF T1046 m 296 (la13 p0 q1 q2 q3 q4 x1 b2 b21 b41 4 b981 b994 u1032_ b1033 r1046) [(.int 1)])
          refine gob (fun _ k => XS.goto X1046.here hx rfl (pc0 := 296) (pc' := 300) rfl (hb hby at_296) (by decide) (by decide) k) ?_
          show gO (tF T1046 m 300 (la13 p0 q1 q2 q3 q4 x1 b2 b21 b41 4 b981 b994 u1032_ b1033 r1046) [(.int 1)])
          refine goZ X1046 hx hlk (t := .boolean) Bd.returns (by simp) (hb hby at_300) (z' := (1 : Int32)) rfl ?_ (by decide) (by decide)
          show Q0 Z p0 q1 q2 q3 q4 h0 n0 (some (.int (1 : Int32))) T1046.heap _
          exact ⟨rfl, N1046⟩
set_option maxRecDepth 65536 in
set_option maxHeartbeats 40000000 in
theorem comes_1 {Post : Tables → Env → Array Value → State → Outcome → State → Prop} (hpost : ∀ tb e args s v u, (limb_1_1.after args s (.returned v) u = true ∧ limb_1_2.after args s (.returned v) u = true ∧ True) → FrameEnd s (.returned v) u (Jvm.fieldLocs frame_1_writes args s ++ Jvm.arrayLocs frame_1_arrays args s ++ Jvm.staticLocs frame_1_statics s) 24 128 → Post tb e args s (.returned v) u) :
    ArmFor flags0 classFile x code maxLocals ret World_1 tables_1 room_1 Calls_1 rest_1 Pre_1 Post := by
  intro l hfl _ _ p e ha hc hk s m args below hf hA hF happ hP
  obtain ⟨hcalls, hrest, hpre⟩ := hP
  obtain ⟨-, -, -, hnamed, -, -, -, hat⟩ := (Spec.applies_iff hf).mp happ
  obtain ⟨hg, hn⟩ := and_e (Cond.before_iff.mp (show (Jvm.Cond.and given_1 narrow_1).before args s = true from hpre))
  obtain ⟨g1, g2⟩ := and_e hg
  obtain ⟨g3, g4⟩ := and_e g2
  obtain ⟨g5, g6⟩ := and_e g4
  obtain ⟨g7, g8⟩ := and_e g6
  obtain ⟨g9, g10⟩ := and_e g8
  obtain ⟨w0, w1, w2, w3, w4, rfl⟩ : ∃ w0 w1 w2 w3 w4 : Value, args = #[w0, w1, w2, w3, w4] := by
    have hs : args.size = 5 := by simpa [Cond.value, given_1] using g1
    obtain ⟨L⟩ := args
    match L, hs with
    | [w0, w1, w2, w3, w4], _ => exact ⟨w0, w1, w2, w3, w4, rfl⟩
  have hw := fun d (hd : d ∈ tables_1) => atoms_spec (ws := Jvm.Cond.code x code maxLocals ret :: tables_1) hat d (List.mem_cons_of_mem _ hd)
  have hfit : Fit s := fun {y c} hc i hi => by
    obtain ⟨ha, rfl⟩ := Array.getElem?_eq_some_iff.mp hc
    have q := List.all_eq_true.mp ((Array.all_eq_true_iff_forall_mem.mp hF) _ (Array.getElem_mem ha)) i (List.mem_range.mpr hi)
    simpa [Array.getElem?_eq_getElem hi] using q
  obtain ⟨i0, ei0⟩ := is_v g3
  obtain rfl : w0 = (.int i0) := Option.some.inj ei0
  obtain ⟨i1, ei1⟩ := isL_v g5
  obtain rfl : w1 = (.long i1) := Option.some.inj ei1
  obtain ⟨i2, ei2⟩ := isL_v g7
  obtain rfl : w2 = (.long i2) := Option.some.inj ei2
  obtain ⟨i3, ei3⟩ := isL_v g9
  obtain rfl : w3 = (.long i3) := Option.some.inj ei3
  obtain ⟨i4, ei4⟩ := isL_v g10
  obtain rfl : w4 = (.long i4) := Option.some.inj ei4
  obtain ⟨n, o, h1, h2, h3, _, L, rfl, ⟨rfl, N⟩, hq⟩ := rm0 l s _ hw tables_1 i0 i1 i2 i3 i4 s.heap s.heap.size (Nat.le_refl _)  p e ha hc hk s m _ below hf ((Spec.applies_iff_loose hf).mp happ).1 ⟨rfl, State.Warmed39.refl s, rfl⟩ trivial
  exact ⟨n, _, h1, h2, h3, hpost _ _ _ _ _ _ ⟨Cond.after_iff.mpr rfl, Cond.after_iff.mpr (eq_i res_at (Term.int_eval (1)) rfl), trivial⟩ ⟨hq.1, hq.2.1, (hq.2.2.sift fun y hy => Or.inr (N y hy)).mono (by decide) (by decide)⟩⟩
theorem main_1_1 : Claimed_1_1 := comes_1 fun _ _ _ _ _ _ h hF => ⟨h.1, hF⟩
theorem main_1_2 : Claimed_1_2 := comes_1 fun _ _ _ _ _ _ h hF => ⟨h.2.1, hF⟩
end Jvm.Pilot.@@N@@
namespace Jvm.Pilot.@@N@@
open Jvm Jvm.ClassFile Sem Op Lib Jvm.Free Jvm.Stand Jvm.Pilot.@@N@@.Jvm.D
/-! MADE BY PROGRAM (witnessworld.py) out of the Statement's table words and the real class files: 12 classes; the members and pool entries that the words name. The judged class is class 1, her method 3. -/
namespace start1
open Jvm.ClassFile
def u (s : String) : CpInfo := .utf8 (stringToUtf16 s)
/-- a pool by its gaps: so many unusable entries, then the entry; so many at the end -/
def gap : Nat → List CpInfo → List CpInfo
  | 0, r => r
  | n + 1, r => .unusable :: gap n r
def poolList (es : List (Nat × CpInfo)) (last : Nat) : List CpInfo := es.foldr (fun e r => gap e.1 (e.2 :: r)) (gap last [])
def pool (es : List (Nat × CpInfo)) (last : Nat) : Array CpInfo := ⟨poolList es last⟩
def fileOf (pool : Array CpInfo) (this : Nat) (attrs : Array Attribute := #[]) (ms : Array MethodInfo := #[]) (fl : Nat := 33) (sup : Nat := 0) (ifs : Array Nat := #[]) (fds : Array FieldInfo := #[]) : ClassFile where
  minorVersion := 0
  majorVersion := 65
  constantPool := pool
  accessFlags := fl
  thisClass := this
  superClass := sup
  interfaces := ifs
  fields := fds
  methods := ms
  attributes := attrs
def plain (name : String) (sup : Option ClassId) : Class where
  name := name
  kind := .ordinary
  loader := none
  accessFlags := 33
  super := sup
  interfaces := #[]
  cf := none
  fields := #[]
  methods := #[]
  instanceTypes := #[]
  staticTypes := #[]
  resolved := #[]
  callSites := []
  init := .initialized
  statics := none
  mirror := none

def pool0 : Array CpInfo := pool [(5, u "<init>"), (0, u "()V"), (1, .class_ 10), (1, u "java/lang/Object")] 113

def k0c0 : Code := { maxStack := 0, maxLocals := 1, code := object_method_1_code, exceptionTable := #[], attributes := #[] }
def k0m0 : Method := { name := "<init>", desc := "()V", sig := { parameters := [], returnType := none }, accessFlags := 1, code := some k0c0 }
/-- java/lang/Object -/
def k0 : Class := { plain "java/lang/Object" none with
  accessFlags := 33
  interfaces := #[]
  cf := some (fileOf pool0 8 #[] #[{ accessFlags := 1, nameIndex := 5, descriptorIndex := 6, attributes := #[] }] 33 0 #[] #[])
  fields := #[]
  methods := #[k0m0]
  instanceTypes := #[]
  staticTypes := #[]
  resolved := Array.replicate 124 none
  statics := none }

def pool1 : Array CpInfo := pool [(2, .class_ 4), (1, u "java/lang/Object"), (0, u "<init>"), (0, u "()V"), (0, .methodref 8 9), (0, .class_ 10), (0, .nameAndType 11 12), (0, u "com/example/fenda/fenda/analysis/CombinationOfPinLaw"), (0, u "prefixInt"), (0, u "([II)[I"), (0, .methodref 8 14), (0, .nameAndType 15 16), (0, u "prefixDouble"), (0, u "([DI)[D"), (0, .class_ 18), (0, u "com/example/fenda/fenda/analysis/Combination"), (0, .methodref 17 20), (0, .nameAndType 5 21), (0, u "([I[D)V"), (0, .methodref 17 23), (0, .nameAndType 24 25), (0, u "of"), (0, u "([D)D"), (3, u "law"), (0, u "(IJJJJ)Z")] 6

def k1m0 : Method := { name := "<init>", desc := "()V", sig := { parameters := [], returnType := none }, accessFlags := 1, code := none }
def k1c1 : Code := { maxStack := 5, maxLocals := 2, code := method_2_code, exceptionTable := #[], attributes := #[] }
def k1m1 : Method := { name := "prefixInt", desc := "([II)[I", sig := { parameters := [(.array .int), .int], returnType := some (.array .int) }, accessFlags := 10, code := some k1c1 }
def k1c2 : Code := { maxStack := 5, maxLocals := 2, code := method_3_code, exceptionTable := #[], attributes := #[] }
def k1m2 : Method := { name := "prefixDouble", desc := "([DI)[D", sig := { parameters := [(.array .double), .int], returnType := some (.array .double) }, accessFlags := 10, code := some k1c2 }
def k1c3 : Code := { maxStack := 7, maxLocals := 21, code := code, exceptionTable := #[], attributes := #[] }
def k1m3 : Method := { name := "law", desc := "(IJJJJ)Z", sig := { parameters := [.int, .long, .long, .long, .long], returnType := some .boolean }, accessFlags := 9, code := some k1c3 }
/-- com/example/fenda/fenda/analysis/CombinationOfPinLaw -/
def k1 : Class := { plain "com/example/fenda/fenda/analysis/CombinationOfPinLaw" (some 0) with
  accessFlags := 49
  interfaces := #[]
  cf := some (fileOf pool1 8 #[] #[{ accessFlags := 1, nameIndex := 5, descriptorIndex := 6, attributes := #[] }, { accessFlags := 10, nameIndex := 11, descriptorIndex := 12, attributes := #[] }, { accessFlags := 10, nameIndex := 15, descriptorIndex := 16, attributes := #[] }, { accessFlags := 9, nameIndex := 29, descriptorIndex := 30, attributes := #[] }] 49 2 #[] #[])
  fields := #[]
  methods := #[k1m0, k1m1, k1m2, k1m3]
  instanceTypes := #[]
  staticTypes := #[]
  resolved := Array.replicate 37 none
  statics := none }

def pool2 : Array CpInfo := pool [(1, .methodref 2 3), (0, .class_ 4), (0, .nameAndType 5 6), (0, u "java/lang/Object"), (0, u "<init>"), (0, u "()V"), (0, .class_ 8), (0, u "java/lang/Record")] 13

def k2c0 : Code := { maxStack := 1, maxLocals := 1, code := jdk_30_method_1_code, exceptionTable := #[], attributes := #[] }
def k2m0 : Method := { name := "<init>", desc := "()V", sig := { parameters := [], returnType := none }, accessFlags := 4, code := some k2c0 }
/-- java/lang/Record -/
def k2 : Class := { plain "java/lang/Record" (some 0) with
  accessFlags := 1057
  interfaces := #[]
  cf := some (fileOf pool2 7 #[] #[{ accessFlags := 4, nameIndex := 5, descriptorIndex := 6, attributes := #[] }] 1057 2 #[] #[])
  fields := #[]
  methods := #[k2m0]
  instanceTypes := #[]
  staticTypes := #[]
  resolved := Array.replicate 22 none
  statics := none }

def pool3 : Array CpInfo := pool [(1, .methodref 2 3), (0, .class_ 4), (0, .nameAndType 5 6), (0, u "java/lang/Record"), (0, u "<init>"), (0, u "()V"), (0, .fieldref 8 9), (0, .class_ 10), (0, .nameAndType 11 12), (0, u "com/example/fenda/fenda/analysis/Combination"), (0, u "dofs"), (0, u "[I"), (0, .fieldref 8 14), (0, .nameAndType 15 16), (0, u "weights"), (0, u "[D"), (12, u "([I[D)V"), (3, u "of"), (0, u "([D)D")] 27

def k3c0 : Code := { maxStack := 2, maxLocals := 3, code := prog_3_method_1_code, exceptionTable := #[], attributes := #[] }
def k3m0 : Method := { name := "<init>", desc := "([I[D)V", sig := { parameters := [(.array .int), (.array .double)], returnType := none }, accessFlags := 0, code := some k3c0 }
def k3c1 : Code := { maxStack := 7, maxLocals := 5, code := prog_3_method_2_code, exceptionTable := #[], attributes := #[] }
def k3m1 : Method := { name := "of", desc := "([D)D", sig := { parameters := [(.array .double)], returnType := some .double }, accessFlags := 0, code := some k3c1 }
/-- com/example/fenda/fenda/analysis/Combination -/
def k3 : Class := { plain "com/example/fenda/fenda/analysis/Combination" (some 2) with
  accessFlags := 48
  interfaces := #[]
  cf := some (fileOf pool3 8 #[] #[{ accessFlags := 0, nameIndex := 5, descriptorIndex := 29, attributes := #[] }, { accessFlags := 0, nameIndex := 33, descriptorIndex := 34, attributes := #[] }] 48 2 #[] #[{ accessFlags := 18, nameIndex := 11, descriptorIndex := 12, attributes := #[] }, { accessFlags := 18, nameIndex := 15, descriptorIndex := 16, attributes := #[] }])
  fields := #[{ name := "dofs", type := (.array .int), accessFlags := 18, slot := 0, constantValue := 0 }, { name := "weights", type := (.array .double), accessFlags := 18, slot := 1, constantValue := 0 }]
  methods := #[k3m0, k3m1]
  instanceTypes := #[(.array .int), (.array .double)]
  staticTypes := #[]
  resolved := Array.replicate 62 none
  statics := none }

def pool4 : Array CpInfo := pool [(1, u "java/lang/Cloneable"), (0, .class_ 1), (0, u "java/lang/Object"), (0, .class_ 3)] 3

/-- java/lang/Cloneable -/
def k4 : Class := { plain "java/lang/Cloneable" (some 0) with
  accessFlags := 1537
  interfaces := #[]
  cf := some (fileOf pool4 2 #[] #[] 1537 4 #[] #[])
  fields := #[]
  methods := #[]
  instanceTypes := #[]
  staticTypes := #[]
  resolved := Array.replicate 8 none
  statics := none }

def pool5 : Array CpInfo := pool [(1, u "java/io/Serializable"), (0, .class_ 1), (0, u "java/lang/Object"), (0, .class_ 3)] 3

/-- java/io/Serializable -/
def k5 : Class := { plain "java/io/Serializable" (some 0) with
  accessFlags := 1537
  interfaces := #[]
  cf := some (fileOf pool5 2 #[] #[] 1537 4 #[] #[])
  fields := #[]
  methods := #[]
  instanceTypes := #[]
  staticTypes := #[]
  resolved := Array.replicate 8 none
  statics := none }

/-- the primitive byte -/
def k6 : Class := { plain "byte" none with kind := .primitive 'B', accessFlags := 0x411 }
/-- [B -/
def k7 : Class := { plain "[B" (some 0) with kind := .array 6 .byte, interfaces := #[4, 5], accessFlags := 1041 }

/-- the primitive double -/
def k8 : Class := { plain "double" none with kind := .primitive 'D', accessFlags := 0x411 }
/-- [D -/
def k9 : Class := { plain "[D" (some 0) with kind := .array 8 .double, interfaces := #[4, 5], accessFlags := 1041 }

/-- the primitive int -/
def k10 : Class := { plain "int" none with kind := .primitive 'I', accessFlags := 0x411 }
/-- [I -/
def k11 : Class := { plain "[I" (some 0) with kind := .array 10 .int, interfaces := #[4, 5], accessFlags := 1041 }

def heap : Heap := #[]
def classes : Array Class := #[k0, k1, k2, k3, k4, k5, k6, k7, k8, k9, k10, k11]
def interned : List (Array UInt16 × Addr) := []
def slotsUsed : Nat := 0
def theMethod : MethodId := ⟨1, 3⟩
def args0 : Array Value := #[.int 5, .long 6, .long 6, .long 6, .long 6]
def aboutOver (below : List Frame) : State where
  vm := { classes := classes, interned := interned.toArray }
  heap := heap
  slotsUsed := slotsUsed
  threads := #[{ frames := .invoking theMethod args0 :: below }]
def below0 : List Frame := [.native { method := ⟨0, 0⟩, args := #[] }]
def about1 : State := aboutOver below0
def p0 : Program := .bare "" "" ""
def e0 : Env := launch0.env 0 0 0
theorem w_frames : about1.frames = Frame.invoking theMethod args0 :: below0 := rfl
set_option maxRecDepth 65536 in
theorem w_args : argsFit about1.vm theMethod args0 = true := by decide +kernel
set_option maxRecDepth 65536 in
theorem w_heap : heapFits about1 = true := by decide +kernel
set_option maxRecDepth 65536 in
theorem w_runnable : about1.curStatus? = some .runnable := by decide +kernel
set_option maxRecDepth 65536 in
theorem w_alone : about1.alone = true := by decide +kernel
set_option maxRecDepth 65536 in
theorem w_named : about1.methodNamed? x = some theMethod := by decide +kernel
set_option maxRecDepth 65536 in
theorem w_hears : about1.hears theMethod below0 = true := by decide +kernel
set_option maxRecDepth 65536 in
theorem w_ripe : about1.ripe theMethod args0 below0 = true := by decide +kernel
theorem w_running : about1.status = .running := rfl
set_option maxRecDepth 65536 in
theorem w_room : about1.hasRoom e0.platform room_1 = true :=
  launch0.hasRoom_least _ room_1 (by decide +kernel) (by decide +kernel) (by decide +kernel) (by decide +kernel) (by decide +kernel) (by decide +kernel)
theorem allAtoms_all (ts : List Jvm.Cond) (a : Array Jvm.Value) (st : Jvm.State) : (allAtoms ts).before a st = ts.all (fun c => c.before a st) := by
  induction ts with
  | nil => rfl
  | cons c t ih =>
    show (Jvm.Cond.and c (allAtoms t)).before a st = _
    rw [Jvm.Cond.before_and, ih, List.all_cons]
def words1 : List Jvm.Cond := Jvm.Cond.code x code maxLocals ret :: tables_1
/-- a 'code' word, met by the world's own term for the bytes: nothing is compared byte by byte -/
theorem code_word {y : MethodName} {bytes : ByteArray} {mx : Nat} {rt : Option FieldType} {a : Array Value} {s : State} {m : MethodId} {meth : Method} {c : Code} (h1 : s.methodNamed? y = some m) (h2 : s.vm.method? m = some meth) (h3 : meth.code = some c) (h4 : c.code = bytes)
    (h5 : (c.maxLocals == mx && c.exceptionTable.isEmpty && decide (c.maxStack ≤ mostOperands) && decide (meth.sig.returnType = rt) && !meth.locks && decide (parseMethodDescriptor y.desc = some meth.sig)) = true) : (Jvm.Cond.code y bytes mx rt).before a s = true := by
  simp only [Bool.and_eq_true, beq_iff_eq, Bool.not_eq_true', decide_eq_true_eq] at h5
  obtain ⟨⟨⟨⟨⟨g1, g2⟩, g3⟩, g4⟩, g5⟩, g6⟩ := h5
  simp [Cond.before, Cond.holds, Cond.value, h1, h2, h3, h4, g1, g2, g3, g4, g5, g6]
def isCode : Jvm.Cond → Bool
  | .code _ _ _ _ => true
  | _ => false
theorem all_split {L : List Jvm.Cond} {P : Jvm.Cond → Bool} (h1 : L.all (fun c => isCode c || P c) = true) (h2 : ∀ c ∈ L.filter isCode, P c = true) : L.all P = true := by
  refine List.all_eq_true.mpr fun c hc => ?_
  have h := List.all_eq_true.mp h1 c hc
  rcases Bool.eq_false_or_eq_true (isCode c) with hi | hi
  · exact h2 c (List.mem_filter.mpr ⟨hc, hi⟩)
  · simpa [hi] using h
set_option maxRecDepth 65536 in
theorem w_c0 : (Jvm.Cond.code x code maxLocals ret).before args0 about1 = true := code_word (m := ⟨1, 3⟩) (meth := k1m3) (c := k1c3) (by decide +kernel) rfl rfl rfl (by decide +kernel)
set_option maxRecDepth 65536 in
theorem w_c1 : (Jvm.Cond.code ({ cls := "com/example/fenda/fenda/analysis/CombinationOfPinLaw", name := "prefixInt", desc := "([II)[I" } : Jvm.MethodName) method_2_code (2 : Nat) (Option.some (Jvm.ClassFile.FieldType.array Jvm.ClassFile.FieldType.int))).before args0 about1 = true := code_word (m := ⟨1, 1⟩) (meth := k1m1) (c := k1c1) (by decide +kernel) rfl rfl rfl (by decide +kernel)
set_option maxRecDepth 65536 in
theorem w_c2 : (Jvm.Cond.code ({ cls := "com/example/fenda/fenda/analysis/CombinationOfPinLaw", name := "prefixDouble", desc := "([DI)[D" } : Jvm.MethodName) method_3_code (2 : Nat) (Option.some (Jvm.ClassFile.FieldType.array Jvm.ClassFile.FieldType.double))).before args0 about1 = true := code_word (m := ⟨1, 2⟩) (meth := k1m2) (c := k1c2) (by decide +kernel) rfl rfl rfl (by decide +kernel)
set_option maxRecDepth 65536 in
theorem w_c3 : (Jvm.Cond.code ({ cls := "com/example/fenda/fenda/analysis/Combination", name := "<init>", desc := "([I[D)V" } : Jvm.MethodName) prog_3_method_1_code (3 : Nat) (Option.none : Option Jvm.ClassFile.FieldType)).before args0 about1 = true := code_word (m := ⟨3, 0⟩) (meth := k3m0) (c := k3c0) (by decide +kernel) rfl rfl rfl (by decide +kernel)
set_option maxRecDepth 65536 in
theorem w_c4 : (Jvm.Cond.code ({ cls := "java/lang/Record", name := "<init>", desc := "()V" } : Jvm.MethodName) jdk_30_method_1_code (1 : Nat) (Option.none : Option Jvm.ClassFile.FieldType)).before args0 about1 = true := code_word (m := ⟨2, 0⟩) (meth := k2m0) (c := k2c0) (by decide +kernel) rfl rfl rfl (by decide +kernel)
set_option maxRecDepth 65536 in
theorem w_c5 : (Jvm.Cond.code ({ cls := "java/lang/Object", name := "<init>", desc := "()V" } : Jvm.MethodName) object_method_1_code (1 : Nat) (Option.none : Option Jvm.ClassFile.FieldType)).before args0 about1 = true := code_word (m := ⟨0, 0⟩) (meth := k0m0) (c := k0c0) (by decide +kernel) rfl rfl rfl (by decide +kernel)
set_option maxRecDepth 65536 in
theorem w_c6 : (Jvm.Cond.code ({ cls := "com/example/fenda/fenda/analysis/Combination", name := "of", desc := "([D)D" } : Jvm.MethodName) prog_3_method_2_code (5 : Nat) (Option.some Jvm.ClassFile.FieldType.double)).before args0 about1 = true := code_word (m := ⟨3, 1⟩) (meth := k3m1) (c := k3c1) (by decide +kernel) rfl rfl rfl (by decide +kernel)
def codes1 : List Jvm.Cond := [Jvm.Cond.code x code maxLocals ret, Jvm.Cond.code ({ cls := "com/example/fenda/fenda/analysis/CombinationOfPinLaw", name := "prefixInt", desc := "([II)[I" } : Jvm.MethodName) method_2_code (2 : Nat) (Option.some (Jvm.ClassFile.FieldType.array Jvm.ClassFile.FieldType.int)), Jvm.Cond.code ({ cls := "com/example/fenda/fenda/analysis/CombinationOfPinLaw", name := "prefixDouble", desc := "([DI)[D" } : Jvm.MethodName) method_3_code (2 : Nat) (Option.some (Jvm.ClassFile.FieldType.array Jvm.ClassFile.FieldType.double)), Jvm.Cond.code ({ cls := "com/example/fenda/fenda/analysis/Combination", name := "<init>", desc := "([I[D)V" } : Jvm.MethodName) prog_3_method_1_code (3 : Nat) (Option.none : Option Jvm.ClassFile.FieldType), Jvm.Cond.code ({ cls := "java/lang/Record", name := "<init>", desc := "()V" } : Jvm.MethodName) jdk_30_method_1_code (1 : Nat) (Option.none : Option Jvm.ClassFile.FieldType), Jvm.Cond.code ({ cls := "java/lang/Object", name := "<init>", desc := "()V" } : Jvm.MethodName) object_method_1_code (1 : Nat) (Option.none : Option Jvm.ClassFile.FieldType), Jvm.Cond.code ({ cls := "com/example/fenda/fenda/analysis/Combination", name := "of", desc := "([D)D" } : Jvm.MethodName) prog_3_method_2_code (5 : Nat) (Option.some Jvm.ClassFile.FieldType.double)]
set_option maxRecDepth 65536 in
theorem codes_eq : words1.filter isCode = codes1 := rfl
theorem w_codes : ∀ c ∈ words1.filter isCode, c.before args0 about1 = true := by
  rw [codes_eq]
  intro c hc
  simp only [codes1, List.mem_cons, List.not_mem_nil, or_false] at hc
  rcases hc with rfl | rfl | rfl | rfl | rfl | rfl | rfl
  · exact w_c0
  · exact w_c1
  · exact w_c2
  · exact w_c3
  · exact w_c4
  · exact w_c5
  · exact w_c6
set_option maxRecDepth 65536 in
theorem w_t1 : (words1.take 24).all (fun c => isCode c || c.before args0 about1) = true := by decide +kernel
set_option maxRecDepth 65536 in
theorem w_t2 : (words1.drop 24).all (fun c => isCode c || c.before args0 about1) = true := by decide +kernel
theorem w_tables : (allAtoms (Jvm.Cond.code x code maxLocals ret :: tables_1)).before args0 about1 = true := by
  rw [allAtoms_all]
  show words1.all (fun c => c.before args0 about1) = true
  refine all_split ?_ w_codes
  rw [← List.take_append_drop 24 words1, List.all_append, w_t1, w_t2]
  rfl
set_option maxRecDepth 65536 in
theorem w_case : (Jvm.Cond.and given_1 narrow_1).before args0 about1 = true := by decide +kernel
theorem w_applies : (headSpec (Jvm.Cond.code x code maxLocals ret :: tables_1) room_1).applies x e0.platform about1 = true :=
  (Spec.applies_iff w_frames).mpr ⟨w_running, w_runnable, w_alone, w_named, w_hears, w_ripe, w_room, w_tables⟩
theorem atStart : AtStart classFile x code maxLocals ret World_1 tables_1 room_1 Calls_1 rest_1 Pre_1 launch0 p0 e0 about1 theMethod args0 below0 :=
  ⟨lists_1, trivial, launch0.admits_env _ _ _, launch0.least_env, fairChoices_fair.cas, fairChoices_fair.clock, w_frames, w_args, w_heap, w_applies, trivial, trivial, w_case⟩
end start1
theorem witness_1 : WitnessClaimed_1 := ⟨start1.p0, start1.e0, start1.about1, start1.theMethod, start1.args0, start1.below0, start1.atStart⟩
end Jvm.Pilot.@@N@@
