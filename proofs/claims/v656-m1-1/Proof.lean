import JvmDerived
import JvmDerived.Pilot.@@N@@Statement
import JvmDerived.Pilot.@@N@@Code
set_option linter.unusedVariables false
set_option linter.unusedSimpArgs false
namespace Jvm.Pilot.@@N@@
open Jvm Jvm.ClassFile Sem Op Lib Jvm.Free Jvm.Stand Jvm.LawKit Jvm.RoadKit Bundle Jvm.Pilot.@@N@@.Jvm.D
/-! A walk as one goal: from the state U the run comes to an end that answers Q. -/
section Kit
def Go (p : Program) (e : Env) (below : List Frame) (s : State) (Q : Option Value → Heap → List Loc → Prop) (C N : Nat) (U : State) : Prop :=
  ∃ s₂ o, Steps p.tables e below U s₂ ∧ s₂.status = .running ∧ Ended s₂ below o ∧ ∃ v L, o = .returned v ∧ Q v s₂.heap L ∧ FrameEnd s o s₂ L C N
variable {p : Program} {l : Launch} {e : Env} {R : Room} {s : State} {m : MethodId} {args : Array Value} {below : List Frame} {meth : Method} {c : Code} {T : State} {locs : List Loc} {cells slots : Nat} {Q : Option Value → Heap → List Loc → Prop} {C N : Nat}
abbrev gO {p : Program} {e : Env} {below : List Frame} {s : State} {Q : Option Value → Heap → List Loc → Prop} {C N : Nat} (U : State) : Prop := Go p e below s Q C N U
abbrev tF (T : State) (m : MethodId) (pc : Nat) (ls : Array Slot) (st : List Value) : State := T.setTop (mkF m pc ls st)
theorem gob {U U' : State} (h : ∀ t, Steps p.tables e below U' t → Steps p.tables e below U t) (k : Go p e below s Q C N U') : Go p e below s Q C N U := by
  obtain ⟨s₂, o, h1, r⟩ := k
  exact ⟨s₂, o, h _ h1, r⟩
theorem goZ (X : Stand p l e R s m args below meth c T locs cells slots) (hx : p.tables.exec = Jvm.exec) (hlk : meth.locks = false) {t : FieldType} {pc : Nat} {Ls : Array Slot} {z z' : Int32} {rest : List Value} (hret : meth.sig.returnType = some t) (ht : t = .boolean ∨ t = .byte ∨ t = .char ∨ t = .short) (hd : decode c.code pc = .ok (.ireturn, 1)) (hz : nar t z = z') (hq : Q (some (.int z')) T.heap locs) (hc : cells ≤ C) (hn : slots ≤ N) :
    Go p e below s Q C N (T.setTop (mkF m pc Ls (.int z :: rest))) := by
  subst hz
  obtain ⟨fs, hr, hrun, hended, hW, hsame⟩ := X.leave (v := some (.int (nar t z))) (fun h => by rw [hret] at h; cases h) hlk
  exact ⟨_, _, retN X hx hret ht hd hr, hrun, hended, _, _, rfl, hq, ⟨_, rfl⟩, hW, hsame.mono hc hn⟩
theorem goI (X : Stand p l e R s m args below meth c T locs cells slots) (hx : p.tables.exec = Jvm.exec) (hlk : meth.locks = false) {pc : Nat} {Ls : Array Slot} {z : Int32} {rest : List Value} (hret : meth.sig.returnType = some .int) (hd : decode c.code pc = .ok (.ireturn, 1)) (hq : Q (some (.int z)) T.heap locs) (hc : cells ≤ C) (hn : slots ≤ N) :
    Go p e below s Q C N (T.setTop (mkF m pc Ls (.int z :: rest))) := by
  obtain ⟨fs, hr, hrun, hended, hW, hsame⟩ := X.leave (v := some (.int z)) (fun h => by rw [hret] at h; cases h) hlk
  exact ⟨_, _, retOut X hx hret rfl (Or.inl ⟨rfl, Or.inl rfl, z, rfl⟩) hd hr, hrun, hended, _, _, rfl, hq, ⟨_, rfl⟩, hW, hsame.mono hc hn⟩
theorem goJ (X : Stand p l e R s m args below meth c T locs cells slots) (hx : p.tables.exec = Jvm.exec) (hlk : meth.locks = false) {pc : Nat} {Ls : Array Slot} {z : Int64} {rest : List Value} (hret : meth.sig.returnType = some .long) (hd : decode c.code pc = .ok (.lreturn, 1)) (hq : Q (some (.long z)) T.heap locs) (hc : cells ≤ C) (hn : slots ≤ N) :
    Go p e below s Q C N (T.setTop (mkF m pc Ls (.long z :: rest))) := by
  obtain ⟨fs, hr, hrun, hended, hW, hsame⟩ := X.leave (v := some (.long z)) (fun h => by rw [hret] at h; cases h) hlk
  exact ⟨_, _, retOut X hx hret rfl (Or.inr (Or.inl ⟨rfl, rfl, z, rfl⟩)) hd hr, hrun, hended, _, _, rfl, hq, ⟨_, rfl⟩, hW, hsame.mono hc hn⟩
theorem goD (X : Stand p l e R s m args below meth c T locs cells slots) (hx : p.tables.exec = Jvm.exec) (hlk : meth.locks = false) {pc : Nat} {Ls : Array Slot} {z : UInt64} {rest : List Value} (hret : meth.sig.returnType = some .double) (hd : decode c.code pc = .ok (.dreturn, 1)) (hq : Q (some (.double z)) T.heap locs) (hc : cells ≤ C) (hn : slots ≤ N) :
    Go p e below s Q C N (T.setTop (mkF m pc Ls (.double z :: rest))) := by
  obtain ⟨fs, hr, hrun, hended, hW, hsame⟩ := X.leave (v := some (.double z)) (fun h => by rw [hret] at h; cases h) hlk
  exact ⟨_, _, retOut X hx hret rfl (Or.inr (Or.inr (Or.inl ⟨rfl, rfl, z, rfl⟩))) hd hr, hrun, hended, _, _, rfl, hq, ⟨_, rfl⟩, hW, hsame.mono hc hn⟩
theorem goA (X : Stand p l e R s m args below meth c T locs cells slots) (hx : p.tables.exec = Jvm.exec) (hlk : meth.locks = false) {t : FieldType} {pc : Nat} {Ls : Array Slot} {z : Value} {rest : List Value} (hret : meth.sig.returnType = some t) (ht : t.isReference = true) (hv : z.isRef = true) (hd : decode c.code pc = .ok (.areturn, 1)) (hq : Q (some z) T.heap locs) (hc : cells ≤ C) (hn : slots ≤ N) :
    Go p e below s Q C N (T.setTop (mkF m pc Ls (z :: rest))) := by
  obtain ⟨fs, hr, hrun, hended, hW, hsame⟩ := X.leave (v := some z) (fun h => by rw [hret] at h; cases h) hlk
  have hnw : narrow t z = z := by cases z <;> cases t <;> first | rfl | (simp [Value.isRef] at hv) | (simp [FieldType.isReference] at ht)
  exact ⟨_, _, retOut X hx hret hnw (Or.inr (Or.inr (Or.inr (Or.inr ⟨rfl, ht, hv⟩)))) hd hr, hrun, hended, _, _, rfl, hq, ⟨_, rfl⟩, hW, hsame.mono hc hn⟩
theorem goV (X : Stand p l e R s m args below meth c T locs cells slots) (hx : p.tables.exec = Jvm.exec) (hlk : meth.locks = false) {pc : Nat} {Ls : Array Slot} (hret : meth.sig.returnType = none) (hd : decode c.code pc = .ok (.return_, 1)) (hq : Q none T.heap locs) (hc : cells ≤ C) (hn : slots ≤ N) :
    Go p e below s Q C N (T.setTop (mkF m pc Ls [])) := by
  obtain ⟨fs, hr, hrun, hended, hW, hsame⟩ := X.leave (v := none) (fun _ => rfl) hlk
  exact ⟨_, _, X.returnOut hx hret hd hr, hrun, hended, _, _, rfl, hq, ⟨_, rfl⟩, hW, hsame.mono hc hn⟩
theorem lremM {g : JFrame} {target : State} (X : Stand p l e R s m args below meth c T locs cells slots) (hx : p.tables.exec = Jvm.exec) (hg : g.method = m) {x y : Int64} {rest : List Value} (hd : decode c.code g.pc = .ok (.lrem, 1)) (hs : g.stack = .long y :: .long x :: rest) (hy : y ≠ 0)
    (hr : Steps p.tables e below (T.setTop { g with pc := g.pc + 1, stack := .long (x % y) :: rest }) target) : Steps p.tables e below (T.setTop g) target :=
  XS.lrem X.here hx hg hd hs hy (by rw [lrem_mod x y]; exact hr)
theorem own_lrem (x y : Int64) (d : Int) (hy : y.toInt = d) : (0 ≤ x.toInt → (x % y).toInt = x.toInt % d) ∧ (x.toInt < 0 → (x % y).toInt = -((-x.toInt) % d)) := by rw [Int64.toInt_mod, hy]; exact tr _ _
theorem own_lxor (x y : Int64) (hy : 0 ≤ y.toInt) : ((x ^^^ y).toInt < 0 ↔ x.toInt < 0) := by
  have h1 : (x ^^^ y).toBitVec.msb = (x.toBitVec.msb ^^ y.toBitVec.msb) := by rw [Int64.toBitVec_xor, BitVec.msb_xor]
  have h2 := BitVec.msb_eq_toInt (x := (x ^^^ y).toBitVec)
  have h3 := BitVec.msb_eq_toInt (x := x.toBitVec)
  have h4 := BitVec.msb_eq_toInt (x := y.toBitVec)
  have e1 : (x ^^^ y).toBitVec.toInt = (x ^^^ y).toInt := rfl
  have e2 : x.toBitVec.toInt = x.toInt := rfl
  have e3 : y.toBitVec.toInt = y.toInt := rfl
  rw [e1] at h2
  rw [e2] at h3
  rw [e3] at h4
  have h5 : ¬ y.toInt < 0 := by omega
  rw [h2, h3, h4, decide_eq_false h5, Bool.xor_false] at h1
  simpa using h1
theorem pop2L {g : JFrame} {target : State} (X : Stand p l e R s m args below meth c T locs cells slots) (hx : p.tables.exec = Jvm.exec) (hg : g.method = m) {x : Int64} {rest : List Value} (hd : decode c.code g.pc = .ok (.pop2, 1)) (hs : g.stack = .long x :: rest)
    (hr : Steps p.tables e below (T.setTop { g with pc := g.pc + 1, stack := rest }) target) : Steps p.tables e below (T.setTop g) target := by
  subst hg
  jvm_step X.here [X.here.top, hx, hd, hs, Value.category]
  exact hr
theorem own_staKeep {Z : State} {h h' : Heap} {C n d : String} {v : Value} {ws : List Addr} (F : Sta Z h C n d v) (K : Keep h h' ws) (hn : ∀ x ∈ ws, ∀ cell : Cell, h[x]? = some cell → cell.vm.isStatics = false) : Sta Z h' C n d v := by
  obtain ⟨cf, i, k, f, st, cell, h1, h2, h3, h4, h5, h6, h7⟩ := F
  exact ⟨cf, i, k, f, st, cell, h1, h2, h3, h4, K.2.1 _ _ h5 (fun q => by have q2 := hn _ q _ h5; rw [h6] at q2; cases q2), h6, h7⟩
theorem own_lmulR (x y : Int64) (d : Int) (hy : y.toInt = d) : ((x * y).toInt - x.toInt * d) % 18446744073709551616 = 0 := by rw [← hy]; exact c_lmul x y
theorem own_lmulL (x y : Int64) (d : Int) (hx : x.toInt = d) : ((x * y).toInt - d * y.toInt) % 18446744073709551616 = 0 := by rw [← hx]; exact c_lmul x y
theorem own_imulR (x y : Int32) (d : Int) (hy : y.toInt = d) : ((x * y).toInt - x.toInt * d) % 4294967296 = 0 := by rw [← hy]; exact c_imul x y
theorem own_imulL (x y : Int32) (d : Int) (hx : x.toInt = d) : ((x * y).toInt - d * y.toInt) % 4294967296 = 0 := by rw [← hx]; exact c_imul x y
theorem castX {k' n' : Nat} (X : Stand p l e R s m args below meth c T locs cells slots) (h1 : cells = k') (h2 : slots = n') : Stand p l e R s m args below meth c T locs k' n' := by
  subst h1
  subst h2
  exact X
theorem hW {Z : State} {a0 : Array Value} (hw : ∀ d ∈ tables_1, d.before a0 Z = true) (i : Nat) {d : Jvm.Cond} (h : tables_1[i]? = some d) : d.before a0 Z = true := hw _ (List.mem_of_getElem? h)
end Kit

abbrev la0 (a0 : Addr) : Array Slot := #[.val (.ref a0), .unset, .unset, .unset, .unset]
abbrev la1 (a0 : Addr) (a1 : Int32) : Array Slot := #[.val (.ref a0), .val (.int a1), .unset, .unset, .unset]
abbrev la2 (a0 : Addr) (a1 : Int32) (a2 : UInt64) : Array Slot := #[.val (.ref a0), .val (.int a1), .val (.double a2), .second, .unset]
abbrev la3 (a0 : Addr) (a1 : Int32) (a2 : UInt64) (a4 : Int32) : Array Slot := #[.val (.ref a0), .val (.int a1), .val (.double a2), .second, .val (.int a4)]
abbrev la4 (a0 : Int32) (a1 : Int32) (a2 : Int32) (a3 : Int32) (a4 : Int32) : Array Slot := #[.val (.int a0), .val (.int a1), .val (.int a2), .val (.int a3), .val (.int a4), .unset, .unset, .unset, .unset, .unset, .unset, .unset, .unset, .unset]
abbrev la5 (a0 : Int32) (a1 : Int32) (a2 : Int32) (a3 : Int32) (a4 : Int32) (a5 : Int32) : Array Slot := #[.val (.int a0), .val (.int a1), .val (.int a2), .val (.int a3), .val (.int a4), .val (.int a5), .unset, .unset, .unset, .unset, .unset, .unset, .unset, .unset]
abbrev la6 (a0 : Int32) (a1 : Int32) (a2 : Int32) (a3 : Int32) (a4 : Int32) (a5 : Int32) (a6 : Addr) : Array Slot := #[.val (.int a0), .val (.int a1), .val (.int a2), .val (.int a3), .val (.int a4), .val (.int a5), .val (.ref a6), .unset, .unset, .unset, .unset, .unset, .unset, .unset]
abbrev la7 (a0 : Int32) (a1 : Int32) (a2 : Int32) (a3 : Int32) (a4 : Int32) (a5 : Int32) (a6 : Addr) (a7 : Int32) : Array Slot := #[.val (.int a0), .val (.int a1), .val (.int a2), .val (.int a3), .val (.int a4), .val (.int a5), .val (.ref a6), .val (.int a7), .unset, .unset, .unset, .unset, .unset, .unset]
abbrev la8 (a0 : Int32) (a1 : Int32) (a2 : Int32) (a3 : Int32) (a4 : Int32) (a5 : Int32) (a6 : Addr) (a7 : Int32) (a8 : Addr) (a9 : Addr) : Array Slot := #[.val (.int a0), .val (.int a1), .val (.int a2), .val (.int a3), .val (.int a4), .val (.int a5), .val (.ref a6), .val (.int a7), .val (.ref a8), .val (.ref a9), .unset, .unset, .unset, .unset]
abbrev la9 (a0 : Int32) (a1 : Int32) (a2 : Int32) (a3 : Int32) (a4 : Int32) (a5 : Int32) (a6 : Addr) (a7 : Int32) (a8 : Addr) : Array Slot := #[.val (.int a0), .val (.int a1), .val (.int a2), .val (.int a3), .val (.int a4), .val (.int a5), .val (.ref a6), .val (.int a7), .val (.ref a8), .unset, .unset, .unset, .unset, .unset]
abbrev la10 (a0 : Int32) (a1 : Int32) (a2 : Int32) (a3 : Int32) (a4 : Int32) (a5 : Int32) (a6 : Addr) (a7 : Int32) (a8 : Addr) (a9 : Addr) (a10 : UInt64) : Array Slot := #[.val (.int a0), .val (.int a1), .val (.int a2), .val (.int a3), .val (.int a4), .val (.int a5), .val (.ref a6), .val (.int a7), .val (.ref a8), .val (.ref a9), .val (.double a10), .second, .unset, .unset]
abbrev la11 (a0 : Int32) (a1 : Int32) (a2 : Int32) (a3 : Int32) (a4 : Int32) (a5 : Int32) (a6 : Addr) (a7 : Int32) (a8 : Addr) (a9 : Addr) (a10 : UInt64) (a12 : UInt64) : Array Slot := #[.val (.int a0), .val (.int a1), .val (.int a2), .val (.int a3), .val (.int a4), .val (.int a5), .val (.ref a6), .val (.int a7), .val (.ref a8), .val (.ref a9), .val (.double a10), .second, .val (.double a12), .second]
theorem d1_0 : decode prog_57_method_2_code 0 = .ok (.iconst 0, 1) := by decide +kernel
theorem d1_1 : decode prog_57_method_2_code 1 = .ok (.istore_n 1, 1) := by decide +kernel
theorem d1_2 : decode prog_57_method_2_code 2 = .ok (.dconst 0, 1) := by decide +kernel
theorem d1_3 : decode prog_57_method_2_code 3 = .ok (.dstore_n 2, 1) := by decide +kernel
theorem d1_4 : decode prog_57_method_2_code 4 = .ok (.iconst 1, 1) := by decide +kernel
theorem d1_5 : decode prog_57_method_2_code 5 = .ok (.istore 4, 2) := by decide +kernel
theorem d1_7 : decode prog_57_method_2_code 7 = .ok (.iload 4, 2) := by decide +kernel
theorem d1_9 : decode prog_57_method_2_code 9 = .ok (.aload_n 0, 1) := by decide +kernel
theorem d1_10 : decode prog_57_method_2_code 10 = .ok (.arraylength, 1) := by decide +kernel
theorem d1_11 : decode prog_57_method_2_code 11 = .ok (.if_icmp .gt 30, 3) := by decide +kernel
theorem d1_14 : decode prog_57_method_2_code 14 = .ok (.aload_n 0, 1) := by decide +kernel
theorem d1_15 : decode prog_57_method_2_code 15 = .ok (.iload 4, 2) := by decide +kernel
theorem d1_17 : decode prog_57_method_2_code 17 = .ok (.iconst 1, 1) := by decide +kernel
theorem d1_18 : decode prog_57_method_2_code 18 = .ok (.isub, 1) := by decide +kernel
theorem d1_19 : decode prog_57_method_2_code 19 = .ok (.iaload, 1) := by decide +kernel
theorem d1_20 : decode prog_57_method_2_code 20 = .ok (.ifCond .le 15, 3) := by decide +kernel
theorem d1_23 : decode prog_57_method_2_code 23 = .ok (.iinc 1 1, 3) := by decide +kernel
theorem d1_26 : decode prog_57_method_2_code 26 = .ok (.dload_n 2, 1) := by decide +kernel
theorem d1_27 : decode prog_57_method_2_code 27 = .ok (.iload_n 1, 1) := by decide +kernel
theorem d1_28 : decode prog_57_method_2_code 28 = .ok (.i2d, 1) := by decide +kernel
theorem d1_29 : decode prog_57_method_2_code 29 = .ok (.iload 4, 2) := by decide +kernel
theorem d1_31 : decode prog_57_method_2_code 31 = .ok (.i2d, 1) := by decide +kernel
theorem d1_32 : decode prog_57_method_2_code 32 = .ok (.ddiv, 1) := by decide +kernel
theorem d1_33 : decode prog_57_method_2_code 33 = .ok (.dadd, 1) := by decide +kernel
theorem d1_34 : decode prog_57_method_2_code 34 = .ok (.dstore_n 2, 1) := by decide +kernel
theorem d1_35 : decode prog_57_method_2_code 35 = .ok (.iinc 4 1, 3) := by decide +kernel
theorem d1_38 : decode prog_57_method_2_code 38 = .ok (.goto (-31), 3) := by decide +kernel
theorem d1_41 : decode prog_57_method_2_code 41 = .ok (.iload_n 1, 1) := by decide +kernel
theorem d1_42 : decode prog_57_method_2_code 42 = .ok (.ifCond .ne 7, 3) := by decide +kernel
theorem d1_45 : decode prog_57_method_2_code 45 = .ok (.dconst 0, 1) := by decide +kernel
theorem d1_46 : decode prog_57_method_2_code 46 = .ok (.goto 7, 3) := by decide +kernel
theorem d1_49 : decode prog_57_method_2_code 49 = .ok (.dload_n 2, 1) := by decide +kernel
theorem d1_50 : decode prog_57_method_2_code 50 = .ok (.iload_n 1, 1) := by decide +kernel
theorem d1_51 : decode prog_57_method_2_code 51 = .ok (.i2d, 1) := by decide +kernel
theorem d1_52 : decode prog_57_method_2_code 52 = .ok (.ddiv, 1) := by decide +kernel
theorem d1_53 : decode prog_57_method_2_code 53 = .ok (.dreturn, 1) := by decide +kernel
theorem ef_ap0 (m : MethodId) (x0 : Addr) : entryFrame m #[(.ref x0)] 5 = mkF m 0 #[.val (.ref x0), .unset, .unset, .unset, .unset] [] := by first | (simp [entryFrame, mkF, argsToLocals, Value.category]; done) | rfl
def Qap0 (Z : State) (o0 : Addr) (k_a : ClassId) (h0 : Heap) (n0 : Nat) (v : Option Value) (h : Heap) (L : List Loc) : Prop := ∃ r : UInt64, v = some (.double r) ∧ ((r = (0 : UInt64))) ∧ Fr n0 L ∧ h = h0
set_option maxRecDepth 65536 in
set_option maxHeartbeats 40000000 in
theorem rmap0 (l : Launch) (Z : State) (a0 : Array Value) (hw : ∀ d ∈ tables_1, d.before a0 Z = true) (ws : List Jvm.Cond) (o0 : Addr) (k_a : ClassId) (h0 : Heap) (n0 : Nat) (Z0 : n0 ≤ h0.size) (V_a : Arv Z h0 o0 k_a .int (0 : Int32) [] (.int 0)) :
    MetFree l (⟨"com/example/coevolution/coevolution/measure/Measures", "averagePrecision", "([I)D"⟩ : MethodName) (head1 (Jvm.Cond.code (⟨"com/example/coevolution/coevolution/measure/Measures", "averagePrecision", "([I)D"⟩ : MethodName) prog_57_method_2_code 5 (some .double) :: ws) ({ frames := 0, cells := 0, slots := 0, locals := 0 } : Room)) (fun a U => a = #[(.ref o0)] ∧ Z.Warmed39 U.vm ∧ U.heap = h0) (fun _ _ _ _ _ => True) (fun _ U o U' => ∃ v L, o = .returned v ∧ Qap0 Z o0 k_a h0 n0 v U'.heap L ∧ FrameEnd U o U' L ({ frames := 0, cells := 0, slots := 0, locals := 0 } : Room).cells ({ frames := 0, cells := 0, slots := 0, locals := 0 } : Room).slots) := by
  refine MetFree.of_bodySF (plainFor_of_name (by first | (simp [plainName, overriddenIn]; done) | decide +kernel)) hisR ?_
  intro p e s m args below meth c s₁ Bd hml0 hP hK
  obtain ⟨rfl, hZ, hh⟩ := hP
  have hx := Bd.exec
  have hby := Bd.bytes
  have hml : c.maxLocals = 5 := hml0
  have hown : s.vm.findClass "com/example/coevolution/coevolution/measure/Measures" = some m.cls := findClass_of_methodNamed Bd.named
  have hnm := (name_of_methodNamed Bd.named Bd.method).1
  have hlk := BodyLoose.notSynchronized Bd
  have X0 : Stand p l e ({ frames := 0, cells := 0, slots := 0, locals := 0 } : Room) s m #[(.ref o0)] below meth c s₁ [] 0 0 := Stand.of_body Bd
  have e0 : s₁.heap = h0 := by rw [← hh, Bd.state]; rfl
  have N0 := Fr.nil n0
  show Go p e below s (Qap0 Z o0 k_a h0 n0) 0 0 (s₁.setTop (entryFrame m #[(.ref o0)] 5))
  rw [ef_ap0]
  show gO (tF s₁ m 0 (la0 o0) [])
  refine gob (fun _ k => XS.iconst X0.here hx rfl (hb hby d1_0) k) ?_
  show gO (tF s₁ m 1 (la0 o0) [(.int 0)])
  refine gob (fun _ k => XS.istoreN X0.here hx rfl (hb hby d1_1) rfl (l' := (la1 o0 0)) rfl k) ?_
  show gO (tF s₁ m 2 (la1 o0 0) [])
  refine gob (fun _ k => XS.dconst0 X0.here hx rfl (hb hby d1_2) (v := (0 : UInt64)) (by decide +kernel) k) ?_
  show gO (tF s₁ m 3 (la1 o0 0) [(.double (0 : UInt64))])
  refine gob (fun _ k => XS.dstoreN X0.here hx rfl (hb hby d1_3) rfl (l' := (la2 o0 0 (0 : UInt64))) rfl k) ?_
  show gO (tF s₁ m 4 (la2 o0 0 (0 : UInt64)) [])
  refine gob (fun _ k => XS.iconst X0.here hx rfl (hb hby d1_4) k) ?_
  show gO (tF s₁ m 5 (la2 o0 0 (0 : UInt64)) [(.int 1)])
  refine gob (fun _ k => XS.istore X0.here hx rfl (hb hby d1_5) rfl (l' := (la3 o0 0 (0 : UInt64) 1)) rfl k) ?_
  show gO (tF s₁ m 7 (la3 o0 0 (0 : UInt64) 1) [])
  refine gob (fun _ k => XS.iload X0.here hx rfl (hb hby d1_7) rfl k) ?_
  show gO (tF s₁ m 9 (la3 o0 0 (0 : UInt64) 1) [(.int 1)])
  refine gob (fun _ k => XS.aloadN X0.here hx rfl (hb hby d1_9) rfl rfl k) ?_
  show gO (tF s₁ m 10 (la3 o0 0 (0 : UInt64) 1) [(.ref o0), (.int 1)])
  obtain ⟨cl1, Ar1, aq1, S1, N1, H1, G1⟩ := id V_a
  refine gob (X0.arraylength hx (by rw [e0]; exact Ar1.1) (State.isArrayOf_alike hZ.alike Ar1.2.1) (g := (mkF m 10 (la3 o0 0 (0 : UInt64) 1) [(.ref o0), (.int 1)])) rfl rfl (hb hby d1_10)) ?_
  rw [len_of S1 N1]
  show gO (tF s₁ m 11 (la3 o0 0 (0 : UInt64) 1) [(.int 0), (.int 1)])
  refine gob (fun _ k => XS.icmpYes X0.here hx rfl (pc0 := 11) (pc' := 41) rfl (hb hby d1_11) rfl (tlt (by decide : (0 : Int32) < (1 : Int32))).2.2.1 (by decide) (by decide) k) ?_
  show gO (tF s₁ m 41 (la3 o0 0 (0 : UInt64) 1) [])
  refine gob (fun _ k => XS.iloadN X0.here hx rfl (hb hby d1_41) rfl k) ?_
  show gO (tF s₁ m 42 (la3 o0 0 (0 : UInt64) 1) [(.int 0)])
  refine gob (fun _ k => XS.ifNo X0.here hx rfl (hb hby d1_42) rfl ((if0 _ _).trans (teq (by decide : (0 : Int32) = (0 : Int32))).2) k) ?_
  show gO (tF s₁ m 45 (la3 o0 0 (0 : UInt64) 1) [])
  refine gob (fun _ k => XS.dconst0 X0.here hx rfl (hb hby d1_45) (v := (0 : UInt64)) (by decide +kernel) k) ?_
  show gO (tF s₁ m 46 (la3 o0 0 (0 : UInt64) 1) [(.double (0 : UInt64))])
  refine gob (fun _ k => XS.goto X0.here hx rfl (pc0 := 46) (pc' := 53) rfl (hb hby d1_46) (by decide) (by decide) k) ?_
  show gO (tF s₁ m 53 (la3 o0 0 (0 : UInt64) 1) [(.double (0 : UInt64))])
  refine goD X0 hx hlk Bd.returns (hb hby d1_53) ?_ (by decide) (by decide)
  show Qap0 Z o0 k_a h0 n0 (some (.double (0 : UInt64))) s₁.heap _
  exact ⟨(0 : UInt64), rfl, rfl, N0, e0⟩
theorem ef_ap1 (m : MethodId) (x0 : Addr) : entryFrame m #[(.ref x0)] 5 = mkF m 0 #[.val (.ref x0), .unset, .unset, .unset, .unset] [] := by first | (simp [entryFrame, mkF, argsToLocals, Value.category]; done) | rfl
def Qap1 (Z : State) (o0 : Addr) (k_a : ClassId) (e_0 : Int32) (h0 : Heap) (n0 : Nat) (v : Option Value) (h : Heap) (L : List Loc) : Prop := ∃ r : UInt64, v = some (.double r) ∧ (((0 : Int32) < e_0 ∧ r = (4607182418800017408 : UInt64)) ∨ (¬ ((0 : Int32) < e_0) ∧ r = (0 : UInt64))) ∧ Fr n0 L ∧ h = h0
set_option maxRecDepth 65536 in
set_option maxHeartbeats 40000000 in
theorem rmap1 (l : Launch) (Z : State) (a0 : Array Value) (hw : ∀ d ∈ tables_1, d.before a0 Z = true) (ws : List Jvm.Cond) (o0 : Addr) (k_a : ClassId) (e_0 : Int32) (h0 : Heap) (n0 : Nat) (Z0 : n0 ≤ h0.size) (V_a : Arv Z h0 o0 k_a .int (1 : Int32) [(.int e_0)] (.int 0)) :
    MetFree l (⟨"com/example/coevolution/coevolution/measure/Measures", "averagePrecision", "([I)D"⟩ : MethodName) (head1 (Jvm.Cond.code (⟨"com/example/coevolution/coevolution/measure/Measures", "averagePrecision", "([I)D"⟩ : MethodName) prog_57_method_2_code 5 (some .double) :: ws) ({ frames := 0, cells := 0, slots := 0, locals := 0 } : Room)) (fun a U => a = #[(.ref o0)] ∧ Z.Warmed39 U.vm ∧ U.heap = h0) (fun _ _ _ _ _ => True) (fun _ U o U' => ∃ v L, o = .returned v ∧ Qap1 Z o0 k_a e_0 h0 n0 v U'.heap L ∧ FrameEnd U o U' L ({ frames := 0, cells := 0, slots := 0, locals := 0 } : Room).cells ({ frames := 0, cells := 0, slots := 0, locals := 0 } : Room).slots) := by
  refine MetFree.of_bodySF (plainFor_of_name (by first | (simp [plainName, overriddenIn]; done) | decide +kernel)) hisR ?_
  intro p e s m args below meth c s₁ Bd hml0 hP hK
  obtain ⟨rfl, hZ, hh⟩ := hP
  have hx := Bd.exec
  have hby := Bd.bytes
  have hml : c.maxLocals = 5 := hml0
  have hown : s.vm.findClass "com/example/coevolution/coevolution/measure/Measures" = some m.cls := findClass_of_methodNamed Bd.named
  have hnm := (name_of_methodNamed Bd.named Bd.method).1
  have hlk := BodyLoose.notSynchronized Bd
  have X0 : Stand p l e ({ frames := 0, cells := 0, slots := 0, locals := 0 } : Room) s m #[(.ref o0)] below meth c s₁ [] 0 0 := Stand.of_body Bd
  have e0 : s₁.heap = h0 := by rw [← hh, Bd.state]; rfl
  have N0 := Fr.nil n0
  show Go p e below s (Qap1 Z o0 k_a e_0 h0 n0) 0 0 (s₁.setTop (entryFrame m #[(.ref o0)] 5))
  rw [ef_ap1]
  show gO (tF s₁ m 0 (la0 o0) [])
  refine gob (fun _ k => XS.iconst X0.here hx rfl (hb hby d1_0) k) ?_
  show gO (tF s₁ m 1 (la0 o0) [(.int 0)])
  refine gob (fun _ k => XS.istoreN X0.here hx rfl (hb hby d1_1) rfl (l' := (la1 o0 0)) rfl k) ?_
  show gO (tF s₁ m 2 (la1 o0 0) [])
  refine gob (fun _ k => XS.dconst0 X0.here hx rfl (hb hby d1_2) (v := (0 : UInt64)) (by decide +kernel) k) ?_
  show gO (tF s₁ m 3 (la1 o0 0) [(.double (0 : UInt64))])
  refine gob (fun _ k => XS.dstoreN X0.here hx rfl (hb hby d1_3) rfl (l' := (la2 o0 0 (0 : UInt64))) rfl k) ?_
  show gO (tF s₁ m 4 (la2 o0 0 (0 : UInt64)) [])
  refine gob (fun _ k => XS.iconst X0.here hx rfl (hb hby d1_4) k) ?_
  show gO (tF s₁ m 5 (la2 o0 0 (0 : UInt64)) [(.int 1)])
  refine gob (fun _ k => XS.istore X0.here hx rfl (hb hby d1_5) rfl (l' := (la3 o0 0 (0 : UInt64) 1)) rfl k) ?_
  show gO (tF s₁ m 7 (la3 o0 0 (0 : UInt64) 1) [])
  refine gob (fun _ k => XS.iload X0.here hx rfl (hb hby d1_7) rfl k) ?_
  show gO (tF s₁ m 9 (la3 o0 0 (0 : UInt64) 1) [(.int 1)])
  refine gob (fun _ k => XS.aloadN X0.here hx rfl (hb hby d1_9) rfl rfl k) ?_
  show gO (tF s₁ m 10 (la3 o0 0 (0 : UInt64) 1) [(.ref o0), (.int 1)])
  obtain ⟨cl1, Ar1, aq1, S1, N1, H1, G1⟩ := id V_a
  refine gob (X0.arraylength hx (by rw [e0]; exact Ar1.1) (State.isArrayOf_alike hZ.alike Ar1.2.1) (g := (mkF m 10 (la3 o0 0 (0 : UInt64) 1) [(.ref o0), (.int 1)])) rfl rfl (hb hby d1_10)) ?_
  rw [len_of S1 N1]
  show gO (tF s₁ m 11 (la3 o0 0 (0 : UInt64) 1) [(.int 1), (.int 1)])
  refine gob (fun _ k => XS.icmpNo X0.here hx rfl (hb hby d1_11) rfl (flt (by decide : ¬ ((1 : Int32) < (1 : Int32)))).2.2.1 k) ?_
  show gO (tF s₁ m 14 (la3 o0 0 (0 : UInt64) 1) [])
  refine gob (fun _ k => XS.aloadN X0.here hx rfl (hb hby d1_14) rfl rfl k) ?_
  show gO (tF s₁ m 15 (la3 o0 0 (0 : UInt64) 1) [(.ref o0)])
  refine gob (fun _ k => XS.iload X0.here hx rfl (hb hby d1_15) rfl k) ?_
  show gO (tF s₁ m 17 (la3 o0 0 (0 : UInt64) 1) [(.int 1), (.ref o0)])
  refine gob (fun _ k => XS.iconst X0.here hx rfl (hb hby d1_17) k) ?_
  show gO (tF s₁ m 18 (la3 o0 0 (0 : UInt64) 1) [(.int 1), (.int 1), (.ref o0)])
  refine gob (fun _ k => XS.isub X0.here hx rfl (hb hby d1_18) rfl k) ?_
  show gO (tF s₁ m 19 (la3 o0 0 (0 : UInt64) 1) [(.int 0), (.ref o0)])
  obtain ⟨cl2, Ar2, aq2, S2, N2, H2, G2⟩ := id V_a
  have hin2 : ¬ ((0 : Int32) < 0 ∨ cl2.slots.size ≤ ((0 : Int32)).toNatClampNeg) := inb_of S2 ⟨by decide, by decide⟩
  refine gob (X0.iaload hx (j := (0 : Int32)) (v := (.int e_0)) (by rw [e0]; exact Ar2.1) (State.isArrayOf_alike hZ.alike Ar2.2.1) Ar2.2.2 hin2 (Has.at H2 hin2 rfl) (g := (mkF m 19 (la3 o0 0 (0 : UInt64) 1) [(.int 0), (.ref o0)])) rfl rfl (hb hby d1_19)) ?_
  show gO (tF s₁ m 20 (la3 o0 0 (0 : UInt64) 1) [(.int e_0)])
  by_cases hc20_3 : (0 : Int32) < e_0
  · skip
    refine gob (fun _ k => XS.ifNo X0.here hx rfl (hb hby d1_20) rfl ((if0 _ _).trans (tlt hc20_3).2.2.2) k) ?_
    show gO (tF s₁ m 23 (la3 o0 0 (0 : UInt64) 1) [])
    refine gob (fun _ k => XS.iinc X0.here hx rfl (hb hby d1_23) rfl (l' := (la3 o0 1 (0 : UInt64) 1)) rfl k) ?_
    show gO (tF s₁ m 26 (la3 o0 1 (0 : UInt64) 1) [])
    refine gob (fun _ k => XS.dloadN X0.here hx rfl (hb hby d1_26) rfl k) ?_
    show gO (tF s₁ m 27 (la3 o0 1 (0 : UInt64) 1) [(.double (0 : UInt64))])
    refine gob (fun _ k => XS.iloadN X0.here hx rfl (hb hby d1_27) rfl k) ?_
    show gO (tF s₁ m 28 (la3 o0 1 (0 : UInt64) 1) [(.int 1), (.double (0 : UInt64))])
    refine gob (fun _ k => XS.i2dS X0.here hx rfl (hb hby d1_28) rfl (v := (4607182418800017408 : UInt64)) (by decide +kernel) k) ?_
    show gO (tF s₁ m 29 (la3 o0 1 (0 : UInt64) 1) [(.double (4607182418800017408 : UInt64)), (.double (0 : UInt64))])
    refine gob (fun _ k => XS.iload X0.here hx rfl (hb hby d1_29) rfl k) ?_
    show gO (tF s₁ m 31 (la3 o0 1 (0 : UInt64) 1) [(.int 1), (.double (4607182418800017408 : UInt64)), (.double (0 : UInt64))])
    refine gob (fun _ k => XS.i2dS X0.here hx rfl (hb hby d1_31) rfl (v := (4607182418800017408 : UInt64)) (by decide +kernel) k) ?_
    show gO (tF s₁ m 32 (la3 o0 1 (0 : UInt64) 1) [(.double (4607182418800017408 : UInt64)), (.double (4607182418800017408 : UInt64)), (.double (0 : UInt64))])
    refine gob (fun _ k => XS.ddivS X0.here hx rfl (hb hby d1_32) rfl (v := (4607182418800017408 : UInt64)) (by unfold Jvm.Free.Fl.NoNaN64; decide +kernel) (by decide +kernel) k) ?_
    show gO (tF s₁ m 33 (la3 o0 1 (0 : UInt64) 1) [(.double (4607182418800017408 : UInt64)), (.double (0 : UInt64))])
    refine gob (fun _ k => XS.daddS X0.here hx rfl (hb hby d1_33) rfl (v := (4607182418800017408 : UInt64)) (by unfold Jvm.Free.Fl.NoNaN64; decide +kernel) (by decide +kernel) k) ?_
    show gO (tF s₁ m 34 (la3 o0 1 (0 : UInt64) 1) [(.double (4607182418800017408 : UInt64))])
    refine gob (fun _ k => XS.dstoreN X0.here hx rfl (hb hby d1_34) rfl (l' := (la3 o0 1 (4607182418800017408 : UInt64) 1)) rfl k) ?_
    show gO (tF s₁ m 35 (la3 o0 1 (4607182418800017408 : UInt64) 1) [])
    refine gob (fun _ k => XS.iinc X0.here hx rfl (hb hby d1_35) rfl (l' := (la3 o0 1 (4607182418800017408 : UInt64) 2)) rfl k) ?_
    show gO (tF s₁ m 38 (la3 o0 1 (4607182418800017408 : UInt64) 2) [])
    refine gob (fun _ k => XS.goto X0.here hx rfl (pc0 := 38) (pc' := 7) rfl (hb hby d1_38) (by decide) (by decide) k) ?_
    show gO (tF s₁ m 7 (la3 o0 1 (4607182418800017408 : UInt64) 2) [])
    refine gob (fun _ k => XS.iload X0.here hx rfl (hb hby d1_7) rfl k) ?_
    show gO (tF s₁ m 9 (la3 o0 1 (4607182418800017408 : UInt64) 2) [(.int 2)])
    refine gob (fun _ k => XS.aloadN X0.here hx rfl (hb hby d1_9) rfl rfl k) ?_
    show gO (tF s₁ m 10 (la3 o0 1 (4607182418800017408 : UInt64) 2) [(.ref o0), (.int 2)])
    obtain ⟨cl4, Ar4, aq4, S4, N4, H4, G4⟩ := id V_a
    refine gob (X0.arraylength hx (by rw [e0]; exact Ar4.1) (State.isArrayOf_alike hZ.alike Ar4.2.1) (g := (mkF m 10 (la3 o0 1 (4607182418800017408 : UInt64) 2) [(.ref o0), (.int 2)])) rfl rfl (hb hby d1_10)) ?_
    rw [len_of S4 N4]
    show gO (tF s₁ m 11 (la3 o0 1 (4607182418800017408 : UInt64) 2) [(.int 1), (.int 2)])
    refine gob (fun _ k => XS.icmpYes X0.here hx rfl (pc0 := 11) (pc' := 41) rfl (hb hby d1_11) rfl (tlt (by decide : (1 : Int32) < (2 : Int32))).2.2.1 (by decide) (by decide) k) ?_
    show gO (tF s₁ m 41 (la3 o0 1 (4607182418800017408 : UInt64) 2) [])
    refine gob (fun _ k => XS.iloadN X0.here hx rfl (hb hby d1_41) rfl k) ?_
    show gO (tF s₁ m 42 (la3 o0 1 (4607182418800017408 : UInt64) 2) [(.int 1)])
    refine gob (fun _ k => XS.ifYes X0.here hx rfl (pc0 := 42) (pc' := 49) rfl (hb hby d1_42) rfl ((if0 _ _).trans (feq (by decide : ¬ ((1 : Int32) = (0 : Int32)))).2) (by decide) (by decide) k) ?_
    show gO (tF s₁ m 49 (la3 o0 1 (4607182418800017408 : UInt64) 2) [])
    refine gob (fun _ k => XS.dloadN X0.here hx rfl (hb hby d1_49) rfl k) ?_
    show gO (tF s₁ m 50 (la3 o0 1 (4607182418800017408 : UInt64) 2) [(.double (4607182418800017408 : UInt64))])
    refine gob (fun _ k => XS.iloadN X0.here hx rfl (hb hby d1_50) rfl k) ?_
    show gO (tF s₁ m 51 (la3 o0 1 (4607182418800017408 : UInt64) 2) [(.int 1), (.double (4607182418800017408 : UInt64))])
    refine gob (fun _ k => XS.i2dS X0.here hx rfl (hb hby d1_51) rfl (v := (4607182418800017408 : UInt64)) (by decide +kernel) k) ?_
    show gO (tF s₁ m 52 (la3 o0 1 (4607182418800017408 : UInt64) 2) [(.double (4607182418800017408 : UInt64)), (.double (4607182418800017408 : UInt64))])
    refine gob (fun _ k => XS.ddivS X0.here hx rfl (hb hby d1_52) rfl (v := (4607182418800017408 : UInt64)) (by unfold Jvm.Free.Fl.NoNaN64; decide +kernel) (by decide +kernel) k) ?_
    show gO (tF s₁ m 53 (la3 o0 1 (4607182418800017408 : UInt64) 2) [(.double (4607182418800017408 : UInt64))])
    refine goD X0 hx hlk Bd.returns (hb hby d1_53) ?_ (by decide) (by decide)
    show Qap1 Z o0 k_a e_0 h0 n0 (some (.double (4607182418800017408 : UInt64))) s₁.heap _
    exact ⟨(4607182418800017408 : UInt64), rfl, (Or.inl ⟨hc20_3, rfl⟩), N0, e0⟩
  · skip
    refine gob (fun _ k => XS.ifYes X0.here hx rfl (pc0 := 20) (pc' := 35) rfl (hb hby d1_20) rfl ((if0 _ _).trans (flt hc20_3).2.2.2) (by decide) (by decide) k) ?_
    show gO (tF s₁ m 35 (la3 o0 0 (0 : UInt64) 1) [])
    refine gob (fun _ k => XS.iinc X0.here hx rfl (hb hby d1_35) rfl (l' := (la3 o0 0 (0 : UInt64) 2)) rfl k) ?_
    show gO (tF s₁ m 38 (la3 o0 0 (0 : UInt64) 2) [])
    refine gob (fun _ k => XS.goto X0.here hx rfl (pc0 := 38) (pc' := 7) rfl (hb hby d1_38) (by decide) (by decide) k) ?_
    show gO (tF s₁ m 7 (la3 o0 0 (0 : UInt64) 2) [])
    refine gob (fun _ k => XS.iload X0.here hx rfl (hb hby d1_7) rfl k) ?_
    show gO (tF s₁ m 9 (la3 o0 0 (0 : UInt64) 2) [(.int 2)])
    refine gob (fun _ k => XS.aloadN X0.here hx rfl (hb hby d1_9) rfl rfl k) ?_
    show gO (tF s₁ m 10 (la3 o0 0 (0 : UInt64) 2) [(.ref o0), (.int 2)])
    obtain ⟨cl5, Ar5, aq5, S5, N5, H5, G5⟩ := id V_a
    refine gob (X0.arraylength hx (by rw [e0]; exact Ar5.1) (State.isArrayOf_alike hZ.alike Ar5.2.1) (g := (mkF m 10 (la3 o0 0 (0 : UInt64) 2) [(.ref o0), (.int 2)])) rfl rfl (hb hby d1_10)) ?_
    rw [len_of S5 N5]
    show gO (tF s₁ m 11 (la3 o0 0 (0 : UInt64) 2) [(.int 1), (.int 2)])
    refine gob (fun _ k => XS.icmpYes X0.here hx rfl (pc0 := 11) (pc' := 41) rfl (hb hby d1_11) rfl (tlt (by decide : (1 : Int32) < (2 : Int32))).2.2.1 (by decide) (by decide) k) ?_
    show gO (tF s₁ m 41 (la3 o0 0 (0 : UInt64) 2) [])
    refine gob (fun _ k => XS.iloadN X0.here hx rfl (hb hby d1_41) rfl k) ?_
    show gO (tF s₁ m 42 (la3 o0 0 (0 : UInt64) 2) [(.int 0)])
    refine gob (fun _ k => XS.ifNo X0.here hx rfl (hb hby d1_42) rfl ((if0 _ _).trans (teq (by decide : (0 : Int32) = (0 : Int32))).2) k) ?_
    show gO (tF s₁ m 45 (la3 o0 0 (0 : UInt64) 2) [])
    refine gob (fun _ k => XS.dconst0 X0.here hx rfl (hb hby d1_45) (v := (0 : UInt64)) (by decide +kernel) k) ?_
    show gO (tF s₁ m 46 (la3 o0 0 (0 : UInt64) 2) [(.double (0 : UInt64))])
    refine gob (fun _ k => XS.goto X0.here hx rfl (pc0 := 46) (pc' := 53) rfl (hb hby d1_46) (by decide) (by decide) k) ?_
    show gO (tF s₁ m 53 (la3 o0 0 (0 : UInt64) 2) [(.double (0 : UInt64))])
    refine goD X0 hx hlk Bd.returns (hb hby d1_53) ?_ (by decide) (by decide)
    show Qap1 Z o0 k_a e_0 h0 n0 (some (.double (0 : UInt64))) s₁.heap _
    exact ⟨(0 : UInt64), rfl, (Or.inr ⟨hc20_3, rfl⟩), N0, e0⟩
theorem ef_ap2 (m : MethodId) (x0 : Addr) : entryFrame m #[(.ref x0)] 5 = mkF m 0 #[.val (.ref x0), .unset, .unset, .unset, .unset] [] := by first | (simp [entryFrame, mkF, argsToLocals, Value.category]; done) | rfl
def Qap2 (Z : State) (o0 : Addr) (k_a : ClassId) (e_0 : Int32) (e_1 : Int32) (h0 : Heap) (n0 : Nat) (v : Option Value) (h : Heap) (L : List Loc) : Prop := ∃ r : UInt64, v = some (.double r) ∧ (((0 : Int32) < e_0 ∧ (0 : Int32) < e_1 ∧ r = (4607182418800017408 : UInt64)) ∨ ((0 : Int32) < e_0 ∧ ¬ ((0 : Int32) < e_1) ∧ r = (4607182418800017408 : UInt64)) ∨ (¬ ((0 : Int32) < e_0) ∧ (0 : Int32) < e_1 ∧ r = (4602678819172646912 : UInt64)) ∨ (¬ ((0 : Int32) < e_0) ∧ ¬ ((0 : Int32) < e_1) ∧ r = (0 : UInt64))) ∧ Fr n0 L ∧ h = h0
set_option maxRecDepth 65536 in
set_option maxHeartbeats 40000000 in
theorem rmap2 (l : Launch) (Z : State) (a0 : Array Value) (hw : ∀ d ∈ tables_1, d.before a0 Z = true) (ws : List Jvm.Cond) (o0 : Addr) (k_a : ClassId) (e_0 : Int32) (e_1 : Int32) (h0 : Heap) (n0 : Nat) (Z0 : n0 ≤ h0.size) (V_a : Arv Z h0 o0 k_a .int (2 : Int32) [(.int e_0), (.int e_1)] (.int 0)) :
    MetFree l (⟨"com/example/coevolution/coevolution/measure/Measures", "averagePrecision", "([I)D"⟩ : MethodName) (head1 (Jvm.Cond.code (⟨"com/example/coevolution/coevolution/measure/Measures", "averagePrecision", "([I)D"⟩ : MethodName) prog_57_method_2_code 5 (some .double) :: ws) ({ frames := 0, cells := 0, slots := 0, locals := 0 } : Room)) (fun a U => a = #[(.ref o0)] ∧ Z.Warmed39 U.vm ∧ U.heap = h0) (fun _ _ _ _ _ => True) (fun _ U o U' => ∃ v L, o = .returned v ∧ Qap2 Z o0 k_a e_0 e_1 h0 n0 v U'.heap L ∧ FrameEnd U o U' L ({ frames := 0, cells := 0, slots := 0, locals := 0 } : Room).cells ({ frames := 0, cells := 0, slots := 0, locals := 0 } : Room).slots) := by
  refine MetFree.of_bodySF (plainFor_of_name (by first | (simp [plainName, overriddenIn]; done) | decide +kernel)) hisR ?_
  intro p e s m args below meth c s₁ Bd hml0 hP hK
  obtain ⟨rfl, hZ, hh⟩ := hP
  have hx := Bd.exec
  have hby := Bd.bytes
  have hml : c.maxLocals = 5 := hml0
  have hown : s.vm.findClass "com/example/coevolution/coevolution/measure/Measures" = some m.cls := findClass_of_methodNamed Bd.named
  have hnm := (name_of_methodNamed Bd.named Bd.method).1
  have hlk := BodyLoose.notSynchronized Bd
  have X0 : Stand p l e ({ frames := 0, cells := 0, slots := 0, locals := 0 } : Room) s m #[(.ref o0)] below meth c s₁ [] 0 0 := Stand.of_body Bd
  have e0 : s₁.heap = h0 := by rw [← hh, Bd.state]; rfl
  have N0 := Fr.nil n0
  show Go p e below s (Qap2 Z o0 k_a e_0 e_1 h0 n0) 0 0 (s₁.setTop (entryFrame m #[(.ref o0)] 5))
  rw [ef_ap2]
  show gO (tF s₁ m 0 (la0 o0) [])
  refine gob (fun _ k => XS.iconst X0.here hx rfl (hb hby d1_0) k) ?_
  show gO (tF s₁ m 1 (la0 o0) [(.int 0)])
  refine gob (fun _ k => XS.istoreN X0.here hx rfl (hb hby d1_1) rfl (l' := (la1 o0 0)) rfl k) ?_
  show gO (tF s₁ m 2 (la1 o0 0) [])
  refine gob (fun _ k => XS.dconst0 X0.here hx rfl (hb hby d1_2) (v := (0 : UInt64)) (by decide +kernel) k) ?_
  show gO (tF s₁ m 3 (la1 o0 0) [(.double (0 : UInt64))])
  refine gob (fun _ k => XS.dstoreN X0.here hx rfl (hb hby d1_3) rfl (l' := (la2 o0 0 (0 : UInt64))) rfl k) ?_
  show gO (tF s₁ m 4 (la2 o0 0 (0 : UInt64)) [])
  refine gob (fun _ k => XS.iconst X0.here hx rfl (hb hby d1_4) k) ?_
  show gO (tF s₁ m 5 (la2 o0 0 (0 : UInt64)) [(.int 1)])
  refine gob (fun _ k => XS.istore X0.here hx rfl (hb hby d1_5) rfl (l' := (la3 o0 0 (0 : UInt64) 1)) rfl k) ?_
  show gO (tF s₁ m 7 (la3 o0 0 (0 : UInt64) 1) [])
  refine gob (fun _ k => XS.iload X0.here hx rfl (hb hby d1_7) rfl k) ?_
  show gO (tF s₁ m 9 (la3 o0 0 (0 : UInt64) 1) [(.int 1)])
  refine gob (fun _ k => XS.aloadN X0.here hx rfl (hb hby d1_9) rfl rfl k) ?_
  show gO (tF s₁ m 10 (la3 o0 0 (0 : UInt64) 1) [(.ref o0), (.int 1)])
  obtain ⟨cl1, Ar1, aq1, S1, N1, H1, G1⟩ := id V_a
  refine gob (X0.arraylength hx (by rw [e0]; exact Ar1.1) (State.isArrayOf_alike hZ.alike Ar1.2.1) (g := (mkF m 10 (la3 o0 0 (0 : UInt64) 1) [(.ref o0), (.int 1)])) rfl rfl (hb hby d1_10)) ?_
  rw [len_of S1 N1]
  show gO (tF s₁ m 11 (la3 o0 0 (0 : UInt64) 1) [(.int 2), (.int 1)])
  refine gob (fun _ k => XS.icmpNo X0.here hx rfl (hb hby d1_11) rfl (flt (by decide : ¬ ((2 : Int32) < (1 : Int32)))).2.2.1 k) ?_
  show gO (tF s₁ m 14 (la3 o0 0 (0 : UInt64) 1) [])
  refine gob (fun _ k => XS.aloadN X0.here hx rfl (hb hby d1_14) rfl rfl k) ?_
  show gO (tF s₁ m 15 (la3 o0 0 (0 : UInt64) 1) [(.ref o0)])
  refine gob (fun _ k => XS.iload X0.here hx rfl (hb hby d1_15) rfl k) ?_
  show gO (tF s₁ m 17 (la3 o0 0 (0 : UInt64) 1) [(.int 1), (.ref o0)])
  refine gob (fun _ k => XS.iconst X0.here hx rfl (hb hby d1_17) k) ?_
  show gO (tF s₁ m 18 (la3 o0 0 (0 : UInt64) 1) [(.int 1), (.int 1), (.ref o0)])
  refine gob (fun _ k => XS.isub X0.here hx rfl (hb hby d1_18) rfl k) ?_
  show gO (tF s₁ m 19 (la3 o0 0 (0 : UInt64) 1) [(.int 0), (.ref o0)])
  obtain ⟨cl2, Ar2, aq2, S2, N2, H2, G2⟩ := id V_a
  have hin2 : ¬ ((0 : Int32) < 0 ∨ cl2.slots.size ≤ ((0 : Int32)).toNatClampNeg) := inb_of S2 ⟨by decide, by decide⟩
  refine gob (X0.iaload hx (j := (0 : Int32)) (v := (.int e_0)) (by rw [e0]; exact Ar2.1) (State.isArrayOf_alike hZ.alike Ar2.2.1) Ar2.2.2 hin2 (Has.at H2 hin2 rfl) (g := (mkF m 19 (la3 o0 0 (0 : UInt64) 1) [(.int 0), (.ref o0)])) rfl rfl (hb hby d1_19)) ?_
  show gO (tF s₁ m 20 (la3 o0 0 (0 : UInt64) 1) [(.int e_0)])
  by_cases hc20_3 : (0 : Int32) < e_0
  · skip
    refine gob (fun _ k => XS.ifNo X0.here hx rfl (hb hby d1_20) rfl ((if0 _ _).trans (tlt hc20_3).2.2.2) k) ?_
    show gO (tF s₁ m 23 (la3 o0 0 (0 : UInt64) 1) [])
    refine gob (fun _ k => XS.iinc X0.here hx rfl (hb hby d1_23) rfl (l' := (la3 o0 1 (0 : UInt64) 1)) rfl k) ?_
    show gO (tF s₁ m 26 (la3 o0 1 (0 : UInt64) 1) [])
    refine gob (fun _ k => XS.dloadN X0.here hx rfl (hb hby d1_26) rfl k) ?_
    show gO (tF s₁ m 27 (la3 o0 1 (0 : UInt64) 1) [(.double (0 : UInt64))])
    refine gob (fun _ k => XS.iloadN X0.here hx rfl (hb hby d1_27) rfl k) ?_
    show gO (tF s₁ m 28 (la3 o0 1 (0 : UInt64) 1) [(.int 1), (.double (0 : UInt64))])
    refine gob (fun _ k => XS.i2dS X0.here hx rfl (hb hby d1_28) rfl (v := (4607182418800017408 : UInt64)) (by decide +kernel) k) ?_
    show gO (tF s₁ m 29 (la3 o0 1 (0 : UInt64) 1) [(.double (4607182418800017408 : UInt64)), (.double (0 : UInt64))])
    refine gob (fun _ k => XS.iload X0.here hx rfl (hb hby d1_29) rfl k) ?_
    show gO (tF s₁ m 31 (la3 o0 1 (0 : UInt64) 1) [(.int 1), (.double (4607182418800017408 : UInt64)), (.double (0 : UInt64))])
    refine gob (fun _ k => XS.i2dS X0.here hx rfl (hb hby d1_31) rfl (v := (4607182418800017408 : UInt64)) (by decide +kernel) k) ?_
    show gO (tF s₁ m 32 (la3 o0 1 (0 : UInt64) 1) [(.double (4607182418800017408 : UInt64)), (.double (4607182418800017408 : UInt64)), (.double (0 : UInt64))])
    refine gob (fun _ k => XS.ddivS X0.here hx rfl (hb hby d1_32) rfl (v := (4607182418800017408 : UInt64)) (by unfold Jvm.Free.Fl.NoNaN64; decide +kernel) (by decide +kernel) k) ?_
    show gO (tF s₁ m 33 (la3 o0 1 (0 : UInt64) 1) [(.double (4607182418800017408 : UInt64)), (.double (0 : UInt64))])
    refine gob (fun _ k => XS.daddS X0.here hx rfl (hb hby d1_33) rfl (v := (4607182418800017408 : UInt64)) (by unfold Jvm.Free.Fl.NoNaN64; decide +kernel) (by decide +kernel) k) ?_
    show gO (tF s₁ m 34 (la3 o0 1 (0 : UInt64) 1) [(.double (4607182418800017408 : UInt64))])
    refine gob (fun _ k => XS.dstoreN X0.here hx rfl (hb hby d1_34) rfl (l' := (la3 o0 1 (4607182418800017408 : UInt64) 1)) rfl k) ?_
    show gO (tF s₁ m 35 (la3 o0 1 (4607182418800017408 : UInt64) 1) [])
    refine gob (fun _ k => XS.iinc X0.here hx rfl (hb hby d1_35) rfl (l' := (la3 o0 1 (4607182418800017408 : UInt64) 2)) rfl k) ?_
    show gO (tF s₁ m 38 (la3 o0 1 (4607182418800017408 : UInt64) 2) [])
    refine gob (fun _ k => XS.goto X0.here hx rfl (pc0 := 38) (pc' := 7) rfl (hb hby d1_38) (by decide) (by decide) k) ?_
    show gO (tF s₁ m 7 (la3 o0 1 (4607182418800017408 : UInt64) 2) [])
    refine gob (fun _ k => XS.iload X0.here hx rfl (hb hby d1_7) rfl k) ?_
    show gO (tF s₁ m 9 (la3 o0 1 (4607182418800017408 : UInt64) 2) [(.int 2)])
    refine gob (fun _ k => XS.aloadN X0.here hx rfl (hb hby d1_9) rfl rfl k) ?_
    show gO (tF s₁ m 10 (la3 o0 1 (4607182418800017408 : UInt64) 2) [(.ref o0), (.int 2)])
    obtain ⟨cl4, Ar4, aq4, S4, N4, H4, G4⟩ := id V_a
    refine gob (X0.arraylength hx (by rw [e0]; exact Ar4.1) (State.isArrayOf_alike hZ.alike Ar4.2.1) (g := (mkF m 10 (la3 o0 1 (4607182418800017408 : UInt64) 2) [(.ref o0), (.int 2)])) rfl rfl (hb hby d1_10)) ?_
    rw [len_of S4 N4]
    show gO (tF s₁ m 11 (la3 o0 1 (4607182418800017408 : UInt64) 2) [(.int 2), (.int 2)])
    refine gob (fun _ k => XS.icmpNo X0.here hx rfl (hb hby d1_11) rfl (flt (by decide : ¬ ((2 : Int32) < (2 : Int32)))).2.2.1 k) ?_
    show gO (tF s₁ m 14 (la3 o0 1 (4607182418800017408 : UInt64) 2) [])
    refine gob (fun _ k => XS.aloadN X0.here hx rfl (hb hby d1_14) rfl rfl k) ?_
    show gO (tF s₁ m 15 (la3 o0 1 (4607182418800017408 : UInt64) 2) [(.ref o0)])
    refine gob (fun _ k => XS.iload X0.here hx rfl (hb hby d1_15) rfl k) ?_
    show gO (tF s₁ m 17 (la3 o0 1 (4607182418800017408 : UInt64) 2) [(.int 2), (.ref o0)])
    refine gob (fun _ k => XS.iconst X0.here hx rfl (hb hby d1_17) k) ?_
    show gO (tF s₁ m 18 (la3 o0 1 (4607182418800017408 : UInt64) 2) [(.int 1), (.int 2), (.ref o0)])
    refine gob (fun _ k => XS.isub X0.here hx rfl (hb hby d1_18) rfl k) ?_
    show gO (tF s₁ m 19 (la3 o0 1 (4607182418800017408 : UInt64) 2) [(.int 1), (.ref o0)])
    obtain ⟨cl5, Ar5, aq5, S5, N5, H5, G5⟩ := id V_a
    have hin5 : ¬ ((1 : Int32) < 0 ∨ cl5.slots.size ≤ ((1 : Int32)).toNatClampNeg) := inb_of S5 ⟨by decide, by decide⟩
    refine gob (X0.iaload hx (j := (1 : Int32)) (v := (.int e_1)) (by rw [e0]; exact Ar5.1) (State.isArrayOf_alike hZ.alike Ar5.2.1) Ar5.2.2 hin5 (Has.at H5 hin5 rfl) (g := (mkF m 19 (la3 o0 1 (4607182418800017408 : UInt64) 2) [(.int 1), (.ref o0)])) rfl rfl (hb hby d1_19)) ?_
    show gO (tF s₁ m 20 (la3 o0 1 (4607182418800017408 : UInt64) 2) [(.int e_1)])
    by_cases hc20_6 : (0 : Int32) < e_1
    · skip
      refine gob (fun _ k => XS.ifNo X0.here hx rfl (hb hby d1_20) rfl ((if0 _ _).trans (tlt hc20_6).2.2.2) k) ?_
      show gO (tF s₁ m 23 (la3 o0 1 (4607182418800017408 : UInt64) 2) [])
      refine gob (fun _ k => XS.iinc X0.here hx rfl (hb hby d1_23) rfl (l' := (la3 o0 2 (4607182418800017408 : UInt64) 2)) rfl k) ?_
      show gO (tF s₁ m 26 (la3 o0 2 (4607182418800017408 : UInt64) 2) [])
      refine gob (fun _ k => XS.dloadN X0.here hx rfl (hb hby d1_26) rfl k) ?_
      show gO (tF s₁ m 27 (la3 o0 2 (4607182418800017408 : UInt64) 2) [(.double (4607182418800017408 : UInt64))])
      refine gob (fun _ k => XS.iloadN X0.here hx rfl (hb hby d1_27) rfl k) ?_
      show gO (tF s₁ m 28 (la3 o0 2 (4607182418800017408 : UInt64) 2) [(.int 2), (.double (4607182418800017408 : UInt64))])
      refine gob (fun _ k => XS.i2dS X0.here hx rfl (hb hby d1_28) rfl (v := (4611686018427387904 : UInt64)) (by decide +kernel) k) ?_
      show gO (tF s₁ m 29 (la3 o0 2 (4607182418800017408 : UInt64) 2) [(.double (4611686018427387904 : UInt64)), (.double (4607182418800017408 : UInt64))])
      refine gob (fun _ k => XS.iload X0.here hx rfl (hb hby d1_29) rfl k) ?_
      show gO (tF s₁ m 31 (la3 o0 2 (4607182418800017408 : UInt64) 2) [(.int 2), (.double (4611686018427387904 : UInt64)), (.double (4607182418800017408 : UInt64))])
      refine gob (fun _ k => XS.i2dS X0.here hx rfl (hb hby d1_31) rfl (v := (4611686018427387904 : UInt64)) (by decide +kernel) k) ?_
      show gO (tF s₁ m 32 (la3 o0 2 (4607182418800017408 : UInt64) 2) [(.double (4611686018427387904 : UInt64)), (.double (4611686018427387904 : UInt64)), (.double (4607182418800017408 : UInt64))])
      refine gob (fun _ k => XS.ddivS X0.here hx rfl (hb hby d1_32) rfl (v := (4607182418800017408 : UInt64)) (by unfold Jvm.Free.Fl.NoNaN64; decide +kernel) (by decide +kernel) k) ?_
      show gO (tF s₁ m 33 (la3 o0 2 (4607182418800017408 : UInt64) 2) [(.double (4607182418800017408 : UInt64)), (.double (4607182418800017408 : UInt64))])
      refine gob (fun _ k => XS.daddS X0.here hx rfl (hb hby d1_33) rfl (v := (4611686018427387904 : UInt64)) (by unfold Jvm.Free.Fl.NoNaN64; decide +kernel) (by decide +kernel) k) ?_
      show gO (tF s₁ m 34 (la3 o0 2 (4607182418800017408 : UInt64) 2) [(.double (4611686018427387904 : UInt64))])
      refine gob (fun _ k => XS.dstoreN X0.here hx rfl (hb hby d1_34) rfl (l' := (la3 o0 2 (4611686018427387904 : UInt64) 2)) rfl k) ?_
      show gO (tF s₁ m 35 (la3 o0 2 (4611686018427387904 : UInt64) 2) [])
      refine gob (fun _ k => XS.iinc X0.here hx rfl (hb hby d1_35) rfl (l' := (la3 o0 2 (4611686018427387904 : UInt64) 3)) rfl k) ?_
      show gO (tF s₁ m 38 (la3 o0 2 (4611686018427387904 : UInt64) 3) [])
      refine gob (fun _ k => XS.goto X0.here hx rfl (pc0 := 38) (pc' := 7) rfl (hb hby d1_38) (by decide) (by decide) k) ?_
      show gO (tF s₁ m 7 (la3 o0 2 (4611686018427387904 : UInt64) 3) [])
      refine gob (fun _ k => XS.iload X0.here hx rfl (hb hby d1_7) rfl k) ?_
      show gO (tF s₁ m 9 (la3 o0 2 (4611686018427387904 : UInt64) 3) [(.int 3)])
      refine gob (fun _ k => XS.aloadN X0.here hx rfl (hb hby d1_9) rfl rfl k) ?_
      show gO (tF s₁ m 10 (la3 o0 2 (4611686018427387904 : UInt64) 3) [(.ref o0), (.int 3)])
      obtain ⟨cl7, Ar7, aq7, S7, N7, H7, G7⟩ := id V_a
      refine gob (X0.arraylength hx (by rw [e0]; exact Ar7.1) (State.isArrayOf_alike hZ.alike Ar7.2.1) (g := (mkF m 10 (la3 o0 2 (4611686018427387904 : UInt64) 3) [(.ref o0), (.int 3)])) rfl rfl (hb hby d1_10)) ?_
      rw [len_of S7 N7]
      show gO (tF s₁ m 11 (la3 o0 2 (4611686018427387904 : UInt64) 3) [(.int 2), (.int 3)])
      refine gob (fun _ k => XS.icmpYes X0.here hx rfl (pc0 := 11) (pc' := 41) rfl (hb hby d1_11) rfl (tlt (by decide : (2 : Int32) < (3 : Int32))).2.2.1 (by decide) (by decide) k) ?_
      show gO (tF s₁ m 41 (la3 o0 2 (4611686018427387904 : UInt64) 3) [])
      refine gob (fun _ k => XS.iloadN X0.here hx rfl (hb hby d1_41) rfl k) ?_
      show gO (tF s₁ m 42 (la3 o0 2 (4611686018427387904 : UInt64) 3) [(.int 2)])
      refine gob (fun _ k => XS.ifYes X0.here hx rfl (pc0 := 42) (pc' := 49) rfl (hb hby d1_42) rfl ((if0 _ _).trans (feq (by decide : ¬ ((2 : Int32) = (0 : Int32)))).2) (by decide) (by decide) k) ?_
      show gO (tF s₁ m 49 (la3 o0 2 (4611686018427387904 : UInt64) 3) [])
      refine gob (fun _ k => XS.dloadN X0.here hx rfl (hb hby d1_49) rfl k) ?_
      show gO (tF s₁ m 50 (la3 o0 2 (4611686018427387904 : UInt64) 3) [(.double (4611686018427387904 : UInt64))])
      refine gob (fun _ k => XS.iloadN X0.here hx rfl (hb hby d1_50) rfl k) ?_
      show gO (tF s₁ m 51 (la3 o0 2 (4611686018427387904 : UInt64) 3) [(.int 2), (.double (4611686018427387904 : UInt64))])
      refine gob (fun _ k => XS.i2dS X0.here hx rfl (hb hby d1_51) rfl (v := (4611686018427387904 : UInt64)) (by decide +kernel) k) ?_
      show gO (tF s₁ m 52 (la3 o0 2 (4611686018427387904 : UInt64) 3) [(.double (4611686018427387904 : UInt64)), (.double (4611686018427387904 : UInt64))])
      refine gob (fun _ k => XS.ddivS X0.here hx rfl (hb hby d1_52) rfl (v := (4607182418800017408 : UInt64)) (by unfold Jvm.Free.Fl.NoNaN64; decide +kernel) (by decide +kernel) k) ?_
      show gO (tF s₁ m 53 (la3 o0 2 (4611686018427387904 : UInt64) 3) [(.double (4607182418800017408 : UInt64))])
      refine goD X0 hx hlk Bd.returns (hb hby d1_53) ?_ (by decide) (by decide)
      show Qap2 Z o0 k_a e_0 e_1 h0 n0 (some (.double (4607182418800017408 : UInt64))) s₁.heap _
      exact ⟨(4607182418800017408 : UInt64), rfl, (Or.inl ⟨hc20_3, hc20_6, rfl⟩), N0, e0⟩
    · skip
      refine gob (fun _ k => XS.ifYes X0.here hx rfl (pc0 := 20) (pc' := 35) rfl (hb hby d1_20) rfl ((if0 _ _).trans (flt hc20_6).2.2.2) (by decide) (by decide) k) ?_
      show gO (tF s₁ m 35 (la3 o0 1 (4607182418800017408 : UInt64) 2) [])
      refine gob (fun _ k => XS.iinc X0.here hx rfl (hb hby d1_35) rfl (l' := (la3 o0 1 (4607182418800017408 : UInt64) 3)) rfl k) ?_
      show gO (tF s₁ m 38 (la3 o0 1 (4607182418800017408 : UInt64) 3) [])
      refine gob (fun _ k => XS.goto X0.here hx rfl (pc0 := 38) (pc' := 7) rfl (hb hby d1_38) (by decide) (by decide) k) ?_
      show gO (tF s₁ m 7 (la3 o0 1 (4607182418800017408 : UInt64) 3) [])
      refine gob (fun _ k => XS.iload X0.here hx rfl (hb hby d1_7) rfl k) ?_
      show gO (tF s₁ m 9 (la3 o0 1 (4607182418800017408 : UInt64) 3) [(.int 3)])
      refine gob (fun _ k => XS.aloadN X0.here hx rfl (hb hby d1_9) rfl rfl k) ?_
      show gO (tF s₁ m 10 (la3 o0 1 (4607182418800017408 : UInt64) 3) [(.ref o0), (.int 3)])
      obtain ⟨cl8, Ar8, aq8, S8, N8, H8, G8⟩ := id V_a
      refine gob (X0.arraylength hx (by rw [e0]; exact Ar8.1) (State.isArrayOf_alike hZ.alike Ar8.2.1) (g := (mkF m 10 (la3 o0 1 (4607182418800017408 : UInt64) 3) [(.ref o0), (.int 3)])) rfl rfl (hb hby d1_10)) ?_
      rw [len_of S8 N8]
      show gO (tF s₁ m 11 (la3 o0 1 (4607182418800017408 : UInt64) 3) [(.int 2), (.int 3)])
      refine gob (fun _ k => XS.icmpYes X0.here hx rfl (pc0 := 11) (pc' := 41) rfl (hb hby d1_11) rfl (tlt (by decide : (2 : Int32) < (3 : Int32))).2.2.1 (by decide) (by decide) k) ?_
      show gO (tF s₁ m 41 (la3 o0 1 (4607182418800017408 : UInt64) 3) [])
      refine gob (fun _ k => XS.iloadN X0.here hx rfl (hb hby d1_41) rfl k) ?_
      show gO (tF s₁ m 42 (la3 o0 1 (4607182418800017408 : UInt64) 3) [(.int 1)])
      refine gob (fun _ k => XS.ifYes X0.here hx rfl (pc0 := 42) (pc' := 49) rfl (hb hby d1_42) rfl ((if0 _ _).trans (feq (by decide : ¬ ((1 : Int32) = (0 : Int32)))).2) (by decide) (by decide) k) ?_
      show gO (tF s₁ m 49 (la3 o0 1 (4607182418800017408 : UInt64) 3) [])
      refine gob (fun _ k => XS.dloadN X0.here hx rfl (hb hby d1_49) rfl k) ?_
      show gO (tF s₁ m 50 (la3 o0 1 (4607182418800017408 : UInt64) 3) [(.double (4607182418800017408 : UInt64))])
      refine gob (fun _ k => XS.iloadN X0.here hx rfl (hb hby d1_50) rfl k) ?_
      show gO (tF s₁ m 51 (la3 o0 1 (4607182418800017408 : UInt64) 3) [(.int 1), (.double (4607182418800017408 : UInt64))])
      refine gob (fun _ k => XS.i2dS X0.here hx rfl (hb hby d1_51) rfl (v := (4607182418800017408 : UInt64)) (by decide +kernel) k) ?_
      show gO (tF s₁ m 52 (la3 o0 1 (4607182418800017408 : UInt64) 3) [(.double (4607182418800017408 : UInt64)), (.double (4607182418800017408 : UInt64))])
      refine gob (fun _ k => XS.ddivS X0.here hx rfl (hb hby d1_52) rfl (v := (4607182418800017408 : UInt64)) (by unfold Jvm.Free.Fl.NoNaN64; decide +kernel) (by decide +kernel) k) ?_
      show gO (tF s₁ m 53 (la3 o0 1 (4607182418800017408 : UInt64) 3) [(.double (4607182418800017408 : UInt64))])
      refine goD X0 hx hlk Bd.returns (hb hby d1_53) ?_ (by decide) (by decide)
      show Qap2 Z o0 k_a e_0 e_1 h0 n0 (some (.double (4607182418800017408 : UInt64))) s₁.heap _
      exact ⟨(4607182418800017408 : UInt64), rfl, (Or.inr (Or.inl ⟨hc20_3, hc20_6, rfl⟩)), N0, e0⟩
  · skip
    refine gob (fun _ k => XS.ifYes X0.here hx rfl (pc0 := 20) (pc' := 35) rfl (hb hby d1_20) rfl ((if0 _ _).trans (flt hc20_3).2.2.2) (by decide) (by decide) k) ?_
    show gO (tF s₁ m 35 (la3 o0 0 (0 : UInt64) 1) [])
    refine gob (fun _ k => XS.iinc X0.here hx rfl (hb hby d1_35) rfl (l' := (la3 o0 0 (0 : UInt64) 2)) rfl k) ?_
    show gO (tF s₁ m 38 (la3 o0 0 (0 : UInt64) 2) [])
    refine gob (fun _ k => XS.goto X0.here hx rfl (pc0 := 38) (pc' := 7) rfl (hb hby d1_38) (by decide) (by decide) k) ?_
    show gO (tF s₁ m 7 (la3 o0 0 (0 : UInt64) 2) [])
    refine gob (fun _ k => XS.iload X0.here hx rfl (hb hby d1_7) rfl k) ?_
    show gO (tF s₁ m 9 (la3 o0 0 (0 : UInt64) 2) [(.int 2)])
    refine gob (fun _ k => XS.aloadN X0.here hx rfl (hb hby d1_9) rfl rfl k) ?_
    show gO (tF s₁ m 10 (la3 o0 0 (0 : UInt64) 2) [(.ref o0), (.int 2)])
    obtain ⟨cl9, Ar9, aq9, S9, N9, H9, G9⟩ := id V_a
    refine gob (X0.arraylength hx (by rw [e0]; exact Ar9.1) (State.isArrayOf_alike hZ.alike Ar9.2.1) (g := (mkF m 10 (la3 o0 0 (0 : UInt64) 2) [(.ref o0), (.int 2)])) rfl rfl (hb hby d1_10)) ?_
    rw [len_of S9 N9]
    show gO (tF s₁ m 11 (la3 o0 0 (0 : UInt64) 2) [(.int 2), (.int 2)])
    refine gob (fun _ k => XS.icmpNo X0.here hx rfl (hb hby d1_11) rfl (flt (by decide : ¬ ((2 : Int32) < (2 : Int32)))).2.2.1 k) ?_
    show gO (tF s₁ m 14 (la3 o0 0 (0 : UInt64) 2) [])
    refine gob (fun _ k => XS.aloadN X0.here hx rfl (hb hby d1_14) rfl rfl k) ?_
    show gO (tF s₁ m 15 (la3 o0 0 (0 : UInt64) 2) [(.ref o0)])
    refine gob (fun _ k => XS.iload X0.here hx rfl (hb hby d1_15) rfl k) ?_
    show gO (tF s₁ m 17 (la3 o0 0 (0 : UInt64) 2) [(.int 2), (.ref o0)])
    refine gob (fun _ k => XS.iconst X0.here hx rfl (hb hby d1_17) k) ?_
    show gO (tF s₁ m 18 (la3 o0 0 (0 : UInt64) 2) [(.int 1), (.int 2), (.ref o0)])
    refine gob (fun _ k => XS.isub X0.here hx rfl (hb hby d1_18) rfl k) ?_
    show gO (tF s₁ m 19 (la3 o0 0 (0 : UInt64) 2) [(.int 1), (.ref o0)])
    obtain ⟨cl10, Ar10, aq10, S10, N10, H10, G10⟩ := id V_a
    have hin10 : ¬ ((1 : Int32) < 0 ∨ cl10.slots.size ≤ ((1 : Int32)).toNatClampNeg) := inb_of S10 ⟨by decide, by decide⟩
    refine gob (X0.iaload hx (j := (1 : Int32)) (v := (.int e_1)) (by rw [e0]; exact Ar10.1) (State.isArrayOf_alike hZ.alike Ar10.2.1) Ar10.2.2 hin10 (Has.at H10 hin10 rfl) (g := (mkF m 19 (la3 o0 0 (0 : UInt64) 2) [(.int 1), (.ref o0)])) rfl rfl (hb hby d1_19)) ?_
    show gO (tF s₁ m 20 (la3 o0 0 (0 : UInt64) 2) [(.int e_1)])
    by_cases hc20_11 : (0 : Int32) < e_1
    · skip
      refine gob (fun _ k => XS.ifNo X0.here hx rfl (hb hby d1_20) rfl ((if0 _ _).trans (tlt hc20_11).2.2.2) k) ?_
      show gO (tF s₁ m 23 (la3 o0 0 (0 : UInt64) 2) [])
      refine gob (fun _ k => XS.iinc X0.here hx rfl (hb hby d1_23) rfl (l' := (la3 o0 1 (0 : UInt64) 2)) rfl k) ?_
      show gO (tF s₁ m 26 (la3 o0 1 (0 : UInt64) 2) [])
      refine gob (fun _ k => XS.dloadN X0.here hx rfl (hb hby d1_26) rfl k) ?_
      show gO (tF s₁ m 27 (la3 o0 1 (0 : UInt64) 2) [(.double (0 : UInt64))])
      refine gob (fun _ k => XS.iloadN X0.here hx rfl (hb hby d1_27) rfl k) ?_
      show gO (tF s₁ m 28 (la3 o0 1 (0 : UInt64) 2) [(.int 1), (.double (0 : UInt64))])
      refine gob (fun _ k => XS.i2dS X0.here hx rfl (hb hby d1_28) rfl (v := (4607182418800017408 : UInt64)) (by decide +kernel) k) ?_
      show gO (tF s₁ m 29 (la3 o0 1 (0 : UInt64) 2) [(.double (4607182418800017408 : UInt64)), (.double (0 : UInt64))])
      refine gob (fun _ k => XS.iload X0.here hx rfl (hb hby d1_29) rfl k) ?_
      show gO (tF s₁ m 31 (la3 o0 1 (0 : UInt64) 2) [(.int 2), (.double (4607182418800017408 : UInt64)), (.double (0 : UInt64))])
      refine gob (fun _ k => XS.i2dS X0.here hx rfl (hb hby d1_31) rfl (v := (4611686018427387904 : UInt64)) (by decide +kernel) k) ?_
      show gO (tF s₁ m 32 (la3 o0 1 (0 : UInt64) 2) [(.double (4611686018427387904 : UInt64)), (.double (4607182418800017408 : UInt64)), (.double (0 : UInt64))])
      refine gob (fun _ k => XS.ddivS X0.here hx rfl (hb hby d1_32) rfl (v := (4602678819172646912 : UInt64)) (by unfold Jvm.Free.Fl.NoNaN64; decide +kernel) (by decide +kernel) k) ?_
      show gO (tF s₁ m 33 (la3 o0 1 (0 : UInt64) 2) [(.double (4602678819172646912 : UInt64)), (.double (0 : UInt64))])
      refine gob (fun _ k => XS.daddS X0.here hx rfl (hb hby d1_33) rfl (v := (4602678819172646912 : UInt64)) (by unfold Jvm.Free.Fl.NoNaN64; decide +kernel) (by decide +kernel) k) ?_
      show gO (tF s₁ m 34 (la3 o0 1 (0 : UInt64) 2) [(.double (4602678819172646912 : UInt64))])
      refine gob (fun _ k => XS.dstoreN X0.here hx rfl (hb hby d1_34) rfl (l' := (la3 o0 1 (4602678819172646912 : UInt64) 2)) rfl k) ?_
      show gO (tF s₁ m 35 (la3 o0 1 (4602678819172646912 : UInt64) 2) [])
      refine gob (fun _ k => XS.iinc X0.here hx rfl (hb hby d1_35) rfl (l' := (la3 o0 1 (4602678819172646912 : UInt64) 3)) rfl k) ?_
      show gO (tF s₁ m 38 (la3 o0 1 (4602678819172646912 : UInt64) 3) [])
      refine gob (fun _ k => XS.goto X0.here hx rfl (pc0 := 38) (pc' := 7) rfl (hb hby d1_38) (by decide) (by decide) k) ?_
      show gO (tF s₁ m 7 (la3 o0 1 (4602678819172646912 : UInt64) 3) [])
      refine gob (fun _ k => XS.iload X0.here hx rfl (hb hby d1_7) rfl k) ?_
      show gO (tF s₁ m 9 (la3 o0 1 (4602678819172646912 : UInt64) 3) [(.int 3)])
      refine gob (fun _ k => XS.aloadN X0.here hx rfl (hb hby d1_9) rfl rfl k) ?_
      show gO (tF s₁ m 10 (la3 o0 1 (4602678819172646912 : UInt64) 3) [(.ref o0), (.int 3)])
      obtain ⟨cl12, Ar12, aq12, S12, N12, H12, G12⟩ := id V_a
      refine gob (X0.arraylength hx (by rw [e0]; exact Ar12.1) (State.isArrayOf_alike hZ.alike Ar12.2.1) (g := (mkF m 10 (la3 o0 1 (4602678819172646912 : UInt64) 3) [(.ref o0), (.int 3)])) rfl rfl (hb hby d1_10)) ?_
      rw [len_of S12 N12]
      show gO (tF s₁ m 11 (la3 o0 1 (4602678819172646912 : UInt64) 3) [(.int 2), (.int 3)])
      refine gob (fun _ k => XS.icmpYes X0.here hx rfl (pc0 := 11) (pc' := 41) rfl (hb hby d1_11) rfl (tlt (by decide : (2 : Int32) < (3 : Int32))).2.2.1 (by decide) (by decide) k) ?_
      show gO (tF s₁ m 41 (la3 o0 1 (4602678819172646912 : UInt64) 3) [])
      refine gob (fun _ k => XS.iloadN X0.here hx rfl (hb hby d1_41) rfl k) ?_
      show gO (tF s₁ m 42 (la3 o0 1 (4602678819172646912 : UInt64) 3) [(.int 1)])
      refine gob (fun _ k => XS.ifYes X0.here hx rfl (pc0 := 42) (pc' := 49) rfl (hb hby d1_42) rfl ((if0 _ _).trans (feq (by decide : ¬ ((1 : Int32) = (0 : Int32)))).2) (by decide) (by decide) k) ?_
      show gO (tF s₁ m 49 (la3 o0 1 (4602678819172646912 : UInt64) 3) [])
      refine gob (fun _ k => XS.dloadN X0.here hx rfl (hb hby d1_49) rfl k) ?_
      show gO (tF s₁ m 50 (la3 o0 1 (4602678819172646912 : UInt64) 3) [(.double (4602678819172646912 : UInt64))])
      refine gob (fun _ k => XS.iloadN X0.here hx rfl (hb hby d1_50) rfl k) ?_
      show gO (tF s₁ m 51 (la3 o0 1 (4602678819172646912 : UInt64) 3) [(.int 1), (.double (4602678819172646912 : UInt64))])
      refine gob (fun _ k => XS.i2dS X0.here hx rfl (hb hby d1_51) rfl (v := (4607182418800017408 : UInt64)) (by decide +kernel) k) ?_
      show gO (tF s₁ m 52 (la3 o0 1 (4602678819172646912 : UInt64) 3) [(.double (4607182418800017408 : UInt64)), (.double (4602678819172646912 : UInt64))])
      refine gob (fun _ k => XS.ddivS X0.here hx rfl (hb hby d1_52) rfl (v := (4602678819172646912 : UInt64)) (by unfold Jvm.Free.Fl.NoNaN64; decide +kernel) (by decide +kernel) k) ?_
      show gO (tF s₁ m 53 (la3 o0 1 (4602678819172646912 : UInt64) 3) [(.double (4602678819172646912 : UInt64))])
      refine goD X0 hx hlk Bd.returns (hb hby d1_53) ?_ (by decide) (by decide)
      show Qap2 Z o0 k_a e_0 e_1 h0 n0 (some (.double (4602678819172646912 : UInt64))) s₁.heap _
      exact ⟨(4602678819172646912 : UInt64), rfl, (Or.inr (Or.inr (Or.inl ⟨hc20_3, hc20_11, rfl⟩))), N0, e0⟩
    · skip
      refine gob (fun _ k => XS.ifYes X0.here hx rfl (pc0 := 20) (pc' := 35) rfl (hb hby d1_20) rfl ((if0 _ _).trans (flt hc20_11).2.2.2) (by decide) (by decide) k) ?_
      show gO (tF s₁ m 35 (la3 o0 0 (0 : UInt64) 2) [])
      refine gob (fun _ k => XS.iinc X0.here hx rfl (hb hby d1_35) rfl (l' := (la3 o0 0 (0 : UInt64) 3)) rfl k) ?_
      show gO (tF s₁ m 38 (la3 o0 0 (0 : UInt64) 3) [])
      refine gob (fun _ k => XS.goto X0.here hx rfl (pc0 := 38) (pc' := 7) rfl (hb hby d1_38) (by decide) (by decide) k) ?_
      show gO (tF s₁ m 7 (la3 o0 0 (0 : UInt64) 3) [])
      refine gob (fun _ k => XS.iload X0.here hx rfl (hb hby d1_7) rfl k) ?_
      show gO (tF s₁ m 9 (la3 o0 0 (0 : UInt64) 3) [(.int 3)])
      refine gob (fun _ k => XS.aloadN X0.here hx rfl (hb hby d1_9) rfl rfl k) ?_
      show gO (tF s₁ m 10 (la3 o0 0 (0 : UInt64) 3) [(.ref o0), (.int 3)])
      obtain ⟨cl13, Ar13, aq13, S13, N13, H13, G13⟩ := id V_a
      refine gob (X0.arraylength hx (by rw [e0]; exact Ar13.1) (State.isArrayOf_alike hZ.alike Ar13.2.1) (g := (mkF m 10 (la3 o0 0 (0 : UInt64) 3) [(.ref o0), (.int 3)])) rfl rfl (hb hby d1_10)) ?_
      rw [len_of S13 N13]
      show gO (tF s₁ m 11 (la3 o0 0 (0 : UInt64) 3) [(.int 2), (.int 3)])
      refine gob (fun _ k => XS.icmpYes X0.here hx rfl (pc0 := 11) (pc' := 41) rfl (hb hby d1_11) rfl (tlt (by decide : (2 : Int32) < (3 : Int32))).2.2.1 (by decide) (by decide) k) ?_
      show gO (tF s₁ m 41 (la3 o0 0 (0 : UInt64) 3) [])
      refine gob (fun _ k => XS.iloadN X0.here hx rfl (hb hby d1_41) rfl k) ?_
      show gO (tF s₁ m 42 (la3 o0 0 (0 : UInt64) 3) [(.int 0)])
      refine gob (fun _ k => XS.ifNo X0.here hx rfl (hb hby d1_42) rfl ((if0 _ _).trans (teq (by decide : (0 : Int32) = (0 : Int32))).2) k) ?_
      show gO (tF s₁ m 45 (la3 o0 0 (0 : UInt64) 3) [])
      refine gob (fun _ k => XS.dconst0 X0.here hx rfl (hb hby d1_45) (v := (0 : UInt64)) (by decide +kernel) k) ?_
      show gO (tF s₁ m 46 (la3 o0 0 (0 : UInt64) 3) [(.double (0 : UInt64))])
      refine gob (fun _ k => XS.goto X0.here hx rfl (pc0 := 46) (pc' := 53) rfl (hb hby d1_46) (by decide) (by decide) k) ?_
      show gO (tF s₁ m 53 (la3 o0 0 (0 : UInt64) 3) [(.double (0 : UInt64))])
      refine goD X0 hx hlk Bd.returns (hb hby d1_53) ?_ (by decide) (by decide)
      show Qap2 Z o0 k_a e_0 e_1 h0 n0 (some (.double (0 : UInt64))) s₁.heap _
      exact ⟨(0 : UInt64), rfl, (Or.inr (Or.inr (Or.inr ⟨hc20_3, hc20_11, rfl⟩))), N0, e0⟩
theorem ef_ap3 (m : MethodId) (x0 : Addr) : entryFrame m #[(.ref x0)] 5 = mkF m 0 #[.val (.ref x0), .unset, .unset, .unset, .unset] [] := by first | (simp [entryFrame, mkF, argsToLocals, Value.category]; done) | rfl
def Qap3 (Z : State) (o0 : Addr) (k_a : ClassId) (e_0 : Int32) (e_1 : Int32) (e_2 : Int32) (h0 : Heap) (n0 : Nat) (v : Option Value) (h : Heap) (L : List Loc) : Prop := ∃ r : UInt64, v = some (.double r) ∧ (((0 : Int32) < e_0 ∧ (0 : Int32) < e_1 ∧ (0 : Int32) < e_2 ∧ r = (4607182418800017408 : UInt64)) ∨ ((0 : Int32) < e_0 ∧ (0 : Int32) < e_1 ∧ ¬ ((0 : Int32) < e_2) ∧ r = (4607182418800017408 : UInt64)) ∨ ((0 : Int32) < e_0 ∧ ¬ ((0 : Int32) < e_1) ∧ (0 : Int32) < e_2 ∧ r = (4605681218924227242 : UInt64)) ∨ ((0 : Int32) < e_0 ∧ ¬ ((0 : Int32) < e_1) ∧ ¬ ((0 : Int32) < e_2) ∧ r = (4607182418800017408 : UInt64)) ∨ (¬ ((0 : Int32) < e_0) ∧ (0 : Int32) < e_1 ∧ (0 : Int32) < e_2 ∧ r = (4603429419110541994 : UInt64)) ∨ (¬ ((0 : Int32) < e_0) ∧ (0 : Int32) < e_1 ∧ ¬ ((0 : Int32) < e_2) ∧ r = (4602678819172646912 : UInt64)) ∨ (¬ ((0 : Int32) < e_0) ∧ ¬ ((0 : Int32) < e_1) ∧ (0 : Int32) < e_2 ∧ r = (4599676419421066581 : UInt64)) ∨ (¬ ((0 : Int32) < e_0) ∧ ¬ ((0 : Int32) < e_1) ∧ ¬ ((0 : Int32) < e_2) ∧ r = (0 : UInt64))) ∧ Fr n0 L ∧ h = h0
set_option maxRecDepth 65536 in
set_option maxHeartbeats 40000000 in
theorem rmap3 (l : Launch) (Z : State) (a0 : Array Value) (hw : ∀ d ∈ tables_1, d.before a0 Z = true) (ws : List Jvm.Cond) (o0 : Addr) (k_a : ClassId) (e_0 : Int32) (e_1 : Int32) (e_2 : Int32) (h0 : Heap) (n0 : Nat) (Z0 : n0 ≤ h0.size) (V_a : Arv Z h0 o0 k_a .int (3 : Int32) [(.int e_0), (.int e_1), (.int e_2)] (.int 0)) :
    MetFree l (⟨"com/example/coevolution/coevolution/measure/Measures", "averagePrecision", "([I)D"⟩ : MethodName) (head1 (Jvm.Cond.code (⟨"com/example/coevolution/coevolution/measure/Measures", "averagePrecision", "([I)D"⟩ : MethodName) prog_57_method_2_code 5 (some .double) :: ws) ({ frames := 0, cells := 0, slots := 0, locals := 0 } : Room)) (fun a U => a = #[(.ref o0)] ∧ Z.Warmed39 U.vm ∧ U.heap = h0) (fun _ _ _ _ _ => True) (fun _ U o U' => ∃ v L, o = .returned v ∧ Qap3 Z o0 k_a e_0 e_1 e_2 h0 n0 v U'.heap L ∧ FrameEnd U o U' L ({ frames := 0, cells := 0, slots := 0, locals := 0 } : Room).cells ({ frames := 0, cells := 0, slots := 0, locals := 0 } : Room).slots) := by
  refine MetFree.of_bodySF (plainFor_of_name (by first | (simp [plainName, overriddenIn]; done) | decide +kernel)) hisR ?_
  intro p e s m args below meth c s₁ Bd hml0 hP hK
  obtain ⟨rfl, hZ, hh⟩ := hP
  have hx := Bd.exec
  have hby := Bd.bytes
  have hml : c.maxLocals = 5 := hml0
  have hown : s.vm.findClass "com/example/coevolution/coevolution/measure/Measures" = some m.cls := findClass_of_methodNamed Bd.named
  have hnm := (name_of_methodNamed Bd.named Bd.method).1
  have hlk := BodyLoose.notSynchronized Bd
  have X0 : Stand p l e ({ frames := 0, cells := 0, slots := 0, locals := 0 } : Room) s m #[(.ref o0)] below meth c s₁ [] 0 0 := Stand.of_body Bd
  have e0 : s₁.heap = h0 := by rw [← hh, Bd.state]; rfl
  have N0 := Fr.nil n0
  show Go p e below s (Qap3 Z o0 k_a e_0 e_1 e_2 h0 n0) 0 0 (s₁.setTop (entryFrame m #[(.ref o0)] 5))
  rw [ef_ap3]
  show gO (tF s₁ m 0 (la0 o0) [])
  refine gob (fun _ k => XS.iconst X0.here hx rfl (hb hby d1_0) k) ?_
  show gO (tF s₁ m 1 (la0 o0) [(.int 0)])
  refine gob (fun _ k => XS.istoreN X0.here hx rfl (hb hby d1_1) rfl (l' := (la1 o0 0)) rfl k) ?_
  show gO (tF s₁ m 2 (la1 o0 0) [])
  refine gob (fun _ k => XS.dconst0 X0.here hx rfl (hb hby d1_2) (v := (0 : UInt64)) (by decide +kernel) k) ?_
  show gO (tF s₁ m 3 (la1 o0 0) [(.double (0 : UInt64))])
  refine gob (fun _ k => XS.dstoreN X0.here hx rfl (hb hby d1_3) rfl (l' := (la2 o0 0 (0 : UInt64))) rfl k) ?_
  show gO (tF s₁ m 4 (la2 o0 0 (0 : UInt64)) [])
  refine gob (fun _ k => XS.iconst X0.here hx rfl (hb hby d1_4) k) ?_
  show gO (tF s₁ m 5 (la2 o0 0 (0 : UInt64)) [(.int 1)])
  refine gob (fun _ k => XS.istore X0.here hx rfl (hb hby d1_5) rfl (l' := (la3 o0 0 (0 : UInt64) 1)) rfl k) ?_
  show gO (tF s₁ m 7 (la3 o0 0 (0 : UInt64) 1) [])
  refine gob (fun _ k => XS.iload X0.here hx rfl (hb hby d1_7) rfl k) ?_
  show gO (tF s₁ m 9 (la3 o0 0 (0 : UInt64) 1) [(.int 1)])
  refine gob (fun _ k => XS.aloadN X0.here hx rfl (hb hby d1_9) rfl rfl k) ?_
  show gO (tF s₁ m 10 (la3 o0 0 (0 : UInt64) 1) [(.ref o0), (.int 1)])
  obtain ⟨cl1, Ar1, aq1, S1, N1, H1, G1⟩ := id V_a
  refine gob (X0.arraylength hx (by rw [e0]; exact Ar1.1) (State.isArrayOf_alike hZ.alike Ar1.2.1) (g := (mkF m 10 (la3 o0 0 (0 : UInt64) 1) [(.ref o0), (.int 1)])) rfl rfl (hb hby d1_10)) ?_
  rw [len_of S1 N1]
  show gO (tF s₁ m 11 (la3 o0 0 (0 : UInt64) 1) [(.int 3), (.int 1)])
  refine gob (fun _ k => XS.icmpNo X0.here hx rfl (hb hby d1_11) rfl (flt (by decide : ¬ ((3 : Int32) < (1 : Int32)))).2.2.1 k) ?_
  show gO (tF s₁ m 14 (la3 o0 0 (0 : UInt64) 1) [])
  refine gob (fun _ k => XS.aloadN X0.here hx rfl (hb hby d1_14) rfl rfl k) ?_
  show gO (tF s₁ m 15 (la3 o0 0 (0 : UInt64) 1) [(.ref o0)])
  refine gob (fun _ k => XS.iload X0.here hx rfl (hb hby d1_15) rfl k) ?_
  show gO (tF s₁ m 17 (la3 o0 0 (0 : UInt64) 1) [(.int 1), (.ref o0)])
  refine gob (fun _ k => XS.iconst X0.here hx rfl (hb hby d1_17) k) ?_
  show gO (tF s₁ m 18 (la3 o0 0 (0 : UInt64) 1) [(.int 1), (.int 1), (.ref o0)])
  refine gob (fun _ k => XS.isub X0.here hx rfl (hb hby d1_18) rfl k) ?_
  show gO (tF s₁ m 19 (la3 o0 0 (0 : UInt64) 1) [(.int 0), (.ref o0)])
  obtain ⟨cl2, Ar2, aq2, S2, N2, H2, G2⟩ := id V_a
  have hin2 : ¬ ((0 : Int32) < 0 ∨ cl2.slots.size ≤ ((0 : Int32)).toNatClampNeg) := inb_of S2 ⟨by decide, by decide⟩
  refine gob (X0.iaload hx (j := (0 : Int32)) (v := (.int e_0)) (by rw [e0]; exact Ar2.1) (State.isArrayOf_alike hZ.alike Ar2.2.1) Ar2.2.2 hin2 (Has.at H2 hin2 rfl) (g := (mkF m 19 (la3 o0 0 (0 : UInt64) 1) [(.int 0), (.ref o0)])) rfl rfl (hb hby d1_19)) ?_
  show gO (tF s₁ m 20 (la3 o0 0 (0 : UInt64) 1) [(.int e_0)])
  by_cases hc20_3 : (0 : Int32) < e_0
  · skip
    refine gob (fun _ k => XS.ifNo X0.here hx rfl (hb hby d1_20) rfl ((if0 _ _).trans (tlt hc20_3).2.2.2) k) ?_
    show gO (tF s₁ m 23 (la3 o0 0 (0 : UInt64) 1) [])
    refine gob (fun _ k => XS.iinc X0.here hx rfl (hb hby d1_23) rfl (l' := (la3 o0 1 (0 : UInt64) 1)) rfl k) ?_
    show gO (tF s₁ m 26 (la3 o0 1 (0 : UInt64) 1) [])
    refine gob (fun _ k => XS.dloadN X0.here hx rfl (hb hby d1_26) rfl k) ?_
    show gO (tF s₁ m 27 (la3 o0 1 (0 : UInt64) 1) [(.double (0 : UInt64))])
    refine gob (fun _ k => XS.iloadN X0.here hx rfl (hb hby d1_27) rfl k) ?_
    show gO (tF s₁ m 28 (la3 o0 1 (0 : UInt64) 1) [(.int 1), (.double (0 : UInt64))])
    refine gob (fun _ k => XS.i2dS X0.here hx rfl (hb hby d1_28) rfl (v := (4607182418800017408 : UInt64)) (by decide +kernel) k) ?_
    show gO (tF s₁ m 29 (la3 o0 1 (0 : UInt64) 1) [(.double (4607182418800017408 : UInt64)), (.double (0 : UInt64))])
    refine gob (fun _ k => XS.iload X0.here hx rfl (hb hby d1_29) rfl k) ?_
    show gO (tF s₁ m 31 (la3 o0 1 (0 : UInt64) 1) [(.int 1), (.double (4607182418800017408 : UInt64)), (.double (0 : UInt64))])
    refine gob (fun _ k => XS.i2dS X0.here hx rfl (hb hby d1_31) rfl (v := (4607182418800017408 : UInt64)) (by decide +kernel) k) ?_
    show gO (tF s₁ m 32 (la3 o0 1 (0 : UInt64) 1) [(.double (4607182418800017408 : UInt64)), (.double (4607182418800017408 : UInt64)), (.double (0 : UInt64))])
    refine gob (fun _ k => XS.ddivS X0.here hx rfl (hb hby d1_32) rfl (v := (4607182418800017408 : UInt64)) (by unfold Jvm.Free.Fl.NoNaN64; decide +kernel) (by decide +kernel) k) ?_
    show gO (tF s₁ m 33 (la3 o0 1 (0 : UInt64) 1) [(.double (4607182418800017408 : UInt64)), (.double (0 : UInt64))])
    refine gob (fun _ k => XS.daddS X0.here hx rfl (hb hby d1_33) rfl (v := (4607182418800017408 : UInt64)) (by unfold Jvm.Free.Fl.NoNaN64; decide +kernel) (by decide +kernel) k) ?_
    show gO (tF s₁ m 34 (la3 o0 1 (0 : UInt64) 1) [(.double (4607182418800017408 : UInt64))])
    refine gob (fun _ k => XS.dstoreN X0.here hx rfl (hb hby d1_34) rfl (l' := (la3 o0 1 (4607182418800017408 : UInt64) 1)) rfl k) ?_
    show gO (tF s₁ m 35 (la3 o0 1 (4607182418800017408 : UInt64) 1) [])
    refine gob (fun _ k => XS.iinc X0.here hx rfl (hb hby d1_35) rfl (l' := (la3 o0 1 (4607182418800017408 : UInt64) 2)) rfl k) ?_
    show gO (tF s₁ m 38 (la3 o0 1 (4607182418800017408 : UInt64) 2) [])
    refine gob (fun _ k => XS.goto X0.here hx rfl (pc0 := 38) (pc' := 7) rfl (hb hby d1_38) (by decide) (by decide) k) ?_
    show gO (tF s₁ m 7 (la3 o0 1 (4607182418800017408 : UInt64) 2) [])
    refine gob (fun _ k => XS.iload X0.here hx rfl (hb hby d1_7) rfl k) ?_
    show gO (tF s₁ m 9 (la3 o0 1 (4607182418800017408 : UInt64) 2) [(.int 2)])
    refine gob (fun _ k => XS.aloadN X0.here hx rfl (hb hby d1_9) rfl rfl k) ?_
    show gO (tF s₁ m 10 (la3 o0 1 (4607182418800017408 : UInt64) 2) [(.ref o0), (.int 2)])
    obtain ⟨cl4, Ar4, aq4, S4, N4, H4, G4⟩ := id V_a
    refine gob (X0.arraylength hx (by rw [e0]; exact Ar4.1) (State.isArrayOf_alike hZ.alike Ar4.2.1) (g := (mkF m 10 (la3 o0 1 (4607182418800017408 : UInt64) 2) [(.ref o0), (.int 2)])) rfl rfl (hb hby d1_10)) ?_
    rw [len_of S4 N4]
    show gO (tF s₁ m 11 (la3 o0 1 (4607182418800017408 : UInt64) 2) [(.int 3), (.int 2)])
    refine gob (fun _ k => XS.icmpNo X0.here hx rfl (hb hby d1_11) rfl (flt (by decide : ¬ ((3 : Int32) < (2 : Int32)))).2.2.1 k) ?_
    show gO (tF s₁ m 14 (la3 o0 1 (4607182418800017408 : UInt64) 2) [])
    refine gob (fun _ k => XS.aloadN X0.here hx rfl (hb hby d1_14) rfl rfl k) ?_
    show gO (tF s₁ m 15 (la3 o0 1 (4607182418800017408 : UInt64) 2) [(.ref o0)])
    refine gob (fun _ k => XS.iload X0.here hx rfl (hb hby d1_15) rfl k) ?_
    show gO (tF s₁ m 17 (la3 o0 1 (4607182418800017408 : UInt64) 2) [(.int 2), (.ref o0)])
    refine gob (fun _ k => XS.iconst X0.here hx rfl (hb hby d1_17) k) ?_
    show gO (tF s₁ m 18 (la3 o0 1 (4607182418800017408 : UInt64) 2) [(.int 1), (.int 2), (.ref o0)])
    refine gob (fun _ k => XS.isub X0.here hx rfl (hb hby d1_18) rfl k) ?_
    show gO (tF s₁ m 19 (la3 o0 1 (4607182418800017408 : UInt64) 2) [(.int 1), (.ref o0)])
    obtain ⟨cl5, Ar5, aq5, S5, N5, H5, G5⟩ := id V_a
    have hin5 : ¬ ((1 : Int32) < 0 ∨ cl5.slots.size ≤ ((1 : Int32)).toNatClampNeg) := inb_of S5 ⟨by decide, by decide⟩
    refine gob (X0.iaload hx (j := (1 : Int32)) (v := (.int e_1)) (by rw [e0]; exact Ar5.1) (State.isArrayOf_alike hZ.alike Ar5.2.1) Ar5.2.2 hin5 (Has.at H5 hin5 rfl) (g := (mkF m 19 (la3 o0 1 (4607182418800017408 : UInt64) 2) [(.int 1), (.ref o0)])) rfl rfl (hb hby d1_19)) ?_
    show gO (tF s₁ m 20 (la3 o0 1 (4607182418800017408 : UInt64) 2) [(.int e_1)])
    by_cases hc20_6 : (0 : Int32) < e_1
    · skip
      refine gob (fun _ k => XS.ifNo X0.here hx rfl (hb hby d1_20) rfl ((if0 _ _).trans (tlt hc20_6).2.2.2) k) ?_
      show gO (tF s₁ m 23 (la3 o0 1 (4607182418800017408 : UInt64) 2) [])
      refine gob (fun _ k => XS.iinc X0.here hx rfl (hb hby d1_23) rfl (l' := (la3 o0 2 (4607182418800017408 : UInt64) 2)) rfl k) ?_
      show gO (tF s₁ m 26 (la3 o0 2 (4607182418800017408 : UInt64) 2) [])
      refine gob (fun _ k => XS.dloadN X0.here hx rfl (hb hby d1_26) rfl k) ?_
      show gO (tF s₁ m 27 (la3 o0 2 (4607182418800017408 : UInt64) 2) [(.double (4607182418800017408 : UInt64))])
      refine gob (fun _ k => XS.iloadN X0.here hx rfl (hb hby d1_27) rfl k) ?_
      show gO (tF s₁ m 28 (la3 o0 2 (4607182418800017408 : UInt64) 2) [(.int 2), (.double (4607182418800017408 : UInt64))])
      refine gob (fun _ k => XS.i2dS X0.here hx rfl (hb hby d1_28) rfl (v := (4611686018427387904 : UInt64)) (by decide +kernel) k) ?_
      show gO (tF s₁ m 29 (la3 o0 2 (4607182418800017408 : UInt64) 2) [(.double (4611686018427387904 : UInt64)), (.double (4607182418800017408 : UInt64))])
      refine gob (fun _ k => XS.iload X0.here hx rfl (hb hby d1_29) rfl k) ?_
      show gO (tF s₁ m 31 (la3 o0 2 (4607182418800017408 : UInt64) 2) [(.int 2), (.double (4611686018427387904 : UInt64)), (.double (4607182418800017408 : UInt64))])
      refine gob (fun _ k => XS.i2dS X0.here hx rfl (hb hby d1_31) rfl (v := (4611686018427387904 : UInt64)) (by decide +kernel) k) ?_
      show gO (tF s₁ m 32 (la3 o0 2 (4607182418800017408 : UInt64) 2) [(.double (4611686018427387904 : UInt64)), (.double (4611686018427387904 : UInt64)), (.double (4607182418800017408 : UInt64))])
      refine gob (fun _ k => XS.ddivS X0.here hx rfl (hb hby d1_32) rfl (v := (4607182418800017408 : UInt64)) (by unfold Jvm.Free.Fl.NoNaN64; decide +kernel) (by decide +kernel) k) ?_
      show gO (tF s₁ m 33 (la3 o0 2 (4607182418800017408 : UInt64) 2) [(.double (4607182418800017408 : UInt64)), (.double (4607182418800017408 : UInt64))])
      refine gob (fun _ k => XS.daddS X0.here hx rfl (hb hby d1_33) rfl (v := (4611686018427387904 : UInt64)) (by unfold Jvm.Free.Fl.NoNaN64; decide +kernel) (by decide +kernel) k) ?_
      show gO (tF s₁ m 34 (la3 o0 2 (4607182418800017408 : UInt64) 2) [(.double (4611686018427387904 : UInt64))])
      refine gob (fun _ k => XS.dstoreN X0.here hx rfl (hb hby d1_34) rfl (l' := (la3 o0 2 (4611686018427387904 : UInt64) 2)) rfl k) ?_
      show gO (tF s₁ m 35 (la3 o0 2 (4611686018427387904 : UInt64) 2) [])
      refine gob (fun _ k => XS.iinc X0.here hx rfl (hb hby d1_35) rfl (l' := (la3 o0 2 (4611686018427387904 : UInt64) 3)) rfl k) ?_
      show gO (tF s₁ m 38 (la3 o0 2 (4611686018427387904 : UInt64) 3) [])
      refine gob (fun _ k => XS.goto X0.here hx rfl (pc0 := 38) (pc' := 7) rfl (hb hby d1_38) (by decide) (by decide) k) ?_
      show gO (tF s₁ m 7 (la3 o0 2 (4611686018427387904 : UInt64) 3) [])
      refine gob (fun _ k => XS.iload X0.here hx rfl (hb hby d1_7) rfl k) ?_
      show gO (tF s₁ m 9 (la3 o0 2 (4611686018427387904 : UInt64) 3) [(.int 3)])
      refine gob (fun _ k => XS.aloadN X0.here hx rfl (hb hby d1_9) rfl rfl k) ?_
      show gO (tF s₁ m 10 (la3 o0 2 (4611686018427387904 : UInt64) 3) [(.ref o0), (.int 3)])
      obtain ⟨cl7, Ar7, aq7, S7, N7, H7, G7⟩ := id V_a
      refine gob (X0.arraylength hx (by rw [e0]; exact Ar7.1) (State.isArrayOf_alike hZ.alike Ar7.2.1) (g := (mkF m 10 (la3 o0 2 (4611686018427387904 : UInt64) 3) [(.ref o0), (.int 3)])) rfl rfl (hb hby d1_10)) ?_
      rw [len_of S7 N7]
      show gO (tF s₁ m 11 (la3 o0 2 (4611686018427387904 : UInt64) 3) [(.int 3), (.int 3)])
      refine gob (fun _ k => XS.icmpNo X0.here hx rfl (hb hby d1_11) rfl (flt (by decide : ¬ ((3 : Int32) < (3 : Int32)))).2.2.1 k) ?_
      show gO (tF s₁ m 14 (la3 o0 2 (4611686018427387904 : UInt64) 3) [])
      refine gob (fun _ k => XS.aloadN X0.here hx rfl (hb hby d1_14) rfl rfl k) ?_
      show gO (tF s₁ m 15 (la3 o0 2 (4611686018427387904 : UInt64) 3) [(.ref o0)])
      refine gob (fun _ k => XS.iload X0.here hx rfl (hb hby d1_15) rfl k) ?_
      show gO (tF s₁ m 17 (la3 o0 2 (4611686018427387904 : UInt64) 3) [(.int 3), (.ref o0)])
      refine gob (fun _ k => XS.iconst X0.here hx rfl (hb hby d1_17) k) ?_
      show gO (tF s₁ m 18 (la3 o0 2 (4611686018427387904 : UInt64) 3) [(.int 1), (.int 3), (.ref o0)])
      refine gob (fun _ k => XS.isub X0.here hx rfl (hb hby d1_18) rfl k) ?_
      show gO (tF s₁ m 19 (la3 o0 2 (4611686018427387904 : UInt64) 3) [(.int 2), (.ref o0)])
      obtain ⟨cl8, Ar8, aq8, S8, N8, H8, G8⟩ := id V_a
      have hin8 : ¬ ((2 : Int32) < 0 ∨ cl8.slots.size ≤ ((2 : Int32)).toNatClampNeg) := inb_of S8 ⟨by decide, by decide⟩
      refine gob (X0.iaload hx (j := (2 : Int32)) (v := (.int e_2)) (by rw [e0]; exact Ar8.1) (State.isArrayOf_alike hZ.alike Ar8.2.1) Ar8.2.2 hin8 (Has.at H8 hin8 rfl) (g := (mkF m 19 (la3 o0 2 (4611686018427387904 : UInt64) 3) [(.int 2), (.ref o0)])) rfl rfl (hb hby d1_19)) ?_
      show gO (tF s₁ m 20 (la3 o0 2 (4611686018427387904 : UInt64) 3) [(.int e_2)])
      by_cases hc20_9 : (0 : Int32) < e_2
      · skip
        refine gob (fun _ k => XS.ifNo X0.here hx rfl (hb hby d1_20) rfl ((if0 _ _).trans (tlt hc20_9).2.2.2) k) ?_
        show gO (tF s₁ m 23 (la3 o0 2 (4611686018427387904 : UInt64) 3) [])
        refine gob (fun _ k => XS.iinc X0.here hx rfl (hb hby d1_23) rfl (l' := (la3 o0 3 (4611686018427387904 : UInt64) 3)) rfl k) ?_
        show gO (tF s₁ m 26 (la3 o0 3 (4611686018427387904 : UInt64) 3) [])
        refine gob (fun _ k => XS.dloadN X0.here hx rfl (hb hby d1_26) rfl k) ?_
        show gO (tF s₁ m 27 (la3 o0 3 (4611686018427387904 : UInt64) 3) [(.double (4611686018427387904 : UInt64))])
        refine gob (fun _ k => XS.iloadN X0.here hx rfl (hb hby d1_27) rfl k) ?_
        show gO (tF s₁ m 28 (la3 o0 3 (4611686018427387904 : UInt64) 3) [(.int 3), (.double (4611686018427387904 : UInt64))])
        refine gob (fun _ k => XS.i2dS X0.here hx rfl (hb hby d1_28) rfl (v := (4613937818241073152 : UInt64)) (by decide +kernel) k) ?_
        show gO (tF s₁ m 29 (la3 o0 3 (4611686018427387904 : UInt64) 3) [(.double (4613937818241073152 : UInt64)), (.double (4611686018427387904 : UInt64))])
        refine gob (fun _ k => XS.iload X0.here hx rfl (hb hby d1_29) rfl k) ?_
        show gO (tF s₁ m 31 (la3 o0 3 (4611686018427387904 : UInt64) 3) [(.int 3), (.double (4613937818241073152 : UInt64)), (.double (4611686018427387904 : UInt64))])
        refine gob (fun _ k => XS.i2dS X0.here hx rfl (hb hby d1_31) rfl (v := (4613937818241073152 : UInt64)) (by decide +kernel) k) ?_
        show gO (tF s₁ m 32 (la3 o0 3 (4611686018427387904 : UInt64) 3) [(.double (4613937818241073152 : UInt64)), (.double (4613937818241073152 : UInt64)), (.double (4611686018427387904 : UInt64))])
        refine gob (fun _ k => XS.ddivS X0.here hx rfl (hb hby d1_32) rfl (v := (4607182418800017408 : UInt64)) (by unfold Jvm.Free.Fl.NoNaN64; decide +kernel) (by decide +kernel) k) ?_
        show gO (tF s₁ m 33 (la3 o0 3 (4611686018427387904 : UInt64) 3) [(.double (4607182418800017408 : UInt64)), (.double (4611686018427387904 : UInt64))])
        refine gob (fun _ k => XS.daddS X0.here hx rfl (hb hby d1_33) rfl (v := (4613937818241073152 : UInt64)) (by unfold Jvm.Free.Fl.NoNaN64; decide +kernel) (by decide +kernel) k) ?_
        show gO (tF s₁ m 34 (la3 o0 3 (4611686018427387904 : UInt64) 3) [(.double (4613937818241073152 : UInt64))])
        refine gob (fun _ k => XS.dstoreN X0.here hx rfl (hb hby d1_34) rfl (l' := (la3 o0 3 (4613937818241073152 : UInt64) 3)) rfl k) ?_
        show gO (tF s₁ m 35 (la3 o0 3 (4613937818241073152 : UInt64) 3) [])
        refine gob (fun _ k => XS.iinc X0.here hx rfl (hb hby d1_35) rfl (l' := (la3 o0 3 (4613937818241073152 : UInt64) 4)) rfl k) ?_
        show gO (tF s₁ m 38 (la3 o0 3 (4613937818241073152 : UInt64) 4) [])
        refine gob (fun _ k => XS.goto X0.here hx rfl (pc0 := 38) (pc' := 7) rfl (hb hby d1_38) (by decide) (by decide) k) ?_
        show gO (tF s₁ m 7 (la3 o0 3 (4613937818241073152 : UInt64) 4) [])
        refine gob (fun _ k => XS.iload X0.here hx rfl (hb hby d1_7) rfl k) ?_
        show gO (tF s₁ m 9 (la3 o0 3 (4613937818241073152 : UInt64) 4) [(.int 4)])
        refine gob (fun _ k => XS.aloadN X0.here hx rfl (hb hby d1_9) rfl rfl k) ?_
        show gO (tF s₁ m 10 (la3 o0 3 (4613937818241073152 : UInt64) 4) [(.ref o0), (.int 4)])
        obtain ⟨cl10, Ar10, aq10, S10, N10, H10, G10⟩ := id V_a
        refine gob (X0.arraylength hx (by rw [e0]; exact Ar10.1) (State.isArrayOf_alike hZ.alike Ar10.2.1) (g := (mkF m 10 (la3 o0 3 (4613937818241073152 : UInt64) 4) [(.ref o0), (.int 4)])) rfl rfl (hb hby d1_10)) ?_
        rw [len_of S10 N10]
        show gO (tF s₁ m 11 (la3 o0 3 (4613937818241073152 : UInt64) 4) [(.int 3), (.int 4)])
        refine gob (fun _ k => XS.icmpYes X0.here hx rfl (pc0 := 11) (pc' := 41) rfl (hb hby d1_11) rfl (tlt (by decide : (3 : Int32) < (4 : Int32))).2.2.1 (by decide) (by decide) k) ?_
        show gO (tF s₁ m 41 (la3 o0 3 (4613937818241073152 : UInt64) 4) [])
        refine gob (fun _ k => XS.iloadN X0.here hx rfl (hb hby d1_41) rfl k) ?_
        show gO (tF s₁ m 42 (la3 o0 3 (4613937818241073152 : UInt64) 4) [(.int 3)])
        refine gob (fun _ k => XS.ifYes X0.here hx rfl (pc0 := 42) (pc' := 49) rfl (hb hby d1_42) rfl ((if0 _ _).trans (feq (by decide : ¬ ((3 : Int32) = (0 : Int32)))).2) (by decide) (by decide) k) ?_
        show gO (tF s₁ m 49 (la3 o0 3 (4613937818241073152 : UInt64) 4) [])
        refine gob (fun _ k => XS.dloadN X0.here hx rfl (hb hby d1_49) rfl k) ?_
        show gO (tF s₁ m 50 (la3 o0 3 (4613937818241073152 : UInt64) 4) [(.double (4613937818241073152 : UInt64))])
        refine gob (fun _ k => XS.iloadN X0.here hx rfl (hb hby d1_50) rfl k) ?_
        show gO (tF s₁ m 51 (la3 o0 3 (4613937818241073152 : UInt64) 4) [(.int 3), (.double (4613937818241073152 : UInt64))])
        refine gob (fun _ k => XS.i2dS X0.here hx rfl (hb hby d1_51) rfl (v := (4613937818241073152 : UInt64)) (by decide +kernel) k) ?_
        show gO (tF s₁ m 52 (la3 o0 3 (4613937818241073152 : UInt64) 4) [(.double (4613937818241073152 : UInt64)), (.double (4613937818241073152 : UInt64))])
        refine gob (fun _ k => XS.ddivS X0.here hx rfl (hb hby d1_52) rfl (v := (4607182418800017408 : UInt64)) (by unfold Jvm.Free.Fl.NoNaN64; decide +kernel) (by decide +kernel) k) ?_
        show gO (tF s₁ m 53 (la3 o0 3 (4613937818241073152 : UInt64) 4) [(.double (4607182418800017408 : UInt64))])
        refine goD X0 hx hlk Bd.returns (hb hby d1_53) ?_ (by decide) (by decide)
        show Qap3 Z o0 k_a e_0 e_1 e_2 h0 n0 (some (.double (4607182418800017408 : UInt64))) s₁.heap _
        exact ⟨(4607182418800017408 : UInt64), rfl, (Or.inl ⟨hc20_3, hc20_6, hc20_9, rfl⟩), N0, e0⟩
      · skip
        refine gob (fun _ k => XS.ifYes X0.here hx rfl (pc0 := 20) (pc' := 35) rfl (hb hby d1_20) rfl ((if0 _ _).trans (flt hc20_9).2.2.2) (by decide) (by decide) k) ?_
        show gO (tF s₁ m 35 (la3 o0 2 (4611686018427387904 : UInt64) 3) [])
        refine gob (fun _ k => XS.iinc X0.here hx rfl (hb hby d1_35) rfl (l' := (la3 o0 2 (4611686018427387904 : UInt64) 4)) rfl k) ?_
        show gO (tF s₁ m 38 (la3 o0 2 (4611686018427387904 : UInt64) 4) [])
        refine gob (fun _ k => XS.goto X0.here hx rfl (pc0 := 38) (pc' := 7) rfl (hb hby d1_38) (by decide) (by decide) k) ?_
        show gO (tF s₁ m 7 (la3 o0 2 (4611686018427387904 : UInt64) 4) [])
        refine gob (fun _ k => XS.iload X0.here hx rfl (hb hby d1_7) rfl k) ?_
        show gO (tF s₁ m 9 (la3 o0 2 (4611686018427387904 : UInt64) 4) [(.int 4)])
        refine gob (fun _ k => XS.aloadN X0.here hx rfl (hb hby d1_9) rfl rfl k) ?_
        show gO (tF s₁ m 10 (la3 o0 2 (4611686018427387904 : UInt64) 4) [(.ref o0), (.int 4)])
        obtain ⟨cl11, Ar11, aq11, S11, N11, H11, G11⟩ := id V_a
        refine gob (X0.arraylength hx (by rw [e0]; exact Ar11.1) (State.isArrayOf_alike hZ.alike Ar11.2.1) (g := (mkF m 10 (la3 o0 2 (4611686018427387904 : UInt64) 4) [(.ref o0), (.int 4)])) rfl rfl (hb hby d1_10)) ?_
        rw [len_of S11 N11]
        show gO (tF s₁ m 11 (la3 o0 2 (4611686018427387904 : UInt64) 4) [(.int 3), (.int 4)])
        refine gob (fun _ k => XS.icmpYes X0.here hx rfl (pc0 := 11) (pc' := 41) rfl (hb hby d1_11) rfl (tlt (by decide : (3 : Int32) < (4 : Int32))).2.2.1 (by decide) (by decide) k) ?_
        show gO (tF s₁ m 41 (la3 o0 2 (4611686018427387904 : UInt64) 4) [])
        refine gob (fun _ k => XS.iloadN X0.here hx rfl (hb hby d1_41) rfl k) ?_
        show gO (tF s₁ m 42 (la3 o0 2 (4611686018427387904 : UInt64) 4) [(.int 2)])
        refine gob (fun _ k => XS.ifYes X0.here hx rfl (pc0 := 42) (pc' := 49) rfl (hb hby d1_42) rfl ((if0 _ _).trans (feq (by decide : ¬ ((2 : Int32) = (0 : Int32)))).2) (by decide) (by decide) k) ?_
        show gO (tF s₁ m 49 (la3 o0 2 (4611686018427387904 : UInt64) 4) [])
        refine gob (fun _ k => XS.dloadN X0.here hx rfl (hb hby d1_49) rfl k) ?_
        show gO (tF s₁ m 50 (la3 o0 2 (4611686018427387904 : UInt64) 4) [(.double (4611686018427387904 : UInt64))])
        refine gob (fun _ k => XS.iloadN X0.here hx rfl (hb hby d1_50) rfl k) ?_
        show gO (tF s₁ m 51 (la3 o0 2 (4611686018427387904 : UInt64) 4) [(.int 2), (.double (4611686018427387904 : UInt64))])
        refine gob (fun _ k => XS.i2dS X0.here hx rfl (hb hby d1_51) rfl (v := (4611686018427387904 : UInt64)) (by decide +kernel) k) ?_
        show gO (tF s₁ m 52 (la3 o0 2 (4611686018427387904 : UInt64) 4) [(.double (4611686018427387904 : UInt64)), (.double (4611686018427387904 : UInt64))])
        refine gob (fun _ k => XS.ddivS X0.here hx rfl (hb hby d1_52) rfl (v := (4607182418800017408 : UInt64)) (by unfold Jvm.Free.Fl.NoNaN64; decide +kernel) (by decide +kernel) k) ?_
        show gO (tF s₁ m 53 (la3 o0 2 (4611686018427387904 : UInt64) 4) [(.double (4607182418800017408 : UInt64))])
        refine goD X0 hx hlk Bd.returns (hb hby d1_53) ?_ (by decide) (by decide)
        show Qap3 Z o0 k_a e_0 e_1 e_2 h0 n0 (some (.double (4607182418800017408 : UInt64))) s₁.heap _
        exact ⟨(4607182418800017408 : UInt64), rfl, (Or.inr (Or.inl ⟨hc20_3, hc20_6, hc20_9, rfl⟩)), N0, e0⟩
    · skip
      refine gob (fun _ k => XS.ifYes X0.here hx rfl (pc0 := 20) (pc' := 35) rfl (hb hby d1_20) rfl ((if0 _ _).trans (flt hc20_6).2.2.2) (by decide) (by decide) k) ?_
      show gO (tF s₁ m 35 (la3 o0 1 (4607182418800017408 : UInt64) 2) [])
      refine gob (fun _ k => XS.iinc X0.here hx rfl (hb hby d1_35) rfl (l' := (la3 o0 1 (4607182418800017408 : UInt64) 3)) rfl k) ?_
      show gO (tF s₁ m 38 (la3 o0 1 (4607182418800017408 : UInt64) 3) [])
      refine gob (fun _ k => XS.goto X0.here hx rfl (pc0 := 38) (pc' := 7) rfl (hb hby d1_38) (by decide) (by decide) k) ?_
      show gO (tF s₁ m 7 (la3 o0 1 (4607182418800017408 : UInt64) 3) [])
      refine gob (fun _ k => XS.iload X0.here hx rfl (hb hby d1_7) rfl k) ?_
      show gO (tF s₁ m 9 (la3 o0 1 (4607182418800017408 : UInt64) 3) [(.int 3)])
      refine gob (fun _ k => XS.aloadN X0.here hx rfl (hb hby d1_9) rfl rfl k) ?_
      show gO (tF s₁ m 10 (la3 o0 1 (4607182418800017408 : UInt64) 3) [(.ref o0), (.int 3)])
      obtain ⟨cl12, Ar12, aq12, S12, N12, H12, G12⟩ := id V_a
      refine gob (X0.arraylength hx (by rw [e0]; exact Ar12.1) (State.isArrayOf_alike hZ.alike Ar12.2.1) (g := (mkF m 10 (la3 o0 1 (4607182418800017408 : UInt64) 3) [(.ref o0), (.int 3)])) rfl rfl (hb hby d1_10)) ?_
      rw [len_of S12 N12]
      show gO (tF s₁ m 11 (la3 o0 1 (4607182418800017408 : UInt64) 3) [(.int 3), (.int 3)])
      refine gob (fun _ k => XS.icmpNo X0.here hx rfl (hb hby d1_11) rfl (flt (by decide : ¬ ((3 : Int32) < (3 : Int32)))).2.2.1 k) ?_
      show gO (tF s₁ m 14 (la3 o0 1 (4607182418800017408 : UInt64) 3) [])
      refine gob (fun _ k => XS.aloadN X0.here hx rfl (hb hby d1_14) rfl rfl k) ?_
      show gO (tF s₁ m 15 (la3 o0 1 (4607182418800017408 : UInt64) 3) [(.ref o0)])
      refine gob (fun _ k => XS.iload X0.here hx rfl (hb hby d1_15) rfl k) ?_
      show gO (tF s₁ m 17 (la3 o0 1 (4607182418800017408 : UInt64) 3) [(.int 3), (.ref o0)])
      refine gob (fun _ k => XS.iconst X0.here hx rfl (hb hby d1_17) k) ?_
      show gO (tF s₁ m 18 (la3 o0 1 (4607182418800017408 : UInt64) 3) [(.int 1), (.int 3), (.ref o0)])
      refine gob (fun _ k => XS.isub X0.here hx rfl (hb hby d1_18) rfl k) ?_
      show gO (tF s₁ m 19 (la3 o0 1 (4607182418800017408 : UInt64) 3) [(.int 2), (.ref o0)])
      obtain ⟨cl13, Ar13, aq13, S13, N13, H13, G13⟩ := id V_a
      have hin13 : ¬ ((2 : Int32) < 0 ∨ cl13.slots.size ≤ ((2 : Int32)).toNatClampNeg) := inb_of S13 ⟨by decide, by decide⟩
      refine gob (X0.iaload hx (j := (2 : Int32)) (v := (.int e_2)) (by rw [e0]; exact Ar13.1) (State.isArrayOf_alike hZ.alike Ar13.2.1) Ar13.2.2 hin13 (Has.at H13 hin13 rfl) (g := (mkF m 19 (la3 o0 1 (4607182418800017408 : UInt64) 3) [(.int 2), (.ref o0)])) rfl rfl (hb hby d1_19)) ?_
      show gO (tF s₁ m 20 (la3 o0 1 (4607182418800017408 : UInt64) 3) [(.int e_2)])
      by_cases hc20_14 : (0 : Int32) < e_2
      · skip
        refine gob (fun _ k => XS.ifNo X0.here hx rfl (hb hby d1_20) rfl ((if0 _ _).trans (tlt hc20_14).2.2.2) k) ?_
        show gO (tF s₁ m 23 (la3 o0 1 (4607182418800017408 : UInt64) 3) [])
        refine gob (fun _ k => XS.iinc X0.here hx rfl (hb hby d1_23) rfl (l' := (la3 o0 2 (4607182418800017408 : UInt64) 3)) rfl k) ?_
        show gO (tF s₁ m 26 (la3 o0 2 (4607182418800017408 : UInt64) 3) [])
        refine gob (fun _ k => XS.dloadN X0.here hx rfl (hb hby d1_26) rfl k) ?_
        show gO (tF s₁ m 27 (la3 o0 2 (4607182418800017408 : UInt64) 3) [(.double (4607182418800017408 : UInt64))])
        refine gob (fun _ k => XS.iloadN X0.here hx rfl (hb hby d1_27) rfl k) ?_
        show gO (tF s₁ m 28 (la3 o0 2 (4607182418800017408 : UInt64) 3) [(.int 2), (.double (4607182418800017408 : UInt64))])
        refine gob (fun _ k => XS.i2dS X0.here hx rfl (hb hby d1_28) rfl (v := (4611686018427387904 : UInt64)) (by decide +kernel) k) ?_
        show gO (tF s₁ m 29 (la3 o0 2 (4607182418800017408 : UInt64) 3) [(.double (4611686018427387904 : UInt64)), (.double (4607182418800017408 : UInt64))])
        refine gob (fun _ k => XS.iload X0.here hx rfl (hb hby d1_29) rfl k) ?_
        show gO (tF s₁ m 31 (la3 o0 2 (4607182418800017408 : UInt64) 3) [(.int 3), (.double (4611686018427387904 : UInt64)), (.double (4607182418800017408 : UInt64))])
        refine gob (fun _ k => XS.i2dS X0.here hx rfl (hb hby d1_31) rfl (v := (4613937818241073152 : UInt64)) (by decide +kernel) k) ?_
        show gO (tF s₁ m 32 (la3 o0 2 (4607182418800017408 : UInt64) 3) [(.double (4613937818241073152 : UInt64)), (.double (4611686018427387904 : UInt64)), (.double (4607182418800017408 : UInt64))])
        refine gob (fun _ k => XS.ddivS X0.here hx rfl (hb hby d1_32) rfl (v := (4604180019048437077 : UInt64)) (by unfold Jvm.Free.Fl.NoNaN64; decide +kernel) (by decide +kernel) k) ?_
        show gO (tF s₁ m 33 (la3 o0 2 (4607182418800017408 : UInt64) 3) [(.double (4604180019048437077 : UInt64)), (.double (4607182418800017408 : UInt64))])
        refine gob (fun _ k => XS.daddS X0.here hx rfl (hb hby d1_33) rfl (v := (4610184818551597738 : UInt64)) (by unfold Jvm.Free.Fl.NoNaN64; decide +kernel) (by decide +kernel) k) ?_
        show gO (tF s₁ m 34 (la3 o0 2 (4607182418800017408 : UInt64) 3) [(.double (4610184818551597738 : UInt64))])
        refine gob (fun _ k => XS.dstoreN X0.here hx rfl (hb hby d1_34) rfl (l' := (la3 o0 2 (4610184818551597738 : UInt64) 3)) rfl k) ?_
        show gO (tF s₁ m 35 (la3 o0 2 (4610184818551597738 : UInt64) 3) [])
        refine gob (fun _ k => XS.iinc X0.here hx rfl (hb hby d1_35) rfl (l' := (la3 o0 2 (4610184818551597738 : UInt64) 4)) rfl k) ?_
        show gO (tF s₁ m 38 (la3 o0 2 (4610184818551597738 : UInt64) 4) [])
        refine gob (fun _ k => XS.goto X0.here hx rfl (pc0 := 38) (pc' := 7) rfl (hb hby d1_38) (by decide) (by decide) k) ?_
        show gO (tF s₁ m 7 (la3 o0 2 (4610184818551597738 : UInt64) 4) [])
        refine gob (fun _ k => XS.iload X0.here hx rfl (hb hby d1_7) rfl k) ?_
        show gO (tF s₁ m 9 (la3 o0 2 (4610184818551597738 : UInt64) 4) [(.int 4)])
        refine gob (fun _ k => XS.aloadN X0.here hx rfl (hb hby d1_9) rfl rfl k) ?_
        show gO (tF s₁ m 10 (la3 o0 2 (4610184818551597738 : UInt64) 4) [(.ref o0), (.int 4)])
        obtain ⟨cl15, Ar15, aq15, S15, N15, H15, G15⟩ := id V_a
        refine gob (X0.arraylength hx (by rw [e0]; exact Ar15.1) (State.isArrayOf_alike hZ.alike Ar15.2.1) (g := (mkF m 10 (la3 o0 2 (4610184818551597738 : UInt64) 4) [(.ref o0), (.int 4)])) rfl rfl (hb hby d1_10)) ?_
        rw [len_of S15 N15]
        show gO (tF s₁ m 11 (la3 o0 2 (4610184818551597738 : UInt64) 4) [(.int 3), (.int 4)])
        refine gob (fun _ k => XS.icmpYes X0.here hx rfl (pc0 := 11) (pc' := 41) rfl (hb hby d1_11) rfl (tlt (by decide : (3 : Int32) < (4 : Int32))).2.2.1 (by decide) (by decide) k) ?_
        show gO (tF s₁ m 41 (la3 o0 2 (4610184818551597738 : UInt64) 4) [])
        refine gob (fun _ k => XS.iloadN X0.here hx rfl (hb hby d1_41) rfl k) ?_
        show gO (tF s₁ m 42 (la3 o0 2 (4610184818551597738 : UInt64) 4) [(.int 2)])
        refine gob (fun _ k => XS.ifYes X0.here hx rfl (pc0 := 42) (pc' := 49) rfl (hb hby d1_42) rfl ((if0 _ _).trans (feq (by decide : ¬ ((2 : Int32) = (0 : Int32)))).2) (by decide) (by decide) k) ?_
        show gO (tF s₁ m 49 (la3 o0 2 (4610184818551597738 : UInt64) 4) [])
        refine gob (fun _ k => XS.dloadN X0.here hx rfl (hb hby d1_49) rfl k) ?_
        show gO (tF s₁ m 50 (la3 o0 2 (4610184818551597738 : UInt64) 4) [(.double (4610184818551597738 : UInt64))])
        refine gob (fun _ k => XS.iloadN X0.here hx rfl (hb hby d1_50) rfl k) ?_
        show gO (tF s₁ m 51 (la3 o0 2 (4610184818551597738 : UInt64) 4) [(.int 2), (.double (4610184818551597738 : UInt64))])
        refine gob (fun _ k => XS.i2dS X0.here hx rfl (hb hby d1_51) rfl (v := (4611686018427387904 : UInt64)) (by decide +kernel) k) ?_
        show gO (tF s₁ m 52 (la3 o0 2 (4610184818551597738 : UInt64) 4) [(.double (4611686018427387904 : UInt64)), (.double (4610184818551597738 : UInt64))])
        refine gob (fun _ k => XS.ddivS X0.here hx rfl (hb hby d1_52) rfl (v := (4605681218924227242 : UInt64)) (by unfold Jvm.Free.Fl.NoNaN64; decide +kernel) (by decide +kernel) k) ?_
        show gO (tF s₁ m 53 (la3 o0 2 (4610184818551597738 : UInt64) 4) [(.double (4605681218924227242 : UInt64))])
        refine goD X0 hx hlk Bd.returns (hb hby d1_53) ?_ (by decide) (by decide)
        show Qap3 Z o0 k_a e_0 e_1 e_2 h0 n0 (some (.double (4605681218924227242 : UInt64))) s₁.heap _
        exact ⟨(4605681218924227242 : UInt64), rfl, (Or.inr (Or.inr (Or.inl ⟨hc20_3, hc20_6, hc20_14, rfl⟩))), N0, e0⟩
      · skip
        refine gob (fun _ k => XS.ifYes X0.here hx rfl (pc0 := 20) (pc' := 35) rfl (hb hby d1_20) rfl ((if0 _ _).trans (flt hc20_14).2.2.2) (by decide) (by decide) k) ?_
        show gO (tF s₁ m 35 (la3 o0 1 (4607182418800017408 : UInt64) 3) [])
        refine gob (fun _ k => XS.iinc X0.here hx rfl (hb hby d1_35) rfl (l' := (la3 o0 1 (4607182418800017408 : UInt64) 4)) rfl k) ?_
        show gO (tF s₁ m 38 (la3 o0 1 (4607182418800017408 : UInt64) 4) [])
        refine gob (fun _ k => XS.goto X0.here hx rfl (pc0 := 38) (pc' := 7) rfl (hb hby d1_38) (by decide) (by decide) k) ?_
        show gO (tF s₁ m 7 (la3 o0 1 (4607182418800017408 : UInt64) 4) [])
        refine gob (fun _ k => XS.iload X0.here hx rfl (hb hby d1_7) rfl k) ?_
        show gO (tF s₁ m 9 (la3 o0 1 (4607182418800017408 : UInt64) 4) [(.int 4)])
        refine gob (fun _ k => XS.aloadN X0.here hx rfl (hb hby d1_9) rfl rfl k) ?_
        show gO (tF s₁ m 10 (la3 o0 1 (4607182418800017408 : UInt64) 4) [(.ref o0), (.int 4)])
        obtain ⟨cl16, Ar16, aq16, S16, N16, H16, G16⟩ := id V_a
        refine gob (X0.arraylength hx (by rw [e0]; exact Ar16.1) (State.isArrayOf_alike hZ.alike Ar16.2.1) (g := (mkF m 10 (la3 o0 1 (4607182418800017408 : UInt64) 4) [(.ref o0), (.int 4)])) rfl rfl (hb hby d1_10)) ?_
        rw [len_of S16 N16]
        show gO (tF s₁ m 11 (la3 o0 1 (4607182418800017408 : UInt64) 4) [(.int 3), (.int 4)])
        refine gob (fun _ k => XS.icmpYes X0.here hx rfl (pc0 := 11) (pc' := 41) rfl (hb hby d1_11) rfl (tlt (by decide : (3 : Int32) < (4 : Int32))).2.2.1 (by decide) (by decide) k) ?_
        show gO (tF s₁ m 41 (la3 o0 1 (4607182418800017408 : UInt64) 4) [])
        refine gob (fun _ k => XS.iloadN X0.here hx rfl (hb hby d1_41) rfl k) ?_
        show gO (tF s₁ m 42 (la3 o0 1 (4607182418800017408 : UInt64) 4) [(.int 1)])
        refine gob (fun _ k => XS.ifYes X0.here hx rfl (pc0 := 42) (pc' := 49) rfl (hb hby d1_42) rfl ((if0 _ _).trans (feq (by decide : ¬ ((1 : Int32) = (0 : Int32)))).2) (by decide) (by decide) k) ?_
        show gO (tF s₁ m 49 (la3 o0 1 (4607182418800017408 : UInt64) 4) [])
        refine gob (fun _ k => XS.dloadN X0.here hx rfl (hb hby d1_49) rfl k) ?_
        show gO (tF s₁ m 50 (la3 o0 1 (4607182418800017408 : UInt64) 4) [(.double (4607182418800017408 : UInt64))])
        refine gob (fun _ k => XS.iloadN X0.here hx rfl (hb hby d1_50) rfl k) ?_
        show gO (tF s₁ m 51 (la3 o0 1 (4607182418800017408 : UInt64) 4) [(.int 1), (.double (4607182418800017408 : UInt64))])
        refine gob (fun _ k => XS.i2dS X0.here hx rfl (hb hby d1_51) rfl (v := (4607182418800017408 : UInt64)) (by decide +kernel) k) ?_
        show gO (tF s₁ m 52 (la3 o0 1 (4607182418800017408 : UInt64) 4) [(.double (4607182418800017408 : UInt64)), (.double (4607182418800017408 : UInt64))])
        refine gob (fun _ k => XS.ddivS X0.here hx rfl (hb hby d1_52) rfl (v := (4607182418800017408 : UInt64)) (by unfold Jvm.Free.Fl.NoNaN64; decide +kernel) (by decide +kernel) k) ?_
        show gO (tF s₁ m 53 (la3 o0 1 (4607182418800017408 : UInt64) 4) [(.double (4607182418800017408 : UInt64))])
        refine goD X0 hx hlk Bd.returns (hb hby d1_53) ?_ (by decide) (by decide)
        show Qap3 Z o0 k_a e_0 e_1 e_2 h0 n0 (some (.double (4607182418800017408 : UInt64))) s₁.heap _
        exact ⟨(4607182418800017408 : UInt64), rfl, (Or.inr (Or.inr (Or.inr (Or.inl ⟨hc20_3, hc20_6, hc20_14, rfl⟩)))), N0, e0⟩
  · skip
    refine gob (fun _ k => XS.ifYes X0.here hx rfl (pc0 := 20) (pc' := 35) rfl (hb hby d1_20) rfl ((if0 _ _).trans (flt hc20_3).2.2.2) (by decide) (by decide) k) ?_
    show gO (tF s₁ m 35 (la3 o0 0 (0 : UInt64) 1) [])
    refine gob (fun _ k => XS.iinc X0.here hx rfl (hb hby d1_35) rfl (l' := (la3 o0 0 (0 : UInt64) 2)) rfl k) ?_
    show gO (tF s₁ m 38 (la3 o0 0 (0 : UInt64) 2) [])
    refine gob (fun _ k => XS.goto X0.here hx rfl (pc0 := 38) (pc' := 7) rfl (hb hby d1_38) (by decide) (by decide) k) ?_
    show gO (tF s₁ m 7 (la3 o0 0 (0 : UInt64) 2) [])
    refine gob (fun _ k => XS.iload X0.here hx rfl (hb hby d1_7) rfl k) ?_
    show gO (tF s₁ m 9 (la3 o0 0 (0 : UInt64) 2) [(.int 2)])
    refine gob (fun _ k => XS.aloadN X0.here hx rfl (hb hby d1_9) rfl rfl k) ?_
    show gO (tF s₁ m 10 (la3 o0 0 (0 : UInt64) 2) [(.ref o0), (.int 2)])
    obtain ⟨cl17, Ar17, aq17, S17, N17, H17, G17⟩ := id V_a
    refine gob (X0.arraylength hx (by rw [e0]; exact Ar17.1) (State.isArrayOf_alike hZ.alike Ar17.2.1) (g := (mkF m 10 (la3 o0 0 (0 : UInt64) 2) [(.ref o0), (.int 2)])) rfl rfl (hb hby d1_10)) ?_
    rw [len_of S17 N17]
    show gO (tF s₁ m 11 (la3 o0 0 (0 : UInt64) 2) [(.int 3), (.int 2)])
    refine gob (fun _ k => XS.icmpNo X0.here hx rfl (hb hby d1_11) rfl (flt (by decide : ¬ ((3 : Int32) < (2 : Int32)))).2.2.1 k) ?_
    show gO (tF s₁ m 14 (la3 o0 0 (0 : UInt64) 2) [])
    refine gob (fun _ k => XS.aloadN X0.here hx rfl (hb hby d1_14) rfl rfl k) ?_
    show gO (tF s₁ m 15 (la3 o0 0 (0 : UInt64) 2) [(.ref o0)])
    refine gob (fun _ k => XS.iload X0.here hx rfl (hb hby d1_15) rfl k) ?_
    show gO (tF s₁ m 17 (la3 o0 0 (0 : UInt64) 2) [(.int 2), (.ref o0)])
    refine gob (fun _ k => XS.iconst X0.here hx rfl (hb hby d1_17) k) ?_
    show gO (tF s₁ m 18 (la3 o0 0 (0 : UInt64) 2) [(.int 1), (.int 2), (.ref o0)])
    refine gob (fun _ k => XS.isub X0.here hx rfl (hb hby d1_18) rfl k) ?_
    show gO (tF s₁ m 19 (la3 o0 0 (0 : UInt64) 2) [(.int 1), (.ref o0)])
    obtain ⟨cl18, Ar18, aq18, S18, N18, H18, G18⟩ := id V_a
    have hin18 : ¬ ((1 : Int32) < 0 ∨ cl18.slots.size ≤ ((1 : Int32)).toNatClampNeg) := inb_of S18 ⟨by decide, by decide⟩
    refine gob (X0.iaload hx (j := (1 : Int32)) (v := (.int e_1)) (by rw [e0]; exact Ar18.1) (State.isArrayOf_alike hZ.alike Ar18.2.1) Ar18.2.2 hin18 (Has.at H18 hin18 rfl) (g := (mkF m 19 (la3 o0 0 (0 : UInt64) 2) [(.int 1), (.ref o0)])) rfl rfl (hb hby d1_19)) ?_
    show gO (tF s₁ m 20 (la3 o0 0 (0 : UInt64) 2) [(.int e_1)])
    by_cases hc20_19 : (0 : Int32) < e_1
    · skip
      refine gob (fun _ k => XS.ifNo X0.here hx rfl (hb hby d1_20) rfl ((if0 _ _).trans (tlt hc20_19).2.2.2) k) ?_
      show gO (tF s₁ m 23 (la3 o0 0 (0 : UInt64) 2) [])
      refine gob (fun _ k => XS.iinc X0.here hx rfl (hb hby d1_23) rfl (l' := (la3 o0 1 (0 : UInt64) 2)) rfl k) ?_
      show gO (tF s₁ m 26 (la3 o0 1 (0 : UInt64) 2) [])
      refine gob (fun _ k => XS.dloadN X0.here hx rfl (hb hby d1_26) rfl k) ?_
      show gO (tF s₁ m 27 (la3 o0 1 (0 : UInt64) 2) [(.double (0 : UInt64))])
      refine gob (fun _ k => XS.iloadN X0.here hx rfl (hb hby d1_27) rfl k) ?_
      show gO (tF s₁ m 28 (la3 o0 1 (0 : UInt64) 2) [(.int 1), (.double (0 : UInt64))])
      refine gob (fun _ k => XS.i2dS X0.here hx rfl (hb hby d1_28) rfl (v := (4607182418800017408 : UInt64)) (by decide +kernel) k) ?_
      show gO (tF s₁ m 29 (la3 o0 1 (0 : UInt64) 2) [(.double (4607182418800017408 : UInt64)), (.double (0 : UInt64))])
      refine gob (fun _ k => XS.iload X0.here hx rfl (hb hby d1_29) rfl k) ?_
      show gO (tF s₁ m 31 (la3 o0 1 (0 : UInt64) 2) [(.int 2), (.double (4607182418800017408 : UInt64)), (.double (0 : UInt64))])
      refine gob (fun _ k => XS.i2dS X0.here hx rfl (hb hby d1_31) rfl (v := (4611686018427387904 : UInt64)) (by decide +kernel) k) ?_
      show gO (tF s₁ m 32 (la3 o0 1 (0 : UInt64) 2) [(.double (4611686018427387904 : UInt64)), (.double (4607182418800017408 : UInt64)), (.double (0 : UInt64))])
      refine gob (fun _ k => XS.ddivS X0.here hx rfl (hb hby d1_32) rfl (v := (4602678819172646912 : UInt64)) (by unfold Jvm.Free.Fl.NoNaN64; decide +kernel) (by decide +kernel) k) ?_
      show gO (tF s₁ m 33 (la3 o0 1 (0 : UInt64) 2) [(.double (4602678819172646912 : UInt64)), (.double (0 : UInt64))])
      refine gob (fun _ k => XS.daddS X0.here hx rfl (hb hby d1_33) rfl (v := (4602678819172646912 : UInt64)) (by unfold Jvm.Free.Fl.NoNaN64; decide +kernel) (by decide +kernel) k) ?_
      show gO (tF s₁ m 34 (la3 o0 1 (0 : UInt64) 2) [(.double (4602678819172646912 : UInt64))])
      refine gob (fun _ k => XS.dstoreN X0.here hx rfl (hb hby d1_34) rfl (l' := (la3 o0 1 (4602678819172646912 : UInt64) 2)) rfl k) ?_
      show gO (tF s₁ m 35 (la3 o0 1 (4602678819172646912 : UInt64) 2) [])
      refine gob (fun _ k => XS.iinc X0.here hx rfl (hb hby d1_35) rfl (l' := (la3 o0 1 (4602678819172646912 : UInt64) 3)) rfl k) ?_
      show gO (tF s₁ m 38 (la3 o0 1 (4602678819172646912 : UInt64) 3) [])
      refine gob (fun _ k => XS.goto X0.here hx rfl (pc0 := 38) (pc' := 7) rfl (hb hby d1_38) (by decide) (by decide) k) ?_
      show gO (tF s₁ m 7 (la3 o0 1 (4602678819172646912 : UInt64) 3) [])
      refine gob (fun _ k => XS.iload X0.here hx rfl (hb hby d1_7) rfl k) ?_
      show gO (tF s₁ m 9 (la3 o0 1 (4602678819172646912 : UInt64) 3) [(.int 3)])
      refine gob (fun _ k => XS.aloadN X0.here hx rfl (hb hby d1_9) rfl rfl k) ?_
      show gO (tF s₁ m 10 (la3 o0 1 (4602678819172646912 : UInt64) 3) [(.ref o0), (.int 3)])
      obtain ⟨cl20, Ar20, aq20, S20, N20, H20, G20⟩ := id V_a
      refine gob (X0.arraylength hx (by rw [e0]; exact Ar20.1) (State.isArrayOf_alike hZ.alike Ar20.2.1) (g := (mkF m 10 (la3 o0 1 (4602678819172646912 : UInt64) 3) [(.ref o0), (.int 3)])) rfl rfl (hb hby d1_10)) ?_
      rw [len_of S20 N20]
      show gO (tF s₁ m 11 (la3 o0 1 (4602678819172646912 : UInt64) 3) [(.int 3), (.int 3)])
      refine gob (fun _ k => XS.icmpNo X0.here hx rfl (hb hby d1_11) rfl (flt (by decide : ¬ ((3 : Int32) < (3 : Int32)))).2.2.1 k) ?_
      show gO (tF s₁ m 14 (la3 o0 1 (4602678819172646912 : UInt64) 3) [])
      refine gob (fun _ k => XS.aloadN X0.here hx rfl (hb hby d1_14) rfl rfl k) ?_
      show gO (tF s₁ m 15 (la3 o0 1 (4602678819172646912 : UInt64) 3) [(.ref o0)])
      refine gob (fun _ k => XS.iload X0.here hx rfl (hb hby d1_15) rfl k) ?_
      show gO (tF s₁ m 17 (la3 o0 1 (4602678819172646912 : UInt64) 3) [(.int 3), (.ref o0)])
      refine gob (fun _ k => XS.iconst X0.here hx rfl (hb hby d1_17) k) ?_
      show gO (tF s₁ m 18 (la3 o0 1 (4602678819172646912 : UInt64) 3) [(.int 1), (.int 3), (.ref o0)])
      refine gob (fun _ k => XS.isub X0.here hx rfl (hb hby d1_18) rfl k) ?_
      show gO (tF s₁ m 19 (la3 o0 1 (4602678819172646912 : UInt64) 3) [(.int 2), (.ref o0)])
      obtain ⟨cl21, Ar21, aq21, S21, N21, H21, G21⟩ := id V_a
      have hin21 : ¬ ((2 : Int32) < 0 ∨ cl21.slots.size ≤ ((2 : Int32)).toNatClampNeg) := inb_of S21 ⟨by decide, by decide⟩
      refine gob (X0.iaload hx (j := (2 : Int32)) (v := (.int e_2)) (by rw [e0]; exact Ar21.1) (State.isArrayOf_alike hZ.alike Ar21.2.1) Ar21.2.2 hin21 (Has.at H21 hin21 rfl) (g := (mkF m 19 (la3 o0 1 (4602678819172646912 : UInt64) 3) [(.int 2), (.ref o0)])) rfl rfl (hb hby d1_19)) ?_
      show gO (tF s₁ m 20 (la3 o0 1 (4602678819172646912 : UInt64) 3) [(.int e_2)])
      by_cases hc20_22 : (0 : Int32) < e_2
      · skip
        refine gob (fun _ k => XS.ifNo X0.here hx rfl (hb hby d1_20) rfl ((if0 _ _).trans (tlt hc20_22).2.2.2) k) ?_
        show gO (tF s₁ m 23 (la3 o0 1 (4602678819172646912 : UInt64) 3) [])
        refine gob (fun _ k => XS.iinc X0.here hx rfl (hb hby d1_23) rfl (l' := (la3 o0 2 (4602678819172646912 : UInt64) 3)) rfl k) ?_
        show gO (tF s₁ m 26 (la3 o0 2 (4602678819172646912 : UInt64) 3) [])
        refine gob (fun _ k => XS.dloadN X0.here hx rfl (hb hby d1_26) rfl k) ?_
        show gO (tF s₁ m 27 (la3 o0 2 (4602678819172646912 : UInt64) 3) [(.double (4602678819172646912 : UInt64))])
        refine gob (fun _ k => XS.iloadN X0.here hx rfl (hb hby d1_27) rfl k) ?_
        show gO (tF s₁ m 28 (la3 o0 2 (4602678819172646912 : UInt64) 3) [(.int 2), (.double (4602678819172646912 : UInt64))])
        refine gob (fun _ k => XS.i2dS X0.here hx rfl (hb hby d1_28) rfl (v := (4611686018427387904 : UInt64)) (by decide +kernel) k) ?_
        show gO (tF s₁ m 29 (la3 o0 2 (4602678819172646912 : UInt64) 3) [(.double (4611686018427387904 : UInt64)), (.double (4602678819172646912 : UInt64))])
        refine gob (fun _ k => XS.iload X0.here hx rfl (hb hby d1_29) rfl k) ?_
        show gO (tF s₁ m 31 (la3 o0 2 (4602678819172646912 : UInt64) 3) [(.int 3), (.double (4611686018427387904 : UInt64)), (.double (4602678819172646912 : UInt64))])
        refine gob (fun _ k => XS.i2dS X0.here hx rfl (hb hby d1_31) rfl (v := (4613937818241073152 : UInt64)) (by decide +kernel) k) ?_
        show gO (tF s₁ m 32 (la3 o0 2 (4602678819172646912 : UInt64) 3) [(.double (4613937818241073152 : UInt64)), (.double (4611686018427387904 : UInt64)), (.double (4602678819172646912 : UInt64))])
        refine gob (fun _ k => XS.ddivS X0.here hx rfl (hb hby d1_32) rfl (v := (4604180019048437077 : UInt64)) (by unfold Jvm.Free.Fl.NoNaN64; decide +kernel) (by decide +kernel) k) ?_
        show gO (tF s₁ m 33 (la3 o0 2 (4602678819172646912 : UInt64) 3) [(.double (4604180019048437077 : UInt64)), (.double (4602678819172646912 : UInt64))])
        refine gob (fun _ k => XS.daddS X0.here hx rfl (hb hby d1_33) rfl (v := (4607933018737912490 : UInt64)) (by unfold Jvm.Free.Fl.NoNaN64; decide +kernel) (by decide +kernel) k) ?_
        show gO (tF s₁ m 34 (la3 o0 2 (4602678819172646912 : UInt64) 3) [(.double (4607933018737912490 : UInt64))])
        refine gob (fun _ k => XS.dstoreN X0.here hx rfl (hb hby d1_34) rfl (l' := (la3 o0 2 (4607933018737912490 : UInt64) 3)) rfl k) ?_
        show gO (tF s₁ m 35 (la3 o0 2 (4607933018737912490 : UInt64) 3) [])
        refine gob (fun _ k => XS.iinc X0.here hx rfl (hb hby d1_35) rfl (l' := (la3 o0 2 (4607933018737912490 : UInt64) 4)) rfl k) ?_
        show gO (tF s₁ m 38 (la3 o0 2 (4607933018737912490 : UInt64) 4) [])
        refine gob (fun _ k => XS.goto X0.here hx rfl (pc0 := 38) (pc' := 7) rfl (hb hby d1_38) (by decide) (by decide) k) ?_
        show gO (tF s₁ m 7 (la3 o0 2 (4607933018737912490 : UInt64) 4) [])
        refine gob (fun _ k => XS.iload X0.here hx rfl (hb hby d1_7) rfl k) ?_
        show gO (tF s₁ m 9 (la3 o0 2 (4607933018737912490 : UInt64) 4) [(.int 4)])
        refine gob (fun _ k => XS.aloadN X0.here hx rfl (hb hby d1_9) rfl rfl k) ?_
        show gO (tF s₁ m 10 (la3 o0 2 (4607933018737912490 : UInt64) 4) [(.ref o0), (.int 4)])
        obtain ⟨cl23, Ar23, aq23, S23, N23, H23, G23⟩ := id V_a
        refine gob (X0.arraylength hx (by rw [e0]; exact Ar23.1) (State.isArrayOf_alike hZ.alike Ar23.2.1) (g := (mkF m 10 (la3 o0 2 (4607933018737912490 : UInt64) 4) [(.ref o0), (.int 4)])) rfl rfl (hb hby d1_10)) ?_
        rw [len_of S23 N23]
        show gO (tF s₁ m 11 (la3 o0 2 (4607933018737912490 : UInt64) 4) [(.int 3), (.int 4)])
        refine gob (fun _ k => XS.icmpYes X0.here hx rfl (pc0 := 11) (pc' := 41) rfl (hb hby d1_11) rfl (tlt (by decide : (3 : Int32) < (4 : Int32))).2.2.1 (by decide) (by decide) k) ?_
        show gO (tF s₁ m 41 (la3 o0 2 (4607933018737912490 : UInt64) 4) [])
        refine gob (fun _ k => XS.iloadN X0.here hx rfl (hb hby d1_41) rfl k) ?_
        show gO (tF s₁ m 42 (la3 o0 2 (4607933018737912490 : UInt64) 4) [(.int 2)])
        refine gob (fun _ k => XS.ifYes X0.here hx rfl (pc0 := 42) (pc' := 49) rfl (hb hby d1_42) rfl ((if0 _ _).trans (feq (by decide : ¬ ((2 : Int32) = (0 : Int32)))).2) (by decide) (by decide) k) ?_
        show gO (tF s₁ m 49 (la3 o0 2 (4607933018737912490 : UInt64) 4) [])
        refine gob (fun _ k => XS.dloadN X0.here hx rfl (hb hby d1_49) rfl k) ?_
        show gO (tF s₁ m 50 (la3 o0 2 (4607933018737912490 : UInt64) 4) [(.double (4607933018737912490 : UInt64))])
        refine gob (fun _ k => XS.iloadN X0.here hx rfl (hb hby d1_50) rfl k) ?_
        show gO (tF s₁ m 51 (la3 o0 2 (4607933018737912490 : UInt64) 4) [(.int 2), (.double (4607933018737912490 : UInt64))])
        refine gob (fun _ k => XS.i2dS X0.here hx rfl (hb hby d1_51) rfl (v := (4611686018427387904 : UInt64)) (by decide +kernel) k) ?_
        show gO (tF s₁ m 52 (la3 o0 2 (4607933018737912490 : UInt64) 4) [(.double (4611686018427387904 : UInt64)), (.double (4607933018737912490 : UInt64))])
        refine gob (fun _ k => XS.ddivS X0.here hx rfl (hb hby d1_52) rfl (v := (4603429419110541994 : UInt64)) (by unfold Jvm.Free.Fl.NoNaN64; decide +kernel) (by decide +kernel) k) ?_
        show gO (tF s₁ m 53 (la3 o0 2 (4607933018737912490 : UInt64) 4) [(.double (4603429419110541994 : UInt64))])
        refine goD X0 hx hlk Bd.returns (hb hby d1_53) ?_ (by decide) (by decide)
        show Qap3 Z o0 k_a e_0 e_1 e_2 h0 n0 (some (.double (4603429419110541994 : UInt64))) s₁.heap _
        exact ⟨(4603429419110541994 : UInt64), rfl, (Or.inr (Or.inr (Or.inr (Or.inr (Or.inl ⟨hc20_3, hc20_19, hc20_22, rfl⟩))))), N0, e0⟩
      · skip
        refine gob (fun _ k => XS.ifYes X0.here hx rfl (pc0 := 20) (pc' := 35) rfl (hb hby d1_20) rfl ((if0 _ _).trans (flt hc20_22).2.2.2) (by decide) (by decide) k) ?_
        show gO (tF s₁ m 35 (la3 o0 1 (4602678819172646912 : UInt64) 3) [])
        refine gob (fun _ k => XS.iinc X0.here hx rfl (hb hby d1_35) rfl (l' := (la3 o0 1 (4602678819172646912 : UInt64) 4)) rfl k) ?_
        show gO (tF s₁ m 38 (la3 o0 1 (4602678819172646912 : UInt64) 4) [])
        refine gob (fun _ k => XS.goto X0.here hx rfl (pc0 := 38) (pc' := 7) rfl (hb hby d1_38) (by decide) (by decide) k) ?_
        show gO (tF s₁ m 7 (la3 o0 1 (4602678819172646912 : UInt64) 4) [])
        refine gob (fun _ k => XS.iload X0.here hx rfl (hb hby d1_7) rfl k) ?_
        show gO (tF s₁ m 9 (la3 o0 1 (4602678819172646912 : UInt64) 4) [(.int 4)])
        refine gob (fun _ k => XS.aloadN X0.here hx rfl (hb hby d1_9) rfl rfl k) ?_
        show gO (tF s₁ m 10 (la3 o0 1 (4602678819172646912 : UInt64) 4) [(.ref o0), (.int 4)])
        obtain ⟨cl24, Ar24, aq24, S24, N24, H24, G24⟩ := id V_a
        refine gob (X0.arraylength hx (by rw [e0]; exact Ar24.1) (State.isArrayOf_alike hZ.alike Ar24.2.1) (g := (mkF m 10 (la3 o0 1 (4602678819172646912 : UInt64) 4) [(.ref o0), (.int 4)])) rfl rfl (hb hby d1_10)) ?_
        rw [len_of S24 N24]
        show gO (tF s₁ m 11 (la3 o0 1 (4602678819172646912 : UInt64) 4) [(.int 3), (.int 4)])
        refine gob (fun _ k => XS.icmpYes X0.here hx rfl (pc0 := 11) (pc' := 41) rfl (hb hby d1_11) rfl (tlt (by decide : (3 : Int32) < (4 : Int32))).2.2.1 (by decide) (by decide) k) ?_
        show gO (tF s₁ m 41 (la3 o0 1 (4602678819172646912 : UInt64) 4) [])
        refine gob (fun _ k => XS.iloadN X0.here hx rfl (hb hby d1_41) rfl k) ?_
        show gO (tF s₁ m 42 (la3 o0 1 (4602678819172646912 : UInt64) 4) [(.int 1)])
        refine gob (fun _ k => XS.ifYes X0.here hx rfl (pc0 := 42) (pc' := 49) rfl (hb hby d1_42) rfl ((if0 _ _).trans (feq (by decide : ¬ ((1 : Int32) = (0 : Int32)))).2) (by decide) (by decide) k) ?_
        show gO (tF s₁ m 49 (la3 o0 1 (4602678819172646912 : UInt64) 4) [])
        refine gob (fun _ k => XS.dloadN X0.here hx rfl (hb hby d1_49) rfl k) ?_
        show gO (tF s₁ m 50 (la3 o0 1 (4602678819172646912 : UInt64) 4) [(.double (4602678819172646912 : UInt64))])
        refine gob (fun _ k => XS.iloadN X0.here hx rfl (hb hby d1_50) rfl k) ?_
        show gO (tF s₁ m 51 (la3 o0 1 (4602678819172646912 : UInt64) 4) [(.int 1), (.double (4602678819172646912 : UInt64))])
        refine gob (fun _ k => XS.i2dS X0.here hx rfl (hb hby d1_51) rfl (v := (4607182418800017408 : UInt64)) (by decide +kernel) k) ?_
        show gO (tF s₁ m 52 (la3 o0 1 (4602678819172646912 : UInt64) 4) [(.double (4607182418800017408 : UInt64)), (.double (4602678819172646912 : UInt64))])
        refine gob (fun _ k => XS.ddivS X0.here hx rfl (hb hby d1_52) rfl (v := (4602678819172646912 : UInt64)) (by unfold Jvm.Free.Fl.NoNaN64; decide +kernel) (by decide +kernel) k) ?_
        show gO (tF s₁ m 53 (la3 o0 1 (4602678819172646912 : UInt64) 4) [(.double (4602678819172646912 : UInt64))])
        refine goD X0 hx hlk Bd.returns (hb hby d1_53) ?_ (by decide) (by decide)
        show Qap3 Z o0 k_a e_0 e_1 e_2 h0 n0 (some (.double (4602678819172646912 : UInt64))) s₁.heap _
        exact ⟨(4602678819172646912 : UInt64), rfl, (Or.inr (Or.inr (Or.inr (Or.inr (Or.inr (Or.inl ⟨hc20_3, hc20_19, hc20_22, rfl⟩)))))), N0, e0⟩
    · skip
      refine gob (fun _ k => XS.ifYes X0.here hx rfl (pc0 := 20) (pc' := 35) rfl (hb hby d1_20) rfl ((if0 _ _).trans (flt hc20_19).2.2.2) (by decide) (by decide) k) ?_
      show gO (tF s₁ m 35 (la3 o0 0 (0 : UInt64) 2) [])
      refine gob (fun _ k => XS.iinc X0.here hx rfl (hb hby d1_35) rfl (l' := (la3 o0 0 (0 : UInt64) 3)) rfl k) ?_
      show gO (tF s₁ m 38 (la3 o0 0 (0 : UInt64) 3) [])
      refine gob (fun _ k => XS.goto X0.here hx rfl (pc0 := 38) (pc' := 7) rfl (hb hby d1_38) (by decide) (by decide) k) ?_
      show gO (tF s₁ m 7 (la3 o0 0 (0 : UInt64) 3) [])
      refine gob (fun _ k => XS.iload X0.here hx rfl (hb hby d1_7) rfl k) ?_
      show gO (tF s₁ m 9 (la3 o0 0 (0 : UInt64) 3) [(.int 3)])
      refine gob (fun _ k => XS.aloadN X0.here hx rfl (hb hby d1_9) rfl rfl k) ?_
      show gO (tF s₁ m 10 (la3 o0 0 (0 : UInt64) 3) [(.ref o0), (.int 3)])
      obtain ⟨cl25, Ar25, aq25, S25, N25, H25, G25⟩ := id V_a
      refine gob (X0.arraylength hx (by rw [e0]; exact Ar25.1) (State.isArrayOf_alike hZ.alike Ar25.2.1) (g := (mkF m 10 (la3 o0 0 (0 : UInt64) 3) [(.ref o0), (.int 3)])) rfl rfl (hb hby d1_10)) ?_
      rw [len_of S25 N25]
      show gO (tF s₁ m 11 (la3 o0 0 (0 : UInt64) 3) [(.int 3), (.int 3)])
      refine gob (fun _ k => XS.icmpNo X0.here hx rfl (hb hby d1_11) rfl (flt (by decide : ¬ ((3 : Int32) < (3 : Int32)))).2.2.1 k) ?_
      show gO (tF s₁ m 14 (la3 o0 0 (0 : UInt64) 3) [])
      refine gob (fun _ k => XS.aloadN X0.here hx rfl (hb hby d1_14) rfl rfl k) ?_
      show gO (tF s₁ m 15 (la3 o0 0 (0 : UInt64) 3) [(.ref o0)])
      refine gob (fun _ k => XS.iload X0.here hx rfl (hb hby d1_15) rfl k) ?_
      show gO (tF s₁ m 17 (la3 o0 0 (0 : UInt64) 3) [(.int 3), (.ref o0)])
      refine gob (fun _ k => XS.iconst X0.here hx rfl (hb hby d1_17) k) ?_
      show gO (tF s₁ m 18 (la3 o0 0 (0 : UInt64) 3) [(.int 1), (.int 3), (.ref o0)])
      refine gob (fun _ k => XS.isub X0.here hx rfl (hb hby d1_18) rfl k) ?_
      show gO (tF s₁ m 19 (la3 o0 0 (0 : UInt64) 3) [(.int 2), (.ref o0)])
      obtain ⟨cl26, Ar26, aq26, S26, N26, H26, G26⟩ := id V_a
      have hin26 : ¬ ((2 : Int32) < 0 ∨ cl26.slots.size ≤ ((2 : Int32)).toNatClampNeg) := inb_of S26 ⟨by decide, by decide⟩
      refine gob (X0.iaload hx (j := (2 : Int32)) (v := (.int e_2)) (by rw [e0]; exact Ar26.1) (State.isArrayOf_alike hZ.alike Ar26.2.1) Ar26.2.2 hin26 (Has.at H26 hin26 rfl) (g := (mkF m 19 (la3 o0 0 (0 : UInt64) 3) [(.int 2), (.ref o0)])) rfl rfl (hb hby d1_19)) ?_
      show gO (tF s₁ m 20 (la3 o0 0 (0 : UInt64) 3) [(.int e_2)])
      by_cases hc20_27 : (0 : Int32) < e_2
      · skip
        refine gob (fun _ k => XS.ifNo X0.here hx rfl (hb hby d1_20) rfl ((if0 _ _).trans (tlt hc20_27).2.2.2) k) ?_
        show gO (tF s₁ m 23 (la3 o0 0 (0 : UInt64) 3) [])
        refine gob (fun _ k => XS.iinc X0.here hx rfl (hb hby d1_23) rfl (l' := (la3 o0 1 (0 : UInt64) 3)) rfl k) ?_
        show gO (tF s₁ m 26 (la3 o0 1 (0 : UInt64) 3) [])
        refine gob (fun _ k => XS.dloadN X0.here hx rfl (hb hby d1_26) rfl k) ?_
        show gO (tF s₁ m 27 (la3 o0 1 (0 : UInt64) 3) [(.double (0 : UInt64))])
        refine gob (fun _ k => XS.iloadN X0.here hx rfl (hb hby d1_27) rfl k) ?_
        show gO (tF s₁ m 28 (la3 o0 1 (0 : UInt64) 3) [(.int 1), (.double (0 : UInt64))])
        refine gob (fun _ k => XS.i2dS X0.here hx rfl (hb hby d1_28) rfl (v := (4607182418800017408 : UInt64)) (by decide +kernel) k) ?_
        show gO (tF s₁ m 29 (la3 o0 1 (0 : UInt64) 3) [(.double (4607182418800017408 : UInt64)), (.double (0 : UInt64))])
        refine gob (fun _ k => XS.iload X0.here hx rfl (hb hby d1_29) rfl k) ?_
        show gO (tF s₁ m 31 (la3 o0 1 (0 : UInt64) 3) [(.int 3), (.double (4607182418800017408 : UInt64)), (.double (0 : UInt64))])
        refine gob (fun _ k => XS.i2dS X0.here hx rfl (hb hby d1_31) rfl (v := (4613937818241073152 : UInt64)) (by decide +kernel) k) ?_
        show gO (tF s₁ m 32 (la3 o0 1 (0 : UInt64) 3) [(.double (4613937818241073152 : UInt64)), (.double (4607182418800017408 : UInt64)), (.double (0 : UInt64))])
        refine gob (fun _ k => XS.ddivS X0.here hx rfl (hb hby d1_32) rfl (v := (4599676419421066581 : UInt64)) (by unfold Jvm.Free.Fl.NoNaN64; decide +kernel) (by decide +kernel) k) ?_
        show gO (tF s₁ m 33 (la3 o0 1 (0 : UInt64) 3) [(.double (4599676419421066581 : UInt64)), (.double (0 : UInt64))])
        refine gob (fun _ k => XS.daddS X0.here hx rfl (hb hby d1_33) rfl (v := (4599676419421066581 : UInt64)) (by unfold Jvm.Free.Fl.NoNaN64; decide +kernel) (by decide +kernel) k) ?_
        show gO (tF s₁ m 34 (la3 o0 1 (0 : UInt64) 3) [(.double (4599676419421066581 : UInt64))])
        refine gob (fun _ k => XS.dstoreN X0.here hx rfl (hb hby d1_34) rfl (l' := (la3 o0 1 (4599676419421066581 : UInt64) 3)) rfl k) ?_
        show gO (tF s₁ m 35 (la3 o0 1 (4599676419421066581 : UInt64) 3) [])
        refine gob (fun _ k => XS.iinc X0.here hx rfl (hb hby d1_35) rfl (l' := (la3 o0 1 (4599676419421066581 : UInt64) 4)) rfl k) ?_
        show gO (tF s₁ m 38 (la3 o0 1 (4599676419421066581 : UInt64) 4) [])
        refine gob (fun _ k => XS.goto X0.here hx rfl (pc0 := 38) (pc' := 7) rfl (hb hby d1_38) (by decide) (by decide) k) ?_
        show gO (tF s₁ m 7 (la3 o0 1 (4599676419421066581 : UInt64) 4) [])
        refine gob (fun _ k => XS.iload X0.here hx rfl (hb hby d1_7) rfl k) ?_
        show gO (tF s₁ m 9 (la3 o0 1 (4599676419421066581 : UInt64) 4) [(.int 4)])
        refine gob (fun _ k => XS.aloadN X0.here hx rfl (hb hby d1_9) rfl rfl k) ?_
        show gO (tF s₁ m 10 (la3 o0 1 (4599676419421066581 : UInt64) 4) [(.ref o0), (.int 4)])
        obtain ⟨cl28, Ar28, aq28, S28, N28, H28, G28⟩ := id V_a
        refine gob (X0.arraylength hx (by rw [e0]; exact Ar28.1) (State.isArrayOf_alike hZ.alike Ar28.2.1) (g := (mkF m 10 (la3 o0 1 (4599676419421066581 : UInt64) 4) [(.ref o0), (.int 4)])) rfl rfl (hb hby d1_10)) ?_
        rw [len_of S28 N28]
        show gO (tF s₁ m 11 (la3 o0 1 (4599676419421066581 : UInt64) 4) [(.int 3), (.int 4)])
        refine gob (fun _ k => XS.icmpYes X0.here hx rfl (pc0 := 11) (pc' := 41) rfl (hb hby d1_11) rfl (tlt (by decide : (3 : Int32) < (4 : Int32))).2.2.1 (by decide) (by decide) k) ?_
        show gO (tF s₁ m 41 (la3 o0 1 (4599676419421066581 : UInt64) 4) [])
        refine gob (fun _ k => XS.iloadN X0.here hx rfl (hb hby d1_41) rfl k) ?_
        show gO (tF s₁ m 42 (la3 o0 1 (4599676419421066581 : UInt64) 4) [(.int 1)])
        refine gob (fun _ k => XS.ifYes X0.here hx rfl (pc0 := 42) (pc' := 49) rfl (hb hby d1_42) rfl ((if0 _ _).trans (feq (by decide : ¬ ((1 : Int32) = (0 : Int32)))).2) (by decide) (by decide) k) ?_
        show gO (tF s₁ m 49 (la3 o0 1 (4599676419421066581 : UInt64) 4) [])
        refine gob (fun _ k => XS.dloadN X0.here hx rfl (hb hby d1_49) rfl k) ?_
        show gO (tF s₁ m 50 (la3 o0 1 (4599676419421066581 : UInt64) 4) [(.double (4599676419421066581 : UInt64))])
        refine gob (fun _ k => XS.iloadN X0.here hx rfl (hb hby d1_50) rfl k) ?_
        show gO (tF s₁ m 51 (la3 o0 1 (4599676419421066581 : UInt64) 4) [(.int 1), (.double (4599676419421066581 : UInt64))])
        refine gob (fun _ k => XS.i2dS X0.here hx rfl (hb hby d1_51) rfl (v := (4607182418800017408 : UInt64)) (by decide +kernel) k) ?_
        show gO (tF s₁ m 52 (la3 o0 1 (4599676419421066581 : UInt64) 4) [(.double (4607182418800017408 : UInt64)), (.double (4599676419421066581 : UInt64))])
        refine gob (fun _ k => XS.ddivS X0.here hx rfl (hb hby d1_52) rfl (v := (4599676419421066581 : UInt64)) (by unfold Jvm.Free.Fl.NoNaN64; decide +kernel) (by decide +kernel) k) ?_
        show gO (tF s₁ m 53 (la3 o0 1 (4599676419421066581 : UInt64) 4) [(.double (4599676419421066581 : UInt64))])
        refine goD X0 hx hlk Bd.returns (hb hby d1_53) ?_ (by decide) (by decide)
        show Qap3 Z o0 k_a e_0 e_1 e_2 h0 n0 (some (.double (4599676419421066581 : UInt64))) s₁.heap _
        exact ⟨(4599676419421066581 : UInt64), rfl, (Or.inr (Or.inr (Or.inr (Or.inr (Or.inr (Or.inr (Or.inl ⟨hc20_3, hc20_19, hc20_27, rfl⟩))))))), N0, e0⟩
      · skip
        refine gob (fun _ k => XS.ifYes X0.here hx rfl (pc0 := 20) (pc' := 35) rfl (hb hby d1_20) rfl ((if0 _ _).trans (flt hc20_27).2.2.2) (by decide) (by decide) k) ?_
        show gO (tF s₁ m 35 (la3 o0 0 (0 : UInt64) 3) [])
        refine gob (fun _ k => XS.iinc X0.here hx rfl (hb hby d1_35) rfl (l' := (la3 o0 0 (0 : UInt64) 4)) rfl k) ?_
        show gO (tF s₁ m 38 (la3 o0 0 (0 : UInt64) 4) [])
        refine gob (fun _ k => XS.goto X0.here hx rfl (pc0 := 38) (pc' := 7) rfl (hb hby d1_38) (by decide) (by decide) k) ?_
        show gO (tF s₁ m 7 (la3 o0 0 (0 : UInt64) 4) [])
        refine gob (fun _ k => XS.iload X0.here hx rfl (hb hby d1_7) rfl k) ?_
        show gO (tF s₁ m 9 (la3 o0 0 (0 : UInt64) 4) [(.int 4)])
        refine gob (fun _ k => XS.aloadN X0.here hx rfl (hb hby d1_9) rfl rfl k) ?_
        show gO (tF s₁ m 10 (la3 o0 0 (0 : UInt64) 4) [(.ref o0), (.int 4)])
        obtain ⟨cl29, Ar29, aq29, S29, N29, H29, G29⟩ := id V_a
        refine gob (X0.arraylength hx (by rw [e0]; exact Ar29.1) (State.isArrayOf_alike hZ.alike Ar29.2.1) (g := (mkF m 10 (la3 o0 0 (0 : UInt64) 4) [(.ref o0), (.int 4)])) rfl rfl (hb hby d1_10)) ?_
        rw [len_of S29 N29]
        show gO (tF s₁ m 11 (la3 o0 0 (0 : UInt64) 4) [(.int 3), (.int 4)])
        refine gob (fun _ k => XS.icmpYes X0.here hx rfl (pc0 := 11) (pc' := 41) rfl (hb hby d1_11) rfl (tlt (by decide : (3 : Int32) < (4 : Int32))).2.2.1 (by decide) (by decide) k) ?_
        show gO (tF s₁ m 41 (la3 o0 0 (0 : UInt64) 4) [])
        refine gob (fun _ k => XS.iloadN X0.here hx rfl (hb hby d1_41) rfl k) ?_
        show gO (tF s₁ m 42 (la3 o0 0 (0 : UInt64) 4) [(.int 0)])
        refine gob (fun _ k => XS.ifNo X0.here hx rfl (hb hby d1_42) rfl ((if0 _ _).trans (teq (by decide : (0 : Int32) = (0 : Int32))).2) k) ?_
        show gO (tF s₁ m 45 (la3 o0 0 (0 : UInt64) 4) [])
        refine gob (fun _ k => XS.dconst0 X0.here hx rfl (hb hby d1_45) (v := (0 : UInt64)) (by decide +kernel) k) ?_
        show gO (tF s₁ m 46 (la3 o0 0 (0 : UInt64) 4) [(.double (0 : UInt64))])
        refine gob (fun _ k => XS.goto X0.here hx rfl (pc0 := 46) (pc' := 53) rfl (hb hby d1_46) (by decide) (by decide) k) ?_
        show gO (tF s₁ m 53 (la3 o0 0 (0 : UInt64) 4) [(.double (0 : UInt64))])
        refine goD X0 hx hlk Bd.returns (hb hby d1_53) ?_ (by decide) (by decide)
        show Qap3 Z o0 k_a e_0 e_1 e_2 h0 n0 (some (.double (0 : UInt64))) s₁.heap _
        exact ⟨(0 : UInt64), rfl, (Or.inr (Or.inr (Or.inr (Or.inr (Or.inr (Or.inr (Or.inr ⟨hc20_3, hc20_19, hc20_27, rfl⟩))))))), N0, e0⟩
theorem ef_ap4 (m : MethodId) (x0 : Addr) : entryFrame m #[(.ref x0)] 5 = mkF m 0 #[.val (.ref x0), .unset, .unset, .unset, .unset] [] := by first | (simp [entryFrame, mkF, argsToLocals, Value.category]; done) | rfl
def Qap4 (Z : State) (o0 : Addr) (k_a : ClassId) (e_0 : Int32) (e_1 : Int32) (e_2 : Int32) (e_3 : Int32) (h0 : Heap) (n0 : Nat) (v : Option Value) (h : Heap) (L : List Loc) : Prop := ∃ r : UInt64, v = some (.double r) ∧ (((0 : Int32) < e_0 ∧ (0 : Int32) < e_1 ∧ (0 : Int32) < e_2 ∧ (0 : Int32) < e_3 ∧ r = (4607182418800017408 : UInt64)) ∨ ((0 : Int32) < e_0 ∧ (0 : Int32) < e_1 ∧ (0 : Int32) < e_2 ∧ ¬ ((0 : Int32) < e_3) ∧ r = (4607182418800017408 : UInt64)) ∨ ((0 : Int32) < e_0 ∧ (0 : Int32) < e_1 ∧ ¬ ((0 : Int32) < e_2) ∧ (0 : Int32) < e_3 ∧ r = (4606431818862122325 : UInt64)) ∨ ((0 : Int32) < e_0 ∧ (0 : Int32) < e_1 ∧ ¬ ((0 : Int32) < e_2) ∧ ¬ ((0 : Int32) < e_3) ∧ r = (4607182418800017408 : UInt64)) ∨ ((0 : Int32) < e_0 ∧ ¬ ((0 : Int32) < e_1) ∧ (0 : Int32) < e_2 ∧ (0 : Int32) < e_3 ∧ r = (4605431018944928881 : UInt64)) ∨ ((0 : Int32) < e_0 ∧ ¬ ((0 : Int32) < e_1) ∧ (0 : Int32) < e_2 ∧ ¬ ((0 : Int32) < e_3) ∧ r = (4605681218924227242 : UInt64)) ∨ ((0 : Int32) < e_0 ∧ ¬ ((0 : Int32) < e_1) ∧ ¬ ((0 : Int32) < e_2) ∧ (0 : Int32) < e_3 ∧ r = (4604930618986332160 : UInt64)) ∨ ((0 : Int32) < e_0 ∧ ¬ ((0 : Int32) < e_1) ∧ ¬ ((0 : Int32) < e_2) ∧ ¬ ((0 : Int32) < e_3) ∧ r = (4607182418800017408 : UInt64)) ∨ (¬ ((0 : Int32) < e_0) ∧ (0 : Int32) < e_1 ∧ (0 : Int32) < e_2 ∧ (0 : Int32) < e_3 ∧ r = (4603929819069138716 : UInt64)) ∨ (¬ ((0 : Int32) < e_0) ∧ (0 : Int32) < e_1 ∧ (0 : Int32) < e_2 ∧ ¬ ((0 : Int32) < e_3) ∧ r = (4603429419110541994 : UInt64)) ∨ (¬ ((0 : Int32) < e_0) ∧ (0 : Int32) < e_1 ∧ ¬ ((0 : Int32) < e_2) ∧ (0 : Int32) < e_3 ∧ r = (4602678819172646912 : UInt64)) ∨ (¬ ((0 : Int32) < e_0) ∧ (0 : Int32) < e_1 ∧ ¬ ((0 : Int32) < e_2) ∧ ¬ ((0 : Int32) < e_3) ∧ r = (4602678819172646912 : UInt64)) ∨ (¬ ((0 : Int32) < e_0) ∧ ¬ ((0 : Int32) < e_1) ∧ (0 : Int32) < e_2 ∧ (0 : Int32) < e_3 ∧ r = (4601177619296856746 : UInt64)) ∨ (¬ ((0 : Int32) < e_0) ∧ ¬ ((0 : Int32) < e_1) ∧ (0 : Int32) < e_2 ∧ ¬ ((0 : Int32) < e_3) ∧ r = (4599676419421066581 : UInt64)) ∨ (¬ ((0 : Int32) < e_0) ∧ ¬ ((0 : Int32) < e_1) ∧ ¬ ((0 : Int32) < e_2) ∧ (0 : Int32) < e_3 ∧ r = (4598175219545276416 : UInt64)) ∨ (¬ ((0 : Int32) < e_0) ∧ ¬ ((0 : Int32) < e_1) ∧ ¬ ((0 : Int32) < e_2) ∧ ¬ ((0 : Int32) < e_3) ∧ r = (0 : UInt64))) ∧ Fr n0 L ∧ h = h0
set_option maxRecDepth 65536 in
set_option maxHeartbeats 40000000 in
theorem rmap4 (l : Launch) (Z : State) (a0 : Array Value) (hw : ∀ d ∈ tables_1, d.before a0 Z = true) (ws : List Jvm.Cond) (o0 : Addr) (k_a : ClassId) (e_0 : Int32) (e_1 : Int32) (e_2 : Int32) (e_3 : Int32) (h0 : Heap) (n0 : Nat) (Z0 : n0 ≤ h0.size) (V_a : Arv Z h0 o0 k_a .int (4 : Int32) [(.int e_0), (.int e_1), (.int e_2), (.int e_3)] (.int 0)) :
    MetFree l (⟨"com/example/coevolution/coevolution/measure/Measures", "averagePrecision", "([I)D"⟩ : MethodName) (head1 (Jvm.Cond.code (⟨"com/example/coevolution/coevolution/measure/Measures", "averagePrecision", "([I)D"⟩ : MethodName) prog_57_method_2_code 5 (some .double) :: ws) ({ frames := 0, cells := 0, slots := 0, locals := 0 } : Room)) (fun a U => a = #[(.ref o0)] ∧ Z.Warmed39 U.vm ∧ U.heap = h0) (fun _ _ _ _ _ => True) (fun _ U o U' => ∃ v L, o = .returned v ∧ Qap4 Z o0 k_a e_0 e_1 e_2 e_3 h0 n0 v U'.heap L ∧ FrameEnd U o U' L ({ frames := 0, cells := 0, slots := 0, locals := 0 } : Room).cells ({ frames := 0, cells := 0, slots := 0, locals := 0 } : Room).slots) := by
  refine MetFree.of_bodySF (plainFor_of_name (by first | (simp [plainName, overriddenIn]; done) | decide +kernel)) hisR ?_
  intro p e s m args below meth c s₁ Bd hml0 hP hK
  obtain ⟨rfl, hZ, hh⟩ := hP
  have hx := Bd.exec
  have hby := Bd.bytes
  have hml : c.maxLocals = 5 := hml0
  have hown : s.vm.findClass "com/example/coevolution/coevolution/measure/Measures" = some m.cls := findClass_of_methodNamed Bd.named
  have hnm := (name_of_methodNamed Bd.named Bd.method).1
  have hlk := BodyLoose.notSynchronized Bd
  have X0 : Stand p l e ({ frames := 0, cells := 0, slots := 0, locals := 0 } : Room) s m #[(.ref o0)] below meth c s₁ [] 0 0 := Stand.of_body Bd
  have e0 : s₁.heap = h0 := by rw [← hh, Bd.state]; rfl
  have N0 := Fr.nil n0
  show Go p e below s (Qap4 Z o0 k_a e_0 e_1 e_2 e_3 h0 n0) 0 0 (s₁.setTop (entryFrame m #[(.ref o0)] 5))
  rw [ef_ap4]
  show gO (tF s₁ m 0 (la0 o0) [])
  refine gob (fun _ k => XS.iconst X0.here hx rfl (hb hby d1_0) k) ?_
  show gO (tF s₁ m 1 (la0 o0) [(.int 0)])
  refine gob (fun _ k => XS.istoreN X0.here hx rfl (hb hby d1_1) rfl (l' := (la1 o0 0)) rfl k) ?_
  show gO (tF s₁ m 2 (la1 o0 0) [])
  refine gob (fun _ k => XS.dconst0 X0.here hx rfl (hb hby d1_2) (v := (0 : UInt64)) (by decide +kernel) k) ?_
  show gO (tF s₁ m 3 (la1 o0 0) [(.double (0 : UInt64))])
  refine gob (fun _ k => XS.dstoreN X0.here hx rfl (hb hby d1_3) rfl (l' := (la2 o0 0 (0 : UInt64))) rfl k) ?_
  show gO (tF s₁ m 4 (la2 o0 0 (0 : UInt64)) [])
  refine gob (fun _ k => XS.iconst X0.here hx rfl (hb hby d1_4) k) ?_
  show gO (tF s₁ m 5 (la2 o0 0 (0 : UInt64)) [(.int 1)])
  refine gob (fun _ k => XS.istore X0.here hx rfl (hb hby d1_5) rfl (l' := (la3 o0 0 (0 : UInt64) 1)) rfl k) ?_
  show gO (tF s₁ m 7 (la3 o0 0 (0 : UInt64) 1) [])
  refine gob (fun _ k => XS.iload X0.here hx rfl (hb hby d1_7) rfl k) ?_
  show gO (tF s₁ m 9 (la3 o0 0 (0 : UInt64) 1) [(.int 1)])
  refine gob (fun _ k => XS.aloadN X0.here hx rfl (hb hby d1_9) rfl rfl k) ?_
  show gO (tF s₁ m 10 (la3 o0 0 (0 : UInt64) 1) [(.ref o0), (.int 1)])
  obtain ⟨cl1, Ar1, aq1, S1, N1, H1, G1⟩ := id V_a
  refine gob (X0.arraylength hx (by rw [e0]; exact Ar1.1) (State.isArrayOf_alike hZ.alike Ar1.2.1) (g := (mkF m 10 (la3 o0 0 (0 : UInt64) 1) [(.ref o0), (.int 1)])) rfl rfl (hb hby d1_10)) ?_
  rw [len_of S1 N1]
  show gO (tF s₁ m 11 (la3 o0 0 (0 : UInt64) 1) [(.int 4), (.int 1)])
  refine gob (fun _ k => XS.icmpNo X0.here hx rfl (hb hby d1_11) rfl (flt (by decide : ¬ ((4 : Int32) < (1 : Int32)))).2.2.1 k) ?_
  show gO (tF s₁ m 14 (la3 o0 0 (0 : UInt64) 1) [])
  refine gob (fun _ k => XS.aloadN X0.here hx rfl (hb hby d1_14) rfl rfl k) ?_
  show gO (tF s₁ m 15 (la3 o0 0 (0 : UInt64) 1) [(.ref o0)])
  refine gob (fun _ k => XS.iload X0.here hx rfl (hb hby d1_15) rfl k) ?_
  show gO (tF s₁ m 17 (la3 o0 0 (0 : UInt64) 1) [(.int 1), (.ref o0)])
  refine gob (fun _ k => XS.iconst X0.here hx rfl (hb hby d1_17) k) ?_
  show gO (tF s₁ m 18 (la3 o0 0 (0 : UInt64) 1) [(.int 1), (.int 1), (.ref o0)])
  refine gob (fun _ k => XS.isub X0.here hx rfl (hb hby d1_18) rfl k) ?_
  show gO (tF s₁ m 19 (la3 o0 0 (0 : UInt64) 1) [(.int 0), (.ref o0)])
  obtain ⟨cl2, Ar2, aq2, S2, N2, H2, G2⟩ := id V_a
  have hin2 : ¬ ((0 : Int32) < 0 ∨ cl2.slots.size ≤ ((0 : Int32)).toNatClampNeg) := inb_of S2 ⟨by decide, by decide⟩
  refine gob (X0.iaload hx (j := (0 : Int32)) (v := (.int e_0)) (by rw [e0]; exact Ar2.1) (State.isArrayOf_alike hZ.alike Ar2.2.1) Ar2.2.2 hin2 (Has.at H2 hin2 rfl) (g := (mkF m 19 (la3 o0 0 (0 : UInt64) 1) [(.int 0), (.ref o0)])) rfl rfl (hb hby d1_19)) ?_
  show gO (tF s₁ m 20 (la3 o0 0 (0 : UInt64) 1) [(.int e_0)])
  by_cases hc20_3 : (0 : Int32) < e_0
  · skip
    refine gob (fun _ k => XS.ifNo X0.here hx rfl (hb hby d1_20) rfl ((if0 _ _).trans (tlt hc20_3).2.2.2) k) ?_
    show gO (tF s₁ m 23 (la3 o0 0 (0 : UInt64) 1) [])
    refine gob (fun _ k => XS.iinc X0.here hx rfl (hb hby d1_23) rfl (l' := (la3 o0 1 (0 : UInt64) 1)) rfl k) ?_
    show gO (tF s₁ m 26 (la3 o0 1 (0 : UInt64) 1) [])
    refine gob (fun _ k => XS.dloadN X0.here hx rfl (hb hby d1_26) rfl k) ?_
    show gO (tF s₁ m 27 (la3 o0 1 (0 : UInt64) 1) [(.double (0 : UInt64))])
    refine gob (fun _ k => XS.iloadN X0.here hx rfl (hb hby d1_27) rfl k) ?_
    show gO (tF s₁ m 28 (la3 o0 1 (0 : UInt64) 1) [(.int 1), (.double (0 : UInt64))])
    refine gob (fun _ k => XS.i2dS X0.here hx rfl (hb hby d1_28) rfl (v := (4607182418800017408 : UInt64)) (by decide +kernel) k) ?_
    show gO (tF s₁ m 29 (la3 o0 1 (0 : UInt64) 1) [(.double (4607182418800017408 : UInt64)), (.double (0 : UInt64))])
    refine gob (fun _ k => XS.iload X0.here hx rfl (hb hby d1_29) rfl k) ?_
    show gO (tF s₁ m 31 (la3 o0 1 (0 : UInt64) 1) [(.int 1), (.double (4607182418800017408 : UInt64)), (.double (0 : UInt64))])
    refine gob (fun _ k => XS.i2dS X0.here hx rfl (hb hby d1_31) rfl (v := (4607182418800017408 : UInt64)) (by decide +kernel) k) ?_
    show gO (tF s₁ m 32 (la3 o0 1 (0 : UInt64) 1) [(.double (4607182418800017408 : UInt64)), (.double (4607182418800017408 : UInt64)), (.double (0 : UInt64))])
    refine gob (fun _ k => XS.ddivS X0.here hx rfl (hb hby d1_32) rfl (v := (4607182418800017408 : UInt64)) (by unfold Jvm.Free.Fl.NoNaN64; decide +kernel) (by decide +kernel) k) ?_
    show gO (tF s₁ m 33 (la3 o0 1 (0 : UInt64) 1) [(.double (4607182418800017408 : UInt64)), (.double (0 : UInt64))])
    refine gob (fun _ k => XS.daddS X0.here hx rfl (hb hby d1_33) rfl (v := (4607182418800017408 : UInt64)) (by unfold Jvm.Free.Fl.NoNaN64; decide +kernel) (by decide +kernel) k) ?_
    show gO (tF s₁ m 34 (la3 o0 1 (0 : UInt64) 1) [(.double (4607182418800017408 : UInt64))])
    refine gob (fun _ k => XS.dstoreN X0.here hx rfl (hb hby d1_34) rfl (l' := (la3 o0 1 (4607182418800017408 : UInt64) 1)) rfl k) ?_
    show gO (tF s₁ m 35 (la3 o0 1 (4607182418800017408 : UInt64) 1) [])
    refine gob (fun _ k => XS.iinc X0.here hx rfl (hb hby d1_35) rfl (l' := (la3 o0 1 (4607182418800017408 : UInt64) 2)) rfl k) ?_
    show gO (tF s₁ m 38 (la3 o0 1 (4607182418800017408 : UInt64) 2) [])
    refine gob (fun _ k => XS.goto X0.here hx rfl (pc0 := 38) (pc' := 7) rfl (hb hby d1_38) (by decide) (by decide) k) ?_
    show gO (tF s₁ m 7 (la3 o0 1 (4607182418800017408 : UInt64) 2) [])
    refine gob (fun _ k => XS.iload X0.here hx rfl (hb hby d1_7) rfl k) ?_
    show gO (tF s₁ m 9 (la3 o0 1 (4607182418800017408 : UInt64) 2) [(.int 2)])
    refine gob (fun _ k => XS.aloadN X0.here hx rfl (hb hby d1_9) rfl rfl k) ?_
    show gO (tF s₁ m 10 (la3 o0 1 (4607182418800017408 : UInt64) 2) [(.ref o0), (.int 2)])
    obtain ⟨cl4, Ar4, aq4, S4, N4, H4, G4⟩ := id V_a
    refine gob (X0.arraylength hx (by rw [e0]; exact Ar4.1) (State.isArrayOf_alike hZ.alike Ar4.2.1) (g := (mkF m 10 (la3 o0 1 (4607182418800017408 : UInt64) 2) [(.ref o0), (.int 2)])) rfl rfl (hb hby d1_10)) ?_
    rw [len_of S4 N4]
    show gO (tF s₁ m 11 (la3 o0 1 (4607182418800017408 : UInt64) 2) [(.int 4), (.int 2)])
    refine gob (fun _ k => XS.icmpNo X0.here hx rfl (hb hby d1_11) rfl (flt (by decide : ¬ ((4 : Int32) < (2 : Int32)))).2.2.1 k) ?_
    show gO (tF s₁ m 14 (la3 o0 1 (4607182418800017408 : UInt64) 2) [])
    refine gob (fun _ k => XS.aloadN X0.here hx rfl (hb hby d1_14) rfl rfl k) ?_
    show gO (tF s₁ m 15 (la3 o0 1 (4607182418800017408 : UInt64) 2) [(.ref o0)])
    refine gob (fun _ k => XS.iload X0.here hx rfl (hb hby d1_15) rfl k) ?_
    show gO (tF s₁ m 17 (la3 o0 1 (4607182418800017408 : UInt64) 2) [(.int 2), (.ref o0)])
    refine gob (fun _ k => XS.iconst X0.here hx rfl (hb hby d1_17) k) ?_
    show gO (tF s₁ m 18 (la3 o0 1 (4607182418800017408 : UInt64) 2) [(.int 1), (.int 2), (.ref o0)])
    refine gob (fun _ k => XS.isub X0.here hx rfl (hb hby d1_18) rfl k) ?_
    show gO (tF s₁ m 19 (la3 o0 1 (4607182418800017408 : UInt64) 2) [(.int 1), (.ref o0)])
    obtain ⟨cl5, Ar5, aq5, S5, N5, H5, G5⟩ := id V_a
    have hin5 : ¬ ((1 : Int32) < 0 ∨ cl5.slots.size ≤ ((1 : Int32)).toNatClampNeg) := inb_of S5 ⟨by decide, by decide⟩
    refine gob (X0.iaload hx (j := (1 : Int32)) (v := (.int e_1)) (by rw [e0]; exact Ar5.1) (State.isArrayOf_alike hZ.alike Ar5.2.1) Ar5.2.2 hin5 (Has.at H5 hin5 rfl) (g := (mkF m 19 (la3 o0 1 (4607182418800017408 : UInt64) 2) [(.int 1), (.ref o0)])) rfl rfl (hb hby d1_19)) ?_
    show gO (tF s₁ m 20 (la3 o0 1 (4607182418800017408 : UInt64) 2) [(.int e_1)])
    by_cases hc20_6 : (0 : Int32) < e_1
    · skip
      refine gob (fun _ k => XS.ifNo X0.here hx rfl (hb hby d1_20) rfl ((if0 _ _).trans (tlt hc20_6).2.2.2) k) ?_
      show gO (tF s₁ m 23 (la3 o0 1 (4607182418800017408 : UInt64) 2) [])
      refine gob (fun _ k => XS.iinc X0.here hx rfl (hb hby d1_23) rfl (l' := (la3 o0 2 (4607182418800017408 : UInt64) 2)) rfl k) ?_
      show gO (tF s₁ m 26 (la3 o0 2 (4607182418800017408 : UInt64) 2) [])
      refine gob (fun _ k => XS.dloadN X0.here hx rfl (hb hby d1_26) rfl k) ?_
      show gO (tF s₁ m 27 (la3 o0 2 (4607182418800017408 : UInt64) 2) [(.double (4607182418800017408 : UInt64))])
      refine gob (fun _ k => XS.iloadN X0.here hx rfl (hb hby d1_27) rfl k) ?_
      show gO (tF s₁ m 28 (la3 o0 2 (4607182418800017408 : UInt64) 2) [(.int 2), (.double (4607182418800017408 : UInt64))])
      refine gob (fun _ k => XS.i2dS X0.here hx rfl (hb hby d1_28) rfl (v := (4611686018427387904 : UInt64)) (by decide +kernel) k) ?_
      show gO (tF s₁ m 29 (la3 o0 2 (4607182418800017408 : UInt64) 2) [(.double (4611686018427387904 : UInt64)), (.double (4607182418800017408 : UInt64))])
      refine gob (fun _ k => XS.iload X0.here hx rfl (hb hby d1_29) rfl k) ?_
      show gO (tF s₁ m 31 (la3 o0 2 (4607182418800017408 : UInt64) 2) [(.int 2), (.double (4611686018427387904 : UInt64)), (.double (4607182418800017408 : UInt64))])
      refine gob (fun _ k => XS.i2dS X0.here hx rfl (hb hby d1_31) rfl (v := (4611686018427387904 : UInt64)) (by decide +kernel) k) ?_
      show gO (tF s₁ m 32 (la3 o0 2 (4607182418800017408 : UInt64) 2) [(.double (4611686018427387904 : UInt64)), (.double (4611686018427387904 : UInt64)), (.double (4607182418800017408 : UInt64))])
      refine gob (fun _ k => XS.ddivS X0.here hx rfl (hb hby d1_32) rfl (v := (4607182418800017408 : UInt64)) (by unfold Jvm.Free.Fl.NoNaN64; decide +kernel) (by decide +kernel) k) ?_
      show gO (tF s₁ m 33 (la3 o0 2 (4607182418800017408 : UInt64) 2) [(.double (4607182418800017408 : UInt64)), (.double (4607182418800017408 : UInt64))])
      refine gob (fun _ k => XS.daddS X0.here hx rfl (hb hby d1_33) rfl (v := (4611686018427387904 : UInt64)) (by unfold Jvm.Free.Fl.NoNaN64; decide +kernel) (by decide +kernel) k) ?_
      show gO (tF s₁ m 34 (la3 o0 2 (4607182418800017408 : UInt64) 2) [(.double (4611686018427387904 : UInt64))])
      refine gob (fun _ k => XS.dstoreN X0.here hx rfl (hb hby d1_34) rfl (l' := (la3 o0 2 (4611686018427387904 : UInt64) 2)) rfl k) ?_
      show gO (tF s₁ m 35 (la3 o0 2 (4611686018427387904 : UInt64) 2) [])
      refine gob (fun _ k => XS.iinc X0.here hx rfl (hb hby d1_35) rfl (l' := (la3 o0 2 (4611686018427387904 : UInt64) 3)) rfl k) ?_
      show gO (tF s₁ m 38 (la3 o0 2 (4611686018427387904 : UInt64) 3) [])
      refine gob (fun _ k => XS.goto X0.here hx rfl (pc0 := 38) (pc' := 7) rfl (hb hby d1_38) (by decide) (by decide) k) ?_
      show gO (tF s₁ m 7 (la3 o0 2 (4611686018427387904 : UInt64) 3) [])
      refine gob (fun _ k => XS.iload X0.here hx rfl (hb hby d1_7) rfl k) ?_
      show gO (tF s₁ m 9 (la3 o0 2 (4611686018427387904 : UInt64) 3) [(.int 3)])
      refine gob (fun _ k => XS.aloadN X0.here hx rfl (hb hby d1_9) rfl rfl k) ?_
      show gO (tF s₁ m 10 (la3 o0 2 (4611686018427387904 : UInt64) 3) [(.ref o0), (.int 3)])
      obtain ⟨cl7, Ar7, aq7, S7, N7, H7, G7⟩ := id V_a
      refine gob (X0.arraylength hx (by rw [e0]; exact Ar7.1) (State.isArrayOf_alike hZ.alike Ar7.2.1) (g := (mkF m 10 (la3 o0 2 (4611686018427387904 : UInt64) 3) [(.ref o0), (.int 3)])) rfl rfl (hb hby d1_10)) ?_
      rw [len_of S7 N7]
      show gO (tF s₁ m 11 (la3 o0 2 (4611686018427387904 : UInt64) 3) [(.int 4), (.int 3)])
      refine gob (fun _ k => XS.icmpNo X0.here hx rfl (hb hby d1_11) rfl (flt (by decide : ¬ ((4 : Int32) < (3 : Int32)))).2.2.1 k) ?_
      show gO (tF s₁ m 14 (la3 o0 2 (4611686018427387904 : UInt64) 3) [])
      refine gob (fun _ k => XS.aloadN X0.here hx rfl (hb hby d1_14) rfl rfl k) ?_
      show gO (tF s₁ m 15 (la3 o0 2 (4611686018427387904 : UInt64) 3) [(.ref o0)])
      refine gob (fun _ k => XS.iload X0.here hx rfl (hb hby d1_15) rfl k) ?_
      show gO (tF s₁ m 17 (la3 o0 2 (4611686018427387904 : UInt64) 3) [(.int 3), (.ref o0)])
      refine gob (fun _ k => XS.iconst X0.here hx rfl (hb hby d1_17) k) ?_
      show gO (tF s₁ m 18 (la3 o0 2 (4611686018427387904 : UInt64) 3) [(.int 1), (.int 3), (.ref o0)])
      refine gob (fun _ k => XS.isub X0.here hx rfl (hb hby d1_18) rfl k) ?_
      show gO (tF s₁ m 19 (la3 o0 2 (4611686018427387904 : UInt64) 3) [(.int 2), (.ref o0)])
      obtain ⟨cl8, Ar8, aq8, S8, N8, H8, G8⟩ := id V_a
      have hin8 : ¬ ((2 : Int32) < 0 ∨ cl8.slots.size ≤ ((2 : Int32)).toNatClampNeg) := inb_of S8 ⟨by decide, by decide⟩
      refine gob (X0.iaload hx (j := (2 : Int32)) (v := (.int e_2)) (by rw [e0]; exact Ar8.1) (State.isArrayOf_alike hZ.alike Ar8.2.1) Ar8.2.2 hin8 (Has.at H8 hin8 rfl) (g := (mkF m 19 (la3 o0 2 (4611686018427387904 : UInt64) 3) [(.int 2), (.ref o0)])) rfl rfl (hb hby d1_19)) ?_
      show gO (tF s₁ m 20 (la3 o0 2 (4611686018427387904 : UInt64) 3) [(.int e_2)])
      by_cases hc20_9 : (0 : Int32) < e_2
      · skip
        refine gob (fun _ k => XS.ifNo X0.here hx rfl (hb hby d1_20) rfl ((if0 _ _).trans (tlt hc20_9).2.2.2) k) ?_
        show gO (tF s₁ m 23 (la3 o0 2 (4611686018427387904 : UInt64) 3) [])
        refine gob (fun _ k => XS.iinc X0.here hx rfl (hb hby d1_23) rfl (l' := (la3 o0 3 (4611686018427387904 : UInt64) 3)) rfl k) ?_
        show gO (tF s₁ m 26 (la3 o0 3 (4611686018427387904 : UInt64) 3) [])
        refine gob (fun _ k => XS.dloadN X0.here hx rfl (hb hby d1_26) rfl k) ?_
        show gO (tF s₁ m 27 (la3 o0 3 (4611686018427387904 : UInt64) 3) [(.double (4611686018427387904 : UInt64))])
        refine gob (fun _ k => XS.iloadN X0.here hx rfl (hb hby d1_27) rfl k) ?_
        show gO (tF s₁ m 28 (la3 o0 3 (4611686018427387904 : UInt64) 3) [(.int 3), (.double (4611686018427387904 : UInt64))])
        refine gob (fun _ k => XS.i2dS X0.here hx rfl (hb hby d1_28) rfl (v := (4613937818241073152 : UInt64)) (by decide +kernel) k) ?_
        show gO (tF s₁ m 29 (la3 o0 3 (4611686018427387904 : UInt64) 3) [(.double (4613937818241073152 : UInt64)), (.double (4611686018427387904 : UInt64))])
        refine gob (fun _ k => XS.iload X0.here hx rfl (hb hby d1_29) rfl k) ?_
        show gO (tF s₁ m 31 (la3 o0 3 (4611686018427387904 : UInt64) 3) [(.int 3), (.double (4613937818241073152 : UInt64)), (.double (4611686018427387904 : UInt64))])
        refine gob (fun _ k => XS.i2dS X0.here hx rfl (hb hby d1_31) rfl (v := (4613937818241073152 : UInt64)) (by decide +kernel) k) ?_
        show gO (tF s₁ m 32 (la3 o0 3 (4611686018427387904 : UInt64) 3) [(.double (4613937818241073152 : UInt64)), (.double (4613937818241073152 : UInt64)), (.double (4611686018427387904 : UInt64))])
        refine gob (fun _ k => XS.ddivS X0.here hx rfl (hb hby d1_32) rfl (v := (4607182418800017408 : UInt64)) (by unfold Jvm.Free.Fl.NoNaN64; decide +kernel) (by decide +kernel) k) ?_
        show gO (tF s₁ m 33 (la3 o0 3 (4611686018427387904 : UInt64) 3) [(.double (4607182418800017408 : UInt64)), (.double (4611686018427387904 : UInt64))])
        refine gob (fun _ k => XS.daddS X0.here hx rfl (hb hby d1_33) rfl (v := (4613937818241073152 : UInt64)) (by unfold Jvm.Free.Fl.NoNaN64; decide +kernel) (by decide +kernel) k) ?_
        show gO (tF s₁ m 34 (la3 o0 3 (4611686018427387904 : UInt64) 3) [(.double (4613937818241073152 : UInt64))])
        refine gob (fun _ k => XS.dstoreN X0.here hx rfl (hb hby d1_34) rfl (l' := (la3 o0 3 (4613937818241073152 : UInt64) 3)) rfl k) ?_
        show gO (tF s₁ m 35 (la3 o0 3 (4613937818241073152 : UInt64) 3) [])
        refine gob (fun _ k => XS.iinc X0.here hx rfl (hb hby d1_35) rfl (l' := (la3 o0 3 (4613937818241073152 : UInt64) 4)) rfl k) ?_
        show gO (tF s₁ m 38 (la3 o0 3 (4613937818241073152 : UInt64) 4) [])
        refine gob (fun _ k => XS.goto X0.here hx rfl (pc0 := 38) (pc' := 7) rfl (hb hby d1_38) (by decide) (by decide) k) ?_
        show gO (tF s₁ m 7 (la3 o0 3 (4613937818241073152 : UInt64) 4) [])
        refine gob (fun _ k => XS.iload X0.here hx rfl (hb hby d1_7) rfl k) ?_
        show gO (tF s₁ m 9 (la3 o0 3 (4613937818241073152 : UInt64) 4) [(.int 4)])
        refine gob (fun _ k => XS.aloadN X0.here hx rfl (hb hby d1_9) rfl rfl k) ?_
        show gO (tF s₁ m 10 (la3 o0 3 (4613937818241073152 : UInt64) 4) [(.ref o0), (.int 4)])
        obtain ⟨cl10, Ar10, aq10, S10, N10, H10, G10⟩ := id V_a
        refine gob (X0.arraylength hx (by rw [e0]; exact Ar10.1) (State.isArrayOf_alike hZ.alike Ar10.2.1) (g := (mkF m 10 (la3 o0 3 (4613937818241073152 : UInt64) 4) [(.ref o0), (.int 4)])) rfl rfl (hb hby d1_10)) ?_
        rw [len_of S10 N10]
        show gO (tF s₁ m 11 (la3 o0 3 (4613937818241073152 : UInt64) 4) [(.int 4), (.int 4)])
        refine gob (fun _ k => XS.icmpNo X0.here hx rfl (hb hby d1_11) rfl (flt (by decide : ¬ ((4 : Int32) < (4 : Int32)))).2.2.1 k) ?_
        show gO (tF s₁ m 14 (la3 o0 3 (4613937818241073152 : UInt64) 4) [])
        refine gob (fun _ k => XS.aloadN X0.here hx rfl (hb hby d1_14) rfl rfl k) ?_
        show gO (tF s₁ m 15 (la3 o0 3 (4613937818241073152 : UInt64) 4) [(.ref o0)])
        refine gob (fun _ k => XS.iload X0.here hx rfl (hb hby d1_15) rfl k) ?_
        show gO (tF s₁ m 17 (la3 o0 3 (4613937818241073152 : UInt64) 4) [(.int 4), (.ref o0)])
        refine gob (fun _ k => XS.iconst X0.here hx rfl (hb hby d1_17) k) ?_
        show gO (tF s₁ m 18 (la3 o0 3 (4613937818241073152 : UInt64) 4) [(.int 1), (.int 4), (.ref o0)])
        refine gob (fun _ k => XS.isub X0.here hx rfl (hb hby d1_18) rfl k) ?_
        show gO (tF s₁ m 19 (la3 o0 3 (4613937818241073152 : UInt64) 4) [(.int 3), (.ref o0)])
        obtain ⟨cl11, Ar11, aq11, S11, N11, H11, G11⟩ := id V_a
        have hin11 : ¬ ((3 : Int32) < 0 ∨ cl11.slots.size ≤ ((3 : Int32)).toNatClampNeg) := inb_of S11 ⟨by decide, by decide⟩
        refine gob (X0.iaload hx (j := (3 : Int32)) (v := (.int e_3)) (by rw [e0]; exact Ar11.1) (State.isArrayOf_alike hZ.alike Ar11.2.1) Ar11.2.2 hin11 (Has.at H11 hin11 rfl) (g := (mkF m 19 (la3 o0 3 (4613937818241073152 : UInt64) 4) [(.int 3), (.ref o0)])) rfl rfl (hb hby d1_19)) ?_
        show gO (tF s₁ m 20 (la3 o0 3 (4613937818241073152 : UInt64) 4) [(.int e_3)])
        by_cases hc20_12 : (0 : Int32) < e_3
        · skip
          refine gob (fun _ k => XS.ifNo X0.here hx rfl (hb hby d1_20) rfl ((if0 _ _).trans (tlt hc20_12).2.2.2) k) ?_
          show gO (tF s₁ m 23 (la3 o0 3 (4613937818241073152 : UInt64) 4) [])
          refine gob (fun _ k => XS.iinc X0.here hx rfl (hb hby d1_23) rfl (l' := (la3 o0 4 (4613937818241073152 : UInt64) 4)) rfl k) ?_
          show gO (tF s₁ m 26 (la3 o0 4 (4613937818241073152 : UInt64) 4) [])
          refine gob (fun _ k => XS.dloadN X0.here hx rfl (hb hby d1_26) rfl k) ?_
          show gO (tF s₁ m 27 (la3 o0 4 (4613937818241073152 : UInt64) 4) [(.double (4613937818241073152 : UInt64))])
          refine gob (fun _ k => XS.iloadN X0.here hx rfl (hb hby d1_27) rfl k) ?_
          show gO (tF s₁ m 28 (la3 o0 4 (4613937818241073152 : UInt64) 4) [(.int 4), (.double (4613937818241073152 : UInt64))])
          refine gob (fun _ k => XS.i2dS X0.here hx rfl (hb hby d1_28) rfl (v := (4616189618054758400 : UInt64)) (by decide +kernel) k) ?_
          show gO (tF s₁ m 29 (la3 o0 4 (4613937818241073152 : UInt64) 4) [(.double (4616189618054758400 : UInt64)), (.double (4613937818241073152 : UInt64))])
          refine gob (fun _ k => XS.iload X0.here hx rfl (hb hby d1_29) rfl k) ?_
          show gO (tF s₁ m 31 (la3 o0 4 (4613937818241073152 : UInt64) 4) [(.int 4), (.double (4616189618054758400 : UInt64)), (.double (4613937818241073152 : UInt64))])
          refine gob (fun _ k => XS.i2dS X0.here hx rfl (hb hby d1_31) rfl (v := (4616189618054758400 : UInt64)) (by decide +kernel) k) ?_
          show gO (tF s₁ m 32 (la3 o0 4 (4613937818241073152 : UInt64) 4) [(.double (4616189618054758400 : UInt64)), (.double (4616189618054758400 : UInt64)), (.double (4613937818241073152 : UInt64))])
          refine gob (fun _ k => XS.ddivS X0.here hx rfl (hb hby d1_32) rfl (v := (4607182418800017408 : UInt64)) (by unfold Jvm.Free.Fl.NoNaN64; decide +kernel) (by decide +kernel) k) ?_
          show gO (tF s₁ m 33 (la3 o0 4 (4613937818241073152 : UInt64) 4) [(.double (4607182418800017408 : UInt64)), (.double (4613937818241073152 : UInt64))])
          refine gob (fun _ k => XS.daddS X0.here hx rfl (hb hby d1_33) rfl (v := (4616189618054758400 : UInt64)) (by unfold Jvm.Free.Fl.NoNaN64; decide +kernel) (by decide +kernel) k) ?_
          show gO (tF s₁ m 34 (la3 o0 4 (4613937818241073152 : UInt64) 4) [(.double (4616189618054758400 : UInt64))])
          refine gob (fun _ k => XS.dstoreN X0.here hx rfl (hb hby d1_34) rfl (l' := (la3 o0 4 (4616189618054758400 : UInt64) 4)) rfl k) ?_
          show gO (tF s₁ m 35 (la3 o0 4 (4616189618054758400 : UInt64) 4) [])
          refine gob (fun _ k => XS.iinc X0.here hx rfl (hb hby d1_35) rfl (l' := (la3 o0 4 (4616189618054758400 : UInt64) 5)) rfl k) ?_
          show gO (tF s₁ m 38 (la3 o0 4 (4616189618054758400 : UInt64) 5) [])
          refine gob (fun _ k => XS.goto X0.here hx rfl (pc0 := 38) (pc' := 7) rfl (hb hby d1_38) (by decide) (by decide) k) ?_
          show gO (tF s₁ m 7 (la3 o0 4 (4616189618054758400 : UInt64) 5) [])
          refine gob (fun _ k => XS.iload X0.here hx rfl (hb hby d1_7) rfl k) ?_
          show gO (tF s₁ m 9 (la3 o0 4 (4616189618054758400 : UInt64) 5) [(.int 5)])
          refine gob (fun _ k => XS.aloadN X0.here hx rfl (hb hby d1_9) rfl rfl k) ?_
          show gO (tF s₁ m 10 (la3 o0 4 (4616189618054758400 : UInt64) 5) [(.ref o0), (.int 5)])
          obtain ⟨cl13, Ar13, aq13, S13, N13, H13, G13⟩ := id V_a
          refine gob (X0.arraylength hx (by rw [e0]; exact Ar13.1) (State.isArrayOf_alike hZ.alike Ar13.2.1) (g := (mkF m 10 (la3 o0 4 (4616189618054758400 : UInt64) 5) [(.ref o0), (.int 5)])) rfl rfl (hb hby d1_10)) ?_
          rw [len_of S13 N13]
          show gO (tF s₁ m 11 (la3 o0 4 (4616189618054758400 : UInt64) 5) [(.int 4), (.int 5)])
          refine gob (fun _ k => XS.icmpYes X0.here hx rfl (pc0 := 11) (pc' := 41) rfl (hb hby d1_11) rfl (tlt (by decide : (4 : Int32) < (5 : Int32))).2.2.1 (by decide) (by decide) k) ?_
          show gO (tF s₁ m 41 (la3 o0 4 (4616189618054758400 : UInt64) 5) [])
          refine gob (fun _ k => XS.iloadN X0.here hx rfl (hb hby d1_41) rfl k) ?_
          show gO (tF s₁ m 42 (la3 o0 4 (4616189618054758400 : UInt64) 5) [(.int 4)])
          refine gob (fun _ k => XS.ifYes X0.here hx rfl (pc0 := 42) (pc' := 49) rfl (hb hby d1_42) rfl ((if0 _ _).trans (feq (by decide : ¬ ((4 : Int32) = (0 : Int32)))).2) (by decide) (by decide) k) ?_
          show gO (tF s₁ m 49 (la3 o0 4 (4616189618054758400 : UInt64) 5) [])
          refine gob (fun _ k => XS.dloadN X0.here hx rfl (hb hby d1_49) rfl k) ?_
          show gO (tF s₁ m 50 (la3 o0 4 (4616189618054758400 : UInt64) 5) [(.double (4616189618054758400 : UInt64))])
          refine gob (fun _ k => XS.iloadN X0.here hx rfl (hb hby d1_50) rfl k) ?_
          show gO (tF s₁ m 51 (la3 o0 4 (4616189618054758400 : UInt64) 5) [(.int 4), (.double (4616189618054758400 : UInt64))])
          refine gob (fun _ k => XS.i2dS X0.here hx rfl (hb hby d1_51) rfl (v := (4616189618054758400 : UInt64)) (by decide +kernel) k) ?_
          show gO (tF s₁ m 52 (la3 o0 4 (4616189618054758400 : UInt64) 5) [(.double (4616189618054758400 : UInt64)), (.double (4616189618054758400 : UInt64))])
          refine gob (fun _ k => XS.ddivS X0.here hx rfl (hb hby d1_52) rfl (v := (4607182418800017408 : UInt64)) (by unfold Jvm.Free.Fl.NoNaN64; decide +kernel) (by decide +kernel) k) ?_
          show gO (tF s₁ m 53 (la3 o0 4 (4616189618054758400 : UInt64) 5) [(.double (4607182418800017408 : UInt64))])
          refine goD X0 hx hlk Bd.returns (hb hby d1_53) ?_ (by decide) (by decide)
          show Qap4 Z o0 k_a e_0 e_1 e_2 e_3 h0 n0 (some (.double (4607182418800017408 : UInt64))) s₁.heap _
          exact ⟨(4607182418800017408 : UInt64), rfl, (Or.inl ⟨hc20_3, hc20_6, hc20_9, hc20_12, rfl⟩), N0, e0⟩
        · skip
          refine gob (fun _ k => XS.ifYes X0.here hx rfl (pc0 := 20) (pc' := 35) rfl (hb hby d1_20) rfl ((if0 _ _).trans (flt hc20_12).2.2.2) (by decide) (by decide) k) ?_
          show gO (tF s₁ m 35 (la3 o0 3 (4613937818241073152 : UInt64) 4) [])
          refine gob (fun _ k => XS.iinc X0.here hx rfl (hb hby d1_35) rfl (l' := (la3 o0 3 (4613937818241073152 : UInt64) 5)) rfl k) ?_
          show gO (tF s₁ m 38 (la3 o0 3 (4613937818241073152 : UInt64) 5) [])
          refine gob (fun _ k => XS.goto X0.here hx rfl (pc0 := 38) (pc' := 7) rfl (hb hby d1_38) (by decide) (by decide) k) ?_
          show gO (tF s₁ m 7 (la3 o0 3 (4613937818241073152 : UInt64) 5) [])
          refine gob (fun _ k => XS.iload X0.here hx rfl (hb hby d1_7) rfl k) ?_
          show gO (tF s₁ m 9 (la3 o0 3 (4613937818241073152 : UInt64) 5) [(.int 5)])
          refine gob (fun _ k => XS.aloadN X0.here hx rfl (hb hby d1_9) rfl rfl k) ?_
          show gO (tF s₁ m 10 (la3 o0 3 (4613937818241073152 : UInt64) 5) [(.ref o0), (.int 5)])
          obtain ⟨cl14, Ar14, aq14, S14, N14, H14, G14⟩ := id V_a
          refine gob (X0.arraylength hx (by rw [e0]; exact Ar14.1) (State.isArrayOf_alike hZ.alike Ar14.2.1) (g := (mkF m 10 (la3 o0 3 (4613937818241073152 : UInt64) 5) [(.ref o0), (.int 5)])) rfl rfl (hb hby d1_10)) ?_
          rw [len_of S14 N14]
          show gO (tF s₁ m 11 (la3 o0 3 (4613937818241073152 : UInt64) 5) [(.int 4), (.int 5)])
          refine gob (fun _ k => XS.icmpYes X0.here hx rfl (pc0 := 11) (pc' := 41) rfl (hb hby d1_11) rfl (tlt (by decide : (4 : Int32) < (5 : Int32))).2.2.1 (by decide) (by decide) k) ?_
          show gO (tF s₁ m 41 (la3 o0 3 (4613937818241073152 : UInt64) 5) [])
          refine gob (fun _ k => XS.iloadN X0.here hx rfl (hb hby d1_41) rfl k) ?_
          show gO (tF s₁ m 42 (la3 o0 3 (4613937818241073152 : UInt64) 5) [(.int 3)])
          refine gob (fun _ k => XS.ifYes X0.here hx rfl (pc0 := 42) (pc' := 49) rfl (hb hby d1_42) rfl ((if0 _ _).trans (feq (by decide : ¬ ((3 : Int32) = (0 : Int32)))).2) (by decide) (by decide) k) ?_
          show gO (tF s₁ m 49 (la3 o0 3 (4613937818241073152 : UInt64) 5) [])
          refine gob (fun _ k => XS.dloadN X0.here hx rfl (hb hby d1_49) rfl k) ?_
          show gO (tF s₁ m 50 (la3 o0 3 (4613937818241073152 : UInt64) 5) [(.double (4613937818241073152 : UInt64))])
          refine gob (fun _ k => XS.iloadN X0.here hx rfl (hb hby d1_50) rfl k) ?_
          show gO (tF s₁ m 51 (la3 o0 3 (4613937818241073152 : UInt64) 5) [(.int 3), (.double (4613937818241073152 : UInt64))])
          refine gob (fun _ k => XS.i2dS X0.here hx rfl (hb hby d1_51) rfl (v := (4613937818241073152 : UInt64)) (by decide +kernel) k) ?_
          show gO (tF s₁ m 52 (la3 o0 3 (4613937818241073152 : UInt64) 5) [(.double (4613937818241073152 : UInt64)), (.double (4613937818241073152 : UInt64))])
          refine gob (fun _ k => XS.ddivS X0.here hx rfl (hb hby d1_52) rfl (v := (4607182418800017408 : UInt64)) (by unfold Jvm.Free.Fl.NoNaN64; decide +kernel) (by decide +kernel) k) ?_
          show gO (tF s₁ m 53 (la3 o0 3 (4613937818241073152 : UInt64) 5) [(.double (4607182418800017408 : UInt64))])
          refine goD X0 hx hlk Bd.returns (hb hby d1_53) ?_ (by decide) (by decide)
          show Qap4 Z o0 k_a e_0 e_1 e_2 e_3 h0 n0 (some (.double (4607182418800017408 : UInt64))) s₁.heap _
          exact ⟨(4607182418800017408 : UInt64), rfl, (Or.inr (Or.inl ⟨hc20_3, hc20_6, hc20_9, hc20_12, rfl⟩)), N0, e0⟩
      · skip
        refine gob (fun _ k => XS.ifYes X0.here hx rfl (pc0 := 20) (pc' := 35) rfl (hb hby d1_20) rfl ((if0 _ _).trans (flt hc20_9).2.2.2) (by decide) (by decide) k) ?_
        show gO (tF s₁ m 35 (la3 o0 2 (4611686018427387904 : UInt64) 3) [])
        refine gob (fun _ k => XS.iinc X0.here hx rfl (hb hby d1_35) rfl (l' := (la3 o0 2 (4611686018427387904 : UInt64) 4)) rfl k) ?_
        show gO (tF s₁ m 38 (la3 o0 2 (4611686018427387904 : UInt64) 4) [])
        refine gob (fun _ k => XS.goto X0.here hx rfl (pc0 := 38) (pc' := 7) rfl (hb hby d1_38) (by decide) (by decide) k) ?_
        show gO (tF s₁ m 7 (la3 o0 2 (4611686018427387904 : UInt64) 4) [])
        refine gob (fun _ k => XS.iload X0.here hx rfl (hb hby d1_7) rfl k) ?_
        show gO (tF s₁ m 9 (la3 o0 2 (4611686018427387904 : UInt64) 4) [(.int 4)])
        refine gob (fun _ k => XS.aloadN X0.here hx rfl (hb hby d1_9) rfl rfl k) ?_
        show gO (tF s₁ m 10 (la3 o0 2 (4611686018427387904 : UInt64) 4) [(.ref o0), (.int 4)])
        obtain ⟨cl15, Ar15, aq15, S15, N15, H15, G15⟩ := id V_a
        refine gob (X0.arraylength hx (by rw [e0]; exact Ar15.1) (State.isArrayOf_alike hZ.alike Ar15.2.1) (g := (mkF m 10 (la3 o0 2 (4611686018427387904 : UInt64) 4) [(.ref o0), (.int 4)])) rfl rfl (hb hby d1_10)) ?_
        rw [len_of S15 N15]
        show gO (tF s₁ m 11 (la3 o0 2 (4611686018427387904 : UInt64) 4) [(.int 4), (.int 4)])
        refine gob (fun _ k => XS.icmpNo X0.here hx rfl (hb hby d1_11) rfl (flt (by decide : ¬ ((4 : Int32) < (4 : Int32)))).2.2.1 k) ?_
        show gO (tF s₁ m 14 (la3 o0 2 (4611686018427387904 : UInt64) 4) [])
        refine gob (fun _ k => XS.aloadN X0.here hx rfl (hb hby d1_14) rfl rfl k) ?_
        show gO (tF s₁ m 15 (la3 o0 2 (4611686018427387904 : UInt64) 4) [(.ref o0)])
        refine gob (fun _ k => XS.iload X0.here hx rfl (hb hby d1_15) rfl k) ?_
        show gO (tF s₁ m 17 (la3 o0 2 (4611686018427387904 : UInt64) 4) [(.int 4), (.ref o0)])
        refine gob (fun _ k => XS.iconst X0.here hx rfl (hb hby d1_17) k) ?_
        show gO (tF s₁ m 18 (la3 o0 2 (4611686018427387904 : UInt64) 4) [(.int 1), (.int 4), (.ref o0)])
        refine gob (fun _ k => XS.isub X0.here hx rfl (hb hby d1_18) rfl k) ?_
        show gO (tF s₁ m 19 (la3 o0 2 (4611686018427387904 : UInt64) 4) [(.int 3), (.ref o0)])
        obtain ⟨cl16, Ar16, aq16, S16, N16, H16, G16⟩ := id V_a
        have hin16 : ¬ ((3 : Int32) < 0 ∨ cl16.slots.size ≤ ((3 : Int32)).toNatClampNeg) := inb_of S16 ⟨by decide, by decide⟩
        refine gob (X0.iaload hx (j := (3 : Int32)) (v := (.int e_3)) (by rw [e0]; exact Ar16.1) (State.isArrayOf_alike hZ.alike Ar16.2.1) Ar16.2.2 hin16 (Has.at H16 hin16 rfl) (g := (mkF m 19 (la3 o0 2 (4611686018427387904 : UInt64) 4) [(.int 3), (.ref o0)])) rfl rfl (hb hby d1_19)) ?_
        show gO (tF s₁ m 20 (la3 o0 2 (4611686018427387904 : UInt64) 4) [(.int e_3)])
        by_cases hc20_17 : (0 : Int32) < e_3
        · skip
          refine gob (fun _ k => XS.ifNo X0.here hx rfl (hb hby d1_20) rfl ((if0 _ _).trans (tlt hc20_17).2.2.2) k) ?_
          show gO (tF s₁ m 23 (la3 o0 2 (4611686018427387904 : UInt64) 4) [])
          refine gob (fun _ k => XS.iinc X0.here hx rfl (hb hby d1_23) rfl (l' := (la3 o0 3 (4611686018427387904 : UInt64) 4)) rfl k) ?_
          show gO (tF s₁ m 26 (la3 o0 3 (4611686018427387904 : UInt64) 4) [])
          refine gob (fun _ k => XS.dloadN X0.here hx rfl (hb hby d1_26) rfl k) ?_
          show gO (tF s₁ m 27 (la3 o0 3 (4611686018427387904 : UInt64) 4) [(.double (4611686018427387904 : UInt64))])
          refine gob (fun _ k => XS.iloadN X0.here hx rfl (hb hby d1_27) rfl k) ?_
          show gO (tF s₁ m 28 (la3 o0 3 (4611686018427387904 : UInt64) 4) [(.int 3), (.double (4611686018427387904 : UInt64))])
          refine gob (fun _ k => XS.i2dS X0.here hx rfl (hb hby d1_28) rfl (v := (4613937818241073152 : UInt64)) (by decide +kernel) k) ?_
          show gO (tF s₁ m 29 (la3 o0 3 (4611686018427387904 : UInt64) 4) [(.double (4613937818241073152 : UInt64)), (.double (4611686018427387904 : UInt64))])
          refine gob (fun _ k => XS.iload X0.here hx rfl (hb hby d1_29) rfl k) ?_
          show gO (tF s₁ m 31 (la3 o0 3 (4611686018427387904 : UInt64) 4) [(.int 4), (.double (4613937818241073152 : UInt64)), (.double (4611686018427387904 : UInt64))])
          refine gob (fun _ k => XS.i2dS X0.here hx rfl (hb hby d1_31) rfl (v := (4616189618054758400 : UInt64)) (by decide +kernel) k) ?_
          show gO (tF s₁ m 32 (la3 o0 3 (4611686018427387904 : UInt64) 4) [(.double (4616189618054758400 : UInt64)), (.double (4613937818241073152 : UInt64)), (.double (4611686018427387904 : UInt64))])
          refine gob (fun _ k => XS.ddivS X0.here hx rfl (hb hby d1_32) rfl (v := (4604930618986332160 : UInt64)) (by unfold Jvm.Free.Fl.NoNaN64; decide +kernel) (by decide +kernel) k) ?_
          show gO (tF s₁ m 33 (la3 o0 3 (4611686018427387904 : UInt64) 4) [(.double (4604930618986332160 : UInt64)), (.double (4611686018427387904 : UInt64))])
          refine gob (fun _ k => XS.daddS X0.here hx rfl (hb hby d1_33) rfl (v := (4613374868287651840 : UInt64)) (by unfold Jvm.Free.Fl.NoNaN64; decide +kernel) (by decide +kernel) k) ?_
          show gO (tF s₁ m 34 (la3 o0 3 (4611686018427387904 : UInt64) 4) [(.double (4613374868287651840 : UInt64))])
          refine gob (fun _ k => XS.dstoreN X0.here hx rfl (hb hby d1_34) rfl (l' := (la3 o0 3 (4613374868287651840 : UInt64) 4)) rfl k) ?_
          show gO (tF s₁ m 35 (la3 o0 3 (4613374868287651840 : UInt64) 4) [])
          refine gob (fun _ k => XS.iinc X0.here hx rfl (hb hby d1_35) rfl (l' := (la3 o0 3 (4613374868287651840 : UInt64) 5)) rfl k) ?_
          show gO (tF s₁ m 38 (la3 o0 3 (4613374868287651840 : UInt64) 5) [])
          refine gob (fun _ k => XS.goto X0.here hx rfl (pc0 := 38) (pc' := 7) rfl (hb hby d1_38) (by decide) (by decide) k) ?_
          show gO (tF s₁ m 7 (la3 o0 3 (4613374868287651840 : UInt64) 5) [])
          refine gob (fun _ k => XS.iload X0.here hx rfl (hb hby d1_7) rfl k) ?_
          show gO (tF s₁ m 9 (la3 o0 3 (4613374868287651840 : UInt64) 5) [(.int 5)])
          refine gob (fun _ k => XS.aloadN X0.here hx rfl (hb hby d1_9) rfl rfl k) ?_
          show gO (tF s₁ m 10 (la3 o0 3 (4613374868287651840 : UInt64) 5) [(.ref o0), (.int 5)])
          obtain ⟨cl18, Ar18, aq18, S18, N18, H18, G18⟩ := id V_a
          refine gob (X0.arraylength hx (by rw [e0]; exact Ar18.1) (State.isArrayOf_alike hZ.alike Ar18.2.1) (g := (mkF m 10 (la3 o0 3 (4613374868287651840 : UInt64) 5) [(.ref o0), (.int 5)])) rfl rfl (hb hby d1_10)) ?_
          rw [len_of S18 N18]
          show gO (tF s₁ m 11 (la3 o0 3 (4613374868287651840 : UInt64) 5) [(.int 4), (.int 5)])
          refine gob (fun _ k => XS.icmpYes X0.here hx rfl (pc0 := 11) (pc' := 41) rfl (hb hby d1_11) rfl (tlt (by decide : (4 : Int32) < (5 : Int32))).2.2.1 (by decide) (by decide) k) ?_
          show gO (tF s₁ m 41 (la3 o0 3 (4613374868287651840 : UInt64) 5) [])
          refine gob (fun _ k => XS.iloadN X0.here hx rfl (hb hby d1_41) rfl k) ?_
          show gO (tF s₁ m 42 (la3 o0 3 (4613374868287651840 : UInt64) 5) [(.int 3)])
          refine gob (fun _ k => XS.ifYes X0.here hx rfl (pc0 := 42) (pc' := 49) rfl (hb hby d1_42) rfl ((if0 _ _).trans (feq (by decide : ¬ ((3 : Int32) = (0 : Int32)))).2) (by decide) (by decide) k) ?_
          show gO (tF s₁ m 49 (la3 o0 3 (4613374868287651840 : UInt64) 5) [])
          refine gob (fun _ k => XS.dloadN X0.here hx rfl (hb hby d1_49) rfl k) ?_
          show gO (tF s₁ m 50 (la3 o0 3 (4613374868287651840 : UInt64) 5) [(.double (4613374868287651840 : UInt64))])
          refine gob (fun _ k => XS.iloadN X0.here hx rfl (hb hby d1_50) rfl k) ?_
          show gO (tF s₁ m 51 (la3 o0 3 (4613374868287651840 : UInt64) 5) [(.int 3), (.double (4613374868287651840 : UInt64))])
          refine gob (fun _ k => XS.i2dS X0.here hx rfl (hb hby d1_51) rfl (v := (4613937818241073152 : UInt64)) (by decide +kernel) k) ?_
          show gO (tF s₁ m 52 (la3 o0 3 (4613374868287651840 : UInt64) 5) [(.double (4613937818241073152 : UInt64)), (.double (4613374868287651840 : UInt64))])
          refine gob (fun _ k => XS.ddivS X0.here hx rfl (hb hby d1_52) rfl (v := (4606431818862122325 : UInt64)) (by unfold Jvm.Free.Fl.NoNaN64; decide +kernel) (by decide +kernel) k) ?_
          show gO (tF s₁ m 53 (la3 o0 3 (4613374868287651840 : UInt64) 5) [(.double (4606431818862122325 : UInt64))])
          refine goD X0 hx hlk Bd.returns (hb hby d1_53) ?_ (by decide) (by decide)
          show Qap4 Z o0 k_a e_0 e_1 e_2 e_3 h0 n0 (some (.double (4606431818862122325 : UInt64))) s₁.heap _
          exact ⟨(4606431818862122325 : UInt64), rfl, (Or.inr (Or.inr (Or.inl ⟨hc20_3, hc20_6, hc20_9, hc20_17, rfl⟩))), N0, e0⟩
        · skip
          refine gob (fun _ k => XS.ifYes X0.here hx rfl (pc0 := 20) (pc' := 35) rfl (hb hby d1_20) rfl ((if0 _ _).trans (flt hc20_17).2.2.2) (by decide) (by decide) k) ?_
          show gO (tF s₁ m 35 (la3 o0 2 (4611686018427387904 : UInt64) 4) [])
          refine gob (fun _ k => XS.iinc X0.here hx rfl (hb hby d1_35) rfl (l' := (la3 o0 2 (4611686018427387904 : UInt64) 5)) rfl k) ?_
          show gO (tF s₁ m 38 (la3 o0 2 (4611686018427387904 : UInt64) 5) [])
          refine gob (fun _ k => XS.goto X0.here hx rfl (pc0 := 38) (pc' := 7) rfl (hb hby d1_38) (by decide) (by decide) k) ?_
          show gO (tF s₁ m 7 (la3 o0 2 (4611686018427387904 : UInt64) 5) [])
          refine gob (fun _ k => XS.iload X0.here hx rfl (hb hby d1_7) rfl k) ?_
          show gO (tF s₁ m 9 (la3 o0 2 (4611686018427387904 : UInt64) 5) [(.int 5)])
          refine gob (fun _ k => XS.aloadN X0.here hx rfl (hb hby d1_9) rfl rfl k) ?_
          show gO (tF s₁ m 10 (la3 o0 2 (4611686018427387904 : UInt64) 5) [(.ref o0), (.int 5)])
          obtain ⟨cl19, Ar19, aq19, S19, N19, H19, G19⟩ := id V_a
          refine gob (X0.arraylength hx (by rw [e0]; exact Ar19.1) (State.isArrayOf_alike hZ.alike Ar19.2.1) (g := (mkF m 10 (la3 o0 2 (4611686018427387904 : UInt64) 5) [(.ref o0), (.int 5)])) rfl rfl (hb hby d1_10)) ?_
          rw [len_of S19 N19]
          show gO (tF s₁ m 11 (la3 o0 2 (4611686018427387904 : UInt64) 5) [(.int 4), (.int 5)])
          refine gob (fun _ k => XS.icmpYes X0.here hx rfl (pc0 := 11) (pc' := 41) rfl (hb hby d1_11) rfl (tlt (by decide : (4 : Int32) < (5 : Int32))).2.2.1 (by decide) (by decide) k) ?_
          show gO (tF s₁ m 41 (la3 o0 2 (4611686018427387904 : UInt64) 5) [])
          refine gob (fun _ k => XS.iloadN X0.here hx rfl (hb hby d1_41) rfl k) ?_
          show gO (tF s₁ m 42 (la3 o0 2 (4611686018427387904 : UInt64) 5) [(.int 2)])
          refine gob (fun _ k => XS.ifYes X0.here hx rfl (pc0 := 42) (pc' := 49) rfl (hb hby d1_42) rfl ((if0 _ _).trans (feq (by decide : ¬ ((2 : Int32) = (0 : Int32)))).2) (by decide) (by decide) k) ?_
          show gO (tF s₁ m 49 (la3 o0 2 (4611686018427387904 : UInt64) 5) [])
          refine gob (fun _ k => XS.dloadN X0.here hx rfl (hb hby d1_49) rfl k) ?_
          show gO (tF s₁ m 50 (la3 o0 2 (4611686018427387904 : UInt64) 5) [(.double (4611686018427387904 : UInt64))])
          refine gob (fun _ k => XS.iloadN X0.here hx rfl (hb hby d1_50) rfl k) ?_
          show gO (tF s₁ m 51 (la3 o0 2 (4611686018427387904 : UInt64) 5) [(.int 2), (.double (4611686018427387904 : UInt64))])
          refine gob (fun _ k => XS.i2dS X0.here hx rfl (hb hby d1_51) rfl (v := (4611686018427387904 : UInt64)) (by decide +kernel) k) ?_
          show gO (tF s₁ m 52 (la3 o0 2 (4611686018427387904 : UInt64) 5) [(.double (4611686018427387904 : UInt64)), (.double (4611686018427387904 : UInt64))])
          refine gob (fun _ k => XS.ddivS X0.here hx rfl (hb hby d1_52) rfl (v := (4607182418800017408 : UInt64)) (by unfold Jvm.Free.Fl.NoNaN64; decide +kernel) (by decide +kernel) k) ?_
          show gO (tF s₁ m 53 (la3 o0 2 (4611686018427387904 : UInt64) 5) [(.double (4607182418800017408 : UInt64))])
          refine goD X0 hx hlk Bd.returns (hb hby d1_53) ?_ (by decide) (by decide)
          show Qap4 Z o0 k_a e_0 e_1 e_2 e_3 h0 n0 (some (.double (4607182418800017408 : UInt64))) s₁.heap _
          exact ⟨(4607182418800017408 : UInt64), rfl, (Or.inr (Or.inr (Or.inr (Or.inl ⟨hc20_3, hc20_6, hc20_9, hc20_17, rfl⟩)))), N0, e0⟩
    · skip
      refine gob (fun _ k => XS.ifYes X0.here hx rfl (pc0 := 20) (pc' := 35) rfl (hb hby d1_20) rfl ((if0 _ _).trans (flt hc20_6).2.2.2) (by decide) (by decide) k) ?_
      show gO (tF s₁ m 35 (la3 o0 1 (4607182418800017408 : UInt64) 2) [])
      refine gob (fun _ k => XS.iinc X0.here hx rfl (hb hby d1_35) rfl (l' := (la3 o0 1 (4607182418800017408 : UInt64) 3)) rfl k) ?_
      show gO (tF s₁ m 38 (la3 o0 1 (4607182418800017408 : UInt64) 3) [])
      refine gob (fun _ k => XS.goto X0.here hx rfl (pc0 := 38) (pc' := 7) rfl (hb hby d1_38) (by decide) (by decide) k) ?_
      show gO (tF s₁ m 7 (la3 o0 1 (4607182418800017408 : UInt64) 3) [])
      refine gob (fun _ k => XS.iload X0.here hx rfl (hb hby d1_7) rfl k) ?_
      show gO (tF s₁ m 9 (la3 o0 1 (4607182418800017408 : UInt64) 3) [(.int 3)])
      refine gob (fun _ k => XS.aloadN X0.here hx rfl (hb hby d1_9) rfl rfl k) ?_
      show gO (tF s₁ m 10 (la3 o0 1 (4607182418800017408 : UInt64) 3) [(.ref o0), (.int 3)])
      obtain ⟨cl20, Ar20, aq20, S20, N20, H20, G20⟩ := id V_a
      refine gob (X0.arraylength hx (by rw [e0]; exact Ar20.1) (State.isArrayOf_alike hZ.alike Ar20.2.1) (g := (mkF m 10 (la3 o0 1 (4607182418800017408 : UInt64) 3) [(.ref o0), (.int 3)])) rfl rfl (hb hby d1_10)) ?_
      rw [len_of S20 N20]
      show gO (tF s₁ m 11 (la3 o0 1 (4607182418800017408 : UInt64) 3) [(.int 4), (.int 3)])
      refine gob (fun _ k => XS.icmpNo X0.here hx rfl (hb hby d1_11) rfl (flt (by decide : ¬ ((4 : Int32) < (3 : Int32)))).2.2.1 k) ?_
      show gO (tF s₁ m 14 (la3 o0 1 (4607182418800017408 : UInt64) 3) [])
      refine gob (fun _ k => XS.aloadN X0.here hx rfl (hb hby d1_14) rfl rfl k) ?_
      show gO (tF s₁ m 15 (la3 o0 1 (4607182418800017408 : UInt64) 3) [(.ref o0)])
      refine gob (fun _ k => XS.iload X0.here hx rfl (hb hby d1_15) rfl k) ?_
      show gO (tF s₁ m 17 (la3 o0 1 (4607182418800017408 : UInt64) 3) [(.int 3), (.ref o0)])
      refine gob (fun _ k => XS.iconst X0.here hx rfl (hb hby d1_17) k) ?_
      show gO (tF s₁ m 18 (la3 o0 1 (4607182418800017408 : UInt64) 3) [(.int 1), (.int 3), (.ref o0)])
      refine gob (fun _ k => XS.isub X0.here hx rfl (hb hby d1_18) rfl k) ?_
      show gO (tF s₁ m 19 (la3 o0 1 (4607182418800017408 : UInt64) 3) [(.int 2), (.ref o0)])
      obtain ⟨cl21, Ar21, aq21, S21, N21, H21, G21⟩ := id V_a
      have hin21 : ¬ ((2 : Int32) < 0 ∨ cl21.slots.size ≤ ((2 : Int32)).toNatClampNeg) := inb_of S21 ⟨by decide, by decide⟩
      refine gob (X0.iaload hx (j := (2 : Int32)) (v := (.int e_2)) (by rw [e0]; exact Ar21.1) (State.isArrayOf_alike hZ.alike Ar21.2.1) Ar21.2.2 hin21 (Has.at H21 hin21 rfl) (g := (mkF m 19 (la3 o0 1 (4607182418800017408 : UInt64) 3) [(.int 2), (.ref o0)])) rfl rfl (hb hby d1_19)) ?_
      show gO (tF s₁ m 20 (la3 o0 1 (4607182418800017408 : UInt64) 3) [(.int e_2)])
      by_cases hc20_22 : (0 : Int32) < e_2
      · skip
        refine gob (fun _ k => XS.ifNo X0.here hx rfl (hb hby d1_20) rfl ((if0 _ _).trans (tlt hc20_22).2.2.2) k) ?_
        show gO (tF s₁ m 23 (la3 o0 1 (4607182418800017408 : UInt64) 3) [])
        refine gob (fun _ k => XS.iinc X0.here hx rfl (hb hby d1_23) rfl (l' := (la3 o0 2 (4607182418800017408 : UInt64) 3)) rfl k) ?_
        show gO (tF s₁ m 26 (la3 o0 2 (4607182418800017408 : UInt64) 3) [])
        refine gob (fun _ k => XS.dloadN X0.here hx rfl (hb hby d1_26) rfl k) ?_
        show gO (tF s₁ m 27 (la3 o0 2 (4607182418800017408 : UInt64) 3) [(.double (4607182418800017408 : UInt64))])
        refine gob (fun _ k => XS.iloadN X0.here hx rfl (hb hby d1_27) rfl k) ?_
        show gO (tF s₁ m 28 (la3 o0 2 (4607182418800017408 : UInt64) 3) [(.int 2), (.double (4607182418800017408 : UInt64))])
        refine gob (fun _ k => XS.i2dS X0.here hx rfl (hb hby d1_28) rfl (v := (4611686018427387904 : UInt64)) (by decide +kernel) k) ?_
        show gO (tF s₁ m 29 (la3 o0 2 (4607182418800017408 : UInt64) 3) [(.double (4611686018427387904 : UInt64)), (.double (4607182418800017408 : UInt64))])
        refine gob (fun _ k => XS.iload X0.here hx rfl (hb hby d1_29) rfl k) ?_
        show gO (tF s₁ m 31 (la3 o0 2 (4607182418800017408 : UInt64) 3) [(.int 3), (.double (4611686018427387904 : UInt64)), (.double (4607182418800017408 : UInt64))])
        refine gob (fun _ k => XS.i2dS X0.here hx rfl (hb hby d1_31) rfl (v := (4613937818241073152 : UInt64)) (by decide +kernel) k) ?_
        show gO (tF s₁ m 32 (la3 o0 2 (4607182418800017408 : UInt64) 3) [(.double (4613937818241073152 : UInt64)), (.double (4611686018427387904 : UInt64)), (.double (4607182418800017408 : UInt64))])
        refine gob (fun _ k => XS.ddivS X0.here hx rfl (hb hby d1_32) rfl (v := (4604180019048437077 : UInt64)) (by unfold Jvm.Free.Fl.NoNaN64; decide +kernel) (by decide +kernel) k) ?_
        show gO (tF s₁ m 33 (la3 o0 2 (4607182418800017408 : UInt64) 3) [(.double (4604180019048437077 : UInt64)), (.double (4607182418800017408 : UInt64))])
        refine gob (fun _ k => XS.daddS X0.here hx rfl (hb hby d1_33) rfl (v := (4610184818551597738 : UInt64)) (by unfold Jvm.Free.Fl.NoNaN64; decide +kernel) (by decide +kernel) k) ?_
        show gO (tF s₁ m 34 (la3 o0 2 (4607182418800017408 : UInt64) 3) [(.double (4610184818551597738 : UInt64))])
        refine gob (fun _ k => XS.dstoreN X0.here hx rfl (hb hby d1_34) rfl (l' := (la3 o0 2 (4610184818551597738 : UInt64) 3)) rfl k) ?_
        show gO (tF s₁ m 35 (la3 o0 2 (4610184818551597738 : UInt64) 3) [])
        refine gob (fun _ k => XS.iinc X0.here hx rfl (hb hby d1_35) rfl (l' := (la3 o0 2 (4610184818551597738 : UInt64) 4)) rfl k) ?_
        show gO (tF s₁ m 38 (la3 o0 2 (4610184818551597738 : UInt64) 4) [])
        refine gob (fun _ k => XS.goto X0.here hx rfl (pc0 := 38) (pc' := 7) rfl (hb hby d1_38) (by decide) (by decide) k) ?_
        show gO (tF s₁ m 7 (la3 o0 2 (4610184818551597738 : UInt64) 4) [])
        refine gob (fun _ k => XS.iload X0.here hx rfl (hb hby d1_7) rfl k) ?_
        show gO (tF s₁ m 9 (la3 o0 2 (4610184818551597738 : UInt64) 4) [(.int 4)])
        refine gob (fun _ k => XS.aloadN X0.here hx rfl (hb hby d1_9) rfl rfl k) ?_
        show gO (tF s₁ m 10 (la3 o0 2 (4610184818551597738 : UInt64) 4) [(.ref o0), (.int 4)])
        obtain ⟨cl23, Ar23, aq23, S23, N23, H23, G23⟩ := id V_a
        refine gob (X0.arraylength hx (by rw [e0]; exact Ar23.1) (State.isArrayOf_alike hZ.alike Ar23.2.1) (g := (mkF m 10 (la3 o0 2 (4610184818551597738 : UInt64) 4) [(.ref o0), (.int 4)])) rfl rfl (hb hby d1_10)) ?_
        rw [len_of S23 N23]
        show gO (tF s₁ m 11 (la3 o0 2 (4610184818551597738 : UInt64) 4) [(.int 4), (.int 4)])
        refine gob (fun _ k => XS.icmpNo X0.here hx rfl (hb hby d1_11) rfl (flt (by decide : ¬ ((4 : Int32) < (4 : Int32)))).2.2.1 k) ?_
        show gO (tF s₁ m 14 (la3 o0 2 (4610184818551597738 : UInt64) 4) [])
        refine gob (fun _ k => XS.aloadN X0.here hx rfl (hb hby d1_14) rfl rfl k) ?_
        show gO (tF s₁ m 15 (la3 o0 2 (4610184818551597738 : UInt64) 4) [(.ref o0)])
        refine gob (fun _ k => XS.iload X0.here hx rfl (hb hby d1_15) rfl k) ?_
        show gO (tF s₁ m 17 (la3 o0 2 (4610184818551597738 : UInt64) 4) [(.int 4), (.ref o0)])
        refine gob (fun _ k => XS.iconst X0.here hx rfl (hb hby d1_17) k) ?_
        show gO (tF s₁ m 18 (la3 o0 2 (4610184818551597738 : UInt64) 4) [(.int 1), (.int 4), (.ref o0)])
        refine gob (fun _ k => XS.isub X0.here hx rfl (hb hby d1_18) rfl k) ?_
        show gO (tF s₁ m 19 (la3 o0 2 (4610184818551597738 : UInt64) 4) [(.int 3), (.ref o0)])
        obtain ⟨cl24, Ar24, aq24, S24, N24, H24, G24⟩ := id V_a
        have hin24 : ¬ ((3 : Int32) < 0 ∨ cl24.slots.size ≤ ((3 : Int32)).toNatClampNeg) := inb_of S24 ⟨by decide, by decide⟩
        refine gob (X0.iaload hx (j := (3 : Int32)) (v := (.int e_3)) (by rw [e0]; exact Ar24.1) (State.isArrayOf_alike hZ.alike Ar24.2.1) Ar24.2.2 hin24 (Has.at H24 hin24 rfl) (g := (mkF m 19 (la3 o0 2 (4610184818551597738 : UInt64) 4) [(.int 3), (.ref o0)])) rfl rfl (hb hby d1_19)) ?_
        show gO (tF s₁ m 20 (la3 o0 2 (4610184818551597738 : UInt64) 4) [(.int e_3)])
        by_cases hc20_25 : (0 : Int32) < e_3
        · skip
          refine gob (fun _ k => XS.ifNo X0.here hx rfl (hb hby d1_20) rfl ((if0 _ _).trans (tlt hc20_25).2.2.2) k) ?_
          show gO (tF s₁ m 23 (la3 o0 2 (4610184818551597738 : UInt64) 4) [])
          refine gob (fun _ k => XS.iinc X0.here hx rfl (hb hby d1_23) rfl (l' := (la3 o0 3 (4610184818551597738 : UInt64) 4)) rfl k) ?_
          show gO (tF s₁ m 26 (la3 o0 3 (4610184818551597738 : UInt64) 4) [])
          refine gob (fun _ k => XS.dloadN X0.here hx rfl (hb hby d1_26) rfl k) ?_
          show gO (tF s₁ m 27 (la3 o0 3 (4610184818551597738 : UInt64) 4) [(.double (4610184818551597738 : UInt64))])
          refine gob (fun _ k => XS.iloadN X0.here hx rfl (hb hby d1_27) rfl k) ?_
          show gO (tF s₁ m 28 (la3 o0 3 (4610184818551597738 : UInt64) 4) [(.int 3), (.double (4610184818551597738 : UInt64))])
          refine gob (fun _ k => XS.i2dS X0.here hx rfl (hb hby d1_28) rfl (v := (4613937818241073152 : UInt64)) (by decide +kernel) k) ?_
          show gO (tF s₁ m 29 (la3 o0 3 (4610184818551597738 : UInt64) 4) [(.double (4613937818241073152 : UInt64)), (.double (4610184818551597738 : UInt64))])
          refine gob (fun _ k => XS.iload X0.here hx rfl (hb hby d1_29) rfl k) ?_
          show gO (tF s₁ m 31 (la3 o0 3 (4610184818551597738 : UInt64) 4) [(.int 4), (.double (4613937818241073152 : UInt64)), (.double (4610184818551597738 : UInt64))])
          refine gob (fun _ k => XS.i2dS X0.here hx rfl (hb hby d1_31) rfl (v := (4616189618054758400 : UInt64)) (by decide +kernel) k) ?_
          show gO (tF s₁ m 32 (la3 o0 3 (4610184818551597738 : UInt64) 4) [(.double (4616189618054758400 : UInt64)), (.double (4613937818241073152 : UInt64)), (.double (4610184818551597738 : UInt64))])
          refine gob (fun _ k => XS.ddivS X0.here hx rfl (hb hby d1_32) rfl (v := (4604930618986332160 : UInt64)) (by unfold Jvm.Free.Fl.NoNaN64; decide +kernel) (by decide +kernel) k) ?_
          show gO (tF s₁ m 33 (la3 o0 3 (4610184818551597738 : UInt64) 4) [(.double (4604930618986332160 : UInt64)), (.double (4610184818551597738 : UInt64))])
          refine gob (fun _ k => XS.daddS X0.here hx rfl (hb hby d1_33) rfl (v := (4612624268349756757 : UInt64)) (by unfold Jvm.Free.Fl.NoNaN64; decide +kernel) (by decide +kernel) k) ?_
          show gO (tF s₁ m 34 (la3 o0 3 (4610184818551597738 : UInt64) 4) [(.double (4612624268349756757 : UInt64))])
          refine gob (fun _ k => XS.dstoreN X0.here hx rfl (hb hby d1_34) rfl (l' := (la3 o0 3 (4612624268349756757 : UInt64) 4)) rfl k) ?_
          show gO (tF s₁ m 35 (la3 o0 3 (4612624268349756757 : UInt64) 4) [])
          refine gob (fun _ k => XS.iinc X0.here hx rfl (hb hby d1_35) rfl (l' := (la3 o0 3 (4612624268349756757 : UInt64) 5)) rfl k) ?_
          show gO (tF s₁ m 38 (la3 o0 3 (4612624268349756757 : UInt64) 5) [])
          refine gob (fun _ k => XS.goto X0.here hx rfl (pc0 := 38) (pc' := 7) rfl (hb hby d1_38) (by decide) (by decide) k) ?_
          show gO (tF s₁ m 7 (la3 o0 3 (4612624268349756757 : UInt64) 5) [])
          refine gob (fun _ k => XS.iload X0.here hx rfl (hb hby d1_7) rfl k) ?_
          show gO (tF s₁ m 9 (la3 o0 3 (4612624268349756757 : UInt64) 5) [(.int 5)])
          refine gob (fun _ k => XS.aloadN X0.here hx rfl (hb hby d1_9) rfl rfl k) ?_
          show gO (tF s₁ m 10 (la3 o0 3 (4612624268349756757 : UInt64) 5) [(.ref o0), (.int 5)])
          obtain ⟨cl26, Ar26, aq26, S26, N26, H26, G26⟩ := id V_a
          refine gob (X0.arraylength hx (by rw [e0]; exact Ar26.1) (State.isArrayOf_alike hZ.alike Ar26.2.1) (g := (mkF m 10 (la3 o0 3 (4612624268349756757 : UInt64) 5) [(.ref o0), (.int 5)])) rfl rfl (hb hby d1_10)) ?_
          rw [len_of S26 N26]
          show gO (tF s₁ m 11 (la3 o0 3 (4612624268349756757 : UInt64) 5) [(.int 4), (.int 5)])
          refine gob (fun _ k => XS.icmpYes X0.here hx rfl (pc0 := 11) (pc' := 41) rfl (hb hby d1_11) rfl (tlt (by decide : (4 : Int32) < (5 : Int32))).2.2.1 (by decide) (by decide) k) ?_
          show gO (tF s₁ m 41 (la3 o0 3 (4612624268349756757 : UInt64) 5) [])
          refine gob (fun _ k => XS.iloadN X0.here hx rfl (hb hby d1_41) rfl k) ?_
          show gO (tF s₁ m 42 (la3 o0 3 (4612624268349756757 : UInt64) 5) [(.int 3)])
          refine gob (fun _ k => XS.ifYes X0.here hx rfl (pc0 := 42) (pc' := 49) rfl (hb hby d1_42) rfl ((if0 _ _).trans (feq (by decide : ¬ ((3 : Int32) = (0 : Int32)))).2) (by decide) (by decide) k) ?_
          show gO (tF s₁ m 49 (la3 o0 3 (4612624268349756757 : UInt64) 5) [])
          refine gob (fun _ k => XS.dloadN X0.here hx rfl (hb hby d1_49) rfl k) ?_
          show gO (tF s₁ m 50 (la3 o0 3 (4612624268349756757 : UInt64) 5) [(.double (4612624268349756757 : UInt64))])
          refine gob (fun _ k => XS.iloadN X0.here hx rfl (hb hby d1_50) rfl k) ?_
          show gO (tF s₁ m 51 (la3 o0 3 (4612624268349756757 : UInt64) 5) [(.int 3), (.double (4612624268349756757 : UInt64))])
          refine gob (fun _ k => XS.i2dS X0.here hx rfl (hb hby d1_51) rfl (v := (4613937818241073152 : UInt64)) (by decide +kernel) k) ?_
          show gO (tF s₁ m 52 (la3 o0 3 (4612624268349756757 : UInt64) 5) [(.double (4613937818241073152 : UInt64)), (.double (4612624268349756757 : UInt64))])
          refine gob (fun _ k => XS.ddivS X0.here hx rfl (hb hby d1_52) rfl (v := (4605431018944928881 : UInt64)) (by unfold Jvm.Free.Fl.NoNaN64; decide +kernel) (by decide +kernel) k) ?_
          show gO (tF s₁ m 53 (la3 o0 3 (4612624268349756757 : UInt64) 5) [(.double (4605431018944928881 : UInt64))])
          refine goD X0 hx hlk Bd.returns (hb hby d1_53) ?_ (by decide) (by decide)
          show Qap4 Z o0 k_a e_0 e_1 e_2 e_3 h0 n0 (some (.double (4605431018944928881 : UInt64))) s₁.heap _
          exact ⟨(4605431018944928881 : UInt64), rfl, (Or.inr (Or.inr (Or.inr (Or.inr (Or.inl ⟨hc20_3, hc20_6, hc20_22, hc20_25, rfl⟩))))), N0, e0⟩
        · skip
          refine gob (fun _ k => XS.ifYes X0.here hx rfl (pc0 := 20) (pc' := 35) rfl (hb hby d1_20) rfl ((if0 _ _).trans (flt hc20_25).2.2.2) (by decide) (by decide) k) ?_
          show gO (tF s₁ m 35 (la3 o0 2 (4610184818551597738 : UInt64) 4) [])
          refine gob (fun _ k => XS.iinc X0.here hx rfl (hb hby d1_35) rfl (l' := (la3 o0 2 (4610184818551597738 : UInt64) 5)) rfl k) ?_
          show gO (tF s₁ m 38 (la3 o0 2 (4610184818551597738 : UInt64) 5) [])
          refine gob (fun _ k => XS.goto X0.here hx rfl (pc0 := 38) (pc' := 7) rfl (hb hby d1_38) (by decide) (by decide) k) ?_
          show gO (tF s₁ m 7 (la3 o0 2 (4610184818551597738 : UInt64) 5) [])
          refine gob (fun _ k => XS.iload X0.here hx rfl (hb hby d1_7) rfl k) ?_
          show gO (tF s₁ m 9 (la3 o0 2 (4610184818551597738 : UInt64) 5) [(.int 5)])
          refine gob (fun _ k => XS.aloadN X0.here hx rfl (hb hby d1_9) rfl rfl k) ?_
          show gO (tF s₁ m 10 (la3 o0 2 (4610184818551597738 : UInt64) 5) [(.ref o0), (.int 5)])
          obtain ⟨cl27, Ar27, aq27, S27, N27, H27, G27⟩ := id V_a
          refine gob (X0.arraylength hx (by rw [e0]; exact Ar27.1) (State.isArrayOf_alike hZ.alike Ar27.2.1) (g := (mkF m 10 (la3 o0 2 (4610184818551597738 : UInt64) 5) [(.ref o0), (.int 5)])) rfl rfl (hb hby d1_10)) ?_
          rw [len_of S27 N27]
          show gO (tF s₁ m 11 (la3 o0 2 (4610184818551597738 : UInt64) 5) [(.int 4), (.int 5)])
          refine gob (fun _ k => XS.icmpYes X0.here hx rfl (pc0 := 11) (pc' := 41) rfl (hb hby d1_11) rfl (tlt (by decide : (4 : Int32) < (5 : Int32))).2.2.1 (by decide) (by decide) k) ?_
          show gO (tF s₁ m 41 (la3 o0 2 (4610184818551597738 : UInt64) 5) [])
          refine gob (fun _ k => XS.iloadN X0.here hx rfl (hb hby d1_41) rfl k) ?_
          show gO (tF s₁ m 42 (la3 o0 2 (4610184818551597738 : UInt64) 5) [(.int 2)])
          refine gob (fun _ k => XS.ifYes X0.here hx rfl (pc0 := 42) (pc' := 49) rfl (hb hby d1_42) rfl ((if0 _ _).trans (feq (by decide : ¬ ((2 : Int32) = (0 : Int32)))).2) (by decide) (by decide) k) ?_
          show gO (tF s₁ m 49 (la3 o0 2 (4610184818551597738 : UInt64) 5) [])
          refine gob (fun _ k => XS.dloadN X0.here hx rfl (hb hby d1_49) rfl k) ?_
          show gO (tF s₁ m 50 (la3 o0 2 (4610184818551597738 : UInt64) 5) [(.double (4610184818551597738 : UInt64))])
          refine gob (fun _ k => XS.iloadN X0.here hx rfl (hb hby d1_50) rfl k) ?_
          show gO (tF s₁ m 51 (la3 o0 2 (4610184818551597738 : UInt64) 5) [(.int 2), (.double (4610184818551597738 : UInt64))])
          refine gob (fun _ k => XS.i2dS X0.here hx rfl (hb hby d1_51) rfl (v := (4611686018427387904 : UInt64)) (by decide +kernel) k) ?_
          show gO (tF s₁ m 52 (la3 o0 2 (4610184818551597738 : UInt64) 5) [(.double (4611686018427387904 : UInt64)), (.double (4610184818551597738 : UInt64))])
          refine gob (fun _ k => XS.ddivS X0.here hx rfl (hb hby d1_52) rfl (v := (4605681218924227242 : UInt64)) (by unfold Jvm.Free.Fl.NoNaN64; decide +kernel) (by decide +kernel) k) ?_
          show gO (tF s₁ m 53 (la3 o0 2 (4610184818551597738 : UInt64) 5) [(.double (4605681218924227242 : UInt64))])
          refine goD X0 hx hlk Bd.returns (hb hby d1_53) ?_ (by decide) (by decide)
          show Qap4 Z o0 k_a e_0 e_1 e_2 e_3 h0 n0 (some (.double (4605681218924227242 : UInt64))) s₁.heap _
          exact ⟨(4605681218924227242 : UInt64), rfl, (Or.inr (Or.inr (Or.inr (Or.inr (Or.inr (Or.inl ⟨hc20_3, hc20_6, hc20_22, hc20_25, rfl⟩)))))), N0, e0⟩
      · skip
        refine gob (fun _ k => XS.ifYes X0.here hx rfl (pc0 := 20) (pc' := 35) rfl (hb hby d1_20) rfl ((if0 _ _).trans (flt hc20_22).2.2.2) (by decide) (by decide) k) ?_
        show gO (tF s₁ m 35 (la3 o0 1 (4607182418800017408 : UInt64) 3) [])
        refine gob (fun _ k => XS.iinc X0.here hx rfl (hb hby d1_35) rfl (l' := (la3 o0 1 (4607182418800017408 : UInt64) 4)) rfl k) ?_
        show gO (tF s₁ m 38 (la3 o0 1 (4607182418800017408 : UInt64) 4) [])
        refine gob (fun _ k => XS.goto X0.here hx rfl (pc0 := 38) (pc' := 7) rfl (hb hby d1_38) (by decide) (by decide) k) ?_
        show gO (tF s₁ m 7 (la3 o0 1 (4607182418800017408 : UInt64) 4) [])
        refine gob (fun _ k => XS.iload X0.here hx rfl (hb hby d1_7) rfl k) ?_
        show gO (tF s₁ m 9 (la3 o0 1 (4607182418800017408 : UInt64) 4) [(.int 4)])
        refine gob (fun _ k => XS.aloadN X0.here hx rfl (hb hby d1_9) rfl rfl k) ?_
        show gO (tF s₁ m 10 (la3 o0 1 (4607182418800017408 : UInt64) 4) [(.ref o0), (.int 4)])
        obtain ⟨cl28, Ar28, aq28, S28, N28, H28, G28⟩ := id V_a
        refine gob (X0.arraylength hx (by rw [e0]; exact Ar28.1) (State.isArrayOf_alike hZ.alike Ar28.2.1) (g := (mkF m 10 (la3 o0 1 (4607182418800017408 : UInt64) 4) [(.ref o0), (.int 4)])) rfl rfl (hb hby d1_10)) ?_
        rw [len_of S28 N28]
        show gO (tF s₁ m 11 (la3 o0 1 (4607182418800017408 : UInt64) 4) [(.int 4), (.int 4)])
        refine gob (fun _ k => XS.icmpNo X0.here hx rfl (hb hby d1_11) rfl (flt (by decide : ¬ ((4 : Int32) < (4 : Int32)))).2.2.1 k) ?_
        show gO (tF s₁ m 14 (la3 o0 1 (4607182418800017408 : UInt64) 4) [])
        refine gob (fun _ k => XS.aloadN X0.here hx rfl (hb hby d1_14) rfl rfl k) ?_
        show gO (tF s₁ m 15 (la3 o0 1 (4607182418800017408 : UInt64) 4) [(.ref o0)])
        refine gob (fun _ k => XS.iload X0.here hx rfl (hb hby d1_15) rfl k) ?_
        show gO (tF s₁ m 17 (la3 o0 1 (4607182418800017408 : UInt64) 4) [(.int 4), (.ref o0)])
        refine gob (fun _ k => XS.iconst X0.here hx rfl (hb hby d1_17) k) ?_
        show gO (tF s₁ m 18 (la3 o0 1 (4607182418800017408 : UInt64) 4) [(.int 1), (.int 4), (.ref o0)])
        refine gob (fun _ k => XS.isub X0.here hx rfl (hb hby d1_18) rfl k) ?_
        show gO (tF s₁ m 19 (la3 o0 1 (4607182418800017408 : UInt64) 4) [(.int 3), (.ref o0)])
        obtain ⟨cl29, Ar29, aq29, S29, N29, H29, G29⟩ := id V_a
        have hin29 : ¬ ((3 : Int32) < 0 ∨ cl29.slots.size ≤ ((3 : Int32)).toNatClampNeg) := inb_of S29 ⟨by decide, by decide⟩
        refine gob (X0.iaload hx (j := (3 : Int32)) (v := (.int e_3)) (by rw [e0]; exact Ar29.1) (State.isArrayOf_alike hZ.alike Ar29.2.1) Ar29.2.2 hin29 (Has.at H29 hin29 rfl) (g := (mkF m 19 (la3 o0 1 (4607182418800017408 : UInt64) 4) [(.int 3), (.ref o0)])) rfl rfl (hb hby d1_19)) ?_
        show gO (tF s₁ m 20 (la3 o0 1 (4607182418800017408 : UInt64) 4) [(.int e_3)])
        by_cases hc20_30 : (0 : Int32) < e_3
        · skip
          refine gob (fun _ k => XS.ifNo X0.here hx rfl (hb hby d1_20) rfl ((if0 _ _).trans (tlt hc20_30).2.2.2) k) ?_
          show gO (tF s₁ m 23 (la3 o0 1 (4607182418800017408 : UInt64) 4) [])
          refine gob (fun _ k => XS.iinc X0.here hx rfl (hb hby d1_23) rfl (l' := (la3 o0 2 (4607182418800017408 : UInt64) 4)) rfl k) ?_
          show gO (tF s₁ m 26 (la3 o0 2 (4607182418800017408 : UInt64) 4) [])
          refine gob (fun _ k => XS.dloadN X0.here hx rfl (hb hby d1_26) rfl k) ?_
          show gO (tF s₁ m 27 (la3 o0 2 (4607182418800017408 : UInt64) 4) [(.double (4607182418800017408 : UInt64))])
          refine gob (fun _ k => XS.iloadN X0.here hx rfl (hb hby d1_27) rfl k) ?_
          show gO (tF s₁ m 28 (la3 o0 2 (4607182418800017408 : UInt64) 4) [(.int 2), (.double (4607182418800017408 : UInt64))])
          refine gob (fun _ k => XS.i2dS X0.here hx rfl (hb hby d1_28) rfl (v := (4611686018427387904 : UInt64)) (by decide +kernel) k) ?_
          show gO (tF s₁ m 29 (la3 o0 2 (4607182418800017408 : UInt64) 4) [(.double (4611686018427387904 : UInt64)), (.double (4607182418800017408 : UInt64))])
          refine gob (fun _ k => XS.iload X0.here hx rfl (hb hby d1_29) rfl k) ?_
          show gO (tF s₁ m 31 (la3 o0 2 (4607182418800017408 : UInt64) 4) [(.int 4), (.double (4611686018427387904 : UInt64)), (.double (4607182418800017408 : UInt64))])
          refine gob (fun _ k => XS.i2dS X0.here hx rfl (hb hby d1_31) rfl (v := (4616189618054758400 : UInt64)) (by decide +kernel) k) ?_
          show gO (tF s₁ m 32 (la3 o0 2 (4607182418800017408 : UInt64) 4) [(.double (4616189618054758400 : UInt64)), (.double (4611686018427387904 : UInt64)), (.double (4607182418800017408 : UInt64))])
          refine gob (fun _ k => XS.ddivS X0.here hx rfl (hb hby d1_32) rfl (v := (4602678819172646912 : UInt64)) (by unfold Jvm.Free.Fl.NoNaN64; decide +kernel) (by decide +kernel) k) ?_
          show gO (tF s₁ m 33 (la3 o0 2 (4607182418800017408 : UInt64) 4) [(.double (4602678819172646912 : UInt64)), (.double (4607182418800017408 : UInt64))])
          refine gob (fun _ k => XS.daddS X0.here hx rfl (hb hby d1_33) rfl (v := (4609434218613702656 : UInt64)) (by unfold Jvm.Free.Fl.NoNaN64; decide +kernel) (by decide +kernel) k) ?_
          show gO (tF s₁ m 34 (la3 o0 2 (4607182418800017408 : UInt64) 4) [(.double (4609434218613702656 : UInt64))])
          refine gob (fun _ k => XS.dstoreN X0.here hx rfl (hb hby d1_34) rfl (l' := (la3 o0 2 (4609434218613702656 : UInt64) 4)) rfl k) ?_
          show gO (tF s₁ m 35 (la3 o0 2 (4609434218613702656 : UInt64) 4) [])
          refine gob (fun _ k => XS.iinc X0.here hx rfl (hb hby d1_35) rfl (l' := (la3 o0 2 (4609434218613702656 : UInt64) 5)) rfl k) ?_
          show gO (tF s₁ m 38 (la3 o0 2 (4609434218613702656 : UInt64) 5) [])
          refine gob (fun _ k => XS.goto X0.here hx rfl (pc0 := 38) (pc' := 7) rfl (hb hby d1_38) (by decide) (by decide) k) ?_
          show gO (tF s₁ m 7 (la3 o0 2 (4609434218613702656 : UInt64) 5) [])
          refine gob (fun _ k => XS.iload X0.here hx rfl (hb hby d1_7) rfl k) ?_
          show gO (tF s₁ m 9 (la3 o0 2 (4609434218613702656 : UInt64) 5) [(.int 5)])
          refine gob (fun _ k => XS.aloadN X0.here hx rfl (hb hby d1_9) rfl rfl k) ?_
          show gO (tF s₁ m 10 (la3 o0 2 (4609434218613702656 : UInt64) 5) [(.ref o0), (.int 5)])
          obtain ⟨cl31, Ar31, aq31, S31, N31, H31, G31⟩ := id V_a
          refine gob (X0.arraylength hx (by rw [e0]; exact Ar31.1) (State.isArrayOf_alike hZ.alike Ar31.2.1) (g := (mkF m 10 (la3 o0 2 (4609434218613702656 : UInt64) 5) [(.ref o0), (.int 5)])) rfl rfl (hb hby d1_10)) ?_
          rw [len_of S31 N31]
          show gO (tF s₁ m 11 (la3 o0 2 (4609434218613702656 : UInt64) 5) [(.int 4), (.int 5)])
          refine gob (fun _ k => XS.icmpYes X0.here hx rfl (pc0 := 11) (pc' := 41) rfl (hb hby d1_11) rfl (tlt (by decide : (4 : Int32) < (5 : Int32))).2.2.1 (by decide) (by decide) k) ?_
          show gO (tF s₁ m 41 (la3 o0 2 (4609434218613702656 : UInt64) 5) [])
          refine gob (fun _ k => XS.iloadN X0.here hx rfl (hb hby d1_41) rfl k) ?_
          show gO (tF s₁ m 42 (la3 o0 2 (4609434218613702656 : UInt64) 5) [(.int 2)])
          refine gob (fun _ k => XS.ifYes X0.here hx rfl (pc0 := 42) (pc' := 49) rfl (hb hby d1_42) rfl ((if0 _ _).trans (feq (by decide : ¬ ((2 : Int32) = (0 : Int32)))).2) (by decide) (by decide) k) ?_
          show gO (tF s₁ m 49 (la3 o0 2 (4609434218613702656 : UInt64) 5) [])
          refine gob (fun _ k => XS.dloadN X0.here hx rfl (hb hby d1_49) rfl k) ?_
          show gO (tF s₁ m 50 (la3 o0 2 (4609434218613702656 : UInt64) 5) [(.double (4609434218613702656 : UInt64))])
          refine gob (fun _ k => XS.iloadN X0.here hx rfl (hb hby d1_50) rfl k) ?_
          show gO (tF s₁ m 51 (la3 o0 2 (4609434218613702656 : UInt64) 5) [(.int 2), (.double (4609434218613702656 : UInt64))])
          refine gob (fun _ k => XS.i2dS X0.here hx rfl (hb hby d1_51) rfl (v := (4611686018427387904 : UInt64)) (by decide +kernel) k) ?_
          show gO (tF s₁ m 52 (la3 o0 2 (4609434218613702656 : UInt64) 5) [(.double (4611686018427387904 : UInt64)), (.double (4609434218613702656 : UInt64))])
          refine gob (fun _ k => XS.ddivS X0.here hx rfl (hb hby d1_52) rfl (v := (4604930618986332160 : UInt64)) (by unfold Jvm.Free.Fl.NoNaN64; decide +kernel) (by decide +kernel) k) ?_
          show gO (tF s₁ m 53 (la3 o0 2 (4609434218613702656 : UInt64) 5) [(.double (4604930618986332160 : UInt64))])
          refine goD X0 hx hlk Bd.returns (hb hby d1_53) ?_ (by decide) (by decide)
          show Qap4 Z o0 k_a e_0 e_1 e_2 e_3 h0 n0 (some (.double (4604930618986332160 : UInt64))) s₁.heap _
          exact ⟨(4604930618986332160 : UInt64), rfl, (Or.inr (Or.inr (Or.inr (Or.inr (Or.inr (Or.inr (Or.inl ⟨hc20_3, hc20_6, hc20_22, hc20_30, rfl⟩))))))), N0, e0⟩
        · skip
          refine gob (fun _ k => XS.ifYes X0.here hx rfl (pc0 := 20) (pc' := 35) rfl (hb hby d1_20) rfl ((if0 _ _).trans (flt hc20_30).2.2.2) (by decide) (by decide) k) ?_
          show gO (tF s₁ m 35 (la3 o0 1 (4607182418800017408 : UInt64) 4) [])
          refine gob (fun _ k => XS.iinc X0.here hx rfl (hb hby d1_35) rfl (l' := (la3 o0 1 (4607182418800017408 : UInt64) 5)) rfl k) ?_
          show gO (tF s₁ m 38 (la3 o0 1 (4607182418800017408 : UInt64) 5) [])
          refine gob (fun _ k => XS.goto X0.here hx rfl (pc0 := 38) (pc' := 7) rfl (hb hby d1_38) (by decide) (by decide) k) ?_
          show gO (tF s₁ m 7 (la3 o0 1 (4607182418800017408 : UInt64) 5) [])
          refine gob (fun _ k => XS.iload X0.here hx rfl (hb hby d1_7) rfl k) ?_
          show gO (tF s₁ m 9 (la3 o0 1 (4607182418800017408 : UInt64) 5) [(.int 5)])
          refine gob (fun _ k => XS.aloadN X0.here hx rfl (hb hby d1_9) rfl rfl k) ?_
          show gO (tF s₁ m 10 (la3 o0 1 (4607182418800017408 : UInt64) 5) [(.ref o0), (.int 5)])
          obtain ⟨cl32, Ar32, aq32, S32, N32, H32, G32⟩ := id V_a
          refine gob (X0.arraylength hx (by rw [e0]; exact Ar32.1) (State.isArrayOf_alike hZ.alike Ar32.2.1) (g := (mkF m 10 (la3 o0 1 (4607182418800017408 : UInt64) 5) [(.ref o0), (.int 5)])) rfl rfl (hb hby d1_10)) ?_
          rw [len_of S32 N32]
          show gO (tF s₁ m 11 (la3 o0 1 (4607182418800017408 : UInt64) 5) [(.int 4), (.int 5)])
          refine gob (fun _ k => XS.icmpYes X0.here hx rfl (pc0 := 11) (pc' := 41) rfl (hb hby d1_11) rfl (tlt (by decide : (4 : Int32) < (5 : Int32))).2.2.1 (by decide) (by decide) k) ?_
          show gO (tF s₁ m 41 (la3 o0 1 (4607182418800017408 : UInt64) 5) [])
          refine gob (fun _ k => XS.iloadN X0.here hx rfl (hb hby d1_41) rfl k) ?_
          show gO (tF s₁ m 42 (la3 o0 1 (4607182418800017408 : UInt64) 5) [(.int 1)])
          refine gob (fun _ k => XS.ifYes X0.here hx rfl (pc0 := 42) (pc' := 49) rfl (hb hby d1_42) rfl ((if0 _ _).trans (feq (by decide : ¬ ((1 : Int32) = (0 : Int32)))).2) (by decide) (by decide) k) ?_
          show gO (tF s₁ m 49 (la3 o0 1 (4607182418800017408 : UInt64) 5) [])
          refine gob (fun _ k => XS.dloadN X0.here hx rfl (hb hby d1_49) rfl k) ?_
          show gO (tF s₁ m 50 (la3 o0 1 (4607182418800017408 : UInt64) 5) [(.double (4607182418800017408 : UInt64))])
          refine gob (fun _ k => XS.iloadN X0.here hx rfl (hb hby d1_50) rfl k) ?_
          show gO (tF s₁ m 51 (la3 o0 1 (4607182418800017408 : UInt64) 5) [(.int 1), (.double (4607182418800017408 : UInt64))])
          refine gob (fun _ k => XS.i2dS X0.here hx rfl (hb hby d1_51) rfl (v := (4607182418800017408 : UInt64)) (by decide +kernel) k) ?_
          show gO (tF s₁ m 52 (la3 o0 1 (4607182418800017408 : UInt64) 5) [(.double (4607182418800017408 : UInt64)), (.double (4607182418800017408 : UInt64))])
          refine gob (fun _ k => XS.ddivS X0.here hx rfl (hb hby d1_52) rfl (v := (4607182418800017408 : UInt64)) (by unfold Jvm.Free.Fl.NoNaN64; decide +kernel) (by decide +kernel) k) ?_
          show gO (tF s₁ m 53 (la3 o0 1 (4607182418800017408 : UInt64) 5) [(.double (4607182418800017408 : UInt64))])
          refine goD X0 hx hlk Bd.returns (hb hby d1_53) ?_ (by decide) (by decide)
          show Qap4 Z o0 k_a e_0 e_1 e_2 e_3 h0 n0 (some (.double (4607182418800017408 : UInt64))) s₁.heap _
          exact ⟨(4607182418800017408 : UInt64), rfl, (Or.inr (Or.inr (Or.inr (Or.inr (Or.inr (Or.inr (Or.inr (Or.inl ⟨hc20_3, hc20_6, hc20_22, hc20_30, rfl⟩)))))))), N0, e0⟩
  · skip
    refine gob (fun _ k => XS.ifYes X0.here hx rfl (pc0 := 20) (pc' := 35) rfl (hb hby d1_20) rfl ((if0 _ _).trans (flt hc20_3).2.2.2) (by decide) (by decide) k) ?_
    show gO (tF s₁ m 35 (la3 o0 0 (0 : UInt64) 1) [])
    refine gob (fun _ k => XS.iinc X0.here hx rfl (hb hby d1_35) rfl (l' := (la3 o0 0 (0 : UInt64) 2)) rfl k) ?_
    show gO (tF s₁ m 38 (la3 o0 0 (0 : UInt64) 2) [])
    refine gob (fun _ k => XS.goto X0.here hx rfl (pc0 := 38) (pc' := 7) rfl (hb hby d1_38) (by decide) (by decide) k) ?_
    show gO (tF s₁ m 7 (la3 o0 0 (0 : UInt64) 2) [])
    refine gob (fun _ k => XS.iload X0.here hx rfl (hb hby d1_7) rfl k) ?_
    show gO (tF s₁ m 9 (la3 o0 0 (0 : UInt64) 2) [(.int 2)])
    refine gob (fun _ k => XS.aloadN X0.here hx rfl (hb hby d1_9) rfl rfl k) ?_
    show gO (tF s₁ m 10 (la3 o0 0 (0 : UInt64) 2) [(.ref o0), (.int 2)])
    obtain ⟨cl33, Ar33, aq33, S33, N33, H33, G33⟩ := id V_a
    refine gob (X0.arraylength hx (by rw [e0]; exact Ar33.1) (State.isArrayOf_alike hZ.alike Ar33.2.1) (g := (mkF m 10 (la3 o0 0 (0 : UInt64) 2) [(.ref o0), (.int 2)])) rfl rfl (hb hby d1_10)) ?_
    rw [len_of S33 N33]
    show gO (tF s₁ m 11 (la3 o0 0 (0 : UInt64) 2) [(.int 4), (.int 2)])
    refine gob (fun _ k => XS.icmpNo X0.here hx rfl (hb hby d1_11) rfl (flt (by decide : ¬ ((4 : Int32) < (2 : Int32)))).2.2.1 k) ?_
    show gO (tF s₁ m 14 (la3 o0 0 (0 : UInt64) 2) [])
    refine gob (fun _ k => XS.aloadN X0.here hx rfl (hb hby d1_14) rfl rfl k) ?_
    show gO (tF s₁ m 15 (la3 o0 0 (0 : UInt64) 2) [(.ref o0)])
    refine gob (fun _ k => XS.iload X0.here hx rfl (hb hby d1_15) rfl k) ?_
    show gO (tF s₁ m 17 (la3 o0 0 (0 : UInt64) 2) [(.int 2), (.ref o0)])
    refine gob (fun _ k => XS.iconst X0.here hx rfl (hb hby d1_17) k) ?_
    show gO (tF s₁ m 18 (la3 o0 0 (0 : UInt64) 2) [(.int 1), (.int 2), (.ref o0)])
    refine gob (fun _ k => XS.isub X0.here hx rfl (hb hby d1_18) rfl k) ?_
    show gO (tF s₁ m 19 (la3 o0 0 (0 : UInt64) 2) [(.int 1), (.ref o0)])
    obtain ⟨cl34, Ar34, aq34, S34, N34, H34, G34⟩ := id V_a
    have hin34 : ¬ ((1 : Int32) < 0 ∨ cl34.slots.size ≤ ((1 : Int32)).toNatClampNeg) := inb_of S34 ⟨by decide, by decide⟩
    refine gob (X0.iaload hx (j := (1 : Int32)) (v := (.int e_1)) (by rw [e0]; exact Ar34.1) (State.isArrayOf_alike hZ.alike Ar34.2.1) Ar34.2.2 hin34 (Has.at H34 hin34 rfl) (g := (mkF m 19 (la3 o0 0 (0 : UInt64) 2) [(.int 1), (.ref o0)])) rfl rfl (hb hby d1_19)) ?_
    show gO (tF s₁ m 20 (la3 o0 0 (0 : UInt64) 2) [(.int e_1)])
    by_cases hc20_35 : (0 : Int32) < e_1
    · skip
      refine gob (fun _ k => XS.ifNo X0.here hx rfl (hb hby d1_20) rfl ((if0 _ _).trans (tlt hc20_35).2.2.2) k) ?_
      show gO (tF s₁ m 23 (la3 o0 0 (0 : UInt64) 2) [])
      refine gob (fun _ k => XS.iinc X0.here hx rfl (hb hby d1_23) rfl (l' := (la3 o0 1 (0 : UInt64) 2)) rfl k) ?_
      show gO (tF s₁ m 26 (la3 o0 1 (0 : UInt64) 2) [])
      refine gob (fun _ k => XS.dloadN X0.here hx rfl (hb hby d1_26) rfl k) ?_
      show gO (tF s₁ m 27 (la3 o0 1 (0 : UInt64) 2) [(.double (0 : UInt64))])
      refine gob (fun _ k => XS.iloadN X0.here hx rfl (hb hby d1_27) rfl k) ?_
      show gO (tF s₁ m 28 (la3 o0 1 (0 : UInt64) 2) [(.int 1), (.double (0 : UInt64))])
      refine gob (fun _ k => XS.i2dS X0.here hx rfl (hb hby d1_28) rfl (v := (4607182418800017408 : UInt64)) (by decide +kernel) k) ?_
      show gO (tF s₁ m 29 (la3 o0 1 (0 : UInt64) 2) [(.double (4607182418800017408 : UInt64)), (.double (0 : UInt64))])
      refine gob (fun _ k => XS.iload X0.here hx rfl (hb hby d1_29) rfl k) ?_
      show gO (tF s₁ m 31 (la3 o0 1 (0 : UInt64) 2) [(.int 2), (.double (4607182418800017408 : UInt64)), (.double (0 : UInt64))])
      refine gob (fun _ k => XS.i2dS X0.here hx rfl (hb hby d1_31) rfl (v := (4611686018427387904 : UInt64)) (by decide +kernel) k) ?_
      show gO (tF s₁ m 32 (la3 o0 1 (0 : UInt64) 2) [(.double (4611686018427387904 : UInt64)), (.double (4607182418800017408 : UInt64)), (.double (0 : UInt64))])
      refine gob (fun _ k => XS.ddivS X0.here hx rfl (hb hby d1_32) rfl (v := (4602678819172646912 : UInt64)) (by unfold Jvm.Free.Fl.NoNaN64; decide +kernel) (by decide +kernel) k) ?_
      show gO (tF s₁ m 33 (la3 o0 1 (0 : UInt64) 2) [(.double (4602678819172646912 : UInt64)), (.double (0 : UInt64))])
      refine gob (fun _ k => XS.daddS X0.here hx rfl (hb hby d1_33) rfl (v := (4602678819172646912 : UInt64)) (by unfold Jvm.Free.Fl.NoNaN64; decide +kernel) (by decide +kernel) k) ?_
      show gO (tF s₁ m 34 (la3 o0 1 (0 : UInt64) 2) [(.double (4602678819172646912 : UInt64))])
      refine gob (fun _ k => XS.dstoreN X0.here hx rfl (hb hby d1_34) rfl (l' := (la3 o0 1 (4602678819172646912 : UInt64) 2)) rfl k) ?_
      show gO (tF s₁ m 35 (la3 o0 1 (4602678819172646912 : UInt64) 2) [])
      refine gob (fun _ k => XS.iinc X0.here hx rfl (hb hby d1_35) rfl (l' := (la3 o0 1 (4602678819172646912 : UInt64) 3)) rfl k) ?_
      show gO (tF s₁ m 38 (la3 o0 1 (4602678819172646912 : UInt64) 3) [])
      refine gob (fun _ k => XS.goto X0.here hx rfl (pc0 := 38) (pc' := 7) rfl (hb hby d1_38) (by decide) (by decide) k) ?_
      show gO (tF s₁ m 7 (la3 o0 1 (4602678819172646912 : UInt64) 3) [])
      refine gob (fun _ k => XS.iload X0.here hx rfl (hb hby d1_7) rfl k) ?_
      show gO (tF s₁ m 9 (la3 o0 1 (4602678819172646912 : UInt64) 3) [(.int 3)])
      refine gob (fun _ k => XS.aloadN X0.here hx rfl (hb hby d1_9) rfl rfl k) ?_
      show gO (tF s₁ m 10 (la3 o0 1 (4602678819172646912 : UInt64) 3) [(.ref o0), (.int 3)])
      obtain ⟨cl36, Ar36, aq36, S36, N36, H36, G36⟩ := id V_a
      refine gob (X0.arraylength hx (by rw [e0]; exact Ar36.1) (State.isArrayOf_alike hZ.alike Ar36.2.1) (g := (mkF m 10 (la3 o0 1 (4602678819172646912 : UInt64) 3) [(.ref o0), (.int 3)])) rfl rfl (hb hby d1_10)) ?_
      rw [len_of S36 N36]
      show gO (tF s₁ m 11 (la3 o0 1 (4602678819172646912 : UInt64) 3) [(.int 4), (.int 3)])
      refine gob (fun _ k => XS.icmpNo X0.here hx rfl (hb hby d1_11) rfl (flt (by decide : ¬ ((4 : Int32) < (3 : Int32)))).2.2.1 k) ?_
      show gO (tF s₁ m 14 (la3 o0 1 (4602678819172646912 : UInt64) 3) [])
      refine gob (fun _ k => XS.aloadN X0.here hx rfl (hb hby d1_14) rfl rfl k) ?_
      show gO (tF s₁ m 15 (la3 o0 1 (4602678819172646912 : UInt64) 3) [(.ref o0)])
      refine gob (fun _ k => XS.iload X0.here hx rfl (hb hby d1_15) rfl k) ?_
      show gO (tF s₁ m 17 (la3 o0 1 (4602678819172646912 : UInt64) 3) [(.int 3), (.ref o0)])
      refine gob (fun _ k => XS.iconst X0.here hx rfl (hb hby d1_17) k) ?_
      show gO (tF s₁ m 18 (la3 o0 1 (4602678819172646912 : UInt64) 3) [(.int 1), (.int 3), (.ref o0)])
      refine gob (fun _ k => XS.isub X0.here hx rfl (hb hby d1_18) rfl k) ?_
      show gO (tF s₁ m 19 (la3 o0 1 (4602678819172646912 : UInt64) 3) [(.int 2), (.ref o0)])
      obtain ⟨cl37, Ar37, aq37, S37, N37, H37, G37⟩ := id V_a
      have hin37 : ¬ ((2 : Int32) < 0 ∨ cl37.slots.size ≤ ((2 : Int32)).toNatClampNeg) := inb_of S37 ⟨by decide, by decide⟩
      refine gob (X0.iaload hx (j := (2 : Int32)) (v := (.int e_2)) (by rw [e0]; exact Ar37.1) (State.isArrayOf_alike hZ.alike Ar37.2.1) Ar37.2.2 hin37 (Has.at H37 hin37 rfl) (g := (mkF m 19 (la3 o0 1 (4602678819172646912 : UInt64) 3) [(.int 2), (.ref o0)])) rfl rfl (hb hby d1_19)) ?_
      show gO (tF s₁ m 20 (la3 o0 1 (4602678819172646912 : UInt64) 3) [(.int e_2)])
      by_cases hc20_38 : (0 : Int32) < e_2
      · skip
        refine gob (fun _ k => XS.ifNo X0.here hx rfl (hb hby d1_20) rfl ((if0 _ _).trans (tlt hc20_38).2.2.2) k) ?_
        show gO (tF s₁ m 23 (la3 o0 1 (4602678819172646912 : UInt64) 3) [])
        refine gob (fun _ k => XS.iinc X0.here hx rfl (hb hby d1_23) rfl (l' := (la3 o0 2 (4602678819172646912 : UInt64) 3)) rfl k) ?_
        show gO (tF s₁ m 26 (la3 o0 2 (4602678819172646912 : UInt64) 3) [])
        refine gob (fun _ k => XS.dloadN X0.here hx rfl (hb hby d1_26) rfl k) ?_
        show gO (tF s₁ m 27 (la3 o0 2 (4602678819172646912 : UInt64) 3) [(.double (4602678819172646912 : UInt64))])
        refine gob (fun _ k => XS.iloadN X0.here hx rfl (hb hby d1_27) rfl k) ?_
        show gO (tF s₁ m 28 (la3 o0 2 (4602678819172646912 : UInt64) 3) [(.int 2), (.double (4602678819172646912 : UInt64))])
        refine gob (fun _ k => XS.i2dS X0.here hx rfl (hb hby d1_28) rfl (v := (4611686018427387904 : UInt64)) (by decide +kernel) k) ?_
        show gO (tF s₁ m 29 (la3 o0 2 (4602678819172646912 : UInt64) 3) [(.double (4611686018427387904 : UInt64)), (.double (4602678819172646912 : UInt64))])
        refine gob (fun _ k => XS.iload X0.here hx rfl (hb hby d1_29) rfl k) ?_
        show gO (tF s₁ m 31 (la3 o0 2 (4602678819172646912 : UInt64) 3) [(.int 3), (.double (4611686018427387904 : UInt64)), (.double (4602678819172646912 : UInt64))])
        refine gob (fun _ k => XS.i2dS X0.here hx rfl (hb hby d1_31) rfl (v := (4613937818241073152 : UInt64)) (by decide +kernel) k) ?_
        show gO (tF s₁ m 32 (la3 o0 2 (4602678819172646912 : UInt64) 3) [(.double (4613937818241073152 : UInt64)), (.double (4611686018427387904 : UInt64)), (.double (4602678819172646912 : UInt64))])
        refine gob (fun _ k => XS.ddivS X0.here hx rfl (hb hby d1_32) rfl (v := (4604180019048437077 : UInt64)) (by unfold Jvm.Free.Fl.NoNaN64; decide +kernel) (by decide +kernel) k) ?_
        show gO (tF s₁ m 33 (la3 o0 2 (4602678819172646912 : UInt64) 3) [(.double (4604180019048437077 : UInt64)), (.double (4602678819172646912 : UInt64))])
        refine gob (fun _ k => XS.daddS X0.here hx rfl (hb hby d1_33) rfl (v := (4607933018737912490 : UInt64)) (by unfold Jvm.Free.Fl.NoNaN64; decide +kernel) (by decide +kernel) k) ?_
        show gO (tF s₁ m 34 (la3 o0 2 (4602678819172646912 : UInt64) 3) [(.double (4607933018737912490 : UInt64))])
        refine gob (fun _ k => XS.dstoreN X0.here hx rfl (hb hby d1_34) rfl (l' := (la3 o0 2 (4607933018737912490 : UInt64) 3)) rfl k) ?_
        show gO (tF s₁ m 35 (la3 o0 2 (4607933018737912490 : UInt64) 3) [])
        refine gob (fun _ k => XS.iinc X0.here hx rfl (hb hby d1_35) rfl (l' := (la3 o0 2 (4607933018737912490 : UInt64) 4)) rfl k) ?_
        show gO (tF s₁ m 38 (la3 o0 2 (4607933018737912490 : UInt64) 4) [])
        refine gob (fun _ k => XS.goto X0.here hx rfl (pc0 := 38) (pc' := 7) rfl (hb hby d1_38) (by decide) (by decide) k) ?_
        show gO (tF s₁ m 7 (la3 o0 2 (4607933018737912490 : UInt64) 4) [])
        refine gob (fun _ k => XS.iload X0.here hx rfl (hb hby d1_7) rfl k) ?_
        show gO (tF s₁ m 9 (la3 o0 2 (4607933018737912490 : UInt64) 4) [(.int 4)])
        refine gob (fun _ k => XS.aloadN X0.here hx rfl (hb hby d1_9) rfl rfl k) ?_
        show gO (tF s₁ m 10 (la3 o0 2 (4607933018737912490 : UInt64) 4) [(.ref o0), (.int 4)])
        obtain ⟨cl39, Ar39, aq39, S39, N39, H39, G39⟩ := id V_a
        refine gob (X0.arraylength hx (by rw [e0]; exact Ar39.1) (State.isArrayOf_alike hZ.alike Ar39.2.1) (g := (mkF m 10 (la3 o0 2 (4607933018737912490 : UInt64) 4) [(.ref o0), (.int 4)])) rfl rfl (hb hby d1_10)) ?_
        rw [len_of S39 N39]
        show gO (tF s₁ m 11 (la3 o0 2 (4607933018737912490 : UInt64) 4) [(.int 4), (.int 4)])
        refine gob (fun _ k => XS.icmpNo X0.here hx rfl (hb hby d1_11) rfl (flt (by decide : ¬ ((4 : Int32) < (4 : Int32)))).2.2.1 k) ?_
        show gO (tF s₁ m 14 (la3 o0 2 (4607933018737912490 : UInt64) 4) [])
        refine gob (fun _ k => XS.aloadN X0.here hx rfl (hb hby d1_14) rfl rfl k) ?_
        show gO (tF s₁ m 15 (la3 o0 2 (4607933018737912490 : UInt64) 4) [(.ref o0)])
        refine gob (fun _ k => XS.iload X0.here hx rfl (hb hby d1_15) rfl k) ?_
        show gO (tF s₁ m 17 (la3 o0 2 (4607933018737912490 : UInt64) 4) [(.int 4), (.ref o0)])
        refine gob (fun _ k => XS.iconst X0.here hx rfl (hb hby d1_17) k) ?_
        show gO (tF s₁ m 18 (la3 o0 2 (4607933018737912490 : UInt64) 4) [(.int 1), (.int 4), (.ref o0)])
        refine gob (fun _ k => XS.isub X0.here hx rfl (hb hby d1_18) rfl k) ?_
        show gO (tF s₁ m 19 (la3 o0 2 (4607933018737912490 : UInt64) 4) [(.int 3), (.ref o0)])
        obtain ⟨cl40, Ar40, aq40, S40, N40, H40, G40⟩ := id V_a
        have hin40 : ¬ ((3 : Int32) < 0 ∨ cl40.slots.size ≤ ((3 : Int32)).toNatClampNeg) := inb_of S40 ⟨by decide, by decide⟩
        refine gob (X0.iaload hx (j := (3 : Int32)) (v := (.int e_3)) (by rw [e0]; exact Ar40.1) (State.isArrayOf_alike hZ.alike Ar40.2.1) Ar40.2.2 hin40 (Has.at H40 hin40 rfl) (g := (mkF m 19 (la3 o0 2 (4607933018737912490 : UInt64) 4) [(.int 3), (.ref o0)])) rfl rfl (hb hby d1_19)) ?_
        show gO (tF s₁ m 20 (la3 o0 2 (4607933018737912490 : UInt64) 4) [(.int e_3)])
        by_cases hc20_41 : (0 : Int32) < e_3
        · skip
          refine gob (fun _ k => XS.ifNo X0.here hx rfl (hb hby d1_20) rfl ((if0 _ _).trans (tlt hc20_41).2.2.2) k) ?_
          show gO (tF s₁ m 23 (la3 o0 2 (4607933018737912490 : UInt64) 4) [])
          refine gob (fun _ k => XS.iinc X0.here hx rfl (hb hby d1_23) rfl (l' := (la3 o0 3 (4607933018737912490 : UInt64) 4)) rfl k) ?_
          show gO (tF s₁ m 26 (la3 o0 3 (4607933018737912490 : UInt64) 4) [])
          refine gob (fun _ k => XS.dloadN X0.here hx rfl (hb hby d1_26) rfl k) ?_
          show gO (tF s₁ m 27 (la3 o0 3 (4607933018737912490 : UInt64) 4) [(.double (4607933018737912490 : UInt64))])
          refine gob (fun _ k => XS.iloadN X0.here hx rfl (hb hby d1_27) rfl k) ?_
          show gO (tF s₁ m 28 (la3 o0 3 (4607933018737912490 : UInt64) 4) [(.int 3), (.double (4607933018737912490 : UInt64))])
          refine gob (fun _ k => XS.i2dS X0.here hx rfl (hb hby d1_28) rfl (v := (4613937818241073152 : UInt64)) (by decide +kernel) k) ?_
          show gO (tF s₁ m 29 (la3 o0 3 (4607933018737912490 : UInt64) 4) [(.double (4613937818241073152 : UInt64)), (.double (4607933018737912490 : UInt64))])
          refine gob (fun _ k => XS.iload X0.here hx rfl (hb hby d1_29) rfl k) ?_
          show gO (tF s₁ m 31 (la3 o0 3 (4607933018737912490 : UInt64) 4) [(.int 4), (.double (4613937818241073152 : UInt64)), (.double (4607933018737912490 : UInt64))])
          refine gob (fun _ k => XS.i2dS X0.here hx rfl (hb hby d1_31) rfl (v := (4616189618054758400 : UInt64)) (by decide +kernel) k) ?_
          show gO (tF s₁ m 32 (la3 o0 3 (4607933018737912490 : UInt64) 4) [(.double (4616189618054758400 : UInt64)), (.double (4613937818241073152 : UInt64)), (.double (4607933018737912490 : UInt64))])
          refine gob (fun _ k => XS.ddivS X0.here hx rfl (hb hby d1_32) rfl (v := (4604930618986332160 : UInt64)) (by unfold Jvm.Free.Fl.NoNaN64; decide +kernel) (by decide +kernel) k) ?_
          show gO (tF s₁ m 33 (la3 o0 3 (4607933018737912490 : UInt64) 4) [(.double (4604930618986332160 : UInt64)), (.double (4607933018737912490 : UInt64))])
          refine gob (fun _ k => XS.daddS X0.here hx rfl (hb hby d1_33) rfl (v := (4611310718458440362 : UInt64)) (by unfold Jvm.Free.Fl.NoNaN64; decide +kernel) (by decide +kernel) k) ?_
          show gO (tF s₁ m 34 (la3 o0 3 (4607933018737912490 : UInt64) 4) [(.double (4611310718458440362 : UInt64))])
          refine gob (fun _ k => XS.dstoreN X0.here hx rfl (hb hby d1_34) rfl (l' := (la3 o0 3 (4611310718458440362 : UInt64) 4)) rfl k) ?_
          show gO (tF s₁ m 35 (la3 o0 3 (4611310718458440362 : UInt64) 4) [])
          refine gob (fun _ k => XS.iinc X0.here hx rfl (hb hby d1_35) rfl (l' := (la3 o0 3 (4611310718458440362 : UInt64) 5)) rfl k) ?_
          show gO (tF s₁ m 38 (la3 o0 3 (4611310718458440362 : UInt64) 5) [])
          refine gob (fun _ k => XS.goto X0.here hx rfl (pc0 := 38) (pc' := 7) rfl (hb hby d1_38) (by decide) (by decide) k) ?_
          show gO (tF s₁ m 7 (la3 o0 3 (4611310718458440362 : UInt64) 5) [])
          refine gob (fun _ k => XS.iload X0.here hx rfl (hb hby d1_7) rfl k) ?_
          show gO (tF s₁ m 9 (la3 o0 3 (4611310718458440362 : UInt64) 5) [(.int 5)])
          refine gob (fun _ k => XS.aloadN X0.here hx rfl (hb hby d1_9) rfl rfl k) ?_
          show gO (tF s₁ m 10 (la3 o0 3 (4611310718458440362 : UInt64) 5) [(.ref o0), (.int 5)])
          obtain ⟨cl42, Ar42, aq42, S42, N42, H42, G42⟩ := id V_a
          refine gob (X0.arraylength hx (by rw [e0]; exact Ar42.1) (State.isArrayOf_alike hZ.alike Ar42.2.1) (g := (mkF m 10 (la3 o0 3 (4611310718458440362 : UInt64) 5) [(.ref o0), (.int 5)])) rfl rfl (hb hby d1_10)) ?_
          rw [len_of S42 N42]
          show gO (tF s₁ m 11 (la3 o0 3 (4611310718458440362 : UInt64) 5) [(.int 4), (.int 5)])
          refine gob (fun _ k => XS.icmpYes X0.here hx rfl (pc0 := 11) (pc' := 41) rfl (hb hby d1_11) rfl (tlt (by decide : (4 : Int32) < (5 : Int32))).2.2.1 (by decide) (by decide) k) ?_
          show gO (tF s₁ m 41 (la3 o0 3 (4611310718458440362 : UInt64) 5) [])
          refine gob (fun _ k => XS.iloadN X0.here hx rfl (hb hby d1_41) rfl k) ?_
          show gO (tF s₁ m 42 (la3 o0 3 (4611310718458440362 : UInt64) 5) [(.int 3)])
          refine gob (fun _ k => XS.ifYes X0.here hx rfl (pc0 := 42) (pc' := 49) rfl (hb hby d1_42) rfl ((if0 _ _).trans (feq (by decide : ¬ ((3 : Int32) = (0 : Int32)))).2) (by decide) (by decide) k) ?_
          show gO (tF s₁ m 49 (la3 o0 3 (4611310718458440362 : UInt64) 5) [])
          refine gob (fun _ k => XS.dloadN X0.here hx rfl (hb hby d1_49) rfl k) ?_
          show gO (tF s₁ m 50 (la3 o0 3 (4611310718458440362 : UInt64) 5) [(.double (4611310718458440362 : UInt64))])
          refine gob (fun _ k => XS.iloadN X0.here hx rfl (hb hby d1_50) rfl k) ?_
          show gO (tF s₁ m 51 (la3 o0 3 (4611310718458440362 : UInt64) 5) [(.int 3), (.double (4611310718458440362 : UInt64))])
          refine gob (fun _ k => XS.i2dS X0.here hx rfl (hb hby d1_51) rfl (v := (4613937818241073152 : UInt64)) (by decide +kernel) k) ?_
          show gO (tF s₁ m 52 (la3 o0 3 (4611310718458440362 : UInt64) 5) [(.double (4613937818241073152 : UInt64)), (.double (4611310718458440362 : UInt64))])
          refine gob (fun _ k => XS.ddivS X0.here hx rfl (hb hby d1_52) rfl (v := (4603929819069138716 : UInt64)) (by unfold Jvm.Free.Fl.NoNaN64; decide +kernel) (by decide +kernel) k) ?_
          show gO (tF s₁ m 53 (la3 o0 3 (4611310718458440362 : UInt64) 5) [(.double (4603929819069138716 : UInt64))])
          refine goD X0 hx hlk Bd.returns (hb hby d1_53) ?_ (by decide) (by decide)
          show Qap4 Z o0 k_a e_0 e_1 e_2 e_3 h0 n0 (some (.double (4603929819069138716 : UInt64))) s₁.heap _
          exact ⟨(4603929819069138716 : UInt64), rfl, (Or.inr (Or.inr (Or.inr (Or.inr (Or.inr (Or.inr (Or.inr (Or.inr (Or.inl ⟨hc20_3, hc20_35, hc20_38, hc20_41, rfl⟩))))))))), N0, e0⟩
        · skip
          refine gob (fun _ k => XS.ifYes X0.here hx rfl (pc0 := 20) (pc' := 35) rfl (hb hby d1_20) rfl ((if0 _ _).trans (flt hc20_41).2.2.2) (by decide) (by decide) k) ?_
          show gO (tF s₁ m 35 (la3 o0 2 (4607933018737912490 : UInt64) 4) [])
          refine gob (fun _ k => XS.iinc X0.here hx rfl (hb hby d1_35) rfl (l' := (la3 o0 2 (4607933018737912490 : UInt64) 5)) rfl k) ?_
          show gO (tF s₁ m 38 (la3 o0 2 (4607933018737912490 : UInt64) 5) [])
          refine gob (fun _ k => XS.goto X0.here hx rfl (pc0 := 38) (pc' := 7) rfl (hb hby d1_38) (by decide) (by decide) k) ?_
          show gO (tF s₁ m 7 (la3 o0 2 (4607933018737912490 : UInt64) 5) [])
          refine gob (fun _ k => XS.iload X0.here hx rfl (hb hby d1_7) rfl k) ?_
          show gO (tF s₁ m 9 (la3 o0 2 (4607933018737912490 : UInt64) 5) [(.int 5)])
          refine gob (fun _ k => XS.aloadN X0.here hx rfl (hb hby d1_9) rfl rfl k) ?_
          show gO (tF s₁ m 10 (la3 o0 2 (4607933018737912490 : UInt64) 5) [(.ref o0), (.int 5)])
          obtain ⟨cl43, Ar43, aq43, S43, N43, H43, G43⟩ := id V_a
          refine gob (X0.arraylength hx (by rw [e0]; exact Ar43.1) (State.isArrayOf_alike hZ.alike Ar43.2.1) (g := (mkF m 10 (la3 o0 2 (4607933018737912490 : UInt64) 5) [(.ref o0), (.int 5)])) rfl rfl (hb hby d1_10)) ?_
          rw [len_of S43 N43]
          show gO (tF s₁ m 11 (la3 o0 2 (4607933018737912490 : UInt64) 5) [(.int 4), (.int 5)])
          refine gob (fun _ k => XS.icmpYes X0.here hx rfl (pc0 := 11) (pc' := 41) rfl (hb hby d1_11) rfl (tlt (by decide : (4 : Int32) < (5 : Int32))).2.2.1 (by decide) (by decide) k) ?_
          show gO (tF s₁ m 41 (la3 o0 2 (4607933018737912490 : UInt64) 5) [])
          refine gob (fun _ k => XS.iloadN X0.here hx rfl (hb hby d1_41) rfl k) ?_
          show gO (tF s₁ m 42 (la3 o0 2 (4607933018737912490 : UInt64) 5) [(.int 2)])
          refine gob (fun _ k => XS.ifYes X0.here hx rfl (pc0 := 42) (pc' := 49) rfl (hb hby d1_42) rfl ((if0 _ _).trans (feq (by decide : ¬ ((2 : Int32) = (0 : Int32)))).2) (by decide) (by decide) k) ?_
          show gO (tF s₁ m 49 (la3 o0 2 (4607933018737912490 : UInt64) 5) [])
          refine gob (fun _ k => XS.dloadN X0.here hx rfl (hb hby d1_49) rfl k) ?_
          show gO (tF s₁ m 50 (la3 o0 2 (4607933018737912490 : UInt64) 5) [(.double (4607933018737912490 : UInt64))])
          refine gob (fun _ k => XS.iloadN X0.here hx rfl (hb hby d1_50) rfl k) ?_
          show gO (tF s₁ m 51 (la3 o0 2 (4607933018737912490 : UInt64) 5) [(.int 2), (.double (4607933018737912490 : UInt64))])
          refine gob (fun _ k => XS.i2dS X0.here hx rfl (hb hby d1_51) rfl (v := (4611686018427387904 : UInt64)) (by decide +kernel) k) ?_
          show gO (tF s₁ m 52 (la3 o0 2 (4607933018737912490 : UInt64) 5) [(.double (4611686018427387904 : UInt64)), (.double (4607933018737912490 : UInt64))])
          refine gob (fun _ k => XS.ddivS X0.here hx rfl (hb hby d1_52) rfl (v := (4603429419110541994 : UInt64)) (by unfold Jvm.Free.Fl.NoNaN64; decide +kernel) (by decide +kernel) k) ?_
          show gO (tF s₁ m 53 (la3 o0 2 (4607933018737912490 : UInt64) 5) [(.double (4603429419110541994 : UInt64))])
          refine goD X0 hx hlk Bd.returns (hb hby d1_53) ?_ (by decide) (by decide)
          show Qap4 Z o0 k_a e_0 e_1 e_2 e_3 h0 n0 (some (.double (4603429419110541994 : UInt64))) s₁.heap _
          exact ⟨(4603429419110541994 : UInt64), rfl, (Or.inr (Or.inr (Or.inr (Or.inr (Or.inr (Or.inr (Or.inr (Or.inr (Or.inr (Or.inl ⟨hc20_3, hc20_35, hc20_38, hc20_41, rfl⟩)))))))))), N0, e0⟩
      · skip
        refine gob (fun _ k => XS.ifYes X0.here hx rfl (pc0 := 20) (pc' := 35) rfl (hb hby d1_20) rfl ((if0 _ _).trans (flt hc20_38).2.2.2) (by decide) (by decide) k) ?_
        show gO (tF s₁ m 35 (la3 o0 1 (4602678819172646912 : UInt64) 3) [])
        refine gob (fun _ k => XS.iinc X0.here hx rfl (hb hby d1_35) rfl (l' := (la3 o0 1 (4602678819172646912 : UInt64) 4)) rfl k) ?_
        show gO (tF s₁ m 38 (la3 o0 1 (4602678819172646912 : UInt64) 4) [])
        refine gob (fun _ k => XS.goto X0.here hx rfl (pc0 := 38) (pc' := 7) rfl (hb hby d1_38) (by decide) (by decide) k) ?_
        show gO (tF s₁ m 7 (la3 o0 1 (4602678819172646912 : UInt64) 4) [])
        refine gob (fun _ k => XS.iload X0.here hx rfl (hb hby d1_7) rfl k) ?_
        show gO (tF s₁ m 9 (la3 o0 1 (4602678819172646912 : UInt64) 4) [(.int 4)])
        refine gob (fun _ k => XS.aloadN X0.here hx rfl (hb hby d1_9) rfl rfl k) ?_
        show gO (tF s₁ m 10 (la3 o0 1 (4602678819172646912 : UInt64) 4) [(.ref o0), (.int 4)])
        obtain ⟨cl44, Ar44, aq44, S44, N44, H44, G44⟩ := id V_a
        refine gob (X0.arraylength hx (by rw [e0]; exact Ar44.1) (State.isArrayOf_alike hZ.alike Ar44.2.1) (g := (mkF m 10 (la3 o0 1 (4602678819172646912 : UInt64) 4) [(.ref o0), (.int 4)])) rfl rfl (hb hby d1_10)) ?_
        rw [len_of S44 N44]
        show gO (tF s₁ m 11 (la3 o0 1 (4602678819172646912 : UInt64) 4) [(.int 4), (.int 4)])
        refine gob (fun _ k => XS.icmpNo X0.here hx rfl (hb hby d1_11) rfl (flt (by decide : ¬ ((4 : Int32) < (4 : Int32)))).2.2.1 k) ?_
        show gO (tF s₁ m 14 (la3 o0 1 (4602678819172646912 : UInt64) 4) [])
        refine gob (fun _ k => XS.aloadN X0.here hx rfl (hb hby d1_14) rfl rfl k) ?_
        show gO (tF s₁ m 15 (la3 o0 1 (4602678819172646912 : UInt64) 4) [(.ref o0)])
        refine gob (fun _ k => XS.iload X0.here hx rfl (hb hby d1_15) rfl k) ?_
        show gO (tF s₁ m 17 (la3 o0 1 (4602678819172646912 : UInt64) 4) [(.int 4), (.ref o0)])
        refine gob (fun _ k => XS.iconst X0.here hx rfl (hb hby d1_17) k) ?_
        show gO (tF s₁ m 18 (la3 o0 1 (4602678819172646912 : UInt64) 4) [(.int 1), (.int 4), (.ref o0)])
        refine gob (fun _ k => XS.isub X0.here hx rfl (hb hby d1_18) rfl k) ?_
        show gO (tF s₁ m 19 (la3 o0 1 (4602678819172646912 : UInt64) 4) [(.int 3), (.ref o0)])
        obtain ⟨cl45, Ar45, aq45, S45, N45, H45, G45⟩ := id V_a
        have hin45 : ¬ ((3 : Int32) < 0 ∨ cl45.slots.size ≤ ((3 : Int32)).toNatClampNeg) := inb_of S45 ⟨by decide, by decide⟩
        refine gob (X0.iaload hx (j := (3 : Int32)) (v := (.int e_3)) (by rw [e0]; exact Ar45.1) (State.isArrayOf_alike hZ.alike Ar45.2.1) Ar45.2.2 hin45 (Has.at H45 hin45 rfl) (g := (mkF m 19 (la3 o0 1 (4602678819172646912 : UInt64) 4) [(.int 3), (.ref o0)])) rfl rfl (hb hby d1_19)) ?_
        show gO (tF s₁ m 20 (la3 o0 1 (4602678819172646912 : UInt64) 4) [(.int e_3)])
        by_cases hc20_46 : (0 : Int32) < e_3
        · skip
          refine gob (fun _ k => XS.ifNo X0.here hx rfl (hb hby d1_20) rfl ((if0 _ _).trans (tlt hc20_46).2.2.2) k) ?_
          show gO (tF s₁ m 23 (la3 o0 1 (4602678819172646912 : UInt64) 4) [])
          refine gob (fun _ k => XS.iinc X0.here hx rfl (hb hby d1_23) rfl (l' := (la3 o0 2 (4602678819172646912 : UInt64) 4)) rfl k) ?_
          show gO (tF s₁ m 26 (la3 o0 2 (4602678819172646912 : UInt64) 4) [])
          refine gob (fun _ k => XS.dloadN X0.here hx rfl (hb hby d1_26) rfl k) ?_
          show gO (tF s₁ m 27 (la3 o0 2 (4602678819172646912 : UInt64) 4) [(.double (4602678819172646912 : UInt64))])
          refine gob (fun _ k => XS.iloadN X0.here hx rfl (hb hby d1_27) rfl k) ?_
          show gO (tF s₁ m 28 (la3 o0 2 (4602678819172646912 : UInt64) 4) [(.int 2), (.double (4602678819172646912 : UInt64))])
          refine gob (fun _ k => XS.i2dS X0.here hx rfl (hb hby d1_28) rfl (v := (4611686018427387904 : UInt64)) (by decide +kernel) k) ?_
          show gO (tF s₁ m 29 (la3 o0 2 (4602678819172646912 : UInt64) 4) [(.double (4611686018427387904 : UInt64)), (.double (4602678819172646912 : UInt64))])
          refine gob (fun _ k => XS.iload X0.here hx rfl (hb hby d1_29) rfl k) ?_
          show gO (tF s₁ m 31 (la3 o0 2 (4602678819172646912 : UInt64) 4) [(.int 4), (.double (4611686018427387904 : UInt64)), (.double (4602678819172646912 : UInt64))])
          refine gob (fun _ k => XS.i2dS X0.here hx rfl (hb hby d1_31) rfl (v := (4616189618054758400 : UInt64)) (by decide +kernel) k) ?_
          show gO (tF s₁ m 32 (la3 o0 2 (4602678819172646912 : UInt64) 4) [(.double (4616189618054758400 : UInt64)), (.double (4611686018427387904 : UInt64)), (.double (4602678819172646912 : UInt64))])
          refine gob (fun _ k => XS.ddivS X0.here hx rfl (hb hby d1_32) rfl (v := (4602678819172646912 : UInt64)) (by unfold Jvm.Free.Fl.NoNaN64; decide +kernel) (by decide +kernel) k) ?_
          show gO (tF s₁ m 33 (la3 o0 2 (4602678819172646912 : UInt64) 4) [(.double (4602678819172646912 : UInt64)), (.double (4602678819172646912 : UInt64))])
          refine gob (fun _ k => XS.daddS X0.here hx rfl (hb hby d1_33) rfl (v := (4607182418800017408 : UInt64)) (by unfold Jvm.Free.Fl.NoNaN64; decide +kernel) (by decide +kernel) k) ?_
          show gO (tF s₁ m 34 (la3 o0 2 (4602678819172646912 : UInt64) 4) [(.double (4607182418800017408 : UInt64))])
          refine gob (fun _ k => XS.dstoreN X0.here hx rfl (hb hby d1_34) rfl (l' := (la3 o0 2 (4607182418800017408 : UInt64) 4)) rfl k) ?_
          show gO (tF s₁ m 35 (la3 o0 2 (4607182418800017408 : UInt64) 4) [])
          refine gob (fun _ k => XS.iinc X0.here hx rfl (hb hby d1_35) rfl (l' := (la3 o0 2 (4607182418800017408 : UInt64) 5)) rfl k) ?_
          show gO (tF s₁ m 38 (la3 o0 2 (4607182418800017408 : UInt64) 5) [])
          refine gob (fun _ k => XS.goto X0.here hx rfl (pc0 := 38) (pc' := 7) rfl (hb hby d1_38) (by decide) (by decide) k) ?_
          show gO (tF s₁ m 7 (la3 o0 2 (4607182418800017408 : UInt64) 5) [])
          refine gob (fun _ k => XS.iload X0.here hx rfl (hb hby d1_7) rfl k) ?_
          show gO (tF s₁ m 9 (la3 o0 2 (4607182418800017408 : UInt64) 5) [(.int 5)])
          refine gob (fun _ k => XS.aloadN X0.here hx rfl (hb hby d1_9) rfl rfl k) ?_
          show gO (tF s₁ m 10 (la3 o0 2 (4607182418800017408 : UInt64) 5) [(.ref o0), (.int 5)])
          obtain ⟨cl47, Ar47, aq47, S47, N47, H47, G47⟩ := id V_a
          refine gob (X0.arraylength hx (by rw [e0]; exact Ar47.1) (State.isArrayOf_alike hZ.alike Ar47.2.1) (g := (mkF m 10 (la3 o0 2 (4607182418800017408 : UInt64) 5) [(.ref o0), (.int 5)])) rfl rfl (hb hby d1_10)) ?_
          rw [len_of S47 N47]
          show gO (tF s₁ m 11 (la3 o0 2 (4607182418800017408 : UInt64) 5) [(.int 4), (.int 5)])
          refine gob (fun _ k => XS.icmpYes X0.here hx rfl (pc0 := 11) (pc' := 41) rfl (hb hby d1_11) rfl (tlt (by decide : (4 : Int32) < (5 : Int32))).2.2.1 (by decide) (by decide) k) ?_
          show gO (tF s₁ m 41 (la3 o0 2 (4607182418800017408 : UInt64) 5) [])
          refine gob (fun _ k => XS.iloadN X0.here hx rfl (hb hby d1_41) rfl k) ?_
          show gO (tF s₁ m 42 (la3 o0 2 (4607182418800017408 : UInt64) 5) [(.int 2)])
          refine gob (fun _ k => XS.ifYes X0.here hx rfl (pc0 := 42) (pc' := 49) rfl (hb hby d1_42) rfl ((if0 _ _).trans (feq (by decide : ¬ ((2 : Int32) = (0 : Int32)))).2) (by decide) (by decide) k) ?_
          show gO (tF s₁ m 49 (la3 o0 2 (4607182418800017408 : UInt64) 5) [])
          refine gob (fun _ k => XS.dloadN X0.here hx rfl (hb hby d1_49) rfl k) ?_
          show gO (tF s₁ m 50 (la3 o0 2 (4607182418800017408 : UInt64) 5) [(.double (4607182418800017408 : UInt64))])
          refine gob (fun _ k => XS.iloadN X0.here hx rfl (hb hby d1_50) rfl k) ?_
          show gO (tF s₁ m 51 (la3 o0 2 (4607182418800017408 : UInt64) 5) [(.int 2), (.double (4607182418800017408 : UInt64))])
          refine gob (fun _ k => XS.i2dS X0.here hx rfl (hb hby d1_51) rfl (v := (4611686018427387904 : UInt64)) (by decide +kernel) k) ?_
          show gO (tF s₁ m 52 (la3 o0 2 (4607182418800017408 : UInt64) 5) [(.double (4611686018427387904 : UInt64)), (.double (4607182418800017408 : UInt64))])
          refine gob (fun _ k => XS.ddivS X0.here hx rfl (hb hby d1_52) rfl (v := (4602678819172646912 : UInt64)) (by unfold Jvm.Free.Fl.NoNaN64; decide +kernel) (by decide +kernel) k) ?_
          show gO (tF s₁ m 53 (la3 o0 2 (4607182418800017408 : UInt64) 5) [(.double (4602678819172646912 : UInt64))])
          refine goD X0 hx hlk Bd.returns (hb hby d1_53) ?_ (by decide) (by decide)
          show Qap4 Z o0 k_a e_0 e_1 e_2 e_3 h0 n0 (some (.double (4602678819172646912 : UInt64))) s₁.heap _
          exact ⟨(4602678819172646912 : UInt64), rfl, (Or.inr (Or.inr (Or.inr (Or.inr (Or.inr (Or.inr (Or.inr (Or.inr (Or.inr (Or.inr (Or.inl ⟨hc20_3, hc20_35, hc20_38, hc20_46, rfl⟩))))))))))), N0, e0⟩
        · skip
          refine gob (fun _ k => XS.ifYes X0.here hx rfl (pc0 := 20) (pc' := 35) rfl (hb hby d1_20) rfl ((if0 _ _).trans (flt hc20_46).2.2.2) (by decide) (by decide) k) ?_
          show gO (tF s₁ m 35 (la3 o0 1 (4602678819172646912 : UInt64) 4) [])
          refine gob (fun _ k => XS.iinc X0.here hx rfl (hb hby d1_35) rfl (l' := (la3 o0 1 (4602678819172646912 : UInt64) 5)) rfl k) ?_
          show gO (tF s₁ m 38 (la3 o0 1 (4602678819172646912 : UInt64) 5) [])
          refine gob (fun _ k => XS.goto X0.here hx rfl (pc0 := 38) (pc' := 7) rfl (hb hby d1_38) (by decide) (by decide) k) ?_
          show gO (tF s₁ m 7 (la3 o0 1 (4602678819172646912 : UInt64) 5) [])
          refine gob (fun _ k => XS.iload X0.here hx rfl (hb hby d1_7) rfl k) ?_
          show gO (tF s₁ m 9 (la3 o0 1 (4602678819172646912 : UInt64) 5) [(.int 5)])
          refine gob (fun _ k => XS.aloadN X0.here hx rfl (hb hby d1_9) rfl rfl k) ?_
          show gO (tF s₁ m 10 (la3 o0 1 (4602678819172646912 : UInt64) 5) [(.ref o0), (.int 5)])
          obtain ⟨cl48, Ar48, aq48, S48, N48, H48, G48⟩ := id V_a
          refine gob (X0.arraylength hx (by rw [e0]; exact Ar48.1) (State.isArrayOf_alike hZ.alike Ar48.2.1) (g := (mkF m 10 (la3 o0 1 (4602678819172646912 : UInt64) 5) [(.ref o0), (.int 5)])) rfl rfl (hb hby d1_10)) ?_
          rw [len_of S48 N48]
          show gO (tF s₁ m 11 (la3 o0 1 (4602678819172646912 : UInt64) 5) [(.int 4), (.int 5)])
          refine gob (fun _ k => XS.icmpYes X0.here hx rfl (pc0 := 11) (pc' := 41) rfl (hb hby d1_11) rfl (tlt (by decide : (4 : Int32) < (5 : Int32))).2.2.1 (by decide) (by decide) k) ?_
          show gO (tF s₁ m 41 (la3 o0 1 (4602678819172646912 : UInt64) 5) [])
          refine gob (fun _ k => XS.iloadN X0.here hx rfl (hb hby d1_41) rfl k) ?_
          show gO (tF s₁ m 42 (la3 o0 1 (4602678819172646912 : UInt64) 5) [(.int 1)])
          refine gob (fun _ k => XS.ifYes X0.here hx rfl (pc0 := 42) (pc' := 49) rfl (hb hby d1_42) rfl ((if0 _ _).trans (feq (by decide : ¬ ((1 : Int32) = (0 : Int32)))).2) (by decide) (by decide) k) ?_
          show gO (tF s₁ m 49 (la3 o0 1 (4602678819172646912 : UInt64) 5) [])
          refine gob (fun _ k => XS.dloadN X0.here hx rfl (hb hby d1_49) rfl k) ?_
          show gO (tF s₁ m 50 (la3 o0 1 (4602678819172646912 : UInt64) 5) [(.double (4602678819172646912 : UInt64))])
          refine gob (fun _ k => XS.iloadN X0.here hx rfl (hb hby d1_50) rfl k) ?_
          show gO (tF s₁ m 51 (la3 o0 1 (4602678819172646912 : UInt64) 5) [(.int 1), (.double (4602678819172646912 : UInt64))])
          refine gob (fun _ k => XS.i2dS X0.here hx rfl (hb hby d1_51) rfl (v := (4607182418800017408 : UInt64)) (by decide +kernel) k) ?_
          show gO (tF s₁ m 52 (la3 o0 1 (4602678819172646912 : UInt64) 5) [(.double (4607182418800017408 : UInt64)), (.double (4602678819172646912 : UInt64))])
          refine gob (fun _ k => XS.ddivS X0.here hx rfl (hb hby d1_52) rfl (v := (4602678819172646912 : UInt64)) (by unfold Jvm.Free.Fl.NoNaN64; decide +kernel) (by decide +kernel) k) ?_
          show gO (tF s₁ m 53 (la3 o0 1 (4602678819172646912 : UInt64) 5) [(.double (4602678819172646912 : UInt64))])
          refine goD X0 hx hlk Bd.returns (hb hby d1_53) ?_ (by decide) (by decide)
          show Qap4 Z o0 k_a e_0 e_1 e_2 e_3 h0 n0 (some (.double (4602678819172646912 : UInt64))) s₁.heap _
          exact ⟨(4602678819172646912 : UInt64), rfl, (Or.inr (Or.inr (Or.inr (Or.inr (Or.inr (Or.inr (Or.inr (Or.inr (Or.inr (Or.inr (Or.inr (Or.inl ⟨hc20_3, hc20_35, hc20_38, hc20_46, rfl⟩)))))))))))), N0, e0⟩
    · skip
      refine gob (fun _ k => XS.ifYes X0.here hx rfl (pc0 := 20) (pc' := 35) rfl (hb hby d1_20) rfl ((if0 _ _).trans (flt hc20_35).2.2.2) (by decide) (by decide) k) ?_
      show gO (tF s₁ m 35 (la3 o0 0 (0 : UInt64) 2) [])
      refine gob (fun _ k => XS.iinc X0.here hx rfl (hb hby d1_35) rfl (l' := (la3 o0 0 (0 : UInt64) 3)) rfl k) ?_
      show gO (tF s₁ m 38 (la3 o0 0 (0 : UInt64) 3) [])
      refine gob (fun _ k => XS.goto X0.here hx rfl (pc0 := 38) (pc' := 7) rfl (hb hby d1_38) (by decide) (by decide) k) ?_
      show gO (tF s₁ m 7 (la3 o0 0 (0 : UInt64) 3) [])
      refine gob (fun _ k => XS.iload X0.here hx rfl (hb hby d1_7) rfl k) ?_
      show gO (tF s₁ m 9 (la3 o0 0 (0 : UInt64) 3) [(.int 3)])
      refine gob (fun _ k => XS.aloadN X0.here hx rfl (hb hby d1_9) rfl rfl k) ?_
      show gO (tF s₁ m 10 (la3 o0 0 (0 : UInt64) 3) [(.ref o0), (.int 3)])
      obtain ⟨cl49, Ar49, aq49, S49, N49, H49, G49⟩ := id V_a
      refine gob (X0.arraylength hx (by rw [e0]; exact Ar49.1) (State.isArrayOf_alike hZ.alike Ar49.2.1) (g := (mkF m 10 (la3 o0 0 (0 : UInt64) 3) [(.ref o0), (.int 3)])) rfl rfl (hb hby d1_10)) ?_
      rw [len_of S49 N49]
      show gO (tF s₁ m 11 (la3 o0 0 (0 : UInt64) 3) [(.int 4), (.int 3)])
      refine gob (fun _ k => XS.icmpNo X0.here hx rfl (hb hby d1_11) rfl (flt (by decide : ¬ ((4 : Int32) < (3 : Int32)))).2.2.1 k) ?_
      show gO (tF s₁ m 14 (la3 o0 0 (0 : UInt64) 3) [])
      refine gob (fun _ k => XS.aloadN X0.here hx rfl (hb hby d1_14) rfl rfl k) ?_
      show gO (tF s₁ m 15 (la3 o0 0 (0 : UInt64) 3) [(.ref o0)])
      refine gob (fun _ k => XS.iload X0.here hx rfl (hb hby d1_15) rfl k) ?_
      show gO (tF s₁ m 17 (la3 o0 0 (0 : UInt64) 3) [(.int 3), (.ref o0)])
      refine gob (fun _ k => XS.iconst X0.here hx rfl (hb hby d1_17) k) ?_
      show gO (tF s₁ m 18 (la3 o0 0 (0 : UInt64) 3) [(.int 1), (.int 3), (.ref o0)])
      refine gob (fun _ k => XS.isub X0.here hx rfl (hb hby d1_18) rfl k) ?_
      show gO (tF s₁ m 19 (la3 o0 0 (0 : UInt64) 3) [(.int 2), (.ref o0)])
      obtain ⟨cl50, Ar50, aq50, S50, N50, H50, G50⟩ := id V_a
      have hin50 : ¬ ((2 : Int32) < 0 ∨ cl50.slots.size ≤ ((2 : Int32)).toNatClampNeg) := inb_of S50 ⟨by decide, by decide⟩
      refine gob (X0.iaload hx (j := (2 : Int32)) (v := (.int e_2)) (by rw [e0]; exact Ar50.1) (State.isArrayOf_alike hZ.alike Ar50.2.1) Ar50.2.2 hin50 (Has.at H50 hin50 rfl) (g := (mkF m 19 (la3 o0 0 (0 : UInt64) 3) [(.int 2), (.ref o0)])) rfl rfl (hb hby d1_19)) ?_
      show gO (tF s₁ m 20 (la3 o0 0 (0 : UInt64) 3) [(.int e_2)])
      by_cases hc20_51 : (0 : Int32) < e_2
      · skip
        refine gob (fun _ k => XS.ifNo X0.here hx rfl (hb hby d1_20) rfl ((if0 _ _).trans (tlt hc20_51).2.2.2) k) ?_
        show gO (tF s₁ m 23 (la3 o0 0 (0 : UInt64) 3) [])
        refine gob (fun _ k => XS.iinc X0.here hx rfl (hb hby d1_23) rfl (l' := (la3 o0 1 (0 : UInt64) 3)) rfl k) ?_
        show gO (tF s₁ m 26 (la3 o0 1 (0 : UInt64) 3) [])
        refine gob (fun _ k => XS.dloadN X0.here hx rfl (hb hby d1_26) rfl k) ?_
        show gO (tF s₁ m 27 (la3 o0 1 (0 : UInt64) 3) [(.double (0 : UInt64))])
        refine gob (fun _ k => XS.iloadN X0.here hx rfl (hb hby d1_27) rfl k) ?_
        show gO (tF s₁ m 28 (la3 o0 1 (0 : UInt64) 3) [(.int 1), (.double (0 : UInt64))])
        refine gob (fun _ k => XS.i2dS X0.here hx rfl (hb hby d1_28) rfl (v := (4607182418800017408 : UInt64)) (by decide +kernel) k) ?_
        show gO (tF s₁ m 29 (la3 o0 1 (0 : UInt64) 3) [(.double (4607182418800017408 : UInt64)), (.double (0 : UInt64))])
        refine gob (fun _ k => XS.iload X0.here hx rfl (hb hby d1_29) rfl k) ?_
        show gO (tF s₁ m 31 (la3 o0 1 (0 : UInt64) 3) [(.int 3), (.double (4607182418800017408 : UInt64)), (.double (0 : UInt64))])
        refine gob (fun _ k => XS.i2dS X0.here hx rfl (hb hby d1_31) rfl (v := (4613937818241073152 : UInt64)) (by decide +kernel) k) ?_
        show gO (tF s₁ m 32 (la3 o0 1 (0 : UInt64) 3) [(.double (4613937818241073152 : UInt64)), (.double (4607182418800017408 : UInt64)), (.double (0 : UInt64))])
        refine gob (fun _ k => XS.ddivS X0.here hx rfl (hb hby d1_32) rfl (v := (4599676419421066581 : UInt64)) (by unfold Jvm.Free.Fl.NoNaN64; decide +kernel) (by decide +kernel) k) ?_
        show gO (tF s₁ m 33 (la3 o0 1 (0 : UInt64) 3) [(.double (4599676419421066581 : UInt64)), (.double (0 : UInt64))])
        refine gob (fun _ k => XS.daddS X0.here hx rfl (hb hby d1_33) rfl (v := (4599676419421066581 : UInt64)) (by unfold Jvm.Free.Fl.NoNaN64; decide +kernel) (by decide +kernel) k) ?_
        show gO (tF s₁ m 34 (la3 o0 1 (0 : UInt64) 3) [(.double (4599676419421066581 : UInt64))])
        refine gob (fun _ k => XS.dstoreN X0.here hx rfl (hb hby d1_34) rfl (l' := (la3 o0 1 (4599676419421066581 : UInt64) 3)) rfl k) ?_
        show gO (tF s₁ m 35 (la3 o0 1 (4599676419421066581 : UInt64) 3) [])
        refine gob (fun _ k => XS.iinc X0.here hx rfl (hb hby d1_35) rfl (l' := (la3 o0 1 (4599676419421066581 : UInt64) 4)) rfl k) ?_
        show gO (tF s₁ m 38 (la3 o0 1 (4599676419421066581 : UInt64) 4) [])
        refine gob (fun _ k => XS.goto X0.here hx rfl (pc0 := 38) (pc' := 7) rfl (hb hby d1_38) (by decide) (by decide) k) ?_
        show gO (tF s₁ m 7 (la3 o0 1 (4599676419421066581 : UInt64) 4) [])
        refine gob (fun _ k => XS.iload X0.here hx rfl (hb hby d1_7) rfl k) ?_
        show gO (tF s₁ m 9 (la3 o0 1 (4599676419421066581 : UInt64) 4) [(.int 4)])
        refine gob (fun _ k => XS.aloadN X0.here hx rfl (hb hby d1_9) rfl rfl k) ?_
        show gO (tF s₁ m 10 (la3 o0 1 (4599676419421066581 : UInt64) 4) [(.ref o0), (.int 4)])
        obtain ⟨cl52, Ar52, aq52, S52, N52, H52, G52⟩ := id V_a
        refine gob (X0.arraylength hx (by rw [e0]; exact Ar52.1) (State.isArrayOf_alike hZ.alike Ar52.2.1) (g := (mkF m 10 (la3 o0 1 (4599676419421066581 : UInt64) 4) [(.ref o0), (.int 4)])) rfl rfl (hb hby d1_10)) ?_
        rw [len_of S52 N52]
        show gO (tF s₁ m 11 (la3 o0 1 (4599676419421066581 : UInt64) 4) [(.int 4), (.int 4)])
        refine gob (fun _ k => XS.icmpNo X0.here hx rfl (hb hby d1_11) rfl (flt (by decide : ¬ ((4 : Int32) < (4 : Int32)))).2.2.1 k) ?_
        show gO (tF s₁ m 14 (la3 o0 1 (4599676419421066581 : UInt64) 4) [])
        refine gob (fun _ k => XS.aloadN X0.here hx rfl (hb hby d1_14) rfl rfl k) ?_
        show gO (tF s₁ m 15 (la3 o0 1 (4599676419421066581 : UInt64) 4) [(.ref o0)])
        refine gob (fun _ k => XS.iload X0.here hx rfl (hb hby d1_15) rfl k) ?_
        show gO (tF s₁ m 17 (la3 o0 1 (4599676419421066581 : UInt64) 4) [(.int 4), (.ref o0)])
        refine gob (fun _ k => XS.iconst X0.here hx rfl (hb hby d1_17) k) ?_
        show gO (tF s₁ m 18 (la3 o0 1 (4599676419421066581 : UInt64) 4) [(.int 1), (.int 4), (.ref o0)])
        refine gob (fun _ k => XS.isub X0.here hx rfl (hb hby d1_18) rfl k) ?_
        show gO (tF s₁ m 19 (la3 o0 1 (4599676419421066581 : UInt64) 4) [(.int 3), (.ref o0)])
        obtain ⟨cl53, Ar53, aq53, S53, N53, H53, G53⟩ := id V_a
        have hin53 : ¬ ((3 : Int32) < 0 ∨ cl53.slots.size ≤ ((3 : Int32)).toNatClampNeg) := inb_of S53 ⟨by decide, by decide⟩
        refine gob (X0.iaload hx (j := (3 : Int32)) (v := (.int e_3)) (by rw [e0]; exact Ar53.1) (State.isArrayOf_alike hZ.alike Ar53.2.1) Ar53.2.2 hin53 (Has.at H53 hin53 rfl) (g := (mkF m 19 (la3 o0 1 (4599676419421066581 : UInt64) 4) [(.int 3), (.ref o0)])) rfl rfl (hb hby d1_19)) ?_
        show gO (tF s₁ m 20 (la3 o0 1 (4599676419421066581 : UInt64) 4) [(.int e_3)])
        by_cases hc20_54 : (0 : Int32) < e_3
        · skip
          refine gob (fun _ k => XS.ifNo X0.here hx rfl (hb hby d1_20) rfl ((if0 _ _).trans (tlt hc20_54).2.2.2) k) ?_
          show gO (tF s₁ m 23 (la3 o0 1 (4599676419421066581 : UInt64) 4) [])
          refine gob (fun _ k => XS.iinc X0.here hx rfl (hb hby d1_23) rfl (l' := (la3 o0 2 (4599676419421066581 : UInt64) 4)) rfl k) ?_
          show gO (tF s₁ m 26 (la3 o0 2 (4599676419421066581 : UInt64) 4) [])
          refine gob (fun _ k => XS.dloadN X0.here hx rfl (hb hby d1_26) rfl k) ?_
          show gO (tF s₁ m 27 (la3 o0 2 (4599676419421066581 : UInt64) 4) [(.double (4599676419421066581 : UInt64))])
          refine gob (fun _ k => XS.iloadN X0.here hx rfl (hb hby d1_27) rfl k) ?_
          show gO (tF s₁ m 28 (la3 o0 2 (4599676419421066581 : UInt64) 4) [(.int 2), (.double (4599676419421066581 : UInt64))])
          refine gob (fun _ k => XS.i2dS X0.here hx rfl (hb hby d1_28) rfl (v := (4611686018427387904 : UInt64)) (by decide +kernel) k) ?_
          show gO (tF s₁ m 29 (la3 o0 2 (4599676419421066581 : UInt64) 4) [(.double (4611686018427387904 : UInt64)), (.double (4599676419421066581 : UInt64))])
          refine gob (fun _ k => XS.iload X0.here hx rfl (hb hby d1_29) rfl k) ?_
          show gO (tF s₁ m 31 (la3 o0 2 (4599676419421066581 : UInt64) 4) [(.int 4), (.double (4611686018427387904 : UInt64)), (.double (4599676419421066581 : UInt64))])
          refine gob (fun _ k => XS.i2dS X0.here hx rfl (hb hby d1_31) rfl (v := (4616189618054758400 : UInt64)) (by decide +kernel) k) ?_
          show gO (tF s₁ m 32 (la3 o0 2 (4599676419421066581 : UInt64) 4) [(.double (4616189618054758400 : UInt64)), (.double (4611686018427387904 : UInt64)), (.double (4599676419421066581 : UInt64))])
          refine gob (fun _ k => XS.ddivS X0.here hx rfl (hb hby d1_32) rfl (v := (4602678819172646912 : UInt64)) (by unfold Jvm.Free.Fl.NoNaN64; decide +kernel) (by decide +kernel) k) ?_
          show gO (tF s₁ m 33 (la3 o0 2 (4599676419421066581 : UInt64) 4) [(.double (4602678819172646912 : UInt64)), (.double (4599676419421066581 : UInt64))])
          refine gob (fun _ k => XS.daddS X0.here hx rfl (hb hby d1_33) rfl (v := (4605681218924227242 : UInt64)) (by unfold Jvm.Free.Fl.NoNaN64; decide +kernel) (by decide +kernel) k) ?_
          show gO (tF s₁ m 34 (la3 o0 2 (4599676419421066581 : UInt64) 4) [(.double (4605681218924227242 : UInt64))])
          refine gob (fun _ k => XS.dstoreN X0.here hx rfl (hb hby d1_34) rfl (l' := (la3 o0 2 (4605681218924227242 : UInt64) 4)) rfl k) ?_
          show gO (tF s₁ m 35 (la3 o0 2 (4605681218924227242 : UInt64) 4) [])
          refine gob (fun _ k => XS.iinc X0.here hx rfl (hb hby d1_35) rfl (l' := (la3 o0 2 (4605681218924227242 : UInt64) 5)) rfl k) ?_
          show gO (tF s₁ m 38 (la3 o0 2 (4605681218924227242 : UInt64) 5) [])
          refine gob (fun _ k => XS.goto X0.here hx rfl (pc0 := 38) (pc' := 7) rfl (hb hby d1_38) (by decide) (by decide) k) ?_
          show gO (tF s₁ m 7 (la3 o0 2 (4605681218924227242 : UInt64) 5) [])
          refine gob (fun _ k => XS.iload X0.here hx rfl (hb hby d1_7) rfl k) ?_
          show gO (tF s₁ m 9 (la3 o0 2 (4605681218924227242 : UInt64) 5) [(.int 5)])
          refine gob (fun _ k => XS.aloadN X0.here hx rfl (hb hby d1_9) rfl rfl k) ?_
          show gO (tF s₁ m 10 (la3 o0 2 (4605681218924227242 : UInt64) 5) [(.ref o0), (.int 5)])
          obtain ⟨cl55, Ar55, aq55, S55, N55, H55, G55⟩ := id V_a
          refine gob (X0.arraylength hx (by rw [e0]; exact Ar55.1) (State.isArrayOf_alike hZ.alike Ar55.2.1) (g := (mkF m 10 (la3 o0 2 (4605681218924227242 : UInt64) 5) [(.ref o0), (.int 5)])) rfl rfl (hb hby d1_10)) ?_
          rw [len_of S55 N55]
          show gO (tF s₁ m 11 (la3 o0 2 (4605681218924227242 : UInt64) 5) [(.int 4), (.int 5)])
          refine gob (fun _ k => XS.icmpYes X0.here hx rfl (pc0 := 11) (pc' := 41) rfl (hb hby d1_11) rfl (tlt (by decide : (4 : Int32) < (5 : Int32))).2.2.1 (by decide) (by decide) k) ?_
          show gO (tF s₁ m 41 (la3 o0 2 (4605681218924227242 : UInt64) 5) [])
          refine gob (fun _ k => XS.iloadN X0.here hx rfl (hb hby d1_41) rfl k) ?_
          show gO (tF s₁ m 42 (la3 o0 2 (4605681218924227242 : UInt64) 5) [(.int 2)])
          refine gob (fun _ k => XS.ifYes X0.here hx rfl (pc0 := 42) (pc' := 49) rfl (hb hby d1_42) rfl ((if0 _ _).trans (feq (by decide : ¬ ((2 : Int32) = (0 : Int32)))).2) (by decide) (by decide) k) ?_
          show gO (tF s₁ m 49 (la3 o0 2 (4605681218924227242 : UInt64) 5) [])
          refine gob (fun _ k => XS.dloadN X0.here hx rfl (hb hby d1_49) rfl k) ?_
          show gO (tF s₁ m 50 (la3 o0 2 (4605681218924227242 : UInt64) 5) [(.double (4605681218924227242 : UInt64))])
          refine gob (fun _ k => XS.iloadN X0.here hx rfl (hb hby d1_50) rfl k) ?_
          show gO (tF s₁ m 51 (la3 o0 2 (4605681218924227242 : UInt64) 5) [(.int 2), (.double (4605681218924227242 : UInt64))])
          refine gob (fun _ k => XS.i2dS X0.here hx rfl (hb hby d1_51) rfl (v := (4611686018427387904 : UInt64)) (by decide +kernel) k) ?_
          show gO (tF s₁ m 52 (la3 o0 2 (4605681218924227242 : UInt64) 5) [(.double (4611686018427387904 : UInt64)), (.double (4605681218924227242 : UInt64))])
          refine gob (fun _ k => XS.ddivS X0.here hx rfl (hb hby d1_52) rfl (v := (4601177619296856746 : UInt64)) (by unfold Jvm.Free.Fl.NoNaN64; decide +kernel) (by decide +kernel) k) ?_
          show gO (tF s₁ m 53 (la3 o0 2 (4605681218924227242 : UInt64) 5) [(.double (4601177619296856746 : UInt64))])
          refine goD X0 hx hlk Bd.returns (hb hby d1_53) ?_ (by decide) (by decide)
          show Qap4 Z o0 k_a e_0 e_1 e_2 e_3 h0 n0 (some (.double (4601177619296856746 : UInt64))) s₁.heap _
          exact ⟨(4601177619296856746 : UInt64), rfl, (Or.inr (Or.inr (Or.inr (Or.inr (Or.inr (Or.inr (Or.inr (Or.inr (Or.inr (Or.inr (Or.inr (Or.inr (Or.inl ⟨hc20_3, hc20_35, hc20_51, hc20_54, rfl⟩))))))))))))), N0, e0⟩
        · skip
          refine gob (fun _ k => XS.ifYes X0.here hx rfl (pc0 := 20) (pc' := 35) rfl (hb hby d1_20) rfl ((if0 _ _).trans (flt hc20_54).2.2.2) (by decide) (by decide) k) ?_
          show gO (tF s₁ m 35 (la3 o0 1 (4599676419421066581 : UInt64) 4) [])
          refine gob (fun _ k => XS.iinc X0.here hx rfl (hb hby d1_35) rfl (l' := (la3 o0 1 (4599676419421066581 : UInt64) 5)) rfl k) ?_
          show gO (tF s₁ m 38 (la3 o0 1 (4599676419421066581 : UInt64) 5) [])
          refine gob (fun _ k => XS.goto X0.here hx rfl (pc0 := 38) (pc' := 7) rfl (hb hby d1_38) (by decide) (by decide) k) ?_
          show gO (tF s₁ m 7 (la3 o0 1 (4599676419421066581 : UInt64) 5) [])
          refine gob (fun _ k => XS.iload X0.here hx rfl (hb hby d1_7) rfl k) ?_
          show gO (tF s₁ m 9 (la3 o0 1 (4599676419421066581 : UInt64) 5) [(.int 5)])
          refine gob (fun _ k => XS.aloadN X0.here hx rfl (hb hby d1_9) rfl rfl k) ?_
          show gO (tF s₁ m 10 (la3 o0 1 (4599676419421066581 : UInt64) 5) [(.ref o0), (.int 5)])
          obtain ⟨cl56, Ar56, aq56, S56, N56, H56, G56⟩ := id V_a
          refine gob (X0.arraylength hx (by rw [e0]; exact Ar56.1) (State.isArrayOf_alike hZ.alike Ar56.2.1) (g := (mkF m 10 (la3 o0 1 (4599676419421066581 : UInt64) 5) [(.ref o0), (.int 5)])) rfl rfl (hb hby d1_10)) ?_
          rw [len_of S56 N56]
          show gO (tF s₁ m 11 (la3 o0 1 (4599676419421066581 : UInt64) 5) [(.int 4), (.int 5)])
          refine gob (fun _ k => XS.icmpYes X0.here hx rfl (pc0 := 11) (pc' := 41) rfl (hb hby d1_11) rfl (tlt (by decide : (4 : Int32) < (5 : Int32))).2.2.1 (by decide) (by decide) k) ?_
          show gO (tF s₁ m 41 (la3 o0 1 (4599676419421066581 : UInt64) 5) [])
          refine gob (fun _ k => XS.iloadN X0.here hx rfl (hb hby d1_41) rfl k) ?_
          show gO (tF s₁ m 42 (la3 o0 1 (4599676419421066581 : UInt64) 5) [(.int 1)])
          refine gob (fun _ k => XS.ifYes X0.here hx rfl (pc0 := 42) (pc' := 49) rfl (hb hby d1_42) rfl ((if0 _ _).trans (feq (by decide : ¬ ((1 : Int32) = (0 : Int32)))).2) (by decide) (by decide) k) ?_
          show gO (tF s₁ m 49 (la3 o0 1 (4599676419421066581 : UInt64) 5) [])
          refine gob (fun _ k => XS.dloadN X0.here hx rfl (hb hby d1_49) rfl k) ?_
          show gO (tF s₁ m 50 (la3 o0 1 (4599676419421066581 : UInt64) 5) [(.double (4599676419421066581 : UInt64))])
          refine gob (fun _ k => XS.iloadN X0.here hx rfl (hb hby d1_50) rfl k) ?_
          show gO (tF s₁ m 51 (la3 o0 1 (4599676419421066581 : UInt64) 5) [(.int 1), (.double (4599676419421066581 : UInt64))])
          refine gob (fun _ k => XS.i2dS X0.here hx rfl (hb hby d1_51) rfl (v := (4607182418800017408 : UInt64)) (by decide +kernel) k) ?_
          show gO (tF s₁ m 52 (la3 o0 1 (4599676419421066581 : UInt64) 5) [(.double (4607182418800017408 : UInt64)), (.double (4599676419421066581 : UInt64))])
          refine gob (fun _ k => XS.ddivS X0.here hx rfl (hb hby d1_52) rfl (v := (4599676419421066581 : UInt64)) (by unfold Jvm.Free.Fl.NoNaN64; decide +kernel) (by decide +kernel) k) ?_
          show gO (tF s₁ m 53 (la3 o0 1 (4599676419421066581 : UInt64) 5) [(.double (4599676419421066581 : UInt64))])
          refine goD X0 hx hlk Bd.returns (hb hby d1_53) ?_ (by decide) (by decide)
          show Qap4 Z o0 k_a e_0 e_1 e_2 e_3 h0 n0 (some (.double (4599676419421066581 : UInt64))) s₁.heap _
          exact ⟨(4599676419421066581 : UInt64), rfl, (Or.inr (Or.inr (Or.inr (Or.inr (Or.inr (Or.inr (Or.inr (Or.inr (Or.inr (Or.inr (Or.inr (Or.inr (Or.inr (Or.inl ⟨hc20_3, hc20_35, hc20_51, hc20_54, rfl⟩)))))))))))))), N0, e0⟩
      · skip
        refine gob (fun _ k => XS.ifYes X0.here hx rfl (pc0 := 20) (pc' := 35) rfl (hb hby d1_20) rfl ((if0 _ _).trans (flt hc20_51).2.2.2) (by decide) (by decide) k) ?_
        show gO (tF s₁ m 35 (la3 o0 0 (0 : UInt64) 3) [])
        refine gob (fun _ k => XS.iinc X0.here hx rfl (hb hby d1_35) rfl (l' := (la3 o0 0 (0 : UInt64) 4)) rfl k) ?_
        show gO (tF s₁ m 38 (la3 o0 0 (0 : UInt64) 4) [])
        refine gob (fun _ k => XS.goto X0.here hx rfl (pc0 := 38) (pc' := 7) rfl (hb hby d1_38) (by decide) (by decide) k) ?_
        show gO (tF s₁ m 7 (la3 o0 0 (0 : UInt64) 4) [])
        refine gob (fun _ k => XS.iload X0.here hx rfl (hb hby d1_7) rfl k) ?_
        show gO (tF s₁ m 9 (la3 o0 0 (0 : UInt64) 4) [(.int 4)])
        refine gob (fun _ k => XS.aloadN X0.here hx rfl (hb hby d1_9) rfl rfl k) ?_
        show gO (tF s₁ m 10 (la3 o0 0 (0 : UInt64) 4) [(.ref o0), (.int 4)])
        obtain ⟨cl57, Ar57, aq57, S57, N57, H57, G57⟩ := id V_a
        refine gob (X0.arraylength hx (by rw [e0]; exact Ar57.1) (State.isArrayOf_alike hZ.alike Ar57.2.1) (g := (mkF m 10 (la3 o0 0 (0 : UInt64) 4) [(.ref o0), (.int 4)])) rfl rfl (hb hby d1_10)) ?_
        rw [len_of S57 N57]
        show gO (tF s₁ m 11 (la3 o0 0 (0 : UInt64) 4) [(.int 4), (.int 4)])
        refine gob (fun _ k => XS.icmpNo X0.here hx rfl (hb hby d1_11) rfl (flt (by decide : ¬ ((4 : Int32) < (4 : Int32)))).2.2.1 k) ?_
        show gO (tF s₁ m 14 (la3 o0 0 (0 : UInt64) 4) [])
        refine gob (fun _ k => XS.aloadN X0.here hx rfl (hb hby d1_14) rfl rfl k) ?_
        show gO (tF s₁ m 15 (la3 o0 0 (0 : UInt64) 4) [(.ref o0)])
        refine gob (fun _ k => XS.iload X0.here hx rfl (hb hby d1_15) rfl k) ?_
        show gO (tF s₁ m 17 (la3 o0 0 (0 : UInt64) 4) [(.int 4), (.ref o0)])
        refine gob (fun _ k => XS.iconst X0.here hx rfl (hb hby d1_17) k) ?_
        show gO (tF s₁ m 18 (la3 o0 0 (0 : UInt64) 4) [(.int 1), (.int 4), (.ref o0)])
        refine gob (fun _ k => XS.isub X0.here hx rfl (hb hby d1_18) rfl k) ?_
        show gO (tF s₁ m 19 (la3 o0 0 (0 : UInt64) 4) [(.int 3), (.ref o0)])
        obtain ⟨cl58, Ar58, aq58, S58, N58, H58, G58⟩ := id V_a
        have hin58 : ¬ ((3 : Int32) < 0 ∨ cl58.slots.size ≤ ((3 : Int32)).toNatClampNeg) := inb_of S58 ⟨by decide, by decide⟩
        refine gob (X0.iaload hx (j := (3 : Int32)) (v := (.int e_3)) (by rw [e0]; exact Ar58.1) (State.isArrayOf_alike hZ.alike Ar58.2.1) Ar58.2.2 hin58 (Has.at H58 hin58 rfl) (g := (mkF m 19 (la3 o0 0 (0 : UInt64) 4) [(.int 3), (.ref o0)])) rfl rfl (hb hby d1_19)) ?_
        show gO (tF s₁ m 20 (la3 o0 0 (0 : UInt64) 4) [(.int e_3)])
        by_cases hc20_59 : (0 : Int32) < e_3
        · skip
          refine gob (fun _ k => XS.ifNo X0.here hx rfl (hb hby d1_20) rfl ((if0 _ _).trans (tlt hc20_59).2.2.2) k) ?_
          show gO (tF s₁ m 23 (la3 o0 0 (0 : UInt64) 4) [])
          refine gob (fun _ k => XS.iinc X0.here hx rfl (hb hby d1_23) rfl (l' := (la3 o0 1 (0 : UInt64) 4)) rfl k) ?_
          show gO (tF s₁ m 26 (la3 o0 1 (0 : UInt64) 4) [])
          refine gob (fun _ k => XS.dloadN X0.here hx rfl (hb hby d1_26) rfl k) ?_
          show gO (tF s₁ m 27 (la3 o0 1 (0 : UInt64) 4) [(.double (0 : UInt64))])
          refine gob (fun _ k => XS.iloadN X0.here hx rfl (hb hby d1_27) rfl k) ?_
          show gO (tF s₁ m 28 (la3 o0 1 (0 : UInt64) 4) [(.int 1), (.double (0 : UInt64))])
          refine gob (fun _ k => XS.i2dS X0.here hx rfl (hb hby d1_28) rfl (v := (4607182418800017408 : UInt64)) (by decide +kernel) k) ?_
          show gO (tF s₁ m 29 (la3 o0 1 (0 : UInt64) 4) [(.double (4607182418800017408 : UInt64)), (.double (0 : UInt64))])
          refine gob (fun _ k => XS.iload X0.here hx rfl (hb hby d1_29) rfl k) ?_
          show gO (tF s₁ m 31 (la3 o0 1 (0 : UInt64) 4) [(.int 4), (.double (4607182418800017408 : UInt64)), (.double (0 : UInt64))])
          refine gob (fun _ k => XS.i2dS X0.here hx rfl (hb hby d1_31) rfl (v := (4616189618054758400 : UInt64)) (by decide +kernel) k) ?_
          show gO (tF s₁ m 32 (la3 o0 1 (0 : UInt64) 4) [(.double (4616189618054758400 : UInt64)), (.double (4607182418800017408 : UInt64)), (.double (0 : UInt64))])
          refine gob (fun _ k => XS.ddivS X0.here hx rfl (hb hby d1_32) rfl (v := (4598175219545276416 : UInt64)) (by unfold Jvm.Free.Fl.NoNaN64; decide +kernel) (by decide +kernel) k) ?_
          show gO (tF s₁ m 33 (la3 o0 1 (0 : UInt64) 4) [(.double (4598175219545276416 : UInt64)), (.double (0 : UInt64))])
          refine gob (fun _ k => XS.daddS X0.here hx rfl (hb hby d1_33) rfl (v := (4598175219545276416 : UInt64)) (by unfold Jvm.Free.Fl.NoNaN64; decide +kernel) (by decide +kernel) k) ?_
          show gO (tF s₁ m 34 (la3 o0 1 (0 : UInt64) 4) [(.double (4598175219545276416 : UInt64))])
          refine gob (fun _ k => XS.dstoreN X0.here hx rfl (hb hby d1_34) rfl (l' := (la3 o0 1 (4598175219545276416 : UInt64) 4)) rfl k) ?_
          show gO (tF s₁ m 35 (la3 o0 1 (4598175219545276416 : UInt64) 4) [])
          refine gob (fun _ k => XS.iinc X0.here hx rfl (hb hby d1_35) rfl (l' := (la3 o0 1 (4598175219545276416 : UInt64) 5)) rfl k) ?_
          show gO (tF s₁ m 38 (la3 o0 1 (4598175219545276416 : UInt64) 5) [])
          refine gob (fun _ k => XS.goto X0.here hx rfl (pc0 := 38) (pc' := 7) rfl (hb hby d1_38) (by decide) (by decide) k) ?_
          show gO (tF s₁ m 7 (la3 o0 1 (4598175219545276416 : UInt64) 5) [])
          refine gob (fun _ k => XS.iload X0.here hx rfl (hb hby d1_7) rfl k) ?_
          show gO (tF s₁ m 9 (la3 o0 1 (4598175219545276416 : UInt64) 5) [(.int 5)])
          refine gob (fun _ k => XS.aloadN X0.here hx rfl (hb hby d1_9) rfl rfl k) ?_
          show gO (tF s₁ m 10 (la3 o0 1 (4598175219545276416 : UInt64) 5) [(.ref o0), (.int 5)])
          obtain ⟨cl60, Ar60, aq60, S60, N60, H60, G60⟩ := id V_a
          refine gob (X0.arraylength hx (by rw [e0]; exact Ar60.1) (State.isArrayOf_alike hZ.alike Ar60.2.1) (g := (mkF m 10 (la3 o0 1 (4598175219545276416 : UInt64) 5) [(.ref o0), (.int 5)])) rfl rfl (hb hby d1_10)) ?_
          rw [len_of S60 N60]
          show gO (tF s₁ m 11 (la3 o0 1 (4598175219545276416 : UInt64) 5) [(.int 4), (.int 5)])
          refine gob (fun _ k => XS.icmpYes X0.here hx rfl (pc0 := 11) (pc' := 41) rfl (hb hby d1_11) rfl (tlt (by decide : (4 : Int32) < (5 : Int32))).2.2.1 (by decide) (by decide) k) ?_
          show gO (tF s₁ m 41 (la3 o0 1 (4598175219545276416 : UInt64) 5) [])
          refine gob (fun _ k => XS.iloadN X0.here hx rfl (hb hby d1_41) rfl k) ?_
          show gO (tF s₁ m 42 (la3 o0 1 (4598175219545276416 : UInt64) 5) [(.int 1)])
          refine gob (fun _ k => XS.ifYes X0.here hx rfl (pc0 := 42) (pc' := 49) rfl (hb hby d1_42) rfl ((if0 _ _).trans (feq (by decide : ¬ ((1 : Int32) = (0 : Int32)))).2) (by decide) (by decide) k) ?_
          show gO (tF s₁ m 49 (la3 o0 1 (4598175219545276416 : UInt64) 5) [])
          refine gob (fun _ k => XS.dloadN X0.here hx rfl (hb hby d1_49) rfl k) ?_
          show gO (tF s₁ m 50 (la3 o0 1 (4598175219545276416 : UInt64) 5) [(.double (4598175219545276416 : UInt64))])
          refine gob (fun _ k => XS.iloadN X0.here hx rfl (hb hby d1_50) rfl k) ?_
          show gO (tF s₁ m 51 (la3 o0 1 (4598175219545276416 : UInt64) 5) [(.int 1), (.double (4598175219545276416 : UInt64))])
          refine gob (fun _ k => XS.i2dS X0.here hx rfl (hb hby d1_51) rfl (v := (4607182418800017408 : UInt64)) (by decide +kernel) k) ?_
          show gO (tF s₁ m 52 (la3 o0 1 (4598175219545276416 : UInt64) 5) [(.double (4607182418800017408 : UInt64)), (.double (4598175219545276416 : UInt64))])
          refine gob (fun _ k => XS.ddivS X0.here hx rfl (hb hby d1_52) rfl (v := (4598175219545276416 : UInt64)) (by unfold Jvm.Free.Fl.NoNaN64; decide +kernel) (by decide +kernel) k) ?_
          show gO (tF s₁ m 53 (la3 o0 1 (4598175219545276416 : UInt64) 5) [(.double (4598175219545276416 : UInt64))])
          refine goD X0 hx hlk Bd.returns (hb hby d1_53) ?_ (by decide) (by decide)
          show Qap4 Z o0 k_a e_0 e_1 e_2 e_3 h0 n0 (some (.double (4598175219545276416 : UInt64))) s₁.heap _
          exact ⟨(4598175219545276416 : UInt64), rfl, (Or.inr (Or.inr (Or.inr (Or.inr (Or.inr (Or.inr (Or.inr (Or.inr (Or.inr (Or.inr (Or.inr (Or.inr (Or.inr (Or.inr (Or.inl ⟨hc20_3, hc20_35, hc20_51, hc20_59, rfl⟩))))))))))))))), N0, e0⟩
        · skip
          refine gob (fun _ k => XS.ifYes X0.here hx rfl (pc0 := 20) (pc' := 35) rfl (hb hby d1_20) rfl ((if0 _ _).trans (flt hc20_59).2.2.2) (by decide) (by decide) k) ?_
          show gO (tF s₁ m 35 (la3 o0 0 (0 : UInt64) 4) [])
          refine gob (fun _ k => XS.iinc X0.here hx rfl (hb hby d1_35) rfl (l' := (la3 o0 0 (0 : UInt64) 5)) rfl k) ?_
          show gO (tF s₁ m 38 (la3 o0 0 (0 : UInt64) 5) [])
          refine gob (fun _ k => XS.goto X0.here hx rfl (pc0 := 38) (pc' := 7) rfl (hb hby d1_38) (by decide) (by decide) k) ?_
          show gO (tF s₁ m 7 (la3 o0 0 (0 : UInt64) 5) [])
          refine gob (fun _ k => XS.iload X0.here hx rfl (hb hby d1_7) rfl k) ?_
          show gO (tF s₁ m 9 (la3 o0 0 (0 : UInt64) 5) [(.int 5)])
          refine gob (fun _ k => XS.aloadN X0.here hx rfl (hb hby d1_9) rfl rfl k) ?_
          show gO (tF s₁ m 10 (la3 o0 0 (0 : UInt64) 5) [(.ref o0), (.int 5)])
          obtain ⟨cl61, Ar61, aq61, S61, N61, H61, G61⟩ := id V_a
          refine gob (X0.arraylength hx (by rw [e0]; exact Ar61.1) (State.isArrayOf_alike hZ.alike Ar61.2.1) (g := (mkF m 10 (la3 o0 0 (0 : UInt64) 5) [(.ref o0), (.int 5)])) rfl rfl (hb hby d1_10)) ?_
          rw [len_of S61 N61]
          show gO (tF s₁ m 11 (la3 o0 0 (0 : UInt64) 5) [(.int 4), (.int 5)])
          refine gob (fun _ k => XS.icmpYes X0.here hx rfl (pc0 := 11) (pc' := 41) rfl (hb hby d1_11) rfl (tlt (by decide : (4 : Int32) < (5 : Int32))).2.2.1 (by decide) (by decide) k) ?_
          show gO (tF s₁ m 41 (la3 o0 0 (0 : UInt64) 5) [])
          refine gob (fun _ k => XS.iloadN X0.here hx rfl (hb hby d1_41) rfl k) ?_
          show gO (tF s₁ m 42 (la3 o0 0 (0 : UInt64) 5) [(.int 0)])
          refine gob (fun _ k => XS.ifNo X0.here hx rfl (hb hby d1_42) rfl ((if0 _ _).trans (teq (by decide : (0 : Int32) = (0 : Int32))).2) k) ?_
          show gO (tF s₁ m 45 (la3 o0 0 (0 : UInt64) 5) [])
          refine gob (fun _ k => XS.dconst0 X0.here hx rfl (hb hby d1_45) (v := (0 : UInt64)) (by decide +kernel) k) ?_
          show gO (tF s₁ m 46 (la3 o0 0 (0 : UInt64) 5) [(.double (0 : UInt64))])
          refine gob (fun _ k => XS.goto X0.here hx rfl (pc0 := 46) (pc' := 53) rfl (hb hby d1_46) (by decide) (by decide) k) ?_
          show gO (tF s₁ m 53 (la3 o0 0 (0 : UInt64) 5) [(.double (0 : UInt64))])
          refine goD X0 hx hlk Bd.returns (hb hby d1_53) ?_ (by decide) (by decide)
          show Qap4 Z o0 k_a e_0 e_1 e_2 e_3 h0 n0 (some (.double (0 : UInt64))) s₁.heap _
          exact ⟨(0 : UInt64), rfl, (Or.inr (Or.inr (Or.inr (Or.inr (Or.inr (Or.inr (Or.inr (Or.inr (Or.inr (Or.inr (Or.inr (Or.inr (Or.inr (Or.inr (Or.inr ⟨hc20_3, hc20_35, hc20_51, hc20_59, rfl⟩))))))))))))))), N0, e0⟩
theorem pd_0 : parseMethodDescriptor "([I)D" = some ⟨[(.array .int)], some .double⟩ := by decide +kernel
theorem ef_0 (m : MethodId) (x0 : Int32) (x1 : Int32) (x2 : Int32) (x3 : Int32) (x4 : Int32) : entryFrame m #[(.int x0), (.int x1), (.int x2), (.int x3), (.int x4)] maxLocals = mkF m 0 #[.val (.int x0), .val (.int x1), .val (.int x2), .val (.int x3), .val (.int x4), .unset, .unset, .unset, .unset, .unset, .unset, .unset, .unset, .unset] [] := by first | (simp [entryFrame, mkF, argsToLocals, Value.category, maxLocals]; done) | rfl
def Q0 (Z : State) (p0 : Int32) (p1 : Int32) (p2 : Int32) (p3 : Int32) (p4 : Int32) (h0 : Heap) (n0 : Nat) (v : Option Value) (h : Heap) (L : List Loc) : Prop := v = some (.int 1) ∧ Fr n0 L
theorem la_0_9_531 (p4 : Int32) (n_ : Int32) (hn_ : ((p4 &&& (2147483647 : Int32)) % (5 : Int32)) = n_) (hn1 : ¬ (n_ = (0 : Int32))) (hn115 : ¬ (n_ = (1 : Int32))) (hn237 : ¬ (n_ = (2 : Int32))) (hn372 : ¬ (n_ = (3 : Int32))) : n_ = (4 : Int32) := by
  have := rng32 p4
  have := rng32 n_
  have : (0 : Int32).toInt = 0 := by decide
  have : (1 : Int32).toInt = 1 := by decide
  have : (2 : Int32).toInt = 2 := by decide
  have : (2147483647 : Int32).toInt = 2147483647 := by decide
  have : (3 : Int32).toInt = 3 := by decide
  have : (4 : Int32).toInt = 4 := by decide
  have : (5 : Int32).toInt = 5 := by decide
  have : ((p4 &&& (2147483647 : Int32))).toInt = (p4).toInt % (2 ^ 31 : Nat) := c_mask p4 (2147483647 : Int32) 31 (by decide) (by decide)
  have := c_irem (p4 &&& (2147483647 : Int32)) (5 : Int32) (5) (by decide)
  have := rng32 ((p4 &&& (2147483647 : Int32)) % (5 : Int32))
  try (simp only [Int32.lt_iff_toInt_lt, Int32.le_iff_toInt_le, Int64.lt_iff_toInt_lt, Int64.le_iff_toInt_le, ← Int32.toInt_inj, ← Int64.toInt_inj, ne_eq] at *)
  omega
set_option maxRecDepth 65536 in
set_option maxHeartbeats 40000000 in
theorem rm0 (l : Launch) (Z : State) (a0 : Array Value) (hw : ∀ d ∈ tables_1, d.before a0 Z = true) (ws : List Jvm.Cond) (p0 : Int32) (p1 : Int32) (p2 : Int32) (p3 : Int32) (p4 : Int32) (h0 : Heap) (n0 : Nat) (Z0 : n0 ≤ h0.size) :
    MetFree l x (head1 (Jvm.Cond.code x code maxLocals ret :: ws) room_1) (fun a U => a = #[(.int p0), (.int p1), (.int p2), (.int p3), (.int p4)] ∧ Z.Warmed39 U.vm ∧ U.heap = h0) (fun _ _ _ _ _ => True) (fun _ U o U' => ∃ v L, o = .returned v ∧ Q0 Z p0 p1 p2 p3 p4 h0 n0 v U'.heap L ∧ FrameEnd U o U' L 16 192) := by
  refine MetFree.of_bodySF (plainFor_of_name (by first | (simp [plainName, overriddenIn]; done) | decide +kernel)) hisR ?_
  intro p e s m args below meth c s₁ Bd hml0 hP hK
  obtain ⟨rfl, hZ, hh⟩ := hP
  have hx := Bd.exec
  have hby := Bd.bytes
  have hml : c.maxLocals = 14 := hml0
  have hown : s.vm.findClass "com/example/coevolution/coevolution/measure/MeasuresAveragePrecisionPinLaw" = some m.cls := findClass_of_methodNamed Bd.named
  have hnm := (name_of_methodNamed Bd.named Bd.method).1
  have hlk := BodyLoose.notSynchronized Bd
  have X0 : Stand p l e room_1 s m #[(.int p0), (.int p1), (.int p2), (.int p3), (.int p4)] below meth c s₁ [] 0 0 := Stand.of_body Bd
  have e0 : s₁.heap = h0 := by rw [← hh, Bd.state]; rfl
  have N0 := Fr.nil n0
  show Go p e below s (Q0 Z p0 p1 p2 p3 p4 h0 n0) 16 192 (s₁.setTop (entryFrame m #[(.int p0), (.int p1), (.int p2), (.int p3), (.int p4)] maxLocals))
  rw [ef_0]
  show gO (tF s₁ m 0 (la4 p0 p1 p2 p3 p4) [])
  refine gob (fun _ k => XS.iload X0.here hx rfl (hb hby at_0) rfl k) ?_
  show gO (tF s₁ m 2 (la4 p0 p1 p2 p3 p4) [(.int p4)])
  refine gob (X0.ldcInt hx hown (mvT hZ (hW hw 0 rfl)) (g := (mkF m 2 (la4 p0 p1 p2 p3 p4) [(.int p4)])) rfl (hb hby at_2)) ?_
  show gO (tF s₁ m 4 (la4 p0 p1 p2 p3 p4) [(.int 2147483647), (.int p4)])
  refine gob (fun _ k => XS.iand X0.here hx rfl (hb hby at_4) rfl k) ?_
  show gO (tF s₁ m 5 (la4 p0 p1 p2 p3 p4) [(.int (p4 &&& (2147483647 : Int32)))])
  refine gob (fun _ k => XS.iconst X0.here hx rfl (hb hby at_5) k) ?_
  show gO (tF s₁ m 6 (la4 p0 p1 p2 p3 p4) [(.int 5), (.int (p4 &&& (2147483647 : Int32)))])
  refine gob (fun _ k => iremM X0 hx rfl (hb hby at_6) rfl (by decide) k) ?_
  show gO (tF s₁ m 7 (la4 p0 p1 p2 p3 p4) [(.int ((p4 &&& (2147483647 : Int32)) % (5 : Int32)))])
  refine gob (fun _ k => XS.istore X0.here hx rfl (hb hby at_7) rfl (l' := (la5 p0 p1 p2 p3 p4 ((p4 &&& (2147483647 : Int32)) % (5 : Int32)))) rfl k) ?_
  show gO (tF s₁ m 9 (la5 p0 p1 p2 p3 p4 ((p4 &&& (2147483647 : Int32)) % (5 : Int32))) [])
  generalize hn_ : ((p4 &&& (2147483647 : Int32)) % (5 : Int32)) = n_
  show gO (tF s₁ m 9 (la5 p0 p1 p2 p3 p4 n_) [])
  by_cases hn1 : n_ = (0 : Int32)
  · skip
    subst hn1
    show gO (tF s₁ m 9 (la5 p0 p1 p2 p3 p4 0) [])
    refine gob (fun _ k => XS.iload X0.here hx rfl (hb hby at_9) rfl k) ?_
    show gO (tF s₁ m 11 (la5 p0 p1 p2 p3 p4 0) [(.int 0)])
    obtain ⟨T2, h2, k2, X2, e2, E2, A2, st2⟩ := newP X0 hx hZ (hW hw 1 rfl) e0 (g := (mkF m 11 (la5 p0 p1 p2 p3 p4 0) [(.int 0)])) rfl (hb hby at_11) rfl (by decide) (cap := 0) (by decide) (by decide) (by decide) (by decide)
    obtain ⟨b2, g2⟩ : ∃ z, z = h0.size := ⟨_, rfl⟩
    rw [← g2] at A2 st2
    have g3 : n0 ≤ b2 := Nat.le_trans Z0 (Nat.le_of_eq g2.symm)
    have z4 : n0 ≤ h2.size := Nat.le_trans Z0 E2.1
    have V2 : Arv Z h2 b2 k2 .int (0 : Int32) [] (.int 0) := Arv.new A2 (by decide)
    refine gob st2 ?_
    replace X2 := castX X2 (rfl : _ = 1) (rfl : _ = 0)
    show gO (tF T2 m 13 (la5 p0 p1 p2 p3 p4 0) [(.ref b2)])
    refine gob (fun _ k => XS.astore X2.here hx rfl (hb hby at_13) rfl rfl (l' := (la6 p0 p1 p2 p3 p4 0 b2)) rfl k) ?_
    show gO (tF T2 m 15 (la6 p0 p1 p2 p3 p4 0 b2) [])
    refine gob (fun _ k => XS.iload X2.here hx rfl (hb hby at_15) rfl k) ?_
    show gO (tF T2 m 17 (la6 p0 p1 p2 p3 p4 0 b2) [(.int 0)])
    refine gob (fun _ k => XS.ifYes X2.here hx rfl (pc0 := 17) (pc' := 25) rfl (hb hby at_17) rfl ((if0 _ _).trans (flt (by decide : ¬ ((0 : Int32) < (0 : Int32)))).2.2.2) (by decide) (by decide) k) ?_
    show gO (tF T2 m 25 (la6 p0 p1 p2 p3 p4 0 b2) [])
    refine gob (fun _ k => XS.iload X2.here hx rfl (hb hby at_25) rfl k) ?_
    show gO (tF T2 m 27 (la6 p0 p1 p2 p3 p4 0 b2) [(.int 0)])
    refine gob (fun _ k => XS.iconst X2.here hx rfl (hb hby at_27) k) ?_
    show gO (tF T2 m 28 (la6 p0 p1 p2 p3 p4 0 b2) [(.int 1), (.int 0)])
    refine gob (fun _ k => XS.icmpYes X2.here hx rfl (pc0 := 28) (pc' := 36) rfl (hb hby at_28) rfl (flt (by decide : ¬ ((1 : Int32) < (0 : Int32)))).2.2.2 (by decide) (by decide) k) ?_
    show gO (tF T2 m 36 (la6 p0 p1 p2 p3 p4 0 b2) [])
    refine gob (fun _ k => XS.iload X2.here hx rfl (hb hby at_36) rfl k) ?_
    show gO (tF T2 m 38 (la6 p0 p1 p2 p3 p4 0 b2) [(.int 0)])
    refine gob (fun _ k => XS.iconst X2.here hx rfl (hb hby at_38) k) ?_
    show gO (tF T2 m 39 (la6 p0 p1 p2 p3 p4 0 b2) [(.int 2), (.int 0)])
    refine gob (fun _ k => XS.icmpYes X2.here hx rfl (pc0 := 39) (pc' := 47) rfl (hb hby at_39) rfl (flt (by decide : ¬ ((2 : Int32) < (0 : Int32)))).2.2.2 (by decide) (by decide) k) ?_
    show gO (tF T2 m 47 (la6 p0 p1 p2 p3 p4 0 b2) [])
    refine gob (fun _ k => XS.iload X2.here hx rfl (hb hby at_47) rfl k) ?_
    show gO (tF T2 m 49 (la6 p0 p1 p2 p3 p4 0 b2) [(.int 0)])
    refine gob (fun _ k => XS.iconst X2.here hx rfl (hb hby at_49) k) ?_
    show gO (tF T2 m 50 (la6 p0 p1 p2 p3 p4 0 b2) [(.int 3), (.int 0)])
    refine gob (fun _ k => XS.icmpYes X2.here hx rfl (pc0 := 50) (pc' := 58) rfl (hb hby at_50) rfl (flt (by decide : ¬ ((3 : Int32) < (0 : Int32)))).2.2.2 (by decide) (by decide) k) ?_
    show gO (tF T2 m 58 (la6 p0 p1 p2 p3 p4 0 b2) [])
    refine gob (fun _ k => XS.iconst X2.here hx rfl (hb hby at_58) k) ?_
    show gO (tF T2 m 59 (la6 p0 p1 p2 p3 p4 0 b2) [(.int 0)])
    refine gob (fun _ k => XS.istore X2.here hx rfl (hb hby at_59) rfl (l' := (la7 p0 p1 p2 p3 p4 0 b2 0)) rfl k) ?_
    show gO (tF T2 m 61 (la7 p0 p1 p2 p3 p4 0 b2 0) [])
    have seg : ∀ (key_ : Int32), (∀ (T_ : State) (lc_ : List Loc) (h_ : Heap) (b1_ b2_ : Addr) (k1_ k2_ : ClassId), Stand p l e room_1 s m #[(.int p0), (.int p1), (.int p2), (.int p3), (.int p4)] below meth c T_ lc_ 3 32 → T_.heap = h_ → Fr n0 lc_ → n0 ≤ h_.size → Arv Z h_ b2 k2 .int (0 : Int32) [] (.int 0) → Arv Z h_ b1_ k1_ .int (16 : Int32) [(.int 0), (.int 1), (.int 1), (.int 5), (.int 1), (.int 1), (.int 7), (.int 23), (.int 1), (.int 3), (.int 5), (.int 29), (.int 1), (.int 11), (.int 1), (.int 1)] (.int 0) → Arv Z h_ b2_ k2_ .int (16 : Int32) [(.int 1), (.int 4), (.int 3), (.int 12), (.int 2), (.int 2), (.int 12), (.int 36), (.int 1), (.int 4), (.int 6), (.int 36), (.int 1), (.int 12), (.int 1), (.int 1)] (.int 0) → Go p e below s (Q0 Z p0 p1 p2 p3 p4 h0 n0) 16 192 (T_.setTop (mkF m 282 (la8 p0 p1 p2 p3 p4 0 b2 key_ b1_ b2_) []))) → Go p e below s (Q0 Z p0 p1 p2 p3 p4 h0 n0) 16 192 (T2.setTop (mkF m 112 (la7 p0 p1 p2 p3 p4 0 b2 key_) [])) := by
      intro key_ kont
      show gO (tF T2 m 112 (la7 p0 p1 p2 p3 p4 0 b2 key_) [])
      refine gob (fun _ k => XS.bipush X2.here hx rfl (hb hby at_112) k) ?_
      show gO (tF T2 m 114 (la7 p0 p1 p2 p3 p4 0 b2 key_) [(.int 16)])
      obtain ⟨T5, h5, k5, X5, e5, E5, A5, st5⟩ := newP X2 hx hZ (hW hw 1 rfl) e2 (g := (mkF m 114 (la7 p0 p1 p2 p3 p4 0 b2 key_) [(.int 16)])) rfl (hb hby at_114) rfl (by decide) (cap := 16) (by decide) (by decide) (by decide) (by decide)
      obtain ⟨b5, g5⟩ : ∃ z, z = h2.size := ⟨_, rfl⟩
      rw [← g5] at A5 st5
      have n6 : b2 ≠ b5 := Nat.ne_of_lt (Nat.lt_of_lt_of_le V2.lt (Nat.le_of_eq g5.symm))
      have g7 : n0 ≤ b5 := Nat.le_trans z4 (Nat.le_of_eq g5.symm)
      have z8 : n0 ≤ h5.size := Nat.le_trans z4 E5.1
      have V5 : Arv Z h5 b5 k5 .int (16 : Int32) [(.int 0), (.int 0), (.int 0), (.int 0), (.int 0), (.int 0), (.int 0), (.int 0), (.int 0), (.int 0), (.int 0), (.int 0), (.int 0), (.int 0), (.int 0), (.int 0)] (.int 0) := (Arv.new A5 (by decide)).pad (pad_rep [] (.int 0) 16)
      refine gob st5 ?_
      replace X5 := castX X5 (rfl : _ = 2) (rfl : _ = 16)
      show gO (tF T5 m 116 (la7 p0 p1 p2 p3 p4 0 b2 key_) [(.ref b5)])
      refine gob (fun _ k => XS.dup X5.here hx rfl (hb hby at_116) rfl rfl k) ?_
      show gO (tF T5 m 117 (la7 p0 p1 p2 p3 p4 0 b2 key_) [(.ref b5), (.ref b5)])
      refine gob (fun _ k => XS.iconst X5.here hx rfl (hb hby at_117) k) ?_
      show gO (tF T5 m 118 (la7 p0 p1 p2 p3 p4 0 b2 key_) [(.int 0), (.ref b5), (.ref b5)])
      refine gob (fun _ k => XS.iconst X5.here hx rfl (hb hby at_118) k) ?_
      show gO (tF T5 m 119 (la7 p0 p1 p2 p3 p4 0 b2 key_) [(.int 0), (.int 0), (.ref b5), (.ref b5)])
      obtain ⟨cl9, Ar9, aq9, S9, N9, H9, G9⟩ := id V5
      have hin9 : ¬ ((0 : Int32) < 0 ∨ cl9.slots.size ≤ ((0 : Int32)).toNatClampNeg) := inb_of S9 ⟨by decide, by decide⟩
      obtain ⟨T10, h10, X10, e10, W10, st10⟩ := stI X5 hx hZ e5 Ar9 (j := (0 : Int32)) hin9 (g := (mkF m 119 (la7 p0 p1 p2 p3 p4 0 b2 key_) [(.int 0), (.int 0), (.ref b5), (.ref b5)])) rfl rfl (hb hby at_119)
      refine gob st10 ?_
      have z11 : n0 ≤ h10.size := Nat.le_trans z8 (Keep.of_wr W10).1
      have N10 := Fr.snoc X10 N0 g7
      have V10 : Arv Z h10 b5 k5 .int (16 : Int32) [(.int 0), (.int 0), (.int 0), (.int 0), (.int 0), (.int 0), (.int 0), (.int 0), (.int 0), (.int 0), (.int 0), (.int 0), (.int 0), (.int 0), (.int 0), (.int 0)] (.int 0) := Arv.set Ar9 aq9 S9 N9 H9 G9 rfl W10 0 rfl (Nat.le_of_ble_eq_true rfl)
      show gO (tF T10 m 120 (la7 p0 p1 p2 p3 p4 0 b2 key_) [(.ref b5)])
      refine gob (fun _ k => XS.dup X10.here hx rfl (hb hby at_120) rfl rfl k) ?_
      show gO (tF T10 m 121 (la7 p0 p1 p2 p3 p4 0 b2 key_) [(.ref b5), (.ref b5)])
      refine gob (fun _ k => XS.iconst X10.here hx rfl (hb hby at_121) k) ?_
      show gO (tF T10 m 122 (la7 p0 p1 p2 p3 p4 0 b2 key_) [(.int 1), (.ref b5), (.ref b5)])
      refine gob (fun _ k => XS.iconst X10.here hx rfl (hb hby at_122) k) ?_
      show gO (tF T10 m 123 (la7 p0 p1 p2 p3 p4 0 b2 key_) [(.int 1), (.int 1), (.ref b5), (.ref b5)])
      obtain ⟨cl12, Ar12, aq12, S12, N12, H12, G12⟩ := id V10
      have hin12 : ¬ ((1 : Int32) < 0 ∨ cl12.slots.size ≤ ((1 : Int32)).toNatClampNeg) := inb_of S12 ⟨by decide, by decide⟩
      obtain ⟨T13, h13, X13, e13, W13, st13⟩ := stI X10 hx hZ e10 Ar12 (j := (1 : Int32)) hin12 (g := (mkF m 123 (la7 p0 p1 p2 p3 p4 0 b2 key_) [(.int 1), (.int 1), (.ref b5), (.ref b5)])) rfl rfl (hb hby at_123)
      refine gob st13 ?_
      have z14 : n0 ≤ h13.size := Nat.le_trans z11 (Keep.of_wr W13).1
      have N13 := Fr.snoc X13 N10 g7
      have V13 : Arv Z h13 b5 k5 .int (16 : Int32) [(.int 0), (.int 1), (.int 0), (.int 0), (.int 0), (.int 0), (.int 0), (.int 0), (.int 0), (.int 0), (.int 0), (.int 0), (.int 0), (.int 0), (.int 0), (.int 0)] (.int 0) := Arv.set Ar12 aq12 S12 N12 H12 G12 rfl W13 1 rfl (Nat.le_of_ble_eq_true rfl)
      show gO (tF T13 m 124 (la7 p0 p1 p2 p3 p4 0 b2 key_) [(.ref b5)])
      refine gob (fun _ k => XS.dup X13.here hx rfl (hb hby at_124) rfl rfl k) ?_
      show gO (tF T13 m 125 (la7 p0 p1 p2 p3 p4 0 b2 key_) [(.ref b5), (.ref b5)])
      refine gob (fun _ k => XS.iconst X13.here hx rfl (hb hby at_125) k) ?_
      show gO (tF T13 m 126 (la7 p0 p1 p2 p3 p4 0 b2 key_) [(.int 2), (.ref b5), (.ref b5)])
      refine gob (fun _ k => XS.iconst X13.here hx rfl (hb hby at_126) k) ?_
      show gO (tF T13 m 127 (la7 p0 p1 p2 p3 p4 0 b2 key_) [(.int 1), (.int 2), (.ref b5), (.ref b5)])
      obtain ⟨cl15, Ar15, aq15, S15, N15, H15, G15⟩ := id V13
      have hin15 : ¬ ((2 : Int32) < 0 ∨ cl15.slots.size ≤ ((2 : Int32)).toNatClampNeg) := inb_of S15 ⟨by decide, by decide⟩
      obtain ⟨T16, h16, X16, e16, W16, st16⟩ := stI X13 hx hZ e13 Ar15 (j := (2 : Int32)) hin15 (g := (mkF m 127 (la7 p0 p1 p2 p3 p4 0 b2 key_) [(.int 1), (.int 2), (.ref b5), (.ref b5)])) rfl rfl (hb hby at_127)
      refine gob st16 ?_
      have z17 : n0 ≤ h16.size := Nat.le_trans z14 (Keep.of_wr W16).1
      have N16 := Fr.snoc X16 N13 g7
      have V16 : Arv Z h16 b5 k5 .int (16 : Int32) [(.int 0), (.int 1), (.int 1), (.int 0), (.int 0), (.int 0), (.int 0), (.int 0), (.int 0), (.int 0), (.int 0), (.int 0), (.int 0), (.int 0), (.int 0), (.int 0)] (.int 0) := Arv.set Ar15 aq15 S15 N15 H15 G15 rfl W16 2 rfl (Nat.le_of_ble_eq_true rfl)
      show gO (tF T16 m 128 (la7 p0 p1 p2 p3 p4 0 b2 key_) [(.ref b5)])
      refine gob (fun _ k => XS.dup X16.here hx rfl (hb hby at_128) rfl rfl k) ?_
      show gO (tF T16 m 129 (la7 p0 p1 p2 p3 p4 0 b2 key_) [(.ref b5), (.ref b5)])
      refine gob (fun _ k => XS.iconst X16.here hx rfl (hb hby at_129) k) ?_
      show gO (tF T16 m 130 (la7 p0 p1 p2 p3 p4 0 b2 key_) [(.int 3), (.ref b5), (.ref b5)])
      refine gob (fun _ k => XS.iconst X16.here hx rfl (hb hby at_130) k) ?_
      show gO (tF T16 m 131 (la7 p0 p1 p2 p3 p4 0 b2 key_) [(.int 5), (.int 3), (.ref b5), (.ref b5)])
      obtain ⟨cl18, Ar18, aq18, S18, N18, H18, G18⟩ := id V16
      have hin18 : ¬ ((3 : Int32) < 0 ∨ cl18.slots.size ≤ ((3 : Int32)).toNatClampNeg) := inb_of S18 ⟨by decide, by decide⟩
      obtain ⟨T19, h19, X19, e19, W19, st19⟩ := stI X16 hx hZ e16 Ar18 (j := (3 : Int32)) hin18 (g := (mkF m 131 (la7 p0 p1 p2 p3 p4 0 b2 key_) [(.int 5), (.int 3), (.ref b5), (.ref b5)])) rfl rfl (hb hby at_131)
      refine gob st19 ?_
      have z20 : n0 ≤ h19.size := Nat.le_trans z17 (Keep.of_wr W19).1
      have N19 := Fr.snoc X19 N16 g7
      have V19 : Arv Z h19 b5 k5 .int (16 : Int32) [(.int 0), (.int 1), (.int 1), (.int 5), (.int 0), (.int 0), (.int 0), (.int 0), (.int 0), (.int 0), (.int 0), (.int 0), (.int 0), (.int 0), (.int 0), (.int 0)] (.int 0) := Arv.set Ar18 aq18 S18 N18 H18 G18 rfl W19 3 rfl (Nat.le_of_ble_eq_true rfl)
      show gO (tF T19 m 132 (la7 p0 p1 p2 p3 p4 0 b2 key_) [(.ref b5)])
      refine gob (fun _ k => XS.dup X19.here hx rfl (hb hby at_132) rfl rfl k) ?_
      show gO (tF T19 m 133 (la7 p0 p1 p2 p3 p4 0 b2 key_) [(.ref b5), (.ref b5)])
      refine gob (fun _ k => XS.iconst X19.here hx rfl (hb hby at_133) k) ?_
      show gO (tF T19 m 134 (la7 p0 p1 p2 p3 p4 0 b2 key_) [(.int 4), (.ref b5), (.ref b5)])
      refine gob (fun _ k => XS.iconst X19.here hx rfl (hb hby at_134) k) ?_
      show gO (tF T19 m 135 (la7 p0 p1 p2 p3 p4 0 b2 key_) [(.int 1), (.int 4), (.ref b5), (.ref b5)])
      obtain ⟨cl21, Ar21, aq21, S21, N21, H21, G21⟩ := id V19
      have hin21 : ¬ ((4 : Int32) < 0 ∨ cl21.slots.size ≤ ((4 : Int32)).toNatClampNeg) := inb_of S21 ⟨by decide, by decide⟩
      obtain ⟨T22, h22, X22, e22, W22, st22⟩ := stI X19 hx hZ e19 Ar21 (j := (4 : Int32)) hin21 (g := (mkF m 135 (la7 p0 p1 p2 p3 p4 0 b2 key_) [(.int 1), (.int 4), (.ref b5), (.ref b5)])) rfl rfl (hb hby at_135)
      refine gob st22 ?_
      have z23 : n0 ≤ h22.size := Nat.le_trans z20 (Keep.of_wr W22).1
      have N22 := Fr.snoc X22 N19 g7
      have V22 : Arv Z h22 b5 k5 .int (16 : Int32) [(.int 0), (.int 1), (.int 1), (.int 5), (.int 1), (.int 0), (.int 0), (.int 0), (.int 0), (.int 0), (.int 0), (.int 0), (.int 0), (.int 0), (.int 0), (.int 0)] (.int 0) := Arv.set Ar21 aq21 S21 N21 H21 G21 rfl W22 4 rfl (Nat.le_of_ble_eq_true rfl)
      show gO (tF T22 m 136 (la7 p0 p1 p2 p3 p4 0 b2 key_) [(.ref b5)])
      refine gob (fun _ k => XS.dup X22.here hx rfl (hb hby at_136) rfl rfl k) ?_
      show gO (tF T22 m 137 (la7 p0 p1 p2 p3 p4 0 b2 key_) [(.ref b5), (.ref b5)])
      refine gob (fun _ k => XS.iconst X22.here hx rfl (hb hby at_137) k) ?_
      show gO (tF T22 m 138 (la7 p0 p1 p2 p3 p4 0 b2 key_) [(.int 5), (.ref b5), (.ref b5)])
      refine gob (fun _ k => XS.iconst X22.here hx rfl (hb hby at_138) k) ?_
      show gO (tF T22 m 139 (la7 p0 p1 p2 p3 p4 0 b2 key_) [(.int 1), (.int 5), (.ref b5), (.ref b5)])
      obtain ⟨cl24, Ar24, aq24, S24, N24, H24, G24⟩ := id V22
      have hin24 : ¬ ((5 : Int32) < 0 ∨ cl24.slots.size ≤ ((5 : Int32)).toNatClampNeg) := inb_of S24 ⟨by decide, by decide⟩
      obtain ⟨T25, h25, X25, e25, W25, st25⟩ := stI X22 hx hZ e22 Ar24 (j := (5 : Int32)) hin24 (g := (mkF m 139 (la7 p0 p1 p2 p3 p4 0 b2 key_) [(.int 1), (.int 5), (.ref b5), (.ref b5)])) rfl rfl (hb hby at_139)
      refine gob st25 ?_
      have z26 : n0 ≤ h25.size := Nat.le_trans z23 (Keep.of_wr W25).1
      have N25 := Fr.snoc X25 N22 g7
      have V25 : Arv Z h25 b5 k5 .int (16 : Int32) [(.int 0), (.int 1), (.int 1), (.int 5), (.int 1), (.int 1), (.int 0), (.int 0), (.int 0), (.int 0), (.int 0), (.int 0), (.int 0), (.int 0), (.int 0), (.int 0)] (.int 0) := Arv.set Ar24 aq24 S24 N24 H24 G24 rfl W25 5 rfl (Nat.le_of_ble_eq_true rfl)
      show gO (tF T25 m 140 (la7 p0 p1 p2 p3 p4 0 b2 key_) [(.ref b5)])
      refine gob (fun _ k => XS.dup X25.here hx rfl (hb hby at_140) rfl rfl k) ?_
      show gO (tF T25 m 141 (la7 p0 p1 p2 p3 p4 0 b2 key_) [(.ref b5), (.ref b5)])
      refine gob (fun _ k => XS.bipush X25.here hx rfl (hb hby at_141) k) ?_
      show gO (tF T25 m 143 (la7 p0 p1 p2 p3 p4 0 b2 key_) [(.int 6), (.ref b5), (.ref b5)])
      refine gob (fun _ k => XS.bipush X25.here hx rfl (hb hby at_143) k) ?_
      show gO (tF T25 m 145 (la7 p0 p1 p2 p3 p4 0 b2 key_) [(.int 7), (.int 6), (.ref b5), (.ref b5)])
      obtain ⟨cl27, Ar27, aq27, S27, N27, H27, G27⟩ := id V25
      have hin27 : ¬ ((6 : Int32) < 0 ∨ cl27.slots.size ≤ ((6 : Int32)).toNatClampNeg) := inb_of S27 ⟨by decide, by decide⟩
      obtain ⟨T28, h28, X28, e28, W28, st28⟩ := stI X25 hx hZ e25 Ar27 (j := (6 : Int32)) hin27 (g := (mkF m 145 (la7 p0 p1 p2 p3 p4 0 b2 key_) [(.int 7), (.int 6), (.ref b5), (.ref b5)])) rfl rfl (hb hby at_145)
      refine gob st28 ?_
      have z29 : n0 ≤ h28.size := Nat.le_trans z26 (Keep.of_wr W28).1
      have N28 := Fr.snoc X28 N25 g7
      have V28 : Arv Z h28 b5 k5 .int (16 : Int32) [(.int 0), (.int 1), (.int 1), (.int 5), (.int 1), (.int 1), (.int 7), (.int 0), (.int 0), (.int 0), (.int 0), (.int 0), (.int 0), (.int 0), (.int 0), (.int 0)] (.int 0) := Arv.set Ar27 aq27 S27 N27 H27 G27 rfl W28 6 rfl (Nat.le_of_ble_eq_true rfl)
      show gO (tF T28 m 146 (la7 p0 p1 p2 p3 p4 0 b2 key_) [(.ref b5)])
      refine gob (fun _ k => XS.dup X28.here hx rfl (hb hby at_146) rfl rfl k) ?_
      show gO (tF T28 m 147 (la7 p0 p1 p2 p3 p4 0 b2 key_) [(.ref b5), (.ref b5)])
      refine gob (fun _ k => XS.bipush X28.here hx rfl (hb hby at_147) k) ?_
      show gO (tF T28 m 149 (la7 p0 p1 p2 p3 p4 0 b2 key_) [(.int 7), (.ref b5), (.ref b5)])
      refine gob (fun _ k => XS.bipush X28.here hx rfl (hb hby at_149) k) ?_
      show gO (tF T28 m 151 (la7 p0 p1 p2 p3 p4 0 b2 key_) [(.int 23), (.int 7), (.ref b5), (.ref b5)])
      obtain ⟨cl30, Ar30, aq30, S30, N30, H30, G30⟩ := id V28
      have hin30 : ¬ ((7 : Int32) < 0 ∨ cl30.slots.size ≤ ((7 : Int32)).toNatClampNeg) := inb_of S30 ⟨by decide, by decide⟩
      obtain ⟨T31, h31, X31, e31, W31, st31⟩ := stI X28 hx hZ e28 Ar30 (j := (7 : Int32)) hin30 (g := (mkF m 151 (la7 p0 p1 p2 p3 p4 0 b2 key_) [(.int 23), (.int 7), (.ref b5), (.ref b5)])) rfl rfl (hb hby at_151)
      refine gob st31 ?_
      have z32 : n0 ≤ h31.size := Nat.le_trans z29 (Keep.of_wr W31).1
      have N31 := Fr.snoc X31 N28 g7
      have V31 : Arv Z h31 b5 k5 .int (16 : Int32) [(.int 0), (.int 1), (.int 1), (.int 5), (.int 1), (.int 1), (.int 7), (.int 23), (.int 0), (.int 0), (.int 0), (.int 0), (.int 0), (.int 0), (.int 0), (.int 0)] (.int 0) := Arv.set Ar30 aq30 S30 N30 H30 G30 rfl W31 7 rfl (Nat.le_of_ble_eq_true rfl)
      show gO (tF T31 m 152 (la7 p0 p1 p2 p3 p4 0 b2 key_) [(.ref b5)])
      refine gob (fun _ k => XS.dup X31.here hx rfl (hb hby at_152) rfl rfl k) ?_
      show gO (tF T31 m 153 (la7 p0 p1 p2 p3 p4 0 b2 key_) [(.ref b5), (.ref b5)])
      refine gob (fun _ k => XS.bipush X31.here hx rfl (hb hby at_153) k) ?_
      show gO (tF T31 m 155 (la7 p0 p1 p2 p3 p4 0 b2 key_) [(.int 8), (.ref b5), (.ref b5)])
      refine gob (fun _ k => XS.iconst X31.here hx rfl (hb hby at_155) k) ?_
      show gO (tF T31 m 156 (la7 p0 p1 p2 p3 p4 0 b2 key_) [(.int 1), (.int 8), (.ref b5), (.ref b5)])
      obtain ⟨cl33, Ar33, aq33, S33, N33, H33, G33⟩ := id V31
      have hin33 : ¬ ((8 : Int32) < 0 ∨ cl33.slots.size ≤ ((8 : Int32)).toNatClampNeg) := inb_of S33 ⟨by decide, by decide⟩
      obtain ⟨T34, h34, X34, e34, W34, st34⟩ := stI X31 hx hZ e31 Ar33 (j := (8 : Int32)) hin33 (g := (mkF m 156 (la7 p0 p1 p2 p3 p4 0 b2 key_) [(.int 1), (.int 8), (.ref b5), (.ref b5)])) rfl rfl (hb hby at_156)
      refine gob st34 ?_
      have z35 : n0 ≤ h34.size := Nat.le_trans z32 (Keep.of_wr W34).1
      have N34 := Fr.snoc X34 N31 g7
      have V34 : Arv Z h34 b5 k5 .int (16 : Int32) [(.int 0), (.int 1), (.int 1), (.int 5), (.int 1), (.int 1), (.int 7), (.int 23), (.int 1), (.int 0), (.int 0), (.int 0), (.int 0), (.int 0), (.int 0), (.int 0)] (.int 0) := Arv.set Ar33 aq33 S33 N33 H33 G33 rfl W34 8 rfl (Nat.le_of_ble_eq_true rfl)
      show gO (tF T34 m 157 (la7 p0 p1 p2 p3 p4 0 b2 key_) [(.ref b5)])
      refine gob (fun _ k => XS.dup X34.here hx rfl (hb hby at_157) rfl rfl k) ?_
      show gO (tF T34 m 158 (la7 p0 p1 p2 p3 p4 0 b2 key_) [(.ref b5), (.ref b5)])
      refine gob (fun _ k => XS.bipush X34.here hx rfl (hb hby at_158) k) ?_
      show gO (tF T34 m 160 (la7 p0 p1 p2 p3 p4 0 b2 key_) [(.int 9), (.ref b5), (.ref b5)])
      refine gob (fun _ k => XS.iconst X34.here hx rfl (hb hby at_160) k) ?_
      show gO (tF T34 m 161 (la7 p0 p1 p2 p3 p4 0 b2 key_) [(.int 3), (.int 9), (.ref b5), (.ref b5)])
      obtain ⟨cl36, Ar36, aq36, S36, N36, H36, G36⟩ := id V34
      have hin36 : ¬ ((9 : Int32) < 0 ∨ cl36.slots.size ≤ ((9 : Int32)).toNatClampNeg) := inb_of S36 ⟨by decide, by decide⟩
      obtain ⟨T37, h37, X37, e37, W37, st37⟩ := stI X34 hx hZ e34 Ar36 (j := (9 : Int32)) hin36 (g := (mkF m 161 (la7 p0 p1 p2 p3 p4 0 b2 key_) [(.int 3), (.int 9), (.ref b5), (.ref b5)])) rfl rfl (hb hby at_161)
      refine gob st37 ?_
      have z38 : n0 ≤ h37.size := Nat.le_trans z35 (Keep.of_wr W37).1
      have N37 := Fr.snoc X37 N34 g7
      have V37 : Arv Z h37 b5 k5 .int (16 : Int32) [(.int 0), (.int 1), (.int 1), (.int 5), (.int 1), (.int 1), (.int 7), (.int 23), (.int 1), (.int 3), (.int 0), (.int 0), (.int 0), (.int 0), (.int 0), (.int 0)] (.int 0) := Arv.set Ar36 aq36 S36 N36 H36 G36 rfl W37 9 rfl (Nat.le_of_ble_eq_true rfl)
      show gO (tF T37 m 162 (la7 p0 p1 p2 p3 p4 0 b2 key_) [(.ref b5)])
      refine gob (fun _ k => XS.dup X37.here hx rfl (hb hby at_162) rfl rfl k) ?_
      show gO (tF T37 m 163 (la7 p0 p1 p2 p3 p4 0 b2 key_) [(.ref b5), (.ref b5)])
      refine gob (fun _ k => XS.bipush X37.here hx rfl (hb hby at_163) k) ?_
      show gO (tF T37 m 165 (la7 p0 p1 p2 p3 p4 0 b2 key_) [(.int 10), (.ref b5), (.ref b5)])
      refine gob (fun _ k => XS.iconst X37.here hx rfl (hb hby at_165) k) ?_
      show gO (tF T37 m 166 (la7 p0 p1 p2 p3 p4 0 b2 key_) [(.int 5), (.int 10), (.ref b5), (.ref b5)])
      obtain ⟨cl39, Ar39, aq39, S39, N39, H39, G39⟩ := id V37
      have hin39 : ¬ ((10 : Int32) < 0 ∨ cl39.slots.size ≤ ((10 : Int32)).toNatClampNeg) := inb_of S39 ⟨by decide, by decide⟩
      obtain ⟨T40, h40, X40, e40, W40, st40⟩ := stI X37 hx hZ e37 Ar39 (j := (10 : Int32)) hin39 (g := (mkF m 166 (la7 p0 p1 p2 p3 p4 0 b2 key_) [(.int 5), (.int 10), (.ref b5), (.ref b5)])) rfl rfl (hb hby at_166)
      refine gob st40 ?_
      have z41 : n0 ≤ h40.size := Nat.le_trans z38 (Keep.of_wr W40).1
      have N40 := Fr.snoc X40 N37 g7
      have V40 : Arv Z h40 b5 k5 .int (16 : Int32) [(.int 0), (.int 1), (.int 1), (.int 5), (.int 1), (.int 1), (.int 7), (.int 23), (.int 1), (.int 3), (.int 5), (.int 0), (.int 0), (.int 0), (.int 0), (.int 0)] (.int 0) := Arv.set Ar39 aq39 S39 N39 H39 G39 rfl W40 10 rfl (Nat.le_of_ble_eq_true rfl)
      show gO (tF T40 m 167 (la7 p0 p1 p2 p3 p4 0 b2 key_) [(.ref b5)])
      refine gob (fun _ k => XS.dup X40.here hx rfl (hb hby at_167) rfl rfl k) ?_
      show gO (tF T40 m 168 (la7 p0 p1 p2 p3 p4 0 b2 key_) [(.ref b5), (.ref b5)])
      refine gob (fun _ k => XS.bipush X40.here hx rfl (hb hby at_168) k) ?_
      show gO (tF T40 m 170 (la7 p0 p1 p2 p3 p4 0 b2 key_) [(.int 11), (.ref b5), (.ref b5)])
      refine gob (fun _ k => XS.bipush X40.here hx rfl (hb hby at_170) k) ?_
      show gO (tF T40 m 172 (la7 p0 p1 p2 p3 p4 0 b2 key_) [(.int 29), (.int 11), (.ref b5), (.ref b5)])
      obtain ⟨cl42, Ar42, aq42, S42, N42, H42, G42⟩ := id V40
      have hin42 : ¬ ((11 : Int32) < 0 ∨ cl42.slots.size ≤ ((11 : Int32)).toNatClampNeg) := inb_of S42 ⟨by decide, by decide⟩
      obtain ⟨T43, h43, X43, e43, W43, st43⟩ := stI X40 hx hZ e40 Ar42 (j := (11 : Int32)) hin42 (g := (mkF m 172 (la7 p0 p1 p2 p3 p4 0 b2 key_) [(.int 29), (.int 11), (.ref b5), (.ref b5)])) rfl rfl (hb hby at_172)
      refine gob st43 ?_
      have z44 : n0 ≤ h43.size := Nat.le_trans z41 (Keep.of_wr W43).1
      have N43 := Fr.snoc X43 N40 g7
      have V43 : Arv Z h43 b5 k5 .int (16 : Int32) [(.int 0), (.int 1), (.int 1), (.int 5), (.int 1), (.int 1), (.int 7), (.int 23), (.int 1), (.int 3), (.int 5), (.int 29), (.int 0), (.int 0), (.int 0), (.int 0)] (.int 0) := Arv.set Ar42 aq42 S42 N42 H42 G42 rfl W43 11 rfl (Nat.le_of_ble_eq_true rfl)
      show gO (tF T43 m 173 (la7 p0 p1 p2 p3 p4 0 b2 key_) [(.ref b5)])
      refine gob (fun _ k => XS.dup X43.here hx rfl (hb hby at_173) rfl rfl k) ?_
      show gO (tF T43 m 174 (la7 p0 p1 p2 p3 p4 0 b2 key_) [(.ref b5), (.ref b5)])
      refine gob (fun _ k => XS.bipush X43.here hx rfl (hb hby at_174) k) ?_
      show gO (tF T43 m 176 (la7 p0 p1 p2 p3 p4 0 b2 key_) [(.int 12), (.ref b5), (.ref b5)])
      refine gob (fun _ k => XS.iconst X43.here hx rfl (hb hby at_176) k) ?_
      show gO (tF T43 m 177 (la7 p0 p1 p2 p3 p4 0 b2 key_) [(.int 1), (.int 12), (.ref b5), (.ref b5)])
      obtain ⟨cl45, Ar45, aq45, S45, N45, H45, G45⟩ := id V43
      have hin45 : ¬ ((12 : Int32) < 0 ∨ cl45.slots.size ≤ ((12 : Int32)).toNatClampNeg) := inb_of S45 ⟨by decide, by decide⟩
      obtain ⟨T46, h46, X46, e46, W46, st46⟩ := stI X43 hx hZ e43 Ar45 (j := (12 : Int32)) hin45 (g := (mkF m 177 (la7 p0 p1 p2 p3 p4 0 b2 key_) [(.int 1), (.int 12), (.ref b5), (.ref b5)])) rfl rfl (hb hby at_177)
      refine gob st46 ?_
      have z47 : n0 ≤ h46.size := Nat.le_trans z44 (Keep.of_wr W46).1
      have N46 := Fr.snoc X46 N43 g7
      have V46 : Arv Z h46 b5 k5 .int (16 : Int32) [(.int 0), (.int 1), (.int 1), (.int 5), (.int 1), (.int 1), (.int 7), (.int 23), (.int 1), (.int 3), (.int 5), (.int 29), (.int 1), (.int 0), (.int 0), (.int 0)] (.int 0) := Arv.set Ar45 aq45 S45 N45 H45 G45 rfl W46 12 rfl (Nat.le_of_ble_eq_true rfl)
      show gO (tF T46 m 178 (la7 p0 p1 p2 p3 p4 0 b2 key_) [(.ref b5)])
      refine gob (fun _ k => XS.dup X46.here hx rfl (hb hby at_178) rfl rfl k) ?_
      show gO (tF T46 m 179 (la7 p0 p1 p2 p3 p4 0 b2 key_) [(.ref b5), (.ref b5)])
      refine gob (fun _ k => XS.bipush X46.here hx rfl (hb hby at_179) k) ?_
      show gO (tF T46 m 181 (la7 p0 p1 p2 p3 p4 0 b2 key_) [(.int 13), (.ref b5), (.ref b5)])
      refine gob (fun _ k => XS.bipush X46.here hx rfl (hb hby at_181) k) ?_
      show gO (tF T46 m 183 (la7 p0 p1 p2 p3 p4 0 b2 key_) [(.int 11), (.int 13), (.ref b5), (.ref b5)])
      obtain ⟨cl48, Ar48, aq48, S48, N48, H48, G48⟩ := id V46
      have hin48 : ¬ ((13 : Int32) < 0 ∨ cl48.slots.size ≤ ((13 : Int32)).toNatClampNeg) := inb_of S48 ⟨by decide, by decide⟩
      obtain ⟨T49, h49, X49, e49, W49, st49⟩ := stI X46 hx hZ e46 Ar48 (j := (13 : Int32)) hin48 (g := (mkF m 183 (la7 p0 p1 p2 p3 p4 0 b2 key_) [(.int 11), (.int 13), (.ref b5), (.ref b5)])) rfl rfl (hb hby at_183)
      refine gob st49 ?_
      have z50 : n0 ≤ h49.size := Nat.le_trans z47 (Keep.of_wr W49).1
      have N49 := Fr.snoc X49 N46 g7
      have V49 : Arv Z h49 b5 k5 .int (16 : Int32) [(.int 0), (.int 1), (.int 1), (.int 5), (.int 1), (.int 1), (.int 7), (.int 23), (.int 1), (.int 3), (.int 5), (.int 29), (.int 1), (.int 11), (.int 0), (.int 0)] (.int 0) := Arv.set Ar48 aq48 S48 N48 H48 G48 rfl W49 13 rfl (Nat.le_of_ble_eq_true rfl)
      show gO (tF T49 m 184 (la7 p0 p1 p2 p3 p4 0 b2 key_) [(.ref b5)])
      refine gob (fun _ k => XS.dup X49.here hx rfl (hb hby at_184) rfl rfl k) ?_
      show gO (tF T49 m 185 (la7 p0 p1 p2 p3 p4 0 b2 key_) [(.ref b5), (.ref b5)])
      refine gob (fun _ k => XS.bipush X49.here hx rfl (hb hby at_185) k) ?_
      show gO (tF T49 m 187 (la7 p0 p1 p2 p3 p4 0 b2 key_) [(.int 14), (.ref b5), (.ref b5)])
      refine gob (fun _ k => XS.iconst X49.here hx rfl (hb hby at_187) k) ?_
      show gO (tF T49 m 188 (la7 p0 p1 p2 p3 p4 0 b2 key_) [(.int 1), (.int 14), (.ref b5), (.ref b5)])
      obtain ⟨cl51, Ar51, aq51, S51, N51, H51, G51⟩ := id V49
      have hin51 : ¬ ((14 : Int32) < 0 ∨ cl51.slots.size ≤ ((14 : Int32)).toNatClampNeg) := inb_of S51 ⟨by decide, by decide⟩
      obtain ⟨T52, h52, X52, e52, W52, st52⟩ := stI X49 hx hZ e49 Ar51 (j := (14 : Int32)) hin51 (g := (mkF m 188 (la7 p0 p1 p2 p3 p4 0 b2 key_) [(.int 1), (.int 14), (.ref b5), (.ref b5)])) rfl rfl (hb hby at_188)
      refine gob st52 ?_
      have z53 : n0 ≤ h52.size := Nat.le_trans z50 (Keep.of_wr W52).1
      have N52 := Fr.snoc X52 N49 g7
      have V52 : Arv Z h52 b5 k5 .int (16 : Int32) [(.int 0), (.int 1), (.int 1), (.int 5), (.int 1), (.int 1), (.int 7), (.int 23), (.int 1), (.int 3), (.int 5), (.int 29), (.int 1), (.int 11), (.int 1), (.int 0)] (.int 0) := Arv.set Ar51 aq51 S51 N51 H51 G51 rfl W52 14 rfl (Nat.le_of_ble_eq_true rfl)
      show gO (tF T52 m 189 (la7 p0 p1 p2 p3 p4 0 b2 key_) [(.ref b5)])
      refine gob (fun _ k => XS.dup X52.here hx rfl (hb hby at_189) rfl rfl k) ?_
      show gO (tF T52 m 190 (la7 p0 p1 p2 p3 p4 0 b2 key_) [(.ref b5), (.ref b5)])
      refine gob (fun _ k => XS.bipush X52.here hx rfl (hb hby at_190) k) ?_
      show gO (tF T52 m 192 (la7 p0 p1 p2 p3 p4 0 b2 key_) [(.int 15), (.ref b5), (.ref b5)])
      refine gob (fun _ k => XS.iconst X52.here hx rfl (hb hby at_192) k) ?_
      show gO (tF T52 m 193 (la7 p0 p1 p2 p3 p4 0 b2 key_) [(.int 1), (.int 15), (.ref b5), (.ref b5)])
      obtain ⟨cl54, Ar54, aq54, S54, N54, H54, G54⟩ := id V52
      have hin54 : ¬ ((15 : Int32) < 0 ∨ cl54.slots.size ≤ ((15 : Int32)).toNatClampNeg) := inb_of S54 ⟨by decide, by decide⟩
      obtain ⟨T55, h55, X55, e55, W55, st55⟩ := stI X52 hx hZ e52 Ar54 (j := (15 : Int32)) hin54 (g := (mkF m 193 (la7 p0 p1 p2 p3 p4 0 b2 key_) [(.int 1), (.int 15), (.ref b5), (.ref b5)])) rfl rfl (hb hby at_193)
      refine gob st55 ?_
      have z56 : n0 ≤ h55.size := Nat.le_trans z53 (Keep.of_wr W55).1
      have N55 := Fr.snoc X55 N52 g7
      have V55 : Arv Z h55 b5 k5 .int (16 : Int32) [(.int 0), (.int 1), (.int 1), (.int 5), (.int 1), (.int 1), (.int 7), (.int 23), (.int 1), (.int 3), (.int 5), (.int 29), (.int 1), (.int 11), (.int 1), (.int 1)] (.int 0) := Arv.set Ar54 aq54 S54 N54 H54 G54 rfl W55 15 rfl (Nat.le_of_ble_eq_true rfl)
      show gO (tF T55 m 194 (la7 p0 p1 p2 p3 p4 0 b2 key_) [(.ref b5)])
      refine gob (fun _ k => XS.astore X55.here hx rfl (hb hby at_194) rfl rfl (l' := (la9 p0 p1 p2 p3 p4 0 b2 key_ b5)) rfl k) ?_
      show gO (tF T55 m 196 (la9 p0 p1 p2 p3 p4 0 b2 key_ b5) [])
      refine gob (fun _ k => XS.bipush X55.here hx rfl (hb hby at_196) k) ?_
      show gO (tF T55 m 198 (la9 p0 p1 p2 p3 p4 0 b2 key_ b5) [(.int 16)])
      obtain ⟨T57, h57, k57, X57, e57, E57, A57, st57⟩ := newP X55 hx hZ (hW hw 1 rfl) e55 (g := (mkF m 198 (la9 p0 p1 p2 p3 p4 0 b2 key_ b5) [(.int 16)])) rfl (hb hby at_198) rfl (by decide) (cap := 16) (by decide) (by decide) (by decide) (by decide)
      obtain ⟨b57, g57⟩ : ∃ z, z = h55.size := ⟨_, rfl⟩
      rw [← g57] at A57 st57
      have c58 := (((((((((((((((((V2.ext E5).other W10 n6).other W13 n6).other W16 n6).other W19 n6).other W22 n6).other W25 n6).other W28 n6).other W31 n6).other W34 n6).other W37 n6).other W40 n6).other W43 n6).other W46 n6).other W49 n6).other W52 n6).other W55 n6)
      have n59 : b2 ≠ b57 := Nat.ne_of_lt (Nat.lt_of_lt_of_le c58.lt (Nat.le_of_eq g57.symm))
      have n60 : b5 ≠ b57 := Nat.ne_of_lt (Nat.lt_of_lt_of_le V55.lt (Nat.le_of_eq g57.symm))
      have g61 : n0 ≤ b57 := Nat.le_trans z56 (Nat.le_of_eq g57.symm)
      have z62 : n0 ≤ h57.size := Nat.le_trans z56 E57.1
      have V57 : Arv Z h57 b57 k57 .int (16 : Int32) [(.int 0), (.int 0), (.int 0), (.int 0), (.int 0), (.int 0), (.int 0), (.int 0), (.int 0), (.int 0), (.int 0), (.int 0), (.int 0), (.int 0), (.int 0), (.int 0)] (.int 0) := (Arv.new A57 (by decide)).pad (pad_rep [] (.int 0) 16)
      refine gob st57 ?_
      replace X57 := castX X57 (rfl : _ = 3) (rfl : _ = 32)
      show gO (tF T57 m 200 (la9 p0 p1 p2 p3 p4 0 b2 key_ b5) [(.ref b57)])
      refine gob (fun _ k => XS.dup X57.here hx rfl (hb hby at_200) rfl rfl k) ?_
      show gO (tF T57 m 201 (la9 p0 p1 p2 p3 p4 0 b2 key_ b5) [(.ref b57), (.ref b57)])
      refine gob (fun _ k => XS.iconst X57.here hx rfl (hb hby at_201) k) ?_
      show gO (tF T57 m 202 (la9 p0 p1 p2 p3 p4 0 b2 key_ b5) [(.int 0), (.ref b57), (.ref b57)])
      refine gob (fun _ k => XS.iconst X57.here hx rfl (hb hby at_202) k) ?_
      show gO (tF T57 m 203 (la9 p0 p1 p2 p3 p4 0 b2 key_ b5) [(.int 1), (.int 0), (.ref b57), (.ref b57)])
      obtain ⟨cl63, Ar63, aq63, S63, N63, H63, G63⟩ := id V57
      have hin63 : ¬ ((0 : Int32) < 0 ∨ cl63.slots.size ≤ ((0 : Int32)).toNatClampNeg) := inb_of S63 ⟨by decide, by decide⟩
      obtain ⟨T64, h64, X64, e64, W64, st64⟩ := stI X57 hx hZ e57 Ar63 (j := (0 : Int32)) hin63 (g := (mkF m 203 (la9 p0 p1 p2 p3 p4 0 b2 key_ b5) [(.int 1), (.int 0), (.ref b57), (.ref b57)])) rfl rfl (hb hby at_203)
      refine gob st64 ?_
      have z65 : n0 ≤ h64.size := Nat.le_trans z62 (Keep.of_wr W64).1
      have N64 := Fr.snoc X64 N55 g61
      have V64 : Arv Z h64 b57 k57 .int (16 : Int32) [(.int 1), (.int 0), (.int 0), (.int 0), (.int 0), (.int 0), (.int 0), (.int 0), (.int 0), (.int 0), (.int 0), (.int 0), (.int 0), (.int 0), (.int 0), (.int 0)] (.int 0) := Arv.set Ar63 aq63 S63 N63 H63 G63 rfl W64 0 rfl (Nat.le_of_ble_eq_true rfl)
      show gO (tF T64 m 204 (la9 p0 p1 p2 p3 p4 0 b2 key_ b5) [(.ref b57)])
      refine gob (fun _ k => XS.dup X64.here hx rfl (hb hby at_204) rfl rfl k) ?_
      show gO (tF T64 m 205 (la9 p0 p1 p2 p3 p4 0 b2 key_ b5) [(.ref b57), (.ref b57)])
      refine gob (fun _ k => XS.iconst X64.here hx rfl (hb hby at_205) k) ?_
      show gO (tF T64 m 206 (la9 p0 p1 p2 p3 p4 0 b2 key_ b5) [(.int 1), (.ref b57), (.ref b57)])
      refine gob (fun _ k => XS.iconst X64.here hx rfl (hb hby at_206) k) ?_
      show gO (tF T64 m 207 (la9 p0 p1 p2 p3 p4 0 b2 key_ b5) [(.int 4), (.int 1), (.ref b57), (.ref b57)])
      obtain ⟨cl66, Ar66, aq66, S66, N66, H66, G66⟩ := id V64
      have hin66 : ¬ ((1 : Int32) < 0 ∨ cl66.slots.size ≤ ((1 : Int32)).toNatClampNeg) := inb_of S66 ⟨by decide, by decide⟩
      obtain ⟨T67, h67, X67, e67, W67, st67⟩ := stI X64 hx hZ e64 Ar66 (j := (1 : Int32)) hin66 (g := (mkF m 207 (la9 p0 p1 p2 p3 p4 0 b2 key_ b5) [(.int 4), (.int 1), (.ref b57), (.ref b57)])) rfl rfl (hb hby at_207)
      refine gob st67 ?_
      have z68 : n0 ≤ h67.size := Nat.le_trans z65 (Keep.of_wr W67).1
      have N67 := Fr.snoc X67 N64 g61
      have V67 : Arv Z h67 b57 k57 .int (16 : Int32) [(.int 1), (.int 4), (.int 0), (.int 0), (.int 0), (.int 0), (.int 0), (.int 0), (.int 0), (.int 0), (.int 0), (.int 0), (.int 0), (.int 0), (.int 0), (.int 0)] (.int 0) := Arv.set Ar66 aq66 S66 N66 H66 G66 rfl W67 1 rfl (Nat.le_of_ble_eq_true rfl)
      show gO (tF T67 m 208 (la9 p0 p1 p2 p3 p4 0 b2 key_ b5) [(.ref b57)])
      refine gob (fun _ k => XS.dup X67.here hx rfl (hb hby at_208) rfl rfl k) ?_
      show gO (tF T67 m 209 (la9 p0 p1 p2 p3 p4 0 b2 key_ b5) [(.ref b57), (.ref b57)])
      refine gob (fun _ k => XS.iconst X67.here hx rfl (hb hby at_209) k) ?_
      show gO (tF T67 m 210 (la9 p0 p1 p2 p3 p4 0 b2 key_ b5) [(.int 2), (.ref b57), (.ref b57)])
      refine gob (fun _ k => XS.iconst X67.here hx rfl (hb hby at_210) k) ?_
      show gO (tF T67 m 211 (la9 p0 p1 p2 p3 p4 0 b2 key_ b5) [(.int 3), (.int 2), (.ref b57), (.ref b57)])
      obtain ⟨cl69, Ar69, aq69, S69, N69, H69, G69⟩ := id V67
      have hin69 : ¬ ((2 : Int32) < 0 ∨ cl69.slots.size ≤ ((2 : Int32)).toNatClampNeg) := inb_of S69 ⟨by decide, by decide⟩
      obtain ⟨T70, h70, X70, e70, W70, st70⟩ := stI X67 hx hZ e67 Ar69 (j := (2 : Int32)) hin69 (g := (mkF m 211 (la9 p0 p1 p2 p3 p4 0 b2 key_ b5) [(.int 3), (.int 2), (.ref b57), (.ref b57)])) rfl rfl (hb hby at_211)
      refine gob st70 ?_
      have z71 : n0 ≤ h70.size := Nat.le_trans z68 (Keep.of_wr W70).1
      have N70 := Fr.snoc X70 N67 g61
      have V70 : Arv Z h70 b57 k57 .int (16 : Int32) [(.int 1), (.int 4), (.int 3), (.int 0), (.int 0), (.int 0), (.int 0), (.int 0), (.int 0), (.int 0), (.int 0), (.int 0), (.int 0), (.int 0), (.int 0), (.int 0)] (.int 0) := Arv.set Ar69 aq69 S69 N69 H69 G69 rfl W70 2 rfl (Nat.le_of_ble_eq_true rfl)
      show gO (tF T70 m 212 (la9 p0 p1 p2 p3 p4 0 b2 key_ b5) [(.ref b57)])
      refine gob (fun _ k => XS.dup X70.here hx rfl (hb hby at_212) rfl rfl k) ?_
      show gO (tF T70 m 213 (la9 p0 p1 p2 p3 p4 0 b2 key_ b5) [(.ref b57), (.ref b57)])
      refine gob (fun _ k => XS.iconst X70.here hx rfl (hb hby at_213) k) ?_
      show gO (tF T70 m 214 (la9 p0 p1 p2 p3 p4 0 b2 key_ b5) [(.int 3), (.ref b57), (.ref b57)])
      refine gob (fun _ k => XS.bipush X70.here hx rfl (hb hby at_214) k) ?_
      show gO (tF T70 m 216 (la9 p0 p1 p2 p3 p4 0 b2 key_ b5) [(.int 12), (.int 3), (.ref b57), (.ref b57)])
      obtain ⟨cl72, Ar72, aq72, S72, N72, H72, G72⟩ := id V70
      have hin72 : ¬ ((3 : Int32) < 0 ∨ cl72.slots.size ≤ ((3 : Int32)).toNatClampNeg) := inb_of S72 ⟨by decide, by decide⟩
      obtain ⟨T73, h73, X73, e73, W73, st73⟩ := stI X70 hx hZ e70 Ar72 (j := (3 : Int32)) hin72 (g := (mkF m 216 (la9 p0 p1 p2 p3 p4 0 b2 key_ b5) [(.int 12), (.int 3), (.ref b57), (.ref b57)])) rfl rfl (hb hby at_216)
      refine gob st73 ?_
      have z74 : n0 ≤ h73.size := Nat.le_trans z71 (Keep.of_wr W73).1
      have N73 := Fr.snoc X73 N70 g61
      have V73 : Arv Z h73 b57 k57 .int (16 : Int32) [(.int 1), (.int 4), (.int 3), (.int 12), (.int 0), (.int 0), (.int 0), (.int 0), (.int 0), (.int 0), (.int 0), (.int 0), (.int 0), (.int 0), (.int 0), (.int 0)] (.int 0) := Arv.set Ar72 aq72 S72 N72 H72 G72 rfl W73 3 rfl (Nat.le_of_ble_eq_true rfl)
      show gO (tF T73 m 217 (la9 p0 p1 p2 p3 p4 0 b2 key_ b5) [(.ref b57)])
      refine gob (fun _ k => XS.dup X73.here hx rfl (hb hby at_217) rfl rfl k) ?_
      show gO (tF T73 m 218 (la9 p0 p1 p2 p3 p4 0 b2 key_ b5) [(.ref b57), (.ref b57)])
      refine gob (fun _ k => XS.iconst X73.here hx rfl (hb hby at_218) k) ?_
      show gO (tF T73 m 219 (la9 p0 p1 p2 p3 p4 0 b2 key_ b5) [(.int 4), (.ref b57), (.ref b57)])
      refine gob (fun _ k => XS.iconst X73.here hx rfl (hb hby at_219) k) ?_
      show gO (tF T73 m 220 (la9 p0 p1 p2 p3 p4 0 b2 key_ b5) [(.int 2), (.int 4), (.ref b57), (.ref b57)])
      obtain ⟨cl75, Ar75, aq75, S75, N75, H75, G75⟩ := id V73
      have hin75 : ¬ ((4 : Int32) < 0 ∨ cl75.slots.size ≤ ((4 : Int32)).toNatClampNeg) := inb_of S75 ⟨by decide, by decide⟩
      obtain ⟨T76, h76, X76, e76, W76, st76⟩ := stI X73 hx hZ e73 Ar75 (j := (4 : Int32)) hin75 (g := (mkF m 220 (la9 p0 p1 p2 p3 p4 0 b2 key_ b5) [(.int 2), (.int 4), (.ref b57), (.ref b57)])) rfl rfl (hb hby at_220)
      refine gob st76 ?_
      have z77 : n0 ≤ h76.size := Nat.le_trans z74 (Keep.of_wr W76).1
      have N76 := Fr.snoc X76 N73 g61
      have V76 : Arv Z h76 b57 k57 .int (16 : Int32) [(.int 1), (.int 4), (.int 3), (.int 12), (.int 2), (.int 0), (.int 0), (.int 0), (.int 0), (.int 0), (.int 0), (.int 0), (.int 0), (.int 0), (.int 0), (.int 0)] (.int 0) := Arv.set Ar75 aq75 S75 N75 H75 G75 rfl W76 4 rfl (Nat.le_of_ble_eq_true rfl)
      show gO (tF T76 m 221 (la9 p0 p1 p2 p3 p4 0 b2 key_ b5) [(.ref b57)])
      refine gob (fun _ k => XS.dup X76.here hx rfl (hb hby at_221) rfl rfl k) ?_
      show gO (tF T76 m 222 (la9 p0 p1 p2 p3 p4 0 b2 key_ b5) [(.ref b57), (.ref b57)])
      refine gob (fun _ k => XS.iconst X76.here hx rfl (hb hby at_222) k) ?_
      show gO (tF T76 m 223 (la9 p0 p1 p2 p3 p4 0 b2 key_ b5) [(.int 5), (.ref b57), (.ref b57)])
      refine gob (fun _ k => XS.iconst X76.here hx rfl (hb hby at_223) k) ?_
      show gO (tF T76 m 224 (la9 p0 p1 p2 p3 p4 0 b2 key_ b5) [(.int 2), (.int 5), (.ref b57), (.ref b57)])
      obtain ⟨cl78, Ar78, aq78, S78, N78, H78, G78⟩ := id V76
      have hin78 : ¬ ((5 : Int32) < 0 ∨ cl78.slots.size ≤ ((5 : Int32)).toNatClampNeg) := inb_of S78 ⟨by decide, by decide⟩
      obtain ⟨T79, h79, X79, e79, W79, st79⟩ := stI X76 hx hZ e76 Ar78 (j := (5 : Int32)) hin78 (g := (mkF m 224 (la9 p0 p1 p2 p3 p4 0 b2 key_ b5) [(.int 2), (.int 5), (.ref b57), (.ref b57)])) rfl rfl (hb hby at_224)
      refine gob st79 ?_
      have z80 : n0 ≤ h79.size := Nat.le_trans z77 (Keep.of_wr W79).1
      have N79 := Fr.snoc X79 N76 g61
      have V79 : Arv Z h79 b57 k57 .int (16 : Int32) [(.int 1), (.int 4), (.int 3), (.int 12), (.int 2), (.int 2), (.int 0), (.int 0), (.int 0), (.int 0), (.int 0), (.int 0), (.int 0), (.int 0), (.int 0), (.int 0)] (.int 0) := Arv.set Ar78 aq78 S78 N78 H78 G78 rfl W79 5 rfl (Nat.le_of_ble_eq_true rfl)
      show gO (tF T79 m 225 (la9 p0 p1 p2 p3 p4 0 b2 key_ b5) [(.ref b57)])
      refine gob (fun _ k => XS.dup X79.here hx rfl (hb hby at_225) rfl rfl k) ?_
      show gO (tF T79 m 226 (la9 p0 p1 p2 p3 p4 0 b2 key_ b5) [(.ref b57), (.ref b57)])
      refine gob (fun _ k => XS.bipush X79.here hx rfl (hb hby at_226) k) ?_
      show gO (tF T79 m 228 (la9 p0 p1 p2 p3 p4 0 b2 key_ b5) [(.int 6), (.ref b57), (.ref b57)])
      refine gob (fun _ k => XS.bipush X79.here hx rfl (hb hby at_228) k) ?_
      show gO (tF T79 m 230 (la9 p0 p1 p2 p3 p4 0 b2 key_ b5) [(.int 12), (.int 6), (.ref b57), (.ref b57)])
      obtain ⟨cl81, Ar81, aq81, S81, N81, H81, G81⟩ := id V79
      have hin81 : ¬ ((6 : Int32) < 0 ∨ cl81.slots.size ≤ ((6 : Int32)).toNatClampNeg) := inb_of S81 ⟨by decide, by decide⟩
      obtain ⟨T82, h82, X82, e82, W82, st82⟩ := stI X79 hx hZ e79 Ar81 (j := (6 : Int32)) hin81 (g := (mkF m 230 (la9 p0 p1 p2 p3 p4 0 b2 key_ b5) [(.int 12), (.int 6), (.ref b57), (.ref b57)])) rfl rfl (hb hby at_230)
      refine gob st82 ?_
      have z83 : n0 ≤ h82.size := Nat.le_trans z80 (Keep.of_wr W82).1
      have N82 := Fr.snoc X82 N79 g61
      have V82 : Arv Z h82 b57 k57 .int (16 : Int32) [(.int 1), (.int 4), (.int 3), (.int 12), (.int 2), (.int 2), (.int 12), (.int 0), (.int 0), (.int 0), (.int 0), (.int 0), (.int 0), (.int 0), (.int 0), (.int 0)] (.int 0) := Arv.set Ar81 aq81 S81 N81 H81 G81 rfl W82 6 rfl (Nat.le_of_ble_eq_true rfl)
      show gO (tF T82 m 231 (la9 p0 p1 p2 p3 p4 0 b2 key_ b5) [(.ref b57)])
      refine gob (fun _ k => XS.dup X82.here hx rfl (hb hby at_231) rfl rfl k) ?_
      show gO (tF T82 m 232 (la9 p0 p1 p2 p3 p4 0 b2 key_ b5) [(.ref b57), (.ref b57)])
      refine gob (fun _ k => XS.bipush X82.here hx rfl (hb hby at_232) k) ?_
      show gO (tF T82 m 234 (la9 p0 p1 p2 p3 p4 0 b2 key_ b5) [(.int 7), (.ref b57), (.ref b57)])
      refine gob (fun _ k => XS.bipush X82.here hx rfl (hb hby at_234) k) ?_
      show gO (tF T82 m 236 (la9 p0 p1 p2 p3 p4 0 b2 key_ b5) [(.int 36), (.int 7), (.ref b57), (.ref b57)])
      obtain ⟨cl84, Ar84, aq84, S84, N84, H84, G84⟩ := id V82
      have hin84 : ¬ ((7 : Int32) < 0 ∨ cl84.slots.size ≤ ((7 : Int32)).toNatClampNeg) := inb_of S84 ⟨by decide, by decide⟩
      obtain ⟨T85, h85, X85, e85, W85, st85⟩ := stI X82 hx hZ e82 Ar84 (j := (7 : Int32)) hin84 (g := (mkF m 236 (la9 p0 p1 p2 p3 p4 0 b2 key_ b5) [(.int 36), (.int 7), (.ref b57), (.ref b57)])) rfl rfl (hb hby at_236)
      refine gob st85 ?_
      have z86 : n0 ≤ h85.size := Nat.le_trans z83 (Keep.of_wr W85).1
      have N85 := Fr.snoc X85 N82 g61
      have V85 : Arv Z h85 b57 k57 .int (16 : Int32) [(.int 1), (.int 4), (.int 3), (.int 12), (.int 2), (.int 2), (.int 12), (.int 36), (.int 0), (.int 0), (.int 0), (.int 0), (.int 0), (.int 0), (.int 0), (.int 0)] (.int 0) := Arv.set Ar84 aq84 S84 N84 H84 G84 rfl W85 7 rfl (Nat.le_of_ble_eq_true rfl)
      show gO (tF T85 m 237 (la9 p0 p1 p2 p3 p4 0 b2 key_ b5) [(.ref b57)])
      refine gob (fun _ k => XS.dup X85.here hx rfl (hb hby at_237) rfl rfl k) ?_
      show gO (tF T85 m 238 (la9 p0 p1 p2 p3 p4 0 b2 key_ b5) [(.ref b57), (.ref b57)])
      refine gob (fun _ k => XS.bipush X85.here hx rfl (hb hby at_238) k) ?_
      show gO (tF T85 m 240 (la9 p0 p1 p2 p3 p4 0 b2 key_ b5) [(.int 8), (.ref b57), (.ref b57)])
      refine gob (fun _ k => XS.iconst X85.here hx rfl (hb hby at_240) k) ?_
      show gO (tF T85 m 241 (la9 p0 p1 p2 p3 p4 0 b2 key_ b5) [(.int 1), (.int 8), (.ref b57), (.ref b57)])
      obtain ⟨cl87, Ar87, aq87, S87, N87, H87, G87⟩ := id V85
      have hin87 : ¬ ((8 : Int32) < 0 ∨ cl87.slots.size ≤ ((8 : Int32)).toNatClampNeg) := inb_of S87 ⟨by decide, by decide⟩
      obtain ⟨T88, h88, X88, e88, W88, st88⟩ := stI X85 hx hZ e85 Ar87 (j := (8 : Int32)) hin87 (g := (mkF m 241 (la9 p0 p1 p2 p3 p4 0 b2 key_ b5) [(.int 1), (.int 8), (.ref b57), (.ref b57)])) rfl rfl (hb hby at_241)
      refine gob st88 ?_
      have z89 : n0 ≤ h88.size := Nat.le_trans z86 (Keep.of_wr W88).1
      have N88 := Fr.snoc X88 N85 g61
      have V88 : Arv Z h88 b57 k57 .int (16 : Int32) [(.int 1), (.int 4), (.int 3), (.int 12), (.int 2), (.int 2), (.int 12), (.int 36), (.int 1), (.int 0), (.int 0), (.int 0), (.int 0), (.int 0), (.int 0), (.int 0)] (.int 0) := Arv.set Ar87 aq87 S87 N87 H87 G87 rfl W88 8 rfl (Nat.le_of_ble_eq_true rfl)
      show gO (tF T88 m 242 (la9 p0 p1 p2 p3 p4 0 b2 key_ b5) [(.ref b57)])
      refine gob (fun _ k => XS.dup X88.here hx rfl (hb hby at_242) rfl rfl k) ?_
      show gO (tF T88 m 243 (la9 p0 p1 p2 p3 p4 0 b2 key_ b5) [(.ref b57), (.ref b57)])
      refine gob (fun _ k => XS.bipush X88.here hx rfl (hb hby at_243) k) ?_
      show gO (tF T88 m 245 (la9 p0 p1 p2 p3 p4 0 b2 key_ b5) [(.int 9), (.ref b57), (.ref b57)])
      refine gob (fun _ k => XS.iconst X88.here hx rfl (hb hby at_245) k) ?_
      show gO (tF T88 m 246 (la9 p0 p1 p2 p3 p4 0 b2 key_ b5) [(.int 4), (.int 9), (.ref b57), (.ref b57)])
      obtain ⟨cl90, Ar90, aq90, S90, N90, H90, G90⟩ := id V88
      have hin90 : ¬ ((9 : Int32) < 0 ∨ cl90.slots.size ≤ ((9 : Int32)).toNatClampNeg) := inb_of S90 ⟨by decide, by decide⟩
      obtain ⟨T91, h91, X91, e91, W91, st91⟩ := stI X88 hx hZ e88 Ar90 (j := (9 : Int32)) hin90 (g := (mkF m 246 (la9 p0 p1 p2 p3 p4 0 b2 key_ b5) [(.int 4), (.int 9), (.ref b57), (.ref b57)])) rfl rfl (hb hby at_246)
      refine gob st91 ?_
      have z92 : n0 ≤ h91.size := Nat.le_trans z89 (Keep.of_wr W91).1
      have N91 := Fr.snoc X91 N88 g61
      have V91 : Arv Z h91 b57 k57 .int (16 : Int32) [(.int 1), (.int 4), (.int 3), (.int 12), (.int 2), (.int 2), (.int 12), (.int 36), (.int 1), (.int 4), (.int 0), (.int 0), (.int 0), (.int 0), (.int 0), (.int 0)] (.int 0) := Arv.set Ar90 aq90 S90 N90 H90 G90 rfl W91 9 rfl (Nat.le_of_ble_eq_true rfl)
      show gO (tF T91 m 247 (la9 p0 p1 p2 p3 p4 0 b2 key_ b5) [(.ref b57)])
      refine gob (fun _ k => XS.dup X91.here hx rfl (hb hby at_247) rfl rfl k) ?_
      show gO (tF T91 m 248 (la9 p0 p1 p2 p3 p4 0 b2 key_ b5) [(.ref b57), (.ref b57)])
      refine gob (fun _ k => XS.bipush X91.here hx rfl (hb hby at_248) k) ?_
      show gO (tF T91 m 250 (la9 p0 p1 p2 p3 p4 0 b2 key_ b5) [(.int 10), (.ref b57), (.ref b57)])
      refine gob (fun _ k => XS.bipush X91.here hx rfl (hb hby at_250) k) ?_
      show gO (tF T91 m 252 (la9 p0 p1 p2 p3 p4 0 b2 key_ b5) [(.int 6), (.int 10), (.ref b57), (.ref b57)])
      obtain ⟨cl93, Ar93, aq93, S93, N93, H93, G93⟩ := id V91
      have hin93 : ¬ ((10 : Int32) < 0 ∨ cl93.slots.size ≤ ((10 : Int32)).toNatClampNeg) := inb_of S93 ⟨by decide, by decide⟩
      obtain ⟨T94, h94, X94, e94, W94, st94⟩ := stI X91 hx hZ e91 Ar93 (j := (10 : Int32)) hin93 (g := (mkF m 252 (la9 p0 p1 p2 p3 p4 0 b2 key_ b5) [(.int 6), (.int 10), (.ref b57), (.ref b57)])) rfl rfl (hb hby at_252)
      refine gob st94 ?_
      have z95 : n0 ≤ h94.size := Nat.le_trans z92 (Keep.of_wr W94).1
      have N94 := Fr.snoc X94 N91 g61
      have V94 : Arv Z h94 b57 k57 .int (16 : Int32) [(.int 1), (.int 4), (.int 3), (.int 12), (.int 2), (.int 2), (.int 12), (.int 36), (.int 1), (.int 4), (.int 6), (.int 0), (.int 0), (.int 0), (.int 0), (.int 0)] (.int 0) := Arv.set Ar93 aq93 S93 N93 H93 G93 rfl W94 10 rfl (Nat.le_of_ble_eq_true rfl)
      show gO (tF T94 m 253 (la9 p0 p1 p2 p3 p4 0 b2 key_ b5) [(.ref b57)])
      refine gob (fun _ k => XS.dup X94.here hx rfl (hb hby at_253) rfl rfl k) ?_
      show gO (tF T94 m 254 (la9 p0 p1 p2 p3 p4 0 b2 key_ b5) [(.ref b57), (.ref b57)])
      refine gob (fun _ k => XS.bipush X94.here hx rfl (hb hby at_254) k) ?_
      show gO (tF T94 m 256 (la9 p0 p1 p2 p3 p4 0 b2 key_ b5) [(.int 11), (.ref b57), (.ref b57)])
      refine gob (fun _ k => XS.bipush X94.here hx rfl (hb hby at_256) k) ?_
      show gO (tF T94 m 258 (la9 p0 p1 p2 p3 p4 0 b2 key_ b5) [(.int 36), (.int 11), (.ref b57), (.ref b57)])
      obtain ⟨cl96, Ar96, aq96, S96, N96, H96, G96⟩ := id V94
      have hin96 : ¬ ((11 : Int32) < 0 ∨ cl96.slots.size ≤ ((11 : Int32)).toNatClampNeg) := inb_of S96 ⟨by decide, by decide⟩
      obtain ⟨T97, h97, X97, e97, W97, st97⟩ := stI X94 hx hZ e94 Ar96 (j := (11 : Int32)) hin96 (g := (mkF m 258 (la9 p0 p1 p2 p3 p4 0 b2 key_ b5) [(.int 36), (.int 11), (.ref b57), (.ref b57)])) rfl rfl (hb hby at_258)
      refine gob st97 ?_
      have z98 : n0 ≤ h97.size := Nat.le_trans z95 (Keep.of_wr W97).1
      have N97 := Fr.snoc X97 N94 g61
      have V97 : Arv Z h97 b57 k57 .int (16 : Int32) [(.int 1), (.int 4), (.int 3), (.int 12), (.int 2), (.int 2), (.int 12), (.int 36), (.int 1), (.int 4), (.int 6), (.int 36), (.int 0), (.int 0), (.int 0), (.int 0)] (.int 0) := Arv.set Ar96 aq96 S96 N96 H96 G96 rfl W97 11 rfl (Nat.le_of_ble_eq_true rfl)
      show gO (tF T97 m 259 (la9 p0 p1 p2 p3 p4 0 b2 key_ b5) [(.ref b57)])
      refine gob (fun _ k => XS.dup X97.here hx rfl (hb hby at_259) rfl rfl k) ?_
      show gO (tF T97 m 260 (la9 p0 p1 p2 p3 p4 0 b2 key_ b5) [(.ref b57), (.ref b57)])
      refine gob (fun _ k => XS.bipush X97.here hx rfl (hb hby at_260) k) ?_
      show gO (tF T97 m 262 (la9 p0 p1 p2 p3 p4 0 b2 key_ b5) [(.int 12), (.ref b57), (.ref b57)])
      refine gob (fun _ k => XS.iconst X97.here hx rfl (hb hby at_262) k) ?_
      show gO (tF T97 m 263 (la9 p0 p1 p2 p3 p4 0 b2 key_ b5) [(.int 1), (.int 12), (.ref b57), (.ref b57)])
      obtain ⟨cl99, Ar99, aq99, S99, N99, H99, G99⟩ := id V97
      have hin99 : ¬ ((12 : Int32) < 0 ∨ cl99.slots.size ≤ ((12 : Int32)).toNatClampNeg) := inb_of S99 ⟨by decide, by decide⟩
      obtain ⟨T100, h100, X100, e100, W100, st100⟩ := stI X97 hx hZ e97 Ar99 (j := (12 : Int32)) hin99 (g := (mkF m 263 (la9 p0 p1 p2 p3 p4 0 b2 key_ b5) [(.int 1), (.int 12), (.ref b57), (.ref b57)])) rfl rfl (hb hby at_263)
      refine gob st100 ?_
      have z101 : n0 ≤ h100.size := Nat.le_trans z98 (Keep.of_wr W100).1
      have N100 := Fr.snoc X100 N97 g61
      have V100 : Arv Z h100 b57 k57 .int (16 : Int32) [(.int 1), (.int 4), (.int 3), (.int 12), (.int 2), (.int 2), (.int 12), (.int 36), (.int 1), (.int 4), (.int 6), (.int 36), (.int 1), (.int 0), (.int 0), (.int 0)] (.int 0) := Arv.set Ar99 aq99 S99 N99 H99 G99 rfl W100 12 rfl (Nat.le_of_ble_eq_true rfl)
      show gO (tF T100 m 264 (la9 p0 p1 p2 p3 p4 0 b2 key_ b5) [(.ref b57)])
      refine gob (fun _ k => XS.dup X100.here hx rfl (hb hby at_264) rfl rfl k) ?_
      show gO (tF T100 m 265 (la9 p0 p1 p2 p3 p4 0 b2 key_ b5) [(.ref b57), (.ref b57)])
      refine gob (fun _ k => XS.bipush X100.here hx rfl (hb hby at_265) k) ?_
      show gO (tF T100 m 267 (la9 p0 p1 p2 p3 p4 0 b2 key_ b5) [(.int 13), (.ref b57), (.ref b57)])
      refine gob (fun _ k => XS.bipush X100.here hx rfl (hb hby at_267) k) ?_
      show gO (tF T100 m 269 (la9 p0 p1 p2 p3 p4 0 b2 key_ b5) [(.int 12), (.int 13), (.ref b57), (.ref b57)])
      obtain ⟨cl102, Ar102, aq102, S102, N102, H102, G102⟩ := id V100
      have hin102 : ¬ ((13 : Int32) < 0 ∨ cl102.slots.size ≤ ((13 : Int32)).toNatClampNeg) := inb_of S102 ⟨by decide, by decide⟩
      obtain ⟨T103, h103, X103, e103, W103, st103⟩ := stI X100 hx hZ e100 Ar102 (j := (13 : Int32)) hin102 (g := (mkF m 269 (la9 p0 p1 p2 p3 p4 0 b2 key_ b5) [(.int 12), (.int 13), (.ref b57), (.ref b57)])) rfl rfl (hb hby at_269)
      refine gob st103 ?_
      have z104 : n0 ≤ h103.size := Nat.le_trans z101 (Keep.of_wr W103).1
      have N103 := Fr.snoc X103 N100 g61
      have V103 : Arv Z h103 b57 k57 .int (16 : Int32) [(.int 1), (.int 4), (.int 3), (.int 12), (.int 2), (.int 2), (.int 12), (.int 36), (.int 1), (.int 4), (.int 6), (.int 36), (.int 1), (.int 12), (.int 0), (.int 0)] (.int 0) := Arv.set Ar102 aq102 S102 N102 H102 G102 rfl W103 13 rfl (Nat.le_of_ble_eq_true rfl)
      show gO (tF T103 m 270 (la9 p0 p1 p2 p3 p4 0 b2 key_ b5) [(.ref b57)])
      refine gob (fun _ k => XS.dup X103.here hx rfl (hb hby at_270) rfl rfl k) ?_
      show gO (tF T103 m 271 (la9 p0 p1 p2 p3 p4 0 b2 key_ b5) [(.ref b57), (.ref b57)])
      refine gob (fun _ k => XS.bipush X103.here hx rfl (hb hby at_271) k) ?_
      show gO (tF T103 m 273 (la9 p0 p1 p2 p3 p4 0 b2 key_ b5) [(.int 14), (.ref b57), (.ref b57)])
      refine gob (fun _ k => XS.iconst X103.here hx rfl (hb hby at_273) k) ?_
      show gO (tF T103 m 274 (la9 p0 p1 p2 p3 p4 0 b2 key_ b5) [(.int 1), (.int 14), (.ref b57), (.ref b57)])
      obtain ⟨cl105, Ar105, aq105, S105, N105, H105, G105⟩ := id V103
      have hin105 : ¬ ((14 : Int32) < 0 ∨ cl105.slots.size ≤ ((14 : Int32)).toNatClampNeg) := inb_of S105 ⟨by decide, by decide⟩
      obtain ⟨T106, h106, X106, e106, W106, st106⟩ := stI X103 hx hZ e103 Ar105 (j := (14 : Int32)) hin105 (g := (mkF m 274 (la9 p0 p1 p2 p3 p4 0 b2 key_ b5) [(.int 1), (.int 14), (.ref b57), (.ref b57)])) rfl rfl (hb hby at_274)
      refine gob st106 ?_
      have z107 : n0 ≤ h106.size := Nat.le_trans z104 (Keep.of_wr W106).1
      have N106 := Fr.snoc X106 N103 g61
      have V106 : Arv Z h106 b57 k57 .int (16 : Int32) [(.int 1), (.int 4), (.int 3), (.int 12), (.int 2), (.int 2), (.int 12), (.int 36), (.int 1), (.int 4), (.int 6), (.int 36), (.int 1), (.int 12), (.int 1), (.int 0)] (.int 0) := Arv.set Ar105 aq105 S105 N105 H105 G105 rfl W106 14 rfl (Nat.le_of_ble_eq_true rfl)
      show gO (tF T106 m 275 (la9 p0 p1 p2 p3 p4 0 b2 key_ b5) [(.ref b57)])
      refine gob (fun _ k => XS.dup X106.here hx rfl (hb hby at_275) rfl rfl k) ?_
      show gO (tF T106 m 276 (la9 p0 p1 p2 p3 p4 0 b2 key_ b5) [(.ref b57), (.ref b57)])
      refine gob (fun _ k => XS.bipush X106.here hx rfl (hb hby at_276) k) ?_
      show gO (tF T106 m 278 (la9 p0 p1 p2 p3 p4 0 b2 key_ b5) [(.int 15), (.ref b57), (.ref b57)])
      refine gob (fun _ k => XS.iconst X106.here hx rfl (hb hby at_278) k) ?_
      show gO (tF T106 m 279 (la9 p0 p1 p2 p3 p4 0 b2 key_ b5) [(.int 1), (.int 15), (.ref b57), (.ref b57)])
      obtain ⟨cl108, Ar108, aq108, S108, N108, H108, G108⟩ := id V106
      have hin108 : ¬ ((15 : Int32) < 0 ∨ cl108.slots.size ≤ ((15 : Int32)).toNatClampNeg) := inb_of S108 ⟨by decide, by decide⟩
      obtain ⟨T109, h109, X109, e109, W109, st109⟩ := stI X106 hx hZ e106 Ar108 (j := (15 : Int32)) hin108 (g := (mkF m 279 (la9 p0 p1 p2 p3 p4 0 b2 key_ b5) [(.int 1), (.int 15), (.ref b57), (.ref b57)])) rfl rfl (hb hby at_279)
      refine gob st109 ?_
      have z110 : n0 ≤ h109.size := Nat.le_trans z107 (Keep.of_wr W109).1
      have N109 := Fr.snoc X109 N106 g61
      have V109 : Arv Z h109 b57 k57 .int (16 : Int32) [(.int 1), (.int 4), (.int 3), (.int 12), (.int 2), (.int 2), (.int 12), (.int 36), (.int 1), (.int 4), (.int 6), (.int 36), (.int 1), (.int 12), (.int 1), (.int 1)] (.int 0) := Arv.set Ar108 aq108 S108 N108 H108 G108 rfl W109 15 rfl (Nat.le_of_ble_eq_true rfl)
      show gO (tF T109 m 280 (la9 p0 p1 p2 p3 p4 0 b2 key_ b5) [(.ref b57)])
      refine gob (fun _ k => XS.astore X109.here hx rfl (hb hby at_280) rfl rfl (l' := (la8 p0 p1 p2 p3 p4 0 b2 key_ b5 b57)) rfl k) ?_
      show gO (tF T109 m 282 (la8 p0 p1 p2 p3 p4 0 b2 key_ b5 b57) [])
      have c111 := (((((((((((((((((c58.ext E57).other W64 n59).other W67 n59).other W70 n59).other W73 n59).other W76 n59).other W79 n59).other W82 n59).other W85 n59).other W88 n59).other W91 n59).other W94 n59).other W97 n59).other W100 n59).other W103 n59).other W106 n59).other W109 n59)
      have c112 := (((((((((((((((((V55.ext E57).other W64 n60).other W67 n60).other W70 n60).other W73 n60).other W76 n60).other W79 n60).other W82 n60).other W85 n60).other W88 n60).other W91 n60).other W94 n60).other W97 n60).other W100 n60).other W103 n60).other W106 n60).other W109 n60)
      exact kont _ _ _ _ _ _ _ X109 e109 N109 z110 c111 c112 V109
    refine gob (fun _ k => XS.iload X2.here hx rfl (hb hby at_61) rfl k) ?_
    show gO (tF T2 m 63 (la7 p0 p1 p2 p3 p4 0 b2 0) [(.int 0)])
    refine gob (fun _ k => XS.ifYes X2.here hx rfl (pc0 := 63) (pc' := 73) rfl (hb hby at_63) rfl ((if0 _ _).trans (flt (by decide : ¬ ((0 : Int32) < (0 : Int32)))).2.2.2) (by decide) (by decide) k) ?_
    show gO (tF T2 m 73 (la7 p0 p1 p2 p3 p4 0 b2 0) [])
    refine gob (fun _ k => XS.iload X2.here hx rfl (hb hby at_73) rfl k) ?_
    show gO (tF T2 m 75 (la7 p0 p1 p2 p3 p4 0 b2 0) [(.int 0)])
    refine gob (fun _ k => XS.iconst X2.here hx rfl (hb hby at_75) k) ?_
    show gO (tF T2 m 76 (la7 p0 p1 p2 p3 p4 0 b2 0) [(.int 1), (.int 0)])
    refine gob (fun _ k => XS.icmpYes X2.here hx rfl (pc0 := 76) (pc' := 86) rfl (hb hby at_76) rfl (flt (by decide : ¬ ((1 : Int32) < (0 : Int32)))).2.2.2 (by decide) (by decide) k) ?_
    show gO (tF T2 m 86 (la7 p0 p1 p2 p3 p4 0 b2 0) [])
    refine gob (fun _ k => XS.iload X2.here hx rfl (hb hby at_86) rfl k) ?_
    show gO (tF T2 m 88 (la7 p0 p1 p2 p3 p4 0 b2 0) [(.int 0)])
    refine gob (fun _ k => XS.iconst X2.here hx rfl (hb hby at_88) k) ?_
    show gO (tF T2 m 89 (la7 p0 p1 p2 p3 p4 0 b2 0) [(.int 2), (.int 0)])
    refine gob (fun _ k => XS.icmpYes X2.here hx rfl (pc0 := 89) (pc' := 99) rfl (hb hby at_89) rfl (flt (by decide : ¬ ((2 : Int32) < (0 : Int32)))).2.2.2 (by decide) (by decide) k) ?_
    show gO (tF T2 m 99 (la7 p0 p1 p2 p3 p4 0 b2 0) [])
    refine gob (fun _ k => XS.iload X2.here hx rfl (hb hby at_99) rfl k) ?_
    show gO (tF T2 m 101 (la7 p0 p1 p2 p3 p4 0 b2 0) [(.int 0)])
    refine gob (fun _ k => XS.iconst X2.here hx rfl (hb hby at_101) k) ?_
    show gO (tF T2 m 102 (la7 p0 p1 p2 p3 p4 0 b2 0) [(.int 3), (.int 0)])
    refine gob (fun _ k => XS.icmpYes X2.here hx rfl (pc0 := 102) (pc' := 112) rfl (hb hby at_102) rfl (flt (by decide : ¬ ((3 : Int32) < (0 : Int32)))).2.2.2 (by decide) (by decide) k) ?_
    show gO (tF T2 m 112 (la7 p0 p1 p2 p3 p4 0 b2 0) [])
    refine seg (0 : Int32) ?_
    intro T113 lc113 h113 b113_1 b113_2 k113_1 k113_2 X113 e113 N113 z113 V113 V113_1 V113_2
    show gO (tF T113 m 282 (la8 p0 p1 p2 p3 p4 0 b2 0 b113_1 b113_2) [])
    refine gob (fun _ k => XS.aload X113.here hx rfl (hb hby at_282) rfl rfl k) ?_
    show gO (tF T113 m 284 (la8 p0 p1 p2 p3 p4 0 b2 0 b113_1 b113_2) [(.ref b2)])
    obtain ⟨_, _, ⟨T114, L114, k114, n114⟩, -, X114, ⟨Lc114, hQ114, l114, y114, z114⟩, st114⟩ := Jvm.LawKit.callS X113 hx (y := (⟨"com/example/coevolution/coevolution/measure/Measures", "averagePrecision", "([I)D"⟩ : MethodName)) hown (mvT hZ (hW hw 2 rfl)) (mvT hZ (hW hw 3 rfl)) (mvT hZ (hW hw 4 rfl)) (mvT hZ (hW hw 5 rfl)) (by decide) (backOf (W := 0) (rmap0 l Z a0 hw [] b2 k2 h113 n0 z113 V113) hZ (hW hw 5 rfl) (hW hw 4 rfl) (by decide) (by decide)) (g := (mkF m 284 (la8 p0 p1 p2 p3 p4 0 b2 0 b113_1 b113_2) [(.ref b2)])) rfl (by rw [hml]; rfl) (argsL := [(.ref b2)]) (rest := []) (lenOf pd_0 rfl) rfl (by show 2 * 0 + _ ≤ _; exact Nat.le_of_eq rfl) (hb hby at_284) (fun _ _ => ⟨rfl, e113, (by decide : 3 + 0 ≤ _), (by decide : 32 + 0 ≤ _)⟩)
    dsimp only [Pt.U, Pt.locs, Pt.cells, Pt.slots] at X114 l114 y114 z114 st114 hQ114
    replace X114 := castX X114 (y114.trans (rfl : _ = 3)) (z114.trans (rfl : _ = 32))
    obtain ⟨r114, rfl, hr114, Nq114, e114⟩ := hQ114
    have N114 : Fr n0 L114 := l114 ▸ Fr.app N113 Nq114
    refine gob st114 ?_
    show gO (tF T114 m 287 (la8 p0 p1 p2 p3 p4 0 b2 0 b113_1 b113_2) [(.double r114)])
    have hlr114 : r114 = (0 : UInt64) := hr114
    subst hlr114
    show gO (tF T114 m 287 (la8 p0 p1 p2 p3 p4 0 b2 0 b113_1 b113_2) [(.double (0 : UInt64))])
    refine gob (fun _ k => XS.dstore X114.here hx rfl (hb hby at_287) rfl (l' := (la10 p0 p1 p2 p3 p4 0 b2 0 b113_1 b113_2 (0 : UInt64))) rfl k) ?_
    show gO (tF T114 m 289 (la10 p0 p1 p2 p3 p4 0 b2 0 b113_1 b113_2 (0 : UInt64)) [])
    refine gob (fun _ k => XS.iload X114.here hx rfl (hb hby at_289) rfl k) ?_
    show gO (tF T114 m 291 (la10 p0 p1 p2 p3 p4 0 b2 0 b113_1 b113_2 (0 : UInt64)) [(.int 0)])
    refine gob (fun _ k => XS.ifNo X114.here hx rfl (hb hby at_291) rfl ((if0 _ _).trans (teq (by decide : (0 : Int32) = (0 : Int32))).2) k) ?_
    show gO (tF T114 m 294 (la10 p0 p1 p2 p3 p4 0 b2 0 b113_1 b113_2 (0 : UInt64)) [])
    refine gob (fun _ k => XS.dload X114.here hx rfl (hb hby at_294) rfl k) ?_
    show gO (tF T114 m 296 (la10 p0 p1 p2 p3 p4 0 b2 0 b113_1 b113_2 (0 : UInt64)) [(.double (0 : UInt64))])
    refine gob (fun _ k => XS.dconst0 X114.here hx rfl (hb hby at_296) (v := (0 : UInt64)) (by decide +kernel) k) ?_
    show gO (tF T114 m 297 (la10 p0 p1 p2 p3 p4 0 b2 0 b113_1 b113_2 (0 : UInt64)) [(.double (0 : UInt64)), (.double (0 : UInt64))])
    refine gob (fun _ k => XS.dcmpS X114.here hx rfl (hb hby at_297) rfl (v := (0 : Int32)) (by decide +kernel) k) ?_
    show gO (tF T114 m 298 (la10 p0 p1 p2 p3 p4 0 b2 0 b113_1 b113_2 (0 : UInt64)) [(.int 0)])
    refine gob (fun _ k => XS.ifNo X114.here hx rfl (hb hby at_298) rfl ((if0 _ _).trans (teq (by decide : (0 : Int32) = (0 : Int32))).2) k) ?_
    show gO (tF T114 m 301 (la10 p0 p1 p2 p3 p4 0 b2 0 b113_1 b113_2 (0 : UInt64)) [])
    refine gob (fun _ k => XS.iconst X114.here hx rfl (hb hby at_301) k) ?_
    show gO (tF T114 m 302 (la10 p0 p1 p2 p3 p4 0 b2 0 b113_1 b113_2 (0 : UInt64)) [(.int 1)])
    refine gob (fun _ k => XS.goto X114.here hx rfl (pc0 := 302) (pc' := 306) rfl (hb hby at_302) (by decide) (by decide) k) ?_
    show gO (tF T114 m 306 (la10 p0 p1 p2 p3 p4 0 b2 0 b113_1 b113_2 (0 : UInt64)) [(.int 1)])
    refine goZ X114 hx hlk (t := .boolean) Bd.returns (by simp) (hb hby at_306) (z' := (1 : Int32)) rfl ?_ (by decide) (by decide)
    show Q0 Z p0 p1 p2 p3 p4 h0 n0 (some (.int (1 : Int32))) T114.heap _
    exact ⟨rfl, N114⟩
  · skip
    by_cases hn115 : n_ = (1 : Int32)
    · skip
      subst hn115
      show gO (tF s₁ m 9 (la5 p0 p1 p2 p3 p4 1) [])
      refine gob (fun _ k => XS.iload X0.here hx rfl (hb hby at_9) rfl k) ?_
      show gO (tF s₁ m 11 (la5 p0 p1 p2 p3 p4 1) [(.int 1)])
      obtain ⟨T116, h116, k116, X116, e116, E116, A116, st116⟩ := newP X0 hx hZ (hW hw 1 rfl) e0 (g := (mkF m 11 (la5 p0 p1 p2 p3 p4 1) [(.int 1)])) rfl (hb hby at_11) rfl (by decide) (cap := 1) (by decide) (by decide) (by decide) (by decide)
      obtain ⟨b116, g116⟩ : ∃ z, z = h0.size := ⟨_, rfl⟩
      rw [← g116] at A116 st116
      have g117 : n0 ≤ b116 := Nat.le_trans Z0 (Nat.le_of_eq g116.symm)
      have z118 : n0 ≤ h116.size := Nat.le_trans Z0 E116.1
      have V116 : Arv Z h116 b116 k116 .int (1 : Int32) [(.int 0)] (.int 0) := (Arv.new A116 (by decide)).pad (pad_rep [] (.int 0) 1)
      refine gob st116 ?_
      replace X116 := castX X116 (rfl : _ = 1) (rfl : _ = 1)
      show gO (tF T116 m 13 (la5 p0 p1 p2 p3 p4 1) [(.ref b116)])
      refine gob (fun _ k => XS.astore X116.here hx rfl (hb hby at_13) rfl rfl (l' := (la6 p0 p1 p2 p3 p4 1 b116)) rfl k) ?_
      show gO (tF T116 m 15 (la6 p0 p1 p2 p3 p4 1 b116) [])
      refine gob (fun _ k => XS.iload X116.here hx rfl (hb hby at_15) rfl k) ?_
      show gO (tF T116 m 17 (la6 p0 p1 p2 p3 p4 1 b116) [(.int 1)])
      refine gob (fun _ k => XS.ifNo X116.here hx rfl (hb hby at_17) rfl ((if0 _ _).trans (tlt (by decide : (0 : Int32) < (1 : Int32))).2.2.2) k) ?_
      show gO (tF T116 m 20 (la6 p0 p1 p2 p3 p4 1 b116) [])
      refine gob (fun _ k => XS.aload X116.here hx rfl (hb hby at_20) rfl rfl k) ?_
      show gO (tF T116 m 22 (la6 p0 p1 p2 p3 p4 1 b116) [(.ref b116)])
      refine gob (fun _ k => XS.iconst X116.here hx rfl (hb hby at_22) k) ?_
      show gO (tF T116 m 23 (la6 p0 p1 p2 p3 p4 1 b116) [(.int 0), (.ref b116)])
      refine gob (fun _ k => XS.iloadN X116.here hx rfl (hb hby at_23) rfl k) ?_
      show gO (tF T116 m 24 (la6 p0 p1 p2 p3 p4 1 b116) [(.int p0), (.int 0), (.ref b116)])
      obtain ⟨cl119, Ar119, aq119, S119, N119, H119, G119⟩ := id V116
      have hin119 : ¬ ((0 : Int32) < 0 ∨ cl119.slots.size ≤ ((0 : Int32)).toNatClampNeg) := inb_of S119 ⟨by decide, by decide⟩
      obtain ⟨T120, h120, X120, e120, W120, st120⟩ := stI X116 hx hZ e116 Ar119 (j := (0 : Int32)) hin119 (g := (mkF m 24 (la6 p0 p1 p2 p3 p4 1 b116) [(.int p0), (.int 0), (.ref b116)])) rfl rfl (hb hby at_24)
      refine gob st120 ?_
      have z121 : n0 ≤ h120.size := Nat.le_trans z118 (Keep.of_wr W120).1
      have N120 := Fr.snoc X120 N0 g117
      have V120 : Arv Z h120 b116 k116 .int (1 : Int32) [(.int p0)] (.int 0) := Arv.set Ar119 aq119 S119 N119 H119 G119 rfl W120 0 rfl (Nat.le_of_ble_eq_true rfl)
      show gO (tF T120 m 25 (la6 p0 p1 p2 p3 p4 1 b116) [])
      refine gob (fun _ k => XS.iload X120.here hx rfl (hb hby at_25) rfl k) ?_
      show gO (tF T120 m 27 (la6 p0 p1 p2 p3 p4 1 b116) [(.int 1)])
      refine gob (fun _ k => XS.iconst X120.here hx rfl (hb hby at_27) k) ?_
      show gO (tF T120 m 28 (la6 p0 p1 p2 p3 p4 1 b116) [(.int 1), (.int 1)])
      refine gob (fun _ k => XS.icmpYes X120.here hx rfl (pc0 := 28) (pc' := 36) rfl (hb hby at_28) rfl (flt (by decide : ¬ ((1 : Int32) < (1 : Int32)))).2.2.2 (by decide) (by decide) k) ?_
      show gO (tF T120 m 36 (la6 p0 p1 p2 p3 p4 1 b116) [])
      refine gob (fun _ k => XS.iload X120.here hx rfl (hb hby at_36) rfl k) ?_
      show gO (tF T120 m 38 (la6 p0 p1 p2 p3 p4 1 b116) [(.int 1)])
      refine gob (fun _ k => XS.iconst X120.here hx rfl (hb hby at_38) k) ?_
      show gO (tF T120 m 39 (la6 p0 p1 p2 p3 p4 1 b116) [(.int 2), (.int 1)])
      refine gob (fun _ k => XS.icmpYes X120.here hx rfl (pc0 := 39) (pc' := 47) rfl (hb hby at_39) rfl (flt (by decide : ¬ ((2 : Int32) < (1 : Int32)))).2.2.2 (by decide) (by decide) k) ?_
      show gO (tF T120 m 47 (la6 p0 p1 p2 p3 p4 1 b116) [])
      refine gob (fun _ k => XS.iload X120.here hx rfl (hb hby at_47) rfl k) ?_
      show gO (tF T120 m 49 (la6 p0 p1 p2 p3 p4 1 b116) [(.int 1)])
      refine gob (fun _ k => XS.iconst X120.here hx rfl (hb hby at_49) k) ?_
      show gO (tF T120 m 50 (la6 p0 p1 p2 p3 p4 1 b116) [(.int 3), (.int 1)])
      refine gob (fun _ k => XS.icmpYes X120.here hx rfl (pc0 := 50) (pc' := 58) rfl (hb hby at_50) rfl (flt (by decide : ¬ ((3 : Int32) < (1 : Int32)))).2.2.2 (by decide) (by decide) k) ?_
      show gO (tF T120 m 58 (la6 p0 p1 p2 p3 p4 1 b116) [])
      refine gob (fun _ k => XS.iconst X120.here hx rfl (hb hby at_58) k) ?_
      show gO (tF T120 m 59 (la6 p0 p1 p2 p3 p4 1 b116) [(.int 0)])
      refine gob (fun _ k => XS.istore X120.here hx rfl (hb hby at_59) rfl (l' := (la7 p0 p1 p2 p3 p4 1 b116 0)) rfl k) ?_
      show gO (tF T120 m 61 (la7 p0 p1 p2 p3 p4 1 b116 0) [])
      have seg : ∀ (key_ : Int32), (∀ (T_ : State) (lc_ : List Loc) (h_ : Heap) (b1_ b2_ : Addr) (k1_ k2_ : ClassId), Stand p l e room_1 s m #[(.int p0), (.int p1), (.int p2), (.int p3), (.int p4)] below meth c T_ lc_ 3 33 → T_.heap = h_ → Fr n0 lc_ → n0 ≤ h_.size → Arv Z h_ b116 k116 .int (1 : Int32) [(.int p0)] (.int 0) → Arv Z h_ b1_ k1_ .int (16 : Int32) [(.int 0), (.int 1), (.int 1), (.int 5), (.int 1), (.int 1), (.int 7), (.int 23), (.int 1), (.int 3), (.int 5), (.int 29), (.int 1), (.int 11), (.int 1), (.int 1)] (.int 0) → Arv Z h_ b2_ k2_ .int (16 : Int32) [(.int 1), (.int 4), (.int 3), (.int 12), (.int 2), (.int 2), (.int 12), (.int 36), (.int 1), (.int 4), (.int 6), (.int 36), (.int 1), (.int 12), (.int 1), (.int 1)] (.int 0) → Go p e below s (Q0 Z p0 p1 p2 p3 p4 h0 n0) 16 192 (T_.setTop (mkF m 282 (la8 p0 p1 p2 p3 p4 1 b116 key_ b1_ b2_) []))) → Go p e below s (Q0 Z p0 p1 p2 p3 p4 h0 n0) 16 192 (T120.setTop (mkF m 112 (la7 p0 p1 p2 p3 p4 1 b116 key_) [])) := by
        intro key_ kont
        show gO (tF T120 m 112 (la7 p0 p1 p2 p3 p4 1 b116 key_) [])
        refine gob (fun _ k => XS.bipush X120.here hx rfl (hb hby at_112) k) ?_
        show gO (tF T120 m 114 (la7 p0 p1 p2 p3 p4 1 b116 key_) [(.int 16)])
        obtain ⟨T122, h122, k122, X122, e122, E122, A122, st122⟩ := newP X120 hx hZ (hW hw 1 rfl) e120 (g := (mkF m 114 (la7 p0 p1 p2 p3 p4 1 b116 key_) [(.int 16)])) rfl (hb hby at_114) rfl (by decide) (cap := 16) (by decide) (by decide) (by decide) (by decide)
        obtain ⟨b122, g122⟩ : ∃ z, z = h120.size := ⟨_, rfl⟩
        rw [← g122] at A122 st122
        have n123 : b116 ≠ b122 := Nat.ne_of_lt (Nat.lt_of_lt_of_le V120.lt (Nat.le_of_eq g122.symm))
        have g124 : n0 ≤ b122 := Nat.le_trans z121 (Nat.le_of_eq g122.symm)
        have z125 : n0 ≤ h122.size := Nat.le_trans z121 E122.1
        have V122 : Arv Z h122 b122 k122 .int (16 : Int32) [(.int 0), (.int 0), (.int 0), (.int 0), (.int 0), (.int 0), (.int 0), (.int 0), (.int 0), (.int 0), (.int 0), (.int 0), (.int 0), (.int 0), (.int 0), (.int 0)] (.int 0) := (Arv.new A122 (by decide)).pad (pad_rep [] (.int 0) 16)
        refine gob st122 ?_
        replace X122 := castX X122 (rfl : _ = 2) (rfl : _ = 17)
        show gO (tF T122 m 116 (la7 p0 p1 p2 p3 p4 1 b116 key_) [(.ref b122)])
        refine gob (fun _ k => XS.dup X122.here hx rfl (hb hby at_116) rfl rfl k) ?_
        show gO (tF T122 m 117 (la7 p0 p1 p2 p3 p4 1 b116 key_) [(.ref b122), (.ref b122)])
        refine gob (fun _ k => XS.iconst X122.here hx rfl (hb hby at_117) k) ?_
        show gO (tF T122 m 118 (la7 p0 p1 p2 p3 p4 1 b116 key_) [(.int 0), (.ref b122), (.ref b122)])
        refine gob (fun _ k => XS.iconst X122.here hx rfl (hb hby at_118) k) ?_
        show gO (tF T122 m 119 (la7 p0 p1 p2 p3 p4 1 b116 key_) [(.int 0), (.int 0), (.ref b122), (.ref b122)])
        obtain ⟨cl126, Ar126, aq126, S126, N126, H126, G126⟩ := id V122
        have hin126 : ¬ ((0 : Int32) < 0 ∨ cl126.slots.size ≤ ((0 : Int32)).toNatClampNeg) := inb_of S126 ⟨by decide, by decide⟩
        obtain ⟨T127, h127, X127, e127, W127, st127⟩ := stI X122 hx hZ e122 Ar126 (j := (0 : Int32)) hin126 (g := (mkF m 119 (la7 p0 p1 p2 p3 p4 1 b116 key_) [(.int 0), (.int 0), (.ref b122), (.ref b122)])) rfl rfl (hb hby at_119)
        refine gob st127 ?_
        have z128 : n0 ≤ h127.size := Nat.le_trans z125 (Keep.of_wr W127).1
        have N127 := Fr.snoc X127 N120 g124
        have V127 : Arv Z h127 b122 k122 .int (16 : Int32) [(.int 0), (.int 0), (.int 0), (.int 0), (.int 0), (.int 0), (.int 0), (.int 0), (.int 0), (.int 0), (.int 0), (.int 0), (.int 0), (.int 0), (.int 0), (.int 0)] (.int 0) := Arv.set Ar126 aq126 S126 N126 H126 G126 rfl W127 0 rfl (Nat.le_of_ble_eq_true rfl)
        show gO (tF T127 m 120 (la7 p0 p1 p2 p3 p4 1 b116 key_) [(.ref b122)])
        refine gob (fun _ k => XS.dup X127.here hx rfl (hb hby at_120) rfl rfl k) ?_
        show gO (tF T127 m 121 (la7 p0 p1 p2 p3 p4 1 b116 key_) [(.ref b122), (.ref b122)])
        refine gob (fun _ k => XS.iconst X127.here hx rfl (hb hby at_121) k) ?_
        show gO (tF T127 m 122 (la7 p0 p1 p2 p3 p4 1 b116 key_) [(.int 1), (.ref b122), (.ref b122)])
        refine gob (fun _ k => XS.iconst X127.here hx rfl (hb hby at_122) k) ?_
        show gO (tF T127 m 123 (la7 p0 p1 p2 p3 p4 1 b116 key_) [(.int 1), (.int 1), (.ref b122), (.ref b122)])
        obtain ⟨cl129, Ar129, aq129, S129, N129, H129, G129⟩ := id V127
        have hin129 : ¬ ((1 : Int32) < 0 ∨ cl129.slots.size ≤ ((1 : Int32)).toNatClampNeg) := inb_of S129 ⟨by decide, by decide⟩
        obtain ⟨T130, h130, X130, e130, W130, st130⟩ := stI X127 hx hZ e127 Ar129 (j := (1 : Int32)) hin129 (g := (mkF m 123 (la7 p0 p1 p2 p3 p4 1 b116 key_) [(.int 1), (.int 1), (.ref b122), (.ref b122)])) rfl rfl (hb hby at_123)
        refine gob st130 ?_
        have z131 : n0 ≤ h130.size := Nat.le_trans z128 (Keep.of_wr W130).1
        have N130 := Fr.snoc X130 N127 g124
        have V130 : Arv Z h130 b122 k122 .int (16 : Int32) [(.int 0), (.int 1), (.int 0), (.int 0), (.int 0), (.int 0), (.int 0), (.int 0), (.int 0), (.int 0), (.int 0), (.int 0), (.int 0), (.int 0), (.int 0), (.int 0)] (.int 0) := Arv.set Ar129 aq129 S129 N129 H129 G129 rfl W130 1 rfl (Nat.le_of_ble_eq_true rfl)
        show gO (tF T130 m 124 (la7 p0 p1 p2 p3 p4 1 b116 key_) [(.ref b122)])
        refine gob (fun _ k => XS.dup X130.here hx rfl (hb hby at_124) rfl rfl k) ?_
        show gO (tF T130 m 125 (la7 p0 p1 p2 p3 p4 1 b116 key_) [(.ref b122), (.ref b122)])
        refine gob (fun _ k => XS.iconst X130.here hx rfl (hb hby at_125) k) ?_
        show gO (tF T130 m 126 (la7 p0 p1 p2 p3 p4 1 b116 key_) [(.int 2), (.ref b122), (.ref b122)])
        refine gob (fun _ k => XS.iconst X130.here hx rfl (hb hby at_126) k) ?_
        show gO (tF T130 m 127 (la7 p0 p1 p2 p3 p4 1 b116 key_) [(.int 1), (.int 2), (.ref b122), (.ref b122)])
        obtain ⟨cl132, Ar132, aq132, S132, N132, H132, G132⟩ := id V130
        have hin132 : ¬ ((2 : Int32) < 0 ∨ cl132.slots.size ≤ ((2 : Int32)).toNatClampNeg) := inb_of S132 ⟨by decide, by decide⟩
        obtain ⟨T133, h133, X133, e133, W133, st133⟩ := stI X130 hx hZ e130 Ar132 (j := (2 : Int32)) hin132 (g := (mkF m 127 (la7 p0 p1 p2 p3 p4 1 b116 key_) [(.int 1), (.int 2), (.ref b122), (.ref b122)])) rfl rfl (hb hby at_127)
        refine gob st133 ?_
        have z134 : n0 ≤ h133.size := Nat.le_trans z131 (Keep.of_wr W133).1
        have N133 := Fr.snoc X133 N130 g124
        have V133 : Arv Z h133 b122 k122 .int (16 : Int32) [(.int 0), (.int 1), (.int 1), (.int 0), (.int 0), (.int 0), (.int 0), (.int 0), (.int 0), (.int 0), (.int 0), (.int 0), (.int 0), (.int 0), (.int 0), (.int 0)] (.int 0) := Arv.set Ar132 aq132 S132 N132 H132 G132 rfl W133 2 rfl (Nat.le_of_ble_eq_true rfl)
        show gO (tF T133 m 128 (la7 p0 p1 p2 p3 p4 1 b116 key_) [(.ref b122)])
        refine gob (fun _ k => XS.dup X133.here hx rfl (hb hby at_128) rfl rfl k) ?_
        show gO (tF T133 m 129 (la7 p0 p1 p2 p3 p4 1 b116 key_) [(.ref b122), (.ref b122)])
        refine gob (fun _ k => XS.iconst X133.here hx rfl (hb hby at_129) k) ?_
        show gO (tF T133 m 130 (la7 p0 p1 p2 p3 p4 1 b116 key_) [(.int 3), (.ref b122), (.ref b122)])
        refine gob (fun _ k => XS.iconst X133.here hx rfl (hb hby at_130) k) ?_
        show gO (tF T133 m 131 (la7 p0 p1 p2 p3 p4 1 b116 key_) [(.int 5), (.int 3), (.ref b122), (.ref b122)])
        obtain ⟨cl135, Ar135, aq135, S135, N135, H135, G135⟩ := id V133
        have hin135 : ¬ ((3 : Int32) < 0 ∨ cl135.slots.size ≤ ((3 : Int32)).toNatClampNeg) := inb_of S135 ⟨by decide, by decide⟩
        obtain ⟨T136, h136, X136, e136, W136, st136⟩ := stI X133 hx hZ e133 Ar135 (j := (3 : Int32)) hin135 (g := (mkF m 131 (la7 p0 p1 p2 p3 p4 1 b116 key_) [(.int 5), (.int 3), (.ref b122), (.ref b122)])) rfl rfl (hb hby at_131)
        refine gob st136 ?_
        have z137 : n0 ≤ h136.size := Nat.le_trans z134 (Keep.of_wr W136).1
        have N136 := Fr.snoc X136 N133 g124
        have V136 : Arv Z h136 b122 k122 .int (16 : Int32) [(.int 0), (.int 1), (.int 1), (.int 5), (.int 0), (.int 0), (.int 0), (.int 0), (.int 0), (.int 0), (.int 0), (.int 0), (.int 0), (.int 0), (.int 0), (.int 0)] (.int 0) := Arv.set Ar135 aq135 S135 N135 H135 G135 rfl W136 3 rfl (Nat.le_of_ble_eq_true rfl)
        show gO (tF T136 m 132 (la7 p0 p1 p2 p3 p4 1 b116 key_) [(.ref b122)])
        refine gob (fun _ k => XS.dup X136.here hx rfl (hb hby at_132) rfl rfl k) ?_
        show gO (tF T136 m 133 (la7 p0 p1 p2 p3 p4 1 b116 key_) [(.ref b122), (.ref b122)])
        refine gob (fun _ k => XS.iconst X136.here hx rfl (hb hby at_133) k) ?_
        show gO (tF T136 m 134 (la7 p0 p1 p2 p3 p4 1 b116 key_) [(.int 4), (.ref b122), (.ref b122)])
        refine gob (fun _ k => XS.iconst X136.here hx rfl (hb hby at_134) k) ?_
        show gO (tF T136 m 135 (la7 p0 p1 p2 p3 p4 1 b116 key_) [(.int 1), (.int 4), (.ref b122), (.ref b122)])
        obtain ⟨cl138, Ar138, aq138, S138, N138, H138, G138⟩ := id V136
        have hin138 : ¬ ((4 : Int32) < 0 ∨ cl138.slots.size ≤ ((4 : Int32)).toNatClampNeg) := inb_of S138 ⟨by decide, by decide⟩
        obtain ⟨T139, h139, X139, e139, W139, st139⟩ := stI X136 hx hZ e136 Ar138 (j := (4 : Int32)) hin138 (g := (mkF m 135 (la7 p0 p1 p2 p3 p4 1 b116 key_) [(.int 1), (.int 4), (.ref b122), (.ref b122)])) rfl rfl (hb hby at_135)
        refine gob st139 ?_
        have z140 : n0 ≤ h139.size := Nat.le_trans z137 (Keep.of_wr W139).1
        have N139 := Fr.snoc X139 N136 g124
        have V139 : Arv Z h139 b122 k122 .int (16 : Int32) [(.int 0), (.int 1), (.int 1), (.int 5), (.int 1), (.int 0), (.int 0), (.int 0), (.int 0), (.int 0), (.int 0), (.int 0), (.int 0), (.int 0), (.int 0), (.int 0)] (.int 0) := Arv.set Ar138 aq138 S138 N138 H138 G138 rfl W139 4 rfl (Nat.le_of_ble_eq_true rfl)
        show gO (tF T139 m 136 (la7 p0 p1 p2 p3 p4 1 b116 key_) [(.ref b122)])
        refine gob (fun _ k => XS.dup X139.here hx rfl (hb hby at_136) rfl rfl k) ?_
        show gO (tF T139 m 137 (la7 p0 p1 p2 p3 p4 1 b116 key_) [(.ref b122), (.ref b122)])
        refine gob (fun _ k => XS.iconst X139.here hx rfl (hb hby at_137) k) ?_
        show gO (tF T139 m 138 (la7 p0 p1 p2 p3 p4 1 b116 key_) [(.int 5), (.ref b122), (.ref b122)])
        refine gob (fun _ k => XS.iconst X139.here hx rfl (hb hby at_138) k) ?_
        show gO (tF T139 m 139 (la7 p0 p1 p2 p3 p4 1 b116 key_) [(.int 1), (.int 5), (.ref b122), (.ref b122)])
        obtain ⟨cl141, Ar141, aq141, S141, N141, H141, G141⟩ := id V139
        have hin141 : ¬ ((5 : Int32) < 0 ∨ cl141.slots.size ≤ ((5 : Int32)).toNatClampNeg) := inb_of S141 ⟨by decide, by decide⟩
        obtain ⟨T142, h142, X142, e142, W142, st142⟩ := stI X139 hx hZ e139 Ar141 (j := (5 : Int32)) hin141 (g := (mkF m 139 (la7 p0 p1 p2 p3 p4 1 b116 key_) [(.int 1), (.int 5), (.ref b122), (.ref b122)])) rfl rfl (hb hby at_139)
        refine gob st142 ?_
        have z143 : n0 ≤ h142.size := Nat.le_trans z140 (Keep.of_wr W142).1
        have N142 := Fr.snoc X142 N139 g124
        have V142 : Arv Z h142 b122 k122 .int (16 : Int32) [(.int 0), (.int 1), (.int 1), (.int 5), (.int 1), (.int 1), (.int 0), (.int 0), (.int 0), (.int 0), (.int 0), (.int 0), (.int 0), (.int 0), (.int 0), (.int 0)] (.int 0) := Arv.set Ar141 aq141 S141 N141 H141 G141 rfl W142 5 rfl (Nat.le_of_ble_eq_true rfl)
        show gO (tF T142 m 140 (la7 p0 p1 p2 p3 p4 1 b116 key_) [(.ref b122)])
        refine gob (fun _ k => XS.dup X142.here hx rfl (hb hby at_140) rfl rfl k) ?_
        show gO (tF T142 m 141 (la7 p0 p1 p2 p3 p4 1 b116 key_) [(.ref b122), (.ref b122)])
        refine gob (fun _ k => XS.bipush X142.here hx rfl (hb hby at_141) k) ?_
        show gO (tF T142 m 143 (la7 p0 p1 p2 p3 p4 1 b116 key_) [(.int 6), (.ref b122), (.ref b122)])
        refine gob (fun _ k => XS.bipush X142.here hx rfl (hb hby at_143) k) ?_
        show gO (tF T142 m 145 (la7 p0 p1 p2 p3 p4 1 b116 key_) [(.int 7), (.int 6), (.ref b122), (.ref b122)])
        obtain ⟨cl144, Ar144, aq144, S144, N144, H144, G144⟩ := id V142
        have hin144 : ¬ ((6 : Int32) < 0 ∨ cl144.slots.size ≤ ((6 : Int32)).toNatClampNeg) := inb_of S144 ⟨by decide, by decide⟩
        obtain ⟨T145, h145, X145, e145, W145, st145⟩ := stI X142 hx hZ e142 Ar144 (j := (6 : Int32)) hin144 (g := (mkF m 145 (la7 p0 p1 p2 p3 p4 1 b116 key_) [(.int 7), (.int 6), (.ref b122), (.ref b122)])) rfl rfl (hb hby at_145)
        refine gob st145 ?_
        have z146 : n0 ≤ h145.size := Nat.le_trans z143 (Keep.of_wr W145).1
        have N145 := Fr.snoc X145 N142 g124
        have V145 : Arv Z h145 b122 k122 .int (16 : Int32) [(.int 0), (.int 1), (.int 1), (.int 5), (.int 1), (.int 1), (.int 7), (.int 0), (.int 0), (.int 0), (.int 0), (.int 0), (.int 0), (.int 0), (.int 0), (.int 0)] (.int 0) := Arv.set Ar144 aq144 S144 N144 H144 G144 rfl W145 6 rfl (Nat.le_of_ble_eq_true rfl)
        show gO (tF T145 m 146 (la7 p0 p1 p2 p3 p4 1 b116 key_) [(.ref b122)])
        refine gob (fun _ k => XS.dup X145.here hx rfl (hb hby at_146) rfl rfl k) ?_
        show gO (tF T145 m 147 (la7 p0 p1 p2 p3 p4 1 b116 key_) [(.ref b122), (.ref b122)])
        refine gob (fun _ k => XS.bipush X145.here hx rfl (hb hby at_147) k) ?_
        show gO (tF T145 m 149 (la7 p0 p1 p2 p3 p4 1 b116 key_) [(.int 7), (.ref b122), (.ref b122)])
        refine gob (fun _ k => XS.bipush X145.here hx rfl (hb hby at_149) k) ?_
        show gO (tF T145 m 151 (la7 p0 p1 p2 p3 p4 1 b116 key_) [(.int 23), (.int 7), (.ref b122), (.ref b122)])
        obtain ⟨cl147, Ar147, aq147, S147, N147, H147, G147⟩ := id V145
        have hin147 : ¬ ((7 : Int32) < 0 ∨ cl147.slots.size ≤ ((7 : Int32)).toNatClampNeg) := inb_of S147 ⟨by decide, by decide⟩
        obtain ⟨T148, h148, X148, e148, W148, st148⟩ := stI X145 hx hZ e145 Ar147 (j := (7 : Int32)) hin147 (g := (mkF m 151 (la7 p0 p1 p2 p3 p4 1 b116 key_) [(.int 23), (.int 7), (.ref b122), (.ref b122)])) rfl rfl (hb hby at_151)
        refine gob st148 ?_
        have z149 : n0 ≤ h148.size := Nat.le_trans z146 (Keep.of_wr W148).1
        have N148 := Fr.snoc X148 N145 g124
        have V148 : Arv Z h148 b122 k122 .int (16 : Int32) [(.int 0), (.int 1), (.int 1), (.int 5), (.int 1), (.int 1), (.int 7), (.int 23), (.int 0), (.int 0), (.int 0), (.int 0), (.int 0), (.int 0), (.int 0), (.int 0)] (.int 0) := Arv.set Ar147 aq147 S147 N147 H147 G147 rfl W148 7 rfl (Nat.le_of_ble_eq_true rfl)
        show gO (tF T148 m 152 (la7 p0 p1 p2 p3 p4 1 b116 key_) [(.ref b122)])
        refine gob (fun _ k => XS.dup X148.here hx rfl (hb hby at_152) rfl rfl k) ?_
        show gO (tF T148 m 153 (la7 p0 p1 p2 p3 p4 1 b116 key_) [(.ref b122), (.ref b122)])
        refine gob (fun _ k => XS.bipush X148.here hx rfl (hb hby at_153) k) ?_
        show gO (tF T148 m 155 (la7 p0 p1 p2 p3 p4 1 b116 key_) [(.int 8), (.ref b122), (.ref b122)])
        refine gob (fun _ k => XS.iconst X148.here hx rfl (hb hby at_155) k) ?_
        show gO (tF T148 m 156 (la7 p0 p1 p2 p3 p4 1 b116 key_) [(.int 1), (.int 8), (.ref b122), (.ref b122)])
        obtain ⟨cl150, Ar150, aq150, S150, N150, H150, G150⟩ := id V148
        have hin150 : ¬ ((8 : Int32) < 0 ∨ cl150.slots.size ≤ ((8 : Int32)).toNatClampNeg) := inb_of S150 ⟨by decide, by decide⟩
        obtain ⟨T151, h151, X151, e151, W151, st151⟩ := stI X148 hx hZ e148 Ar150 (j := (8 : Int32)) hin150 (g := (mkF m 156 (la7 p0 p1 p2 p3 p4 1 b116 key_) [(.int 1), (.int 8), (.ref b122), (.ref b122)])) rfl rfl (hb hby at_156)
        refine gob st151 ?_
        have z152 : n0 ≤ h151.size := Nat.le_trans z149 (Keep.of_wr W151).1
        have N151 := Fr.snoc X151 N148 g124
        have V151 : Arv Z h151 b122 k122 .int (16 : Int32) [(.int 0), (.int 1), (.int 1), (.int 5), (.int 1), (.int 1), (.int 7), (.int 23), (.int 1), (.int 0), (.int 0), (.int 0), (.int 0), (.int 0), (.int 0), (.int 0)] (.int 0) := Arv.set Ar150 aq150 S150 N150 H150 G150 rfl W151 8 rfl (Nat.le_of_ble_eq_true rfl)
        show gO (tF T151 m 157 (la7 p0 p1 p2 p3 p4 1 b116 key_) [(.ref b122)])
        refine gob (fun _ k => XS.dup X151.here hx rfl (hb hby at_157) rfl rfl k) ?_
        show gO (tF T151 m 158 (la7 p0 p1 p2 p3 p4 1 b116 key_) [(.ref b122), (.ref b122)])
        refine gob (fun _ k => XS.bipush X151.here hx rfl (hb hby at_158) k) ?_
        show gO (tF T151 m 160 (la7 p0 p1 p2 p3 p4 1 b116 key_) [(.int 9), (.ref b122), (.ref b122)])
        refine gob (fun _ k => XS.iconst X151.here hx rfl (hb hby at_160) k) ?_
        show gO (tF T151 m 161 (la7 p0 p1 p2 p3 p4 1 b116 key_) [(.int 3), (.int 9), (.ref b122), (.ref b122)])
        obtain ⟨cl153, Ar153, aq153, S153, N153, H153, G153⟩ := id V151
        have hin153 : ¬ ((9 : Int32) < 0 ∨ cl153.slots.size ≤ ((9 : Int32)).toNatClampNeg) := inb_of S153 ⟨by decide, by decide⟩
        obtain ⟨T154, h154, X154, e154, W154, st154⟩ := stI X151 hx hZ e151 Ar153 (j := (9 : Int32)) hin153 (g := (mkF m 161 (la7 p0 p1 p2 p3 p4 1 b116 key_) [(.int 3), (.int 9), (.ref b122), (.ref b122)])) rfl rfl (hb hby at_161)
        refine gob st154 ?_
        have z155 : n0 ≤ h154.size := Nat.le_trans z152 (Keep.of_wr W154).1
        have N154 := Fr.snoc X154 N151 g124
        have V154 : Arv Z h154 b122 k122 .int (16 : Int32) [(.int 0), (.int 1), (.int 1), (.int 5), (.int 1), (.int 1), (.int 7), (.int 23), (.int 1), (.int 3), (.int 0), (.int 0), (.int 0), (.int 0), (.int 0), (.int 0)] (.int 0) := Arv.set Ar153 aq153 S153 N153 H153 G153 rfl W154 9 rfl (Nat.le_of_ble_eq_true rfl)
        show gO (tF T154 m 162 (la7 p0 p1 p2 p3 p4 1 b116 key_) [(.ref b122)])
        refine gob (fun _ k => XS.dup X154.here hx rfl (hb hby at_162) rfl rfl k) ?_
        show gO (tF T154 m 163 (la7 p0 p1 p2 p3 p4 1 b116 key_) [(.ref b122), (.ref b122)])
        refine gob (fun _ k => XS.bipush X154.here hx rfl (hb hby at_163) k) ?_
        show gO (tF T154 m 165 (la7 p0 p1 p2 p3 p4 1 b116 key_) [(.int 10), (.ref b122), (.ref b122)])
        refine gob (fun _ k => XS.iconst X154.here hx rfl (hb hby at_165) k) ?_
        show gO (tF T154 m 166 (la7 p0 p1 p2 p3 p4 1 b116 key_) [(.int 5), (.int 10), (.ref b122), (.ref b122)])
        obtain ⟨cl156, Ar156, aq156, S156, N156, H156, G156⟩ := id V154
        have hin156 : ¬ ((10 : Int32) < 0 ∨ cl156.slots.size ≤ ((10 : Int32)).toNatClampNeg) := inb_of S156 ⟨by decide, by decide⟩
        obtain ⟨T157, h157, X157, e157, W157, st157⟩ := stI X154 hx hZ e154 Ar156 (j := (10 : Int32)) hin156 (g := (mkF m 166 (la7 p0 p1 p2 p3 p4 1 b116 key_) [(.int 5), (.int 10), (.ref b122), (.ref b122)])) rfl rfl (hb hby at_166)
        refine gob st157 ?_
        have z158 : n0 ≤ h157.size := Nat.le_trans z155 (Keep.of_wr W157).1
        have N157 := Fr.snoc X157 N154 g124
        have V157 : Arv Z h157 b122 k122 .int (16 : Int32) [(.int 0), (.int 1), (.int 1), (.int 5), (.int 1), (.int 1), (.int 7), (.int 23), (.int 1), (.int 3), (.int 5), (.int 0), (.int 0), (.int 0), (.int 0), (.int 0)] (.int 0) := Arv.set Ar156 aq156 S156 N156 H156 G156 rfl W157 10 rfl (Nat.le_of_ble_eq_true rfl)
        show gO (tF T157 m 167 (la7 p0 p1 p2 p3 p4 1 b116 key_) [(.ref b122)])
        refine gob (fun _ k => XS.dup X157.here hx rfl (hb hby at_167) rfl rfl k) ?_
        show gO (tF T157 m 168 (la7 p0 p1 p2 p3 p4 1 b116 key_) [(.ref b122), (.ref b122)])
        refine gob (fun _ k => XS.bipush X157.here hx rfl (hb hby at_168) k) ?_
        show gO (tF T157 m 170 (la7 p0 p1 p2 p3 p4 1 b116 key_) [(.int 11), (.ref b122), (.ref b122)])
        refine gob (fun _ k => XS.bipush X157.here hx rfl (hb hby at_170) k) ?_
        show gO (tF T157 m 172 (la7 p0 p1 p2 p3 p4 1 b116 key_) [(.int 29), (.int 11), (.ref b122), (.ref b122)])
        obtain ⟨cl159, Ar159, aq159, S159, N159, H159, G159⟩ := id V157
        have hin159 : ¬ ((11 : Int32) < 0 ∨ cl159.slots.size ≤ ((11 : Int32)).toNatClampNeg) := inb_of S159 ⟨by decide, by decide⟩
        obtain ⟨T160, h160, X160, e160, W160, st160⟩ := stI X157 hx hZ e157 Ar159 (j := (11 : Int32)) hin159 (g := (mkF m 172 (la7 p0 p1 p2 p3 p4 1 b116 key_) [(.int 29), (.int 11), (.ref b122), (.ref b122)])) rfl rfl (hb hby at_172)
        refine gob st160 ?_
        have z161 : n0 ≤ h160.size := Nat.le_trans z158 (Keep.of_wr W160).1
        have N160 := Fr.snoc X160 N157 g124
        have V160 : Arv Z h160 b122 k122 .int (16 : Int32) [(.int 0), (.int 1), (.int 1), (.int 5), (.int 1), (.int 1), (.int 7), (.int 23), (.int 1), (.int 3), (.int 5), (.int 29), (.int 0), (.int 0), (.int 0), (.int 0)] (.int 0) := Arv.set Ar159 aq159 S159 N159 H159 G159 rfl W160 11 rfl (Nat.le_of_ble_eq_true rfl)
        show gO (tF T160 m 173 (la7 p0 p1 p2 p3 p4 1 b116 key_) [(.ref b122)])
        refine gob (fun _ k => XS.dup X160.here hx rfl (hb hby at_173) rfl rfl k) ?_
        show gO (tF T160 m 174 (la7 p0 p1 p2 p3 p4 1 b116 key_) [(.ref b122), (.ref b122)])
        refine gob (fun _ k => XS.bipush X160.here hx rfl (hb hby at_174) k) ?_
        show gO (tF T160 m 176 (la7 p0 p1 p2 p3 p4 1 b116 key_) [(.int 12), (.ref b122), (.ref b122)])
        refine gob (fun _ k => XS.iconst X160.here hx rfl (hb hby at_176) k) ?_
        show gO (tF T160 m 177 (la7 p0 p1 p2 p3 p4 1 b116 key_) [(.int 1), (.int 12), (.ref b122), (.ref b122)])
        obtain ⟨cl162, Ar162, aq162, S162, N162, H162, G162⟩ := id V160
        have hin162 : ¬ ((12 : Int32) < 0 ∨ cl162.slots.size ≤ ((12 : Int32)).toNatClampNeg) := inb_of S162 ⟨by decide, by decide⟩
        obtain ⟨T163, h163, X163, e163, W163, st163⟩ := stI X160 hx hZ e160 Ar162 (j := (12 : Int32)) hin162 (g := (mkF m 177 (la7 p0 p1 p2 p3 p4 1 b116 key_) [(.int 1), (.int 12), (.ref b122), (.ref b122)])) rfl rfl (hb hby at_177)
        refine gob st163 ?_
        have z164 : n0 ≤ h163.size := Nat.le_trans z161 (Keep.of_wr W163).1
        have N163 := Fr.snoc X163 N160 g124
        have V163 : Arv Z h163 b122 k122 .int (16 : Int32) [(.int 0), (.int 1), (.int 1), (.int 5), (.int 1), (.int 1), (.int 7), (.int 23), (.int 1), (.int 3), (.int 5), (.int 29), (.int 1), (.int 0), (.int 0), (.int 0)] (.int 0) := Arv.set Ar162 aq162 S162 N162 H162 G162 rfl W163 12 rfl (Nat.le_of_ble_eq_true rfl)
        show gO (tF T163 m 178 (la7 p0 p1 p2 p3 p4 1 b116 key_) [(.ref b122)])
        refine gob (fun _ k => XS.dup X163.here hx rfl (hb hby at_178) rfl rfl k) ?_
        show gO (tF T163 m 179 (la7 p0 p1 p2 p3 p4 1 b116 key_) [(.ref b122), (.ref b122)])
        refine gob (fun _ k => XS.bipush X163.here hx rfl (hb hby at_179) k) ?_
        show gO (tF T163 m 181 (la7 p0 p1 p2 p3 p4 1 b116 key_) [(.int 13), (.ref b122), (.ref b122)])
        refine gob (fun _ k => XS.bipush X163.here hx rfl (hb hby at_181) k) ?_
        show gO (tF T163 m 183 (la7 p0 p1 p2 p3 p4 1 b116 key_) [(.int 11), (.int 13), (.ref b122), (.ref b122)])
        obtain ⟨cl165, Ar165, aq165, S165, N165, H165, G165⟩ := id V163
        have hin165 : ¬ ((13 : Int32) < 0 ∨ cl165.slots.size ≤ ((13 : Int32)).toNatClampNeg) := inb_of S165 ⟨by decide, by decide⟩
        obtain ⟨T166, h166, X166, e166, W166, st166⟩ := stI X163 hx hZ e163 Ar165 (j := (13 : Int32)) hin165 (g := (mkF m 183 (la7 p0 p1 p2 p3 p4 1 b116 key_) [(.int 11), (.int 13), (.ref b122), (.ref b122)])) rfl rfl (hb hby at_183)
        refine gob st166 ?_
        have z167 : n0 ≤ h166.size := Nat.le_trans z164 (Keep.of_wr W166).1
        have N166 := Fr.snoc X166 N163 g124
        have V166 : Arv Z h166 b122 k122 .int (16 : Int32) [(.int 0), (.int 1), (.int 1), (.int 5), (.int 1), (.int 1), (.int 7), (.int 23), (.int 1), (.int 3), (.int 5), (.int 29), (.int 1), (.int 11), (.int 0), (.int 0)] (.int 0) := Arv.set Ar165 aq165 S165 N165 H165 G165 rfl W166 13 rfl (Nat.le_of_ble_eq_true rfl)
        show gO (tF T166 m 184 (la7 p0 p1 p2 p3 p4 1 b116 key_) [(.ref b122)])
        refine gob (fun _ k => XS.dup X166.here hx rfl (hb hby at_184) rfl rfl k) ?_
        show gO (tF T166 m 185 (la7 p0 p1 p2 p3 p4 1 b116 key_) [(.ref b122), (.ref b122)])
        refine gob (fun _ k => XS.bipush X166.here hx rfl (hb hby at_185) k) ?_
        show gO (tF T166 m 187 (la7 p0 p1 p2 p3 p4 1 b116 key_) [(.int 14), (.ref b122), (.ref b122)])
        refine gob (fun _ k => XS.iconst X166.here hx rfl (hb hby at_187) k) ?_
        show gO (tF T166 m 188 (la7 p0 p1 p2 p3 p4 1 b116 key_) [(.int 1), (.int 14), (.ref b122), (.ref b122)])
        obtain ⟨cl168, Ar168, aq168, S168, N168, H168, G168⟩ := id V166
        have hin168 : ¬ ((14 : Int32) < 0 ∨ cl168.slots.size ≤ ((14 : Int32)).toNatClampNeg) := inb_of S168 ⟨by decide, by decide⟩
        obtain ⟨T169, h169, X169, e169, W169, st169⟩ := stI X166 hx hZ e166 Ar168 (j := (14 : Int32)) hin168 (g := (mkF m 188 (la7 p0 p1 p2 p3 p4 1 b116 key_) [(.int 1), (.int 14), (.ref b122), (.ref b122)])) rfl rfl (hb hby at_188)
        refine gob st169 ?_
        have z170 : n0 ≤ h169.size := Nat.le_trans z167 (Keep.of_wr W169).1
        have N169 := Fr.snoc X169 N166 g124
        have V169 : Arv Z h169 b122 k122 .int (16 : Int32) [(.int 0), (.int 1), (.int 1), (.int 5), (.int 1), (.int 1), (.int 7), (.int 23), (.int 1), (.int 3), (.int 5), (.int 29), (.int 1), (.int 11), (.int 1), (.int 0)] (.int 0) := Arv.set Ar168 aq168 S168 N168 H168 G168 rfl W169 14 rfl (Nat.le_of_ble_eq_true rfl)
        show gO (tF T169 m 189 (la7 p0 p1 p2 p3 p4 1 b116 key_) [(.ref b122)])
        refine gob (fun _ k => XS.dup X169.here hx rfl (hb hby at_189) rfl rfl k) ?_
        show gO (tF T169 m 190 (la7 p0 p1 p2 p3 p4 1 b116 key_) [(.ref b122), (.ref b122)])
        refine gob (fun _ k => XS.bipush X169.here hx rfl (hb hby at_190) k) ?_
        show gO (tF T169 m 192 (la7 p0 p1 p2 p3 p4 1 b116 key_) [(.int 15), (.ref b122), (.ref b122)])
        refine gob (fun _ k => XS.iconst X169.here hx rfl (hb hby at_192) k) ?_
        show gO (tF T169 m 193 (la7 p0 p1 p2 p3 p4 1 b116 key_) [(.int 1), (.int 15), (.ref b122), (.ref b122)])
        obtain ⟨cl171, Ar171, aq171, S171, N171, H171, G171⟩ := id V169
        have hin171 : ¬ ((15 : Int32) < 0 ∨ cl171.slots.size ≤ ((15 : Int32)).toNatClampNeg) := inb_of S171 ⟨by decide, by decide⟩
        obtain ⟨T172, h172, X172, e172, W172, st172⟩ := stI X169 hx hZ e169 Ar171 (j := (15 : Int32)) hin171 (g := (mkF m 193 (la7 p0 p1 p2 p3 p4 1 b116 key_) [(.int 1), (.int 15), (.ref b122), (.ref b122)])) rfl rfl (hb hby at_193)
        refine gob st172 ?_
        have z173 : n0 ≤ h172.size := Nat.le_trans z170 (Keep.of_wr W172).1
        have N172 := Fr.snoc X172 N169 g124
        have V172 : Arv Z h172 b122 k122 .int (16 : Int32) [(.int 0), (.int 1), (.int 1), (.int 5), (.int 1), (.int 1), (.int 7), (.int 23), (.int 1), (.int 3), (.int 5), (.int 29), (.int 1), (.int 11), (.int 1), (.int 1)] (.int 0) := Arv.set Ar171 aq171 S171 N171 H171 G171 rfl W172 15 rfl (Nat.le_of_ble_eq_true rfl)
        show gO (tF T172 m 194 (la7 p0 p1 p2 p3 p4 1 b116 key_) [(.ref b122)])
        refine gob (fun _ k => XS.astore X172.here hx rfl (hb hby at_194) rfl rfl (l' := (la9 p0 p1 p2 p3 p4 1 b116 key_ b122)) rfl k) ?_
        show gO (tF T172 m 196 (la9 p0 p1 p2 p3 p4 1 b116 key_ b122) [])
        refine gob (fun _ k => XS.bipush X172.here hx rfl (hb hby at_196) k) ?_
        show gO (tF T172 m 198 (la9 p0 p1 p2 p3 p4 1 b116 key_ b122) [(.int 16)])
        obtain ⟨T174, h174, k174, X174, e174, E174, A174, st174⟩ := newP X172 hx hZ (hW hw 1 rfl) e172 (g := (mkF m 198 (la9 p0 p1 p2 p3 p4 1 b116 key_ b122) [(.int 16)])) rfl (hb hby at_198) rfl (by decide) (cap := 16) (by decide) (by decide) (by decide) (by decide)
        obtain ⟨b174, g174⟩ : ∃ z, z = h172.size := ⟨_, rfl⟩
        rw [← g174] at A174 st174
        have c175 := (((((((((((((((((V120.ext E122).other W127 n123).other W130 n123).other W133 n123).other W136 n123).other W139 n123).other W142 n123).other W145 n123).other W148 n123).other W151 n123).other W154 n123).other W157 n123).other W160 n123).other W163 n123).other W166 n123).other W169 n123).other W172 n123)
        have n176 : b116 ≠ b174 := Nat.ne_of_lt (Nat.lt_of_lt_of_le c175.lt (Nat.le_of_eq g174.symm))
        have n177 : b122 ≠ b174 := Nat.ne_of_lt (Nat.lt_of_lt_of_le V172.lt (Nat.le_of_eq g174.symm))
        have g178 : n0 ≤ b174 := Nat.le_trans z173 (Nat.le_of_eq g174.symm)
        have z179 : n0 ≤ h174.size := Nat.le_trans z173 E174.1
        have V174 : Arv Z h174 b174 k174 .int (16 : Int32) [(.int 0), (.int 0), (.int 0), (.int 0), (.int 0), (.int 0), (.int 0), (.int 0), (.int 0), (.int 0), (.int 0), (.int 0), (.int 0), (.int 0), (.int 0), (.int 0)] (.int 0) := (Arv.new A174 (by decide)).pad (pad_rep [] (.int 0) 16)
        refine gob st174 ?_
        replace X174 := castX X174 (rfl : _ = 3) (rfl : _ = 33)
        show gO (tF T174 m 200 (la9 p0 p1 p2 p3 p4 1 b116 key_ b122) [(.ref b174)])
        refine gob (fun _ k => XS.dup X174.here hx rfl (hb hby at_200) rfl rfl k) ?_
        show gO (tF T174 m 201 (la9 p0 p1 p2 p3 p4 1 b116 key_ b122) [(.ref b174), (.ref b174)])
        refine gob (fun _ k => XS.iconst X174.here hx rfl (hb hby at_201) k) ?_
        show gO (tF T174 m 202 (la9 p0 p1 p2 p3 p4 1 b116 key_ b122) [(.int 0), (.ref b174), (.ref b174)])
        refine gob (fun _ k => XS.iconst X174.here hx rfl (hb hby at_202) k) ?_
        show gO (tF T174 m 203 (la9 p0 p1 p2 p3 p4 1 b116 key_ b122) [(.int 1), (.int 0), (.ref b174), (.ref b174)])
        obtain ⟨cl180, Ar180, aq180, S180, N180, H180, G180⟩ := id V174
        have hin180 : ¬ ((0 : Int32) < 0 ∨ cl180.slots.size ≤ ((0 : Int32)).toNatClampNeg) := inb_of S180 ⟨by decide, by decide⟩
        obtain ⟨T181, h181, X181, e181, W181, st181⟩ := stI X174 hx hZ e174 Ar180 (j := (0 : Int32)) hin180 (g := (mkF m 203 (la9 p0 p1 p2 p3 p4 1 b116 key_ b122) [(.int 1), (.int 0), (.ref b174), (.ref b174)])) rfl rfl (hb hby at_203)
        refine gob st181 ?_
        have z182 : n0 ≤ h181.size := Nat.le_trans z179 (Keep.of_wr W181).1
        have N181 := Fr.snoc X181 N172 g178
        have V181 : Arv Z h181 b174 k174 .int (16 : Int32) [(.int 1), (.int 0), (.int 0), (.int 0), (.int 0), (.int 0), (.int 0), (.int 0), (.int 0), (.int 0), (.int 0), (.int 0), (.int 0), (.int 0), (.int 0), (.int 0)] (.int 0) := Arv.set Ar180 aq180 S180 N180 H180 G180 rfl W181 0 rfl (Nat.le_of_ble_eq_true rfl)
        show gO (tF T181 m 204 (la9 p0 p1 p2 p3 p4 1 b116 key_ b122) [(.ref b174)])
        refine gob (fun _ k => XS.dup X181.here hx rfl (hb hby at_204) rfl rfl k) ?_
        show gO (tF T181 m 205 (la9 p0 p1 p2 p3 p4 1 b116 key_ b122) [(.ref b174), (.ref b174)])
        refine gob (fun _ k => XS.iconst X181.here hx rfl (hb hby at_205) k) ?_
        show gO (tF T181 m 206 (la9 p0 p1 p2 p3 p4 1 b116 key_ b122) [(.int 1), (.ref b174), (.ref b174)])
        refine gob (fun _ k => XS.iconst X181.here hx rfl (hb hby at_206) k) ?_
        show gO (tF T181 m 207 (la9 p0 p1 p2 p3 p4 1 b116 key_ b122) [(.int 4), (.int 1), (.ref b174), (.ref b174)])
        obtain ⟨cl183, Ar183, aq183, S183, N183, H183, G183⟩ := id V181
        have hin183 : ¬ ((1 : Int32) < 0 ∨ cl183.slots.size ≤ ((1 : Int32)).toNatClampNeg) := inb_of S183 ⟨by decide, by decide⟩
        obtain ⟨T184, h184, X184, e184, W184, st184⟩ := stI X181 hx hZ e181 Ar183 (j := (1 : Int32)) hin183 (g := (mkF m 207 (la9 p0 p1 p2 p3 p4 1 b116 key_ b122) [(.int 4), (.int 1), (.ref b174), (.ref b174)])) rfl rfl (hb hby at_207)
        refine gob st184 ?_
        have z185 : n0 ≤ h184.size := Nat.le_trans z182 (Keep.of_wr W184).1
        have N184 := Fr.snoc X184 N181 g178
        have V184 : Arv Z h184 b174 k174 .int (16 : Int32) [(.int 1), (.int 4), (.int 0), (.int 0), (.int 0), (.int 0), (.int 0), (.int 0), (.int 0), (.int 0), (.int 0), (.int 0), (.int 0), (.int 0), (.int 0), (.int 0)] (.int 0) := Arv.set Ar183 aq183 S183 N183 H183 G183 rfl W184 1 rfl (Nat.le_of_ble_eq_true rfl)
        show gO (tF T184 m 208 (la9 p0 p1 p2 p3 p4 1 b116 key_ b122) [(.ref b174)])
        refine gob (fun _ k => XS.dup X184.here hx rfl (hb hby at_208) rfl rfl k) ?_
        show gO (tF T184 m 209 (la9 p0 p1 p2 p3 p4 1 b116 key_ b122) [(.ref b174), (.ref b174)])
        refine gob (fun _ k => XS.iconst X184.here hx rfl (hb hby at_209) k) ?_
        show gO (tF T184 m 210 (la9 p0 p1 p2 p3 p4 1 b116 key_ b122) [(.int 2), (.ref b174), (.ref b174)])
        refine gob (fun _ k => XS.iconst X184.here hx rfl (hb hby at_210) k) ?_
        show gO (tF T184 m 211 (la9 p0 p1 p2 p3 p4 1 b116 key_ b122) [(.int 3), (.int 2), (.ref b174), (.ref b174)])
        obtain ⟨cl186, Ar186, aq186, S186, N186, H186, G186⟩ := id V184
        have hin186 : ¬ ((2 : Int32) < 0 ∨ cl186.slots.size ≤ ((2 : Int32)).toNatClampNeg) := inb_of S186 ⟨by decide, by decide⟩
        obtain ⟨T187, h187, X187, e187, W187, st187⟩ := stI X184 hx hZ e184 Ar186 (j := (2 : Int32)) hin186 (g := (mkF m 211 (la9 p0 p1 p2 p3 p4 1 b116 key_ b122) [(.int 3), (.int 2), (.ref b174), (.ref b174)])) rfl rfl (hb hby at_211)
        refine gob st187 ?_
        have z188 : n0 ≤ h187.size := Nat.le_trans z185 (Keep.of_wr W187).1
        have N187 := Fr.snoc X187 N184 g178
        have V187 : Arv Z h187 b174 k174 .int (16 : Int32) [(.int 1), (.int 4), (.int 3), (.int 0), (.int 0), (.int 0), (.int 0), (.int 0), (.int 0), (.int 0), (.int 0), (.int 0), (.int 0), (.int 0), (.int 0), (.int 0)] (.int 0) := Arv.set Ar186 aq186 S186 N186 H186 G186 rfl W187 2 rfl (Nat.le_of_ble_eq_true rfl)
        show gO (tF T187 m 212 (la9 p0 p1 p2 p3 p4 1 b116 key_ b122) [(.ref b174)])
        refine gob (fun _ k => XS.dup X187.here hx rfl (hb hby at_212) rfl rfl k) ?_
        show gO (tF T187 m 213 (la9 p0 p1 p2 p3 p4 1 b116 key_ b122) [(.ref b174), (.ref b174)])
        refine gob (fun _ k => XS.iconst X187.here hx rfl (hb hby at_213) k) ?_
        show gO (tF T187 m 214 (la9 p0 p1 p2 p3 p4 1 b116 key_ b122) [(.int 3), (.ref b174), (.ref b174)])
        refine gob (fun _ k => XS.bipush X187.here hx rfl (hb hby at_214) k) ?_
        show gO (tF T187 m 216 (la9 p0 p1 p2 p3 p4 1 b116 key_ b122) [(.int 12), (.int 3), (.ref b174), (.ref b174)])
        obtain ⟨cl189, Ar189, aq189, S189, N189, H189, G189⟩ := id V187
        have hin189 : ¬ ((3 : Int32) < 0 ∨ cl189.slots.size ≤ ((3 : Int32)).toNatClampNeg) := inb_of S189 ⟨by decide, by decide⟩
        obtain ⟨T190, h190, X190, e190, W190, st190⟩ := stI X187 hx hZ e187 Ar189 (j := (3 : Int32)) hin189 (g := (mkF m 216 (la9 p0 p1 p2 p3 p4 1 b116 key_ b122) [(.int 12), (.int 3), (.ref b174), (.ref b174)])) rfl rfl (hb hby at_216)
        refine gob st190 ?_
        have z191 : n0 ≤ h190.size := Nat.le_trans z188 (Keep.of_wr W190).1
        have N190 := Fr.snoc X190 N187 g178
        have V190 : Arv Z h190 b174 k174 .int (16 : Int32) [(.int 1), (.int 4), (.int 3), (.int 12), (.int 0), (.int 0), (.int 0), (.int 0), (.int 0), (.int 0), (.int 0), (.int 0), (.int 0), (.int 0), (.int 0), (.int 0)] (.int 0) := Arv.set Ar189 aq189 S189 N189 H189 G189 rfl W190 3 rfl (Nat.le_of_ble_eq_true rfl)
        show gO (tF T190 m 217 (la9 p0 p1 p2 p3 p4 1 b116 key_ b122) [(.ref b174)])
        refine gob (fun _ k => XS.dup X190.here hx rfl (hb hby at_217) rfl rfl k) ?_
        show gO (tF T190 m 218 (la9 p0 p1 p2 p3 p4 1 b116 key_ b122) [(.ref b174), (.ref b174)])
        refine gob (fun _ k => XS.iconst X190.here hx rfl (hb hby at_218) k) ?_
        show gO (tF T190 m 219 (la9 p0 p1 p2 p3 p4 1 b116 key_ b122) [(.int 4), (.ref b174), (.ref b174)])
        refine gob (fun _ k => XS.iconst X190.here hx rfl (hb hby at_219) k) ?_
        show gO (tF T190 m 220 (la9 p0 p1 p2 p3 p4 1 b116 key_ b122) [(.int 2), (.int 4), (.ref b174), (.ref b174)])
        obtain ⟨cl192, Ar192, aq192, S192, N192, H192, G192⟩ := id V190
        have hin192 : ¬ ((4 : Int32) < 0 ∨ cl192.slots.size ≤ ((4 : Int32)).toNatClampNeg) := inb_of S192 ⟨by decide, by decide⟩
        obtain ⟨T193, h193, X193, e193, W193, st193⟩ := stI X190 hx hZ e190 Ar192 (j := (4 : Int32)) hin192 (g := (mkF m 220 (la9 p0 p1 p2 p3 p4 1 b116 key_ b122) [(.int 2), (.int 4), (.ref b174), (.ref b174)])) rfl rfl (hb hby at_220)
        refine gob st193 ?_
        have z194 : n0 ≤ h193.size := Nat.le_trans z191 (Keep.of_wr W193).1
        have N193 := Fr.snoc X193 N190 g178
        have V193 : Arv Z h193 b174 k174 .int (16 : Int32) [(.int 1), (.int 4), (.int 3), (.int 12), (.int 2), (.int 0), (.int 0), (.int 0), (.int 0), (.int 0), (.int 0), (.int 0), (.int 0), (.int 0), (.int 0), (.int 0)] (.int 0) := Arv.set Ar192 aq192 S192 N192 H192 G192 rfl W193 4 rfl (Nat.le_of_ble_eq_true rfl)
        show gO (tF T193 m 221 (la9 p0 p1 p2 p3 p4 1 b116 key_ b122) [(.ref b174)])
        refine gob (fun _ k => XS.dup X193.here hx rfl (hb hby at_221) rfl rfl k) ?_
        show gO (tF T193 m 222 (la9 p0 p1 p2 p3 p4 1 b116 key_ b122) [(.ref b174), (.ref b174)])
        refine gob (fun _ k => XS.iconst X193.here hx rfl (hb hby at_222) k) ?_
        show gO (tF T193 m 223 (la9 p0 p1 p2 p3 p4 1 b116 key_ b122) [(.int 5), (.ref b174), (.ref b174)])
        refine gob (fun _ k => XS.iconst X193.here hx rfl (hb hby at_223) k) ?_
        show gO (tF T193 m 224 (la9 p0 p1 p2 p3 p4 1 b116 key_ b122) [(.int 2), (.int 5), (.ref b174), (.ref b174)])
        obtain ⟨cl195, Ar195, aq195, S195, N195, H195, G195⟩ := id V193
        have hin195 : ¬ ((5 : Int32) < 0 ∨ cl195.slots.size ≤ ((5 : Int32)).toNatClampNeg) := inb_of S195 ⟨by decide, by decide⟩
        obtain ⟨T196, h196, X196, e196, W196, st196⟩ := stI X193 hx hZ e193 Ar195 (j := (5 : Int32)) hin195 (g := (mkF m 224 (la9 p0 p1 p2 p3 p4 1 b116 key_ b122) [(.int 2), (.int 5), (.ref b174), (.ref b174)])) rfl rfl (hb hby at_224)
        refine gob st196 ?_
        have z197 : n0 ≤ h196.size := Nat.le_trans z194 (Keep.of_wr W196).1
        have N196 := Fr.snoc X196 N193 g178
        have V196 : Arv Z h196 b174 k174 .int (16 : Int32) [(.int 1), (.int 4), (.int 3), (.int 12), (.int 2), (.int 2), (.int 0), (.int 0), (.int 0), (.int 0), (.int 0), (.int 0), (.int 0), (.int 0), (.int 0), (.int 0)] (.int 0) := Arv.set Ar195 aq195 S195 N195 H195 G195 rfl W196 5 rfl (Nat.le_of_ble_eq_true rfl)
        show gO (tF T196 m 225 (la9 p0 p1 p2 p3 p4 1 b116 key_ b122) [(.ref b174)])
        refine gob (fun _ k => XS.dup X196.here hx rfl (hb hby at_225) rfl rfl k) ?_
        show gO (tF T196 m 226 (la9 p0 p1 p2 p3 p4 1 b116 key_ b122) [(.ref b174), (.ref b174)])
        refine gob (fun _ k => XS.bipush X196.here hx rfl (hb hby at_226) k) ?_
        show gO (tF T196 m 228 (la9 p0 p1 p2 p3 p4 1 b116 key_ b122) [(.int 6), (.ref b174), (.ref b174)])
        refine gob (fun _ k => XS.bipush X196.here hx rfl (hb hby at_228) k) ?_
        show gO (tF T196 m 230 (la9 p0 p1 p2 p3 p4 1 b116 key_ b122) [(.int 12), (.int 6), (.ref b174), (.ref b174)])
        obtain ⟨cl198, Ar198, aq198, S198, N198, H198, G198⟩ := id V196
        have hin198 : ¬ ((6 : Int32) < 0 ∨ cl198.slots.size ≤ ((6 : Int32)).toNatClampNeg) := inb_of S198 ⟨by decide, by decide⟩
        obtain ⟨T199, h199, X199, e199, W199, st199⟩ := stI X196 hx hZ e196 Ar198 (j := (6 : Int32)) hin198 (g := (mkF m 230 (la9 p0 p1 p2 p3 p4 1 b116 key_ b122) [(.int 12), (.int 6), (.ref b174), (.ref b174)])) rfl rfl (hb hby at_230)
        refine gob st199 ?_
        have z200 : n0 ≤ h199.size := Nat.le_trans z197 (Keep.of_wr W199).1
        have N199 := Fr.snoc X199 N196 g178
        have V199 : Arv Z h199 b174 k174 .int (16 : Int32) [(.int 1), (.int 4), (.int 3), (.int 12), (.int 2), (.int 2), (.int 12), (.int 0), (.int 0), (.int 0), (.int 0), (.int 0), (.int 0), (.int 0), (.int 0), (.int 0)] (.int 0) := Arv.set Ar198 aq198 S198 N198 H198 G198 rfl W199 6 rfl (Nat.le_of_ble_eq_true rfl)
        show gO (tF T199 m 231 (la9 p0 p1 p2 p3 p4 1 b116 key_ b122) [(.ref b174)])
        refine gob (fun _ k => XS.dup X199.here hx rfl (hb hby at_231) rfl rfl k) ?_
        show gO (tF T199 m 232 (la9 p0 p1 p2 p3 p4 1 b116 key_ b122) [(.ref b174), (.ref b174)])
        refine gob (fun _ k => XS.bipush X199.here hx rfl (hb hby at_232) k) ?_
        show gO (tF T199 m 234 (la9 p0 p1 p2 p3 p4 1 b116 key_ b122) [(.int 7), (.ref b174), (.ref b174)])
        refine gob (fun _ k => XS.bipush X199.here hx rfl (hb hby at_234) k) ?_
        show gO (tF T199 m 236 (la9 p0 p1 p2 p3 p4 1 b116 key_ b122) [(.int 36), (.int 7), (.ref b174), (.ref b174)])
        obtain ⟨cl201, Ar201, aq201, S201, N201, H201, G201⟩ := id V199
        have hin201 : ¬ ((7 : Int32) < 0 ∨ cl201.slots.size ≤ ((7 : Int32)).toNatClampNeg) := inb_of S201 ⟨by decide, by decide⟩
        obtain ⟨T202, h202, X202, e202, W202, st202⟩ := stI X199 hx hZ e199 Ar201 (j := (7 : Int32)) hin201 (g := (mkF m 236 (la9 p0 p1 p2 p3 p4 1 b116 key_ b122) [(.int 36), (.int 7), (.ref b174), (.ref b174)])) rfl rfl (hb hby at_236)
        refine gob st202 ?_
        have z203 : n0 ≤ h202.size := Nat.le_trans z200 (Keep.of_wr W202).1
        have N202 := Fr.snoc X202 N199 g178
        have V202 : Arv Z h202 b174 k174 .int (16 : Int32) [(.int 1), (.int 4), (.int 3), (.int 12), (.int 2), (.int 2), (.int 12), (.int 36), (.int 0), (.int 0), (.int 0), (.int 0), (.int 0), (.int 0), (.int 0), (.int 0)] (.int 0) := Arv.set Ar201 aq201 S201 N201 H201 G201 rfl W202 7 rfl (Nat.le_of_ble_eq_true rfl)
        show gO (tF T202 m 237 (la9 p0 p1 p2 p3 p4 1 b116 key_ b122) [(.ref b174)])
        refine gob (fun _ k => XS.dup X202.here hx rfl (hb hby at_237) rfl rfl k) ?_
        show gO (tF T202 m 238 (la9 p0 p1 p2 p3 p4 1 b116 key_ b122) [(.ref b174), (.ref b174)])
        refine gob (fun _ k => XS.bipush X202.here hx rfl (hb hby at_238) k) ?_
        show gO (tF T202 m 240 (la9 p0 p1 p2 p3 p4 1 b116 key_ b122) [(.int 8), (.ref b174), (.ref b174)])
        refine gob (fun _ k => XS.iconst X202.here hx rfl (hb hby at_240) k) ?_
        show gO (tF T202 m 241 (la9 p0 p1 p2 p3 p4 1 b116 key_ b122) [(.int 1), (.int 8), (.ref b174), (.ref b174)])
        obtain ⟨cl204, Ar204, aq204, S204, N204, H204, G204⟩ := id V202
        have hin204 : ¬ ((8 : Int32) < 0 ∨ cl204.slots.size ≤ ((8 : Int32)).toNatClampNeg) := inb_of S204 ⟨by decide, by decide⟩
        obtain ⟨T205, h205, X205, e205, W205, st205⟩ := stI X202 hx hZ e202 Ar204 (j := (8 : Int32)) hin204 (g := (mkF m 241 (la9 p0 p1 p2 p3 p4 1 b116 key_ b122) [(.int 1), (.int 8), (.ref b174), (.ref b174)])) rfl rfl (hb hby at_241)
        refine gob st205 ?_
        have z206 : n0 ≤ h205.size := Nat.le_trans z203 (Keep.of_wr W205).1
        have N205 := Fr.snoc X205 N202 g178
        have V205 : Arv Z h205 b174 k174 .int (16 : Int32) [(.int 1), (.int 4), (.int 3), (.int 12), (.int 2), (.int 2), (.int 12), (.int 36), (.int 1), (.int 0), (.int 0), (.int 0), (.int 0), (.int 0), (.int 0), (.int 0)] (.int 0) := Arv.set Ar204 aq204 S204 N204 H204 G204 rfl W205 8 rfl (Nat.le_of_ble_eq_true rfl)
        show gO (tF T205 m 242 (la9 p0 p1 p2 p3 p4 1 b116 key_ b122) [(.ref b174)])
        refine gob (fun _ k => XS.dup X205.here hx rfl (hb hby at_242) rfl rfl k) ?_
        show gO (tF T205 m 243 (la9 p0 p1 p2 p3 p4 1 b116 key_ b122) [(.ref b174), (.ref b174)])
        refine gob (fun _ k => XS.bipush X205.here hx rfl (hb hby at_243) k) ?_
        show gO (tF T205 m 245 (la9 p0 p1 p2 p3 p4 1 b116 key_ b122) [(.int 9), (.ref b174), (.ref b174)])
        refine gob (fun _ k => XS.iconst X205.here hx rfl (hb hby at_245) k) ?_
        show gO (tF T205 m 246 (la9 p0 p1 p2 p3 p4 1 b116 key_ b122) [(.int 4), (.int 9), (.ref b174), (.ref b174)])
        obtain ⟨cl207, Ar207, aq207, S207, N207, H207, G207⟩ := id V205
        have hin207 : ¬ ((9 : Int32) < 0 ∨ cl207.slots.size ≤ ((9 : Int32)).toNatClampNeg) := inb_of S207 ⟨by decide, by decide⟩
        obtain ⟨T208, h208, X208, e208, W208, st208⟩ := stI X205 hx hZ e205 Ar207 (j := (9 : Int32)) hin207 (g := (mkF m 246 (la9 p0 p1 p2 p3 p4 1 b116 key_ b122) [(.int 4), (.int 9), (.ref b174), (.ref b174)])) rfl rfl (hb hby at_246)
        refine gob st208 ?_
        have z209 : n0 ≤ h208.size := Nat.le_trans z206 (Keep.of_wr W208).1
        have N208 := Fr.snoc X208 N205 g178
        have V208 : Arv Z h208 b174 k174 .int (16 : Int32) [(.int 1), (.int 4), (.int 3), (.int 12), (.int 2), (.int 2), (.int 12), (.int 36), (.int 1), (.int 4), (.int 0), (.int 0), (.int 0), (.int 0), (.int 0), (.int 0)] (.int 0) := Arv.set Ar207 aq207 S207 N207 H207 G207 rfl W208 9 rfl (Nat.le_of_ble_eq_true rfl)
        show gO (tF T208 m 247 (la9 p0 p1 p2 p3 p4 1 b116 key_ b122) [(.ref b174)])
        refine gob (fun _ k => XS.dup X208.here hx rfl (hb hby at_247) rfl rfl k) ?_
        show gO (tF T208 m 248 (la9 p0 p1 p2 p3 p4 1 b116 key_ b122) [(.ref b174), (.ref b174)])
        refine gob (fun _ k => XS.bipush X208.here hx rfl (hb hby at_248) k) ?_
        show gO (tF T208 m 250 (la9 p0 p1 p2 p3 p4 1 b116 key_ b122) [(.int 10), (.ref b174), (.ref b174)])
        refine gob (fun _ k => XS.bipush X208.here hx rfl (hb hby at_250) k) ?_
        show gO (tF T208 m 252 (la9 p0 p1 p2 p3 p4 1 b116 key_ b122) [(.int 6), (.int 10), (.ref b174), (.ref b174)])
        obtain ⟨cl210, Ar210, aq210, S210, N210, H210, G210⟩ := id V208
        have hin210 : ¬ ((10 : Int32) < 0 ∨ cl210.slots.size ≤ ((10 : Int32)).toNatClampNeg) := inb_of S210 ⟨by decide, by decide⟩
        obtain ⟨T211, h211, X211, e211, W211, st211⟩ := stI X208 hx hZ e208 Ar210 (j := (10 : Int32)) hin210 (g := (mkF m 252 (la9 p0 p1 p2 p3 p4 1 b116 key_ b122) [(.int 6), (.int 10), (.ref b174), (.ref b174)])) rfl rfl (hb hby at_252)
        refine gob st211 ?_
        have z212 : n0 ≤ h211.size := Nat.le_trans z209 (Keep.of_wr W211).1
        have N211 := Fr.snoc X211 N208 g178
        have V211 : Arv Z h211 b174 k174 .int (16 : Int32) [(.int 1), (.int 4), (.int 3), (.int 12), (.int 2), (.int 2), (.int 12), (.int 36), (.int 1), (.int 4), (.int 6), (.int 0), (.int 0), (.int 0), (.int 0), (.int 0)] (.int 0) := Arv.set Ar210 aq210 S210 N210 H210 G210 rfl W211 10 rfl (Nat.le_of_ble_eq_true rfl)
        show gO (tF T211 m 253 (la9 p0 p1 p2 p3 p4 1 b116 key_ b122) [(.ref b174)])
        refine gob (fun _ k => XS.dup X211.here hx rfl (hb hby at_253) rfl rfl k) ?_
        show gO (tF T211 m 254 (la9 p0 p1 p2 p3 p4 1 b116 key_ b122) [(.ref b174), (.ref b174)])
        refine gob (fun _ k => XS.bipush X211.here hx rfl (hb hby at_254) k) ?_
        show gO (tF T211 m 256 (la9 p0 p1 p2 p3 p4 1 b116 key_ b122) [(.int 11), (.ref b174), (.ref b174)])
        refine gob (fun _ k => XS.bipush X211.here hx rfl (hb hby at_256) k) ?_
        show gO (tF T211 m 258 (la9 p0 p1 p2 p3 p4 1 b116 key_ b122) [(.int 36), (.int 11), (.ref b174), (.ref b174)])
        obtain ⟨cl213, Ar213, aq213, S213, N213, H213, G213⟩ := id V211
        have hin213 : ¬ ((11 : Int32) < 0 ∨ cl213.slots.size ≤ ((11 : Int32)).toNatClampNeg) := inb_of S213 ⟨by decide, by decide⟩
        obtain ⟨T214, h214, X214, e214, W214, st214⟩ := stI X211 hx hZ e211 Ar213 (j := (11 : Int32)) hin213 (g := (mkF m 258 (la9 p0 p1 p2 p3 p4 1 b116 key_ b122) [(.int 36), (.int 11), (.ref b174), (.ref b174)])) rfl rfl (hb hby at_258)
        refine gob st214 ?_
        have z215 : n0 ≤ h214.size := Nat.le_trans z212 (Keep.of_wr W214).1
        have N214 := Fr.snoc X214 N211 g178
        have V214 : Arv Z h214 b174 k174 .int (16 : Int32) [(.int 1), (.int 4), (.int 3), (.int 12), (.int 2), (.int 2), (.int 12), (.int 36), (.int 1), (.int 4), (.int 6), (.int 36), (.int 0), (.int 0), (.int 0), (.int 0)] (.int 0) := Arv.set Ar213 aq213 S213 N213 H213 G213 rfl W214 11 rfl (Nat.le_of_ble_eq_true rfl)
        show gO (tF T214 m 259 (la9 p0 p1 p2 p3 p4 1 b116 key_ b122) [(.ref b174)])
        refine gob (fun _ k => XS.dup X214.here hx rfl (hb hby at_259) rfl rfl k) ?_
        show gO (tF T214 m 260 (la9 p0 p1 p2 p3 p4 1 b116 key_ b122) [(.ref b174), (.ref b174)])
        refine gob (fun _ k => XS.bipush X214.here hx rfl (hb hby at_260) k) ?_
        show gO (tF T214 m 262 (la9 p0 p1 p2 p3 p4 1 b116 key_ b122) [(.int 12), (.ref b174), (.ref b174)])
        refine gob (fun _ k => XS.iconst X214.here hx rfl (hb hby at_262) k) ?_
        show gO (tF T214 m 263 (la9 p0 p1 p2 p3 p4 1 b116 key_ b122) [(.int 1), (.int 12), (.ref b174), (.ref b174)])
        obtain ⟨cl216, Ar216, aq216, S216, N216, H216, G216⟩ := id V214
        have hin216 : ¬ ((12 : Int32) < 0 ∨ cl216.slots.size ≤ ((12 : Int32)).toNatClampNeg) := inb_of S216 ⟨by decide, by decide⟩
        obtain ⟨T217, h217, X217, e217, W217, st217⟩ := stI X214 hx hZ e214 Ar216 (j := (12 : Int32)) hin216 (g := (mkF m 263 (la9 p0 p1 p2 p3 p4 1 b116 key_ b122) [(.int 1), (.int 12), (.ref b174), (.ref b174)])) rfl rfl (hb hby at_263)
        refine gob st217 ?_
        have z218 : n0 ≤ h217.size := Nat.le_trans z215 (Keep.of_wr W217).1
        have N217 := Fr.snoc X217 N214 g178
        have V217 : Arv Z h217 b174 k174 .int (16 : Int32) [(.int 1), (.int 4), (.int 3), (.int 12), (.int 2), (.int 2), (.int 12), (.int 36), (.int 1), (.int 4), (.int 6), (.int 36), (.int 1), (.int 0), (.int 0), (.int 0)] (.int 0) := Arv.set Ar216 aq216 S216 N216 H216 G216 rfl W217 12 rfl (Nat.le_of_ble_eq_true rfl)
        show gO (tF T217 m 264 (la9 p0 p1 p2 p3 p4 1 b116 key_ b122) [(.ref b174)])
        refine gob (fun _ k => XS.dup X217.here hx rfl (hb hby at_264) rfl rfl k) ?_
        show gO (tF T217 m 265 (la9 p0 p1 p2 p3 p4 1 b116 key_ b122) [(.ref b174), (.ref b174)])
        refine gob (fun _ k => XS.bipush X217.here hx rfl (hb hby at_265) k) ?_
        show gO (tF T217 m 267 (la9 p0 p1 p2 p3 p4 1 b116 key_ b122) [(.int 13), (.ref b174), (.ref b174)])
        refine gob (fun _ k => XS.bipush X217.here hx rfl (hb hby at_267) k) ?_
        show gO (tF T217 m 269 (la9 p0 p1 p2 p3 p4 1 b116 key_ b122) [(.int 12), (.int 13), (.ref b174), (.ref b174)])
        obtain ⟨cl219, Ar219, aq219, S219, N219, H219, G219⟩ := id V217
        have hin219 : ¬ ((13 : Int32) < 0 ∨ cl219.slots.size ≤ ((13 : Int32)).toNatClampNeg) := inb_of S219 ⟨by decide, by decide⟩
        obtain ⟨T220, h220, X220, e220, W220, st220⟩ := stI X217 hx hZ e217 Ar219 (j := (13 : Int32)) hin219 (g := (mkF m 269 (la9 p0 p1 p2 p3 p4 1 b116 key_ b122) [(.int 12), (.int 13), (.ref b174), (.ref b174)])) rfl rfl (hb hby at_269)
        refine gob st220 ?_
        have z221 : n0 ≤ h220.size := Nat.le_trans z218 (Keep.of_wr W220).1
        have N220 := Fr.snoc X220 N217 g178
        have V220 : Arv Z h220 b174 k174 .int (16 : Int32) [(.int 1), (.int 4), (.int 3), (.int 12), (.int 2), (.int 2), (.int 12), (.int 36), (.int 1), (.int 4), (.int 6), (.int 36), (.int 1), (.int 12), (.int 0), (.int 0)] (.int 0) := Arv.set Ar219 aq219 S219 N219 H219 G219 rfl W220 13 rfl (Nat.le_of_ble_eq_true rfl)
        show gO (tF T220 m 270 (la9 p0 p1 p2 p3 p4 1 b116 key_ b122) [(.ref b174)])
        refine gob (fun _ k => XS.dup X220.here hx rfl (hb hby at_270) rfl rfl k) ?_
        show gO (tF T220 m 271 (la9 p0 p1 p2 p3 p4 1 b116 key_ b122) [(.ref b174), (.ref b174)])
        refine gob (fun _ k => XS.bipush X220.here hx rfl (hb hby at_271) k) ?_
        show gO (tF T220 m 273 (la9 p0 p1 p2 p3 p4 1 b116 key_ b122) [(.int 14), (.ref b174), (.ref b174)])
        refine gob (fun _ k => XS.iconst X220.here hx rfl (hb hby at_273) k) ?_
        show gO (tF T220 m 274 (la9 p0 p1 p2 p3 p4 1 b116 key_ b122) [(.int 1), (.int 14), (.ref b174), (.ref b174)])
        obtain ⟨cl222, Ar222, aq222, S222, N222, H222, G222⟩ := id V220
        have hin222 : ¬ ((14 : Int32) < 0 ∨ cl222.slots.size ≤ ((14 : Int32)).toNatClampNeg) := inb_of S222 ⟨by decide, by decide⟩
        obtain ⟨T223, h223, X223, e223, W223, st223⟩ := stI X220 hx hZ e220 Ar222 (j := (14 : Int32)) hin222 (g := (mkF m 274 (la9 p0 p1 p2 p3 p4 1 b116 key_ b122) [(.int 1), (.int 14), (.ref b174), (.ref b174)])) rfl rfl (hb hby at_274)
        refine gob st223 ?_
        have z224 : n0 ≤ h223.size := Nat.le_trans z221 (Keep.of_wr W223).1
        have N223 := Fr.snoc X223 N220 g178
        have V223 : Arv Z h223 b174 k174 .int (16 : Int32) [(.int 1), (.int 4), (.int 3), (.int 12), (.int 2), (.int 2), (.int 12), (.int 36), (.int 1), (.int 4), (.int 6), (.int 36), (.int 1), (.int 12), (.int 1), (.int 0)] (.int 0) := Arv.set Ar222 aq222 S222 N222 H222 G222 rfl W223 14 rfl (Nat.le_of_ble_eq_true rfl)
        show gO (tF T223 m 275 (la9 p0 p1 p2 p3 p4 1 b116 key_ b122) [(.ref b174)])
        refine gob (fun _ k => XS.dup X223.here hx rfl (hb hby at_275) rfl rfl k) ?_
        show gO (tF T223 m 276 (la9 p0 p1 p2 p3 p4 1 b116 key_ b122) [(.ref b174), (.ref b174)])
        refine gob (fun _ k => XS.bipush X223.here hx rfl (hb hby at_276) k) ?_
        show gO (tF T223 m 278 (la9 p0 p1 p2 p3 p4 1 b116 key_ b122) [(.int 15), (.ref b174), (.ref b174)])
        refine gob (fun _ k => XS.iconst X223.here hx rfl (hb hby at_278) k) ?_
        show gO (tF T223 m 279 (la9 p0 p1 p2 p3 p4 1 b116 key_ b122) [(.int 1), (.int 15), (.ref b174), (.ref b174)])
        obtain ⟨cl225, Ar225, aq225, S225, N225, H225, G225⟩ := id V223
        have hin225 : ¬ ((15 : Int32) < 0 ∨ cl225.slots.size ≤ ((15 : Int32)).toNatClampNeg) := inb_of S225 ⟨by decide, by decide⟩
        obtain ⟨T226, h226, X226, e226, W226, st226⟩ := stI X223 hx hZ e223 Ar225 (j := (15 : Int32)) hin225 (g := (mkF m 279 (la9 p0 p1 p2 p3 p4 1 b116 key_ b122) [(.int 1), (.int 15), (.ref b174), (.ref b174)])) rfl rfl (hb hby at_279)
        refine gob st226 ?_
        have z227 : n0 ≤ h226.size := Nat.le_trans z224 (Keep.of_wr W226).1
        have N226 := Fr.snoc X226 N223 g178
        have V226 : Arv Z h226 b174 k174 .int (16 : Int32) [(.int 1), (.int 4), (.int 3), (.int 12), (.int 2), (.int 2), (.int 12), (.int 36), (.int 1), (.int 4), (.int 6), (.int 36), (.int 1), (.int 12), (.int 1), (.int 1)] (.int 0) := Arv.set Ar225 aq225 S225 N225 H225 G225 rfl W226 15 rfl (Nat.le_of_ble_eq_true rfl)
        show gO (tF T226 m 280 (la9 p0 p1 p2 p3 p4 1 b116 key_ b122) [(.ref b174)])
        refine gob (fun _ k => XS.astore X226.here hx rfl (hb hby at_280) rfl rfl (l' := (la8 p0 p1 p2 p3 p4 1 b116 key_ b122 b174)) rfl k) ?_
        show gO (tF T226 m 282 (la8 p0 p1 p2 p3 p4 1 b116 key_ b122 b174) [])
        have c228 := (((((((((((((((((c175.ext E174).other W181 n176).other W184 n176).other W187 n176).other W190 n176).other W193 n176).other W196 n176).other W199 n176).other W202 n176).other W205 n176).other W208 n176).other W211 n176).other W214 n176).other W217 n176).other W220 n176).other W223 n176).other W226 n176)
        have c229 := (((((((((((((((((V172.ext E174).other W181 n177).other W184 n177).other W187 n177).other W190 n177).other W193 n177).other W196 n177).other W199 n177).other W202 n177).other W205 n177).other W208 n177).other W211 n177).other W214 n177).other W217 n177).other W220 n177).other W223 n177).other W226 n177)
        exact kont _ _ _ _ _ _ _ X226 e226 N226 z227 c228 c229 V226
      refine gob (fun _ k => XS.iload X120.here hx rfl (hb hby at_61) rfl k) ?_
      show gO (tF T120 m 63 (la7 p0 p1 p2 p3 p4 1 b116 0) [(.int 1)])
      refine gob (fun _ k => XS.ifNo X120.here hx rfl (hb hby at_63) rfl ((if0 _ _).trans (tlt (by decide : (0 : Int32) < (1 : Int32))).2.2.2) k) ?_
      show gO (tF T120 m 66 (la7 p0 p1 p2 p3 p4 1 b116 0) [])
      refine gob (fun _ k => XS.iloadN X120.here hx rfl (hb hby at_66) rfl k) ?_
      show gO (tF T120 m 67 (la7 p0 p1 p2 p3 p4 1 b116 0) [(.int p0)])
      by_cases hc67_230 : (0 : Int32) < p0
      · skip
        refine gob (fun _ k => XS.ifNo X120.here hx rfl (hb hby at_67) rfl ((if0 _ _).trans (tlt hc67_230).2.2.2) k) ?_
        show gO (tF T120 m 70 (la7 p0 p1 p2 p3 p4 1 b116 0) [])
        refine gob (fun _ k => XS.iinc X120.here hx rfl (hb hby at_70) rfl (l' := (la7 p0 p1 p2 p3 p4 1 b116 8)) rfl k) ?_
        show gO (tF T120 m 73 (la7 p0 p1 p2 p3 p4 1 b116 8) [])
        refine gob (fun _ k => XS.iload X120.here hx rfl (hb hby at_73) rfl k) ?_
        show gO (tF T120 m 75 (la7 p0 p1 p2 p3 p4 1 b116 8) [(.int 1)])
        refine gob (fun _ k => XS.iconst X120.here hx rfl (hb hby at_75) k) ?_
        show gO (tF T120 m 76 (la7 p0 p1 p2 p3 p4 1 b116 8) [(.int 1), (.int 1)])
        refine gob (fun _ k => XS.icmpYes X120.here hx rfl (pc0 := 76) (pc' := 86) rfl (hb hby at_76) rfl (flt (by decide : ¬ ((1 : Int32) < (1 : Int32)))).2.2.2 (by decide) (by decide) k) ?_
        show gO (tF T120 m 86 (la7 p0 p1 p2 p3 p4 1 b116 8) [])
        refine gob (fun _ k => XS.iload X120.here hx rfl (hb hby at_86) rfl k) ?_
        show gO (tF T120 m 88 (la7 p0 p1 p2 p3 p4 1 b116 8) [(.int 1)])
        refine gob (fun _ k => XS.iconst X120.here hx rfl (hb hby at_88) k) ?_
        show gO (tF T120 m 89 (la7 p0 p1 p2 p3 p4 1 b116 8) [(.int 2), (.int 1)])
        refine gob (fun _ k => XS.icmpYes X120.here hx rfl (pc0 := 89) (pc' := 99) rfl (hb hby at_89) rfl (flt (by decide : ¬ ((2 : Int32) < (1 : Int32)))).2.2.2 (by decide) (by decide) k) ?_
        show gO (tF T120 m 99 (la7 p0 p1 p2 p3 p4 1 b116 8) [])
        refine gob (fun _ k => XS.iload X120.here hx rfl (hb hby at_99) rfl k) ?_
        show gO (tF T120 m 101 (la7 p0 p1 p2 p3 p4 1 b116 8) [(.int 1)])
        refine gob (fun _ k => XS.iconst X120.here hx rfl (hb hby at_101) k) ?_
        show gO (tF T120 m 102 (la7 p0 p1 p2 p3 p4 1 b116 8) [(.int 3), (.int 1)])
        refine gob (fun _ k => XS.icmpYes X120.here hx rfl (pc0 := 102) (pc' := 112) rfl (hb hby at_102) rfl (flt (by decide : ¬ ((3 : Int32) < (1 : Int32)))).2.2.2 (by decide) (by decide) k) ?_
        show gO (tF T120 m 112 (la7 p0 p1 p2 p3 p4 1 b116 8) [])
        refine seg (8 : Int32) ?_
        intro T231 lc231 h231 b231_1 b231_2 k231_1 k231_2 X231 e231 N231 z231 V231 V231_1 V231_2
        show gO (tF T231 m 282 (la8 p0 p1 p2 p3 p4 1 b116 8 b231_1 b231_2) [])
        refine gob (fun _ k => XS.aload X231.here hx rfl (hb hby at_282) rfl rfl k) ?_
        show gO (tF T231 m 284 (la8 p0 p1 p2 p3 p4 1 b116 8 b231_1 b231_2) [(.ref b116)])
        obtain ⟨_, _, ⟨T232, L232, k232, n232⟩, -, X232, ⟨Lc232, hQ232, l232, y232, z232⟩, st232⟩ := Jvm.LawKit.callS X231 hx (y := (⟨"com/example/coevolution/coevolution/measure/Measures", "averagePrecision", "([I)D"⟩ : MethodName)) hown (mvT hZ (hW hw 2 rfl)) (mvT hZ (hW hw 3 rfl)) (mvT hZ (hW hw 4 rfl)) (mvT hZ (hW hw 5 rfl)) (by decide) (backOf (W := 0) (rmap1 l Z a0 hw [] b116 k116 p0 h231 n0 z231 V231) hZ (hW hw 5 rfl) (hW hw 4 rfl) (by decide) (by decide)) (g := (mkF m 284 (la8 p0 p1 p2 p3 p4 1 b116 8 b231_1 b231_2) [(.ref b116)])) rfl (by rw [hml]; rfl) (argsL := [(.ref b116)]) (rest := []) (lenOf pd_0 rfl) rfl (by show 2 * 0 + _ ≤ _; exact Nat.le_of_eq rfl) (hb hby at_284) (fun _ _ => ⟨rfl, e231, (by decide : 3 + 0 ≤ _), (by decide : 33 + 0 ≤ _)⟩)
        dsimp only [Pt.U, Pt.locs, Pt.cells, Pt.slots] at X232 l232 y232 z232 st232 hQ232
        replace X232 := castX X232 (y232.trans (rfl : _ = 3)) (z232.trans (rfl : _ = 33))
        obtain ⟨r232, rfl, hr232, Nq232, e232⟩ := hQ232
        have N232 : Fr n0 L232 := l232 ▸ Fr.app N231 Nq232
        refine gob st232 ?_
        show gO (tF T232 m 287 (la8 p0 p1 p2 p3 p4 1 b116 8 b231_1 b231_2) [(.double r232)])
        have hlr232 : r232 = (4607182418800017408 : UInt64) := by simpa [hc67_230] using hr232
        subst hlr232
        show gO (tF T232 m 287 (la8 p0 p1 p2 p3 p4 1 b116 8 b231_1 b231_2) [(.double (4607182418800017408 : UInt64))])
        refine gob (fun _ k => XS.dstore X232.here hx rfl (hb hby at_287) rfl (l' := (la10 p0 p1 p2 p3 p4 1 b116 8 b231_1 b231_2 (4607182418800017408 : UInt64))) rfl k) ?_
        show gO (tF T232 m 289 (la10 p0 p1 p2 p3 p4 1 b116 8 b231_1 b231_2 (4607182418800017408 : UInt64)) [])
        refine gob (fun _ k => XS.iload X232.here hx rfl (hb hby at_289) rfl k) ?_
        show gO (tF T232 m 291 (la10 p0 p1 p2 p3 p4 1 b116 8 b231_1 b231_2 (4607182418800017408 : UInt64)) [(.int 8)])
        refine gob (fun _ k => XS.ifYes X232.here hx rfl (pc0 := 291) (pc' := 307) rfl (hb hby at_291) rfl ((if0 _ _).trans (feq (by decide : ¬ ((8 : Int32) = (0 : Int32)))).2) (by decide) (by decide) k) ?_
        show gO (tF T232 m 307 (la10 p0 p1 p2 p3 p4 1 b116 8 b231_1 b231_2 (4607182418800017408 : UInt64)) [])
        refine gob (fun _ k => XS.dload X232.here hx rfl (hb hby at_307) rfl k) ?_
        show gO (tF T232 m 309 (la10 p0 p1 p2 p3 p4 1 b116 8 b231_1 b231_2 (4607182418800017408 : UInt64)) [(.double (4607182418800017408 : UInt64))])
        refine gob (fun _ k => XS.aload X232.here hx rfl (hb hby at_309) rfl rfl k) ?_
        show gO (tF T232 m 311 (la10 p0 p1 p2 p3 p4 1 b116 8 b231_1 b231_2 (4607182418800017408 : UInt64)) [(.ref b231_2), (.double (4607182418800017408 : UInt64))])
        refine gob (fun _ k => XS.iload X232.here hx rfl (hb hby at_311) rfl k) ?_
        show gO (tF T232 m 313 (la10 p0 p1 p2 p3 p4 1 b116 8 b231_1 b231_2 (4607182418800017408 : UInt64)) [(.int 8), (.ref b231_2), (.double (4607182418800017408 : UInt64))])
        obtain ⟨cl233, Ar233, aq233, S233, N233, H233, G233⟩ := id V231_2
        have hin233 : ¬ ((8 : Int32) < 0 ∨ cl233.slots.size ≤ ((8 : Int32)).toNatClampNeg) := inb_of S233 ⟨by decide, by decide⟩
        refine gob (X232.iaload hx (j := (8 : Int32)) (v := (.int 1)) (by rw [e232]; exact Ar233.1) (State.isArrayOf_alike hZ.alike Ar233.2.1) Ar233.2.2 hin233 (Has.at H233 hin233 rfl) (g := (mkF m 313 (la10 p0 p1 p2 p3 p4 1 b116 8 b231_1 b231_2 (4607182418800017408 : UInt64)) [(.int 8), (.ref b231_2), (.double (4607182418800017408 : UInt64))])) rfl rfl (hb hby at_313)) ?_
        show gO (tF T232 m 314 (la10 p0 p1 p2 p3 p4 1 b116 8 b231_1 b231_2 (4607182418800017408 : UInt64)) [(.int 1), (.double (4607182418800017408 : UInt64))])
        refine gob (fun _ k => XS.i2dS X232.here hx rfl (hb hby at_314) rfl (v := (4607182418800017408 : UInt64)) (by decide +kernel) k) ?_
        show gO (tF T232 m 315 (la10 p0 p1 p2 p3 p4 1 b116 8 b231_1 b231_2 (4607182418800017408 : UInt64)) [(.double (4607182418800017408 : UInt64)), (.double (4607182418800017408 : UInt64))])
        refine gob (fun _ k => XS.dmulS X232.here hx rfl (hb hby at_315) rfl (v := (4607182418800017408 : UInt64)) (by unfold Jvm.Free.Fl.NoNaN64; decide +kernel) (by decide +kernel) k) ?_
        show gO (tF T232 m 316 (la10 p0 p1 p2 p3 p4 1 b116 8 b231_1 b231_2 (4607182418800017408 : UInt64)) [(.double (4607182418800017408 : UInt64))])
        refine gob (fun _ k => XS.aload X232.here hx rfl (hb hby at_316) rfl rfl k) ?_
        show gO (tF T232 m 318 (la10 p0 p1 p2 p3 p4 1 b116 8 b231_1 b231_2 (4607182418800017408 : UInt64)) [(.ref b231_1), (.double (4607182418800017408 : UInt64))])
        refine gob (fun _ k => XS.iload X232.here hx rfl (hb hby at_318) rfl k) ?_
        show gO (tF T232 m 320 (la10 p0 p1 p2 p3 p4 1 b116 8 b231_1 b231_2 (4607182418800017408 : UInt64)) [(.int 8), (.ref b231_1), (.double (4607182418800017408 : UInt64))])
        obtain ⟨cl234, Ar234, aq234, S234, N234, H234, G234⟩ := id V231_1
        have hin234 : ¬ ((8 : Int32) < 0 ∨ cl234.slots.size ≤ ((8 : Int32)).toNatClampNeg) := inb_of S234 ⟨by decide, by decide⟩
        refine gob (X232.iaload hx (j := (8 : Int32)) (v := (.int 1)) (by rw [e232]; exact Ar234.1) (State.isArrayOf_alike hZ.alike Ar234.2.1) Ar234.2.2 hin234 (Has.at H234 hin234 rfl) (g := (mkF m 320 (la10 p0 p1 p2 p3 p4 1 b116 8 b231_1 b231_2 (4607182418800017408 : UInt64)) [(.int 8), (.ref b231_1), (.double (4607182418800017408 : UInt64))])) rfl rfl (hb hby at_320)) ?_
        show gO (tF T232 m 321 (la10 p0 p1 p2 p3 p4 1 b116 8 b231_1 b231_2 (4607182418800017408 : UInt64)) [(.int 1), (.double (4607182418800017408 : UInt64))])
        refine gob (fun _ k => XS.i2dS X232.here hx rfl (hb hby at_321) rfl (v := (4607182418800017408 : UInt64)) (by decide +kernel) k) ?_
        show gO (tF T232 m 322 (la10 p0 p1 p2 p3 p4 1 b116 8 b231_1 b231_2 (4607182418800017408 : UInt64)) [(.double (4607182418800017408 : UInt64)), (.double (4607182418800017408 : UInt64))])
        refine gob (fun _ k => XS.dsubS X232.here hx rfl (hb hby at_322) rfl (v := (0 : UInt64)) (by unfold Jvm.Free.Fl.NoNaN64; decide +kernel) (by decide +kernel) k) ?_
        show gO (tF T232 m 323 (la10 p0 p1 p2 p3 p4 1 b116 8 b231_1 b231_2 (4607182418800017408 : UInt64)) [(.double (0 : UInt64))])
        refine gob (fun _ k => XS.dstore X232.here hx rfl (hb hby at_323) rfl (l' := (la11 p0 p1 p2 p3 p4 1 b116 8 b231_1 b231_2 (4607182418800017408 : UInt64) (0 : UInt64))) rfl k) ?_
        show gO (tF T232 m 325 (la11 p0 p1 p2 p3 p4 1 b116 8 b231_1 b231_2 (4607182418800017408 : UInt64) (0 : UInt64)) [])
        refine gob (fun _ k => XS.dload X232.here hx rfl (hb hby at_325) rfl k) ?_
        show gO (tF T232 m 327 (la11 p0 p1 p2 p3 p4 1 b116 8 b231_1 b231_2 (4607182418800017408 : UInt64) (0 : UInt64)) [(.double (0 : UInt64))])
        refine gob (X232.ldc2DoubleC hx hown (mvT hZ (hW hw 6 rfl)) (g := (mkF m 327 (la11 p0 p1 p2 p3 p4 1 b116 8 b231_1 b231_2 (4607182418800017408 : UInt64) (0 : UInt64)) [(.double (0 : UInt64))])) rfl (hb hby at_327)) ?_
        show gO (tF T232 m 330 (la11 p0 p1 p2 p3 p4 1 b116 8 b231_1 b231_2 (4607182418800017408 : UInt64) (0 : UInt64)) [(.double (4472406533629990549 : UInt64)), (.double (0 : UInt64))])
        refine gob (fun _ k => XS.dcmpS X232.here hx rfl (hb hby at_330) rfl (v := (-1 : Int32)) (by decide +kernel) k) ?_
        show gO (tF T232 m 331 (la11 p0 p1 p2 p3 p4 1 b116 8 b231_1 b231_2 (4607182418800017408 : UInt64) (0 : UInt64)) [(.int (-1))])
        refine gob (fun _ k => XS.ifNo X232.here hx rfl (hb hby at_331) rfl ((if0 _ _).trans (tlt (by decide : (-1 : Int32) < (0 : Int32))).2.1) k) ?_
        show gO (tF T232 m 334 (la11 p0 p1 p2 p3 p4 1 b116 8 b231_1 b231_2 (4607182418800017408 : UInt64) (0 : UInt64)) [])
        refine gob (fun _ k => XS.dload X232.here hx rfl (hb hby at_334) rfl k) ?_
        show gO (tF T232 m 336 (la11 p0 p1 p2 p3 p4 1 b116 8 b231_1 b231_2 (4607182418800017408 : UInt64) (0 : UInt64)) [(.double (0 : UInt64))])
        refine gob (X232.ldc2DoubleC hx hown (mvT hZ (hW hw 7 rfl)) (g := (mkF m 336 (la11 p0 p1 p2 p3 p4 1 b116 8 b231_1 b231_2 (4607182418800017408 : UInt64) (0 : UInt64)) [(.double (0 : UInt64))])) rfl (hb hby at_336)) ?_
        show gO (tF T232 m 339 (la11 p0 p1 p2 p3 p4 1 b116 8 b231_1 b231_2 (4607182418800017408 : UInt64) (0 : UInt64)) [(.double (13695778570484766357 : UInt64)), (.double (0 : UInt64))])
        refine gob (fun _ k => XS.dcmpS X232.here hx rfl (hb hby at_339) rfl (v := (1 : Int32)) (by decide +kernel) k) ?_
        show gO (tF T232 m 340 (la11 p0 p1 p2 p3 p4 1 b116 8 b231_1 b231_2 (4607182418800017408 : UInt64) (0 : UInt64)) [(.int 1)])
        refine gob (fun _ k => XS.ifNo X232.here hx rfl (hb hby at_340) rfl ((if0 _ _).trans (tlt (by decide : (0 : Int32) < (1 : Int32))).2.2.2) k) ?_
        show gO (tF T232 m 343 (la11 p0 p1 p2 p3 p4 1 b116 8 b231_1 b231_2 (4607182418800017408 : UInt64) (0 : UInt64)) [])
        refine gob (fun _ k => XS.iconst X232.here hx rfl (hb hby at_343) k) ?_
        show gO (tF T232 m 344 (la11 p0 p1 p2 p3 p4 1 b116 8 b231_1 b231_2 (4607182418800017408 : UInt64) (0 : UInt64)) [(.int 1)])
        refine gob (fun _ k => XS.goto X232.here hx rfl (pc0 := 344) (pc' := 348) rfl (hb hby at_344) (by decide) (by decide) k) ?_
        show gO (tF T232 m 348 (la11 p0 p1 p2 p3 p4 1 b116 8 b231_1 b231_2 (4607182418800017408 : UInt64) (0 : UInt64)) [(.int 1)])
        refine goZ X232 hx hlk (t := .boolean) Bd.returns (by simp) (hb hby at_348) (z' := (1 : Int32)) rfl ?_ (by decide) (by decide)
        show Q0 Z p0 p1 p2 p3 p4 h0 n0 (some (.int (1 : Int32))) T232.heap _
        exact ⟨rfl, N232⟩
      · skip
        refine gob (fun _ k => XS.ifYes X120.here hx rfl (pc0 := 67) (pc' := 73) rfl (hb hby at_67) rfl ((if0 _ _).trans (flt hc67_230).2.2.2) (by decide) (by decide) k) ?_
        show gO (tF T120 m 73 (la7 p0 p1 p2 p3 p4 1 b116 0) [])
        refine gob (fun _ k => XS.iload X120.here hx rfl (hb hby at_73) rfl k) ?_
        show gO (tF T120 m 75 (la7 p0 p1 p2 p3 p4 1 b116 0) [(.int 1)])
        refine gob (fun _ k => XS.iconst X120.here hx rfl (hb hby at_75) k) ?_
        show gO (tF T120 m 76 (la7 p0 p1 p2 p3 p4 1 b116 0) [(.int 1), (.int 1)])
        refine gob (fun _ k => XS.icmpYes X120.here hx rfl (pc0 := 76) (pc' := 86) rfl (hb hby at_76) rfl (flt (by decide : ¬ ((1 : Int32) < (1 : Int32)))).2.2.2 (by decide) (by decide) k) ?_
        show gO (tF T120 m 86 (la7 p0 p1 p2 p3 p4 1 b116 0) [])
        refine gob (fun _ k => XS.iload X120.here hx rfl (hb hby at_86) rfl k) ?_
        show gO (tF T120 m 88 (la7 p0 p1 p2 p3 p4 1 b116 0) [(.int 1)])
        refine gob (fun _ k => XS.iconst X120.here hx rfl (hb hby at_88) k) ?_
        show gO (tF T120 m 89 (la7 p0 p1 p2 p3 p4 1 b116 0) [(.int 2), (.int 1)])
        refine gob (fun _ k => XS.icmpYes X120.here hx rfl (pc0 := 89) (pc' := 99) rfl (hb hby at_89) rfl (flt (by decide : ¬ ((2 : Int32) < (1 : Int32)))).2.2.2 (by decide) (by decide) k) ?_
        show gO (tF T120 m 99 (la7 p0 p1 p2 p3 p4 1 b116 0) [])
        refine gob (fun _ k => XS.iload X120.here hx rfl (hb hby at_99) rfl k) ?_
        show gO (tF T120 m 101 (la7 p0 p1 p2 p3 p4 1 b116 0) [(.int 1)])
        refine gob (fun _ k => XS.iconst X120.here hx rfl (hb hby at_101) k) ?_
        show gO (tF T120 m 102 (la7 p0 p1 p2 p3 p4 1 b116 0) [(.int 3), (.int 1)])
        refine gob (fun _ k => XS.icmpYes X120.here hx rfl (pc0 := 102) (pc' := 112) rfl (hb hby at_102) rfl (flt (by decide : ¬ ((3 : Int32) < (1 : Int32)))).2.2.2 (by decide) (by decide) k) ?_
        show gO (tF T120 m 112 (la7 p0 p1 p2 p3 p4 1 b116 0) [])
        refine seg (0 : Int32) ?_
        intro T235 lc235 h235 b235_1 b235_2 k235_1 k235_2 X235 e235 N235 z235 V235 V235_1 V235_2
        show gO (tF T235 m 282 (la8 p0 p1 p2 p3 p4 1 b116 0 b235_1 b235_2) [])
        refine gob (fun _ k => XS.aload X235.here hx rfl (hb hby at_282) rfl rfl k) ?_
        show gO (tF T235 m 284 (la8 p0 p1 p2 p3 p4 1 b116 0 b235_1 b235_2) [(.ref b116)])
        obtain ⟨_, _, ⟨T236, L236, k236, n236⟩, -, X236, ⟨Lc236, hQ236, l236, y236, z236⟩, st236⟩ := Jvm.LawKit.callS X235 hx (y := (⟨"com/example/coevolution/coevolution/measure/Measures", "averagePrecision", "([I)D"⟩ : MethodName)) hown (mvT hZ (hW hw 2 rfl)) (mvT hZ (hW hw 3 rfl)) (mvT hZ (hW hw 4 rfl)) (mvT hZ (hW hw 5 rfl)) (by decide) (backOf (W := 0) (rmap1 l Z a0 hw [] b116 k116 p0 h235 n0 z235 V235) hZ (hW hw 5 rfl) (hW hw 4 rfl) (by decide) (by decide)) (g := (mkF m 284 (la8 p0 p1 p2 p3 p4 1 b116 0 b235_1 b235_2) [(.ref b116)])) rfl (by rw [hml]; rfl) (argsL := [(.ref b116)]) (rest := []) (lenOf pd_0 rfl) rfl (by show 2 * 0 + _ ≤ _; exact Nat.le_of_eq rfl) (hb hby at_284) (fun _ _ => ⟨rfl, e235, (by decide : 3 + 0 ≤ _), (by decide : 33 + 0 ≤ _)⟩)
        dsimp only [Pt.U, Pt.locs, Pt.cells, Pt.slots] at X236 l236 y236 z236 st236 hQ236
        replace X236 := castX X236 (y236.trans (rfl : _ = 3)) (z236.trans (rfl : _ = 33))
        obtain ⟨r236, rfl, hr236, Nq236, e236⟩ := hQ236
        have N236 : Fr n0 L236 := l236 ▸ Fr.app N235 Nq236
        refine gob st236 ?_
        show gO (tF T236 m 287 (la8 p0 p1 p2 p3 p4 1 b116 0 b235_1 b235_2) [(.double r236)])
        have hlr236 : r236 = (0 : UInt64) := by simpa [hc67_230] using hr236
        subst hlr236
        show gO (tF T236 m 287 (la8 p0 p1 p2 p3 p4 1 b116 0 b235_1 b235_2) [(.double (0 : UInt64))])
        refine gob (fun _ k => XS.dstore X236.here hx rfl (hb hby at_287) rfl (l' := (la10 p0 p1 p2 p3 p4 1 b116 0 b235_1 b235_2 (0 : UInt64))) rfl k) ?_
        show gO (tF T236 m 289 (la10 p0 p1 p2 p3 p4 1 b116 0 b235_1 b235_2 (0 : UInt64)) [])
        refine gob (fun _ k => XS.iload X236.here hx rfl (hb hby at_289) rfl k) ?_
        show gO (tF T236 m 291 (la10 p0 p1 p2 p3 p4 1 b116 0 b235_1 b235_2 (0 : UInt64)) [(.int 0)])
        refine gob (fun _ k => XS.ifNo X236.here hx rfl (hb hby at_291) rfl ((if0 _ _).trans (teq (by decide : (0 : Int32) = (0 : Int32))).2) k) ?_
        show gO (tF T236 m 294 (la10 p0 p1 p2 p3 p4 1 b116 0 b235_1 b235_2 (0 : UInt64)) [])
        refine gob (fun _ k => XS.dload X236.here hx rfl (hb hby at_294) rfl k) ?_
        show gO (tF T236 m 296 (la10 p0 p1 p2 p3 p4 1 b116 0 b235_1 b235_2 (0 : UInt64)) [(.double (0 : UInt64))])
        refine gob (fun _ k => XS.dconst0 X236.here hx rfl (hb hby at_296) (v := (0 : UInt64)) (by decide +kernel) k) ?_
        show gO (tF T236 m 297 (la10 p0 p1 p2 p3 p4 1 b116 0 b235_1 b235_2 (0 : UInt64)) [(.double (0 : UInt64)), (.double (0 : UInt64))])
        refine gob (fun _ k => XS.dcmpS X236.here hx rfl (hb hby at_297) rfl (v := (0 : Int32)) (by decide +kernel) k) ?_
        show gO (tF T236 m 298 (la10 p0 p1 p2 p3 p4 1 b116 0 b235_1 b235_2 (0 : UInt64)) [(.int 0)])
        refine gob (fun _ k => XS.ifNo X236.here hx rfl (hb hby at_298) rfl ((if0 _ _).trans (teq (by decide : (0 : Int32) = (0 : Int32))).2) k) ?_
        show gO (tF T236 m 301 (la10 p0 p1 p2 p3 p4 1 b116 0 b235_1 b235_2 (0 : UInt64)) [])
        refine gob (fun _ k => XS.iconst X236.here hx rfl (hb hby at_301) k) ?_
        show gO (tF T236 m 302 (la10 p0 p1 p2 p3 p4 1 b116 0 b235_1 b235_2 (0 : UInt64)) [(.int 1)])
        refine gob (fun _ k => XS.goto X236.here hx rfl (pc0 := 302) (pc' := 306) rfl (hb hby at_302) (by decide) (by decide) k) ?_
        show gO (tF T236 m 306 (la10 p0 p1 p2 p3 p4 1 b116 0 b235_1 b235_2 (0 : UInt64)) [(.int 1)])
        refine goZ X236 hx hlk (t := .boolean) Bd.returns (by simp) (hb hby at_306) (z' := (1 : Int32)) rfl ?_ (by decide) (by decide)
        show Q0 Z p0 p1 p2 p3 p4 h0 n0 (some (.int (1 : Int32))) T236.heap _
        exact ⟨rfl, N236⟩
    · skip
      by_cases hn237 : n_ = (2 : Int32)
      · skip
        subst hn237
        show gO (tF s₁ m 9 (la5 p0 p1 p2 p3 p4 2) [])
        refine gob (fun _ k => XS.iload X0.here hx rfl (hb hby at_9) rfl k) ?_
        show gO (tF s₁ m 11 (la5 p0 p1 p2 p3 p4 2) [(.int 2)])
        obtain ⟨T238, h238, k238, X238, e238, E238, A238, st238⟩ := newP X0 hx hZ (hW hw 1 rfl) e0 (g := (mkF m 11 (la5 p0 p1 p2 p3 p4 2) [(.int 2)])) rfl (hb hby at_11) rfl (by decide) (cap := 2) (by decide) (by decide) (by decide) (by decide)
        obtain ⟨b238, g238⟩ : ∃ z, z = h0.size := ⟨_, rfl⟩
        rw [← g238] at A238 st238
        have g239 : n0 ≤ b238 := Nat.le_trans Z0 (Nat.le_of_eq g238.symm)
        have z240 : n0 ≤ h238.size := Nat.le_trans Z0 E238.1
        have V238 : Arv Z h238 b238 k238 .int (2 : Int32) [(.int 0), (.int 0)] (.int 0) := (Arv.new A238 (by decide)).pad (pad_rep [] (.int 0) 2)
        refine gob st238 ?_
        replace X238 := castX X238 (rfl : _ = 1) (rfl : _ = 2)
        show gO (tF T238 m 13 (la5 p0 p1 p2 p3 p4 2) [(.ref b238)])
        refine gob (fun _ k => XS.astore X238.here hx rfl (hb hby at_13) rfl rfl (l' := (la6 p0 p1 p2 p3 p4 2 b238)) rfl k) ?_
        show gO (tF T238 m 15 (la6 p0 p1 p2 p3 p4 2 b238) [])
        refine gob (fun _ k => XS.iload X238.here hx rfl (hb hby at_15) rfl k) ?_
        show gO (tF T238 m 17 (la6 p0 p1 p2 p3 p4 2 b238) [(.int 2)])
        refine gob (fun _ k => XS.ifNo X238.here hx rfl (hb hby at_17) rfl ((if0 _ _).trans (tlt (by decide : (0 : Int32) < (2 : Int32))).2.2.2) k) ?_
        show gO (tF T238 m 20 (la6 p0 p1 p2 p3 p4 2 b238) [])
        refine gob (fun _ k => XS.aload X238.here hx rfl (hb hby at_20) rfl rfl k) ?_
        show gO (tF T238 m 22 (la6 p0 p1 p2 p3 p4 2 b238) [(.ref b238)])
        refine gob (fun _ k => XS.iconst X238.here hx rfl (hb hby at_22) k) ?_
        show gO (tF T238 m 23 (la6 p0 p1 p2 p3 p4 2 b238) [(.int 0), (.ref b238)])
        refine gob (fun _ k => XS.iloadN X238.here hx rfl (hb hby at_23) rfl k) ?_
        show gO (tF T238 m 24 (la6 p0 p1 p2 p3 p4 2 b238) [(.int p0), (.int 0), (.ref b238)])
        obtain ⟨cl241, Ar241, aq241, S241, N241, H241, G241⟩ := id V238
        have hin241 : ¬ ((0 : Int32) < 0 ∨ cl241.slots.size ≤ ((0 : Int32)).toNatClampNeg) := inb_of S241 ⟨by decide, by decide⟩
        obtain ⟨T242, h242, X242, e242, W242, st242⟩ := stI X238 hx hZ e238 Ar241 (j := (0 : Int32)) hin241 (g := (mkF m 24 (la6 p0 p1 p2 p3 p4 2 b238) [(.int p0), (.int 0), (.ref b238)])) rfl rfl (hb hby at_24)
        refine gob st242 ?_
        have z243 : n0 ≤ h242.size := Nat.le_trans z240 (Keep.of_wr W242).1
        have N242 := Fr.snoc X242 N0 g239
        have V242 : Arv Z h242 b238 k238 .int (2 : Int32) [(.int p0), (.int 0)] (.int 0) := Arv.set Ar241 aq241 S241 N241 H241 G241 rfl W242 0 rfl (Nat.le_of_ble_eq_true rfl)
        show gO (tF T242 m 25 (la6 p0 p1 p2 p3 p4 2 b238) [])
        refine gob (fun _ k => XS.iload X242.here hx rfl (hb hby at_25) rfl k) ?_
        show gO (tF T242 m 27 (la6 p0 p1 p2 p3 p4 2 b238) [(.int 2)])
        refine gob (fun _ k => XS.iconst X242.here hx rfl (hb hby at_27) k) ?_
        show gO (tF T242 m 28 (la6 p0 p1 p2 p3 p4 2 b238) [(.int 1), (.int 2)])
        refine gob (fun _ k => XS.icmpNo X242.here hx rfl (hb hby at_28) rfl (tlt (by decide : (1 : Int32) < (2 : Int32))).2.2.2 k) ?_
        show gO (tF T242 m 31 (la6 p0 p1 p2 p3 p4 2 b238) [])
        refine gob (fun _ k => XS.aload X242.here hx rfl (hb hby at_31) rfl rfl k) ?_
        show gO (tF T242 m 33 (la6 p0 p1 p2 p3 p4 2 b238) [(.ref b238)])
        refine gob (fun _ k => XS.iconst X242.here hx rfl (hb hby at_33) k) ?_
        show gO (tF T242 m 34 (la6 p0 p1 p2 p3 p4 2 b238) [(.int 1), (.ref b238)])
        refine gob (fun _ k => XS.iloadN X242.here hx rfl (hb hby at_34) rfl k) ?_
        show gO (tF T242 m 35 (la6 p0 p1 p2 p3 p4 2 b238) [(.int p1), (.int 1), (.ref b238)])
        obtain ⟨cl244, Ar244, aq244, S244, N244, H244, G244⟩ := id V242
        have hin244 : ¬ ((1 : Int32) < 0 ∨ cl244.slots.size ≤ ((1 : Int32)).toNatClampNeg) := inb_of S244 ⟨by decide, by decide⟩
        obtain ⟨T245, h245, X245, e245, W245, st245⟩ := stI X242 hx hZ e242 Ar244 (j := (1 : Int32)) hin244 (g := (mkF m 35 (la6 p0 p1 p2 p3 p4 2 b238) [(.int p1), (.int 1), (.ref b238)])) rfl rfl (hb hby at_35)
        refine gob st245 ?_
        have z246 : n0 ≤ h245.size := Nat.le_trans z243 (Keep.of_wr W245).1
        have N245 := Fr.snoc X245 N242 g239
        have V245 : Arv Z h245 b238 k238 .int (2 : Int32) [(.int p0), (.int p1)] (.int 0) := Arv.set Ar244 aq244 S244 N244 H244 G244 rfl W245 1 rfl (Nat.le_of_ble_eq_true rfl)
        show gO (tF T245 m 36 (la6 p0 p1 p2 p3 p4 2 b238) [])
        refine gob (fun _ k => XS.iload X245.here hx rfl (hb hby at_36) rfl k) ?_
        show gO (tF T245 m 38 (la6 p0 p1 p2 p3 p4 2 b238) [(.int 2)])
        refine gob (fun _ k => XS.iconst X245.here hx rfl (hb hby at_38) k) ?_
        show gO (tF T245 m 39 (la6 p0 p1 p2 p3 p4 2 b238) [(.int 2), (.int 2)])
        refine gob (fun _ k => XS.icmpYes X245.here hx rfl (pc0 := 39) (pc' := 47) rfl (hb hby at_39) rfl (flt (by decide : ¬ ((2 : Int32) < (2 : Int32)))).2.2.2 (by decide) (by decide) k) ?_
        show gO (tF T245 m 47 (la6 p0 p1 p2 p3 p4 2 b238) [])
        refine gob (fun _ k => XS.iload X245.here hx rfl (hb hby at_47) rfl k) ?_
        show gO (tF T245 m 49 (la6 p0 p1 p2 p3 p4 2 b238) [(.int 2)])
        refine gob (fun _ k => XS.iconst X245.here hx rfl (hb hby at_49) k) ?_
        show gO (tF T245 m 50 (la6 p0 p1 p2 p3 p4 2 b238) [(.int 3), (.int 2)])
        refine gob (fun _ k => XS.icmpYes X245.here hx rfl (pc0 := 50) (pc' := 58) rfl (hb hby at_50) rfl (flt (by decide : ¬ ((3 : Int32) < (2 : Int32)))).2.2.2 (by decide) (by decide) k) ?_
        show gO (tF T245 m 58 (la6 p0 p1 p2 p3 p4 2 b238) [])
        refine gob (fun _ k => XS.iconst X245.here hx rfl (hb hby at_58) k) ?_
        show gO (tF T245 m 59 (la6 p0 p1 p2 p3 p4 2 b238) [(.int 0)])
        refine gob (fun _ k => XS.istore X245.here hx rfl (hb hby at_59) rfl (l' := (la7 p0 p1 p2 p3 p4 2 b238 0)) rfl k) ?_
        show gO (tF T245 m 61 (la7 p0 p1 p2 p3 p4 2 b238 0) [])
        have seg : ∀ (key_ : Int32), (∀ (T_ : State) (lc_ : List Loc) (h_ : Heap) (b1_ b2_ : Addr) (k1_ k2_ : ClassId), Stand p l e room_1 s m #[(.int p0), (.int p1), (.int p2), (.int p3), (.int p4)] below meth c T_ lc_ 3 34 → T_.heap = h_ → Fr n0 lc_ → n0 ≤ h_.size → Arv Z h_ b238 k238 .int (2 : Int32) [(.int p0), (.int p1)] (.int 0) → Arv Z h_ b1_ k1_ .int (16 : Int32) [(.int 0), (.int 1), (.int 1), (.int 5), (.int 1), (.int 1), (.int 7), (.int 23), (.int 1), (.int 3), (.int 5), (.int 29), (.int 1), (.int 11), (.int 1), (.int 1)] (.int 0) → Arv Z h_ b2_ k2_ .int (16 : Int32) [(.int 1), (.int 4), (.int 3), (.int 12), (.int 2), (.int 2), (.int 12), (.int 36), (.int 1), (.int 4), (.int 6), (.int 36), (.int 1), (.int 12), (.int 1), (.int 1)] (.int 0) → Go p e below s (Q0 Z p0 p1 p2 p3 p4 h0 n0) 16 192 (T_.setTop (mkF m 282 (la8 p0 p1 p2 p3 p4 2 b238 key_ b1_ b2_) []))) → Go p e below s (Q0 Z p0 p1 p2 p3 p4 h0 n0) 16 192 (T245.setTop (mkF m 112 (la7 p0 p1 p2 p3 p4 2 b238 key_) [])) := by
          intro key_ kont
          show gO (tF T245 m 112 (la7 p0 p1 p2 p3 p4 2 b238 key_) [])
          refine gob (fun _ k => XS.bipush X245.here hx rfl (hb hby at_112) k) ?_
          show gO (tF T245 m 114 (la7 p0 p1 p2 p3 p4 2 b238 key_) [(.int 16)])
          obtain ⟨T247, h247, k247, X247, e247, E247, A247, st247⟩ := newP X245 hx hZ (hW hw 1 rfl) e245 (g := (mkF m 114 (la7 p0 p1 p2 p3 p4 2 b238 key_) [(.int 16)])) rfl (hb hby at_114) rfl (by decide) (cap := 16) (by decide) (by decide) (by decide) (by decide)
          obtain ⟨b247, g247⟩ : ∃ z, z = h245.size := ⟨_, rfl⟩
          rw [← g247] at A247 st247
          have n248 : b238 ≠ b247 := Nat.ne_of_lt (Nat.lt_of_lt_of_le V245.lt (Nat.le_of_eq g247.symm))
          have g249 : n0 ≤ b247 := Nat.le_trans z246 (Nat.le_of_eq g247.symm)
          have z250 : n0 ≤ h247.size := Nat.le_trans z246 E247.1
          have V247 : Arv Z h247 b247 k247 .int (16 : Int32) [(.int 0), (.int 0), (.int 0), (.int 0), (.int 0), (.int 0), (.int 0), (.int 0), (.int 0), (.int 0), (.int 0), (.int 0), (.int 0), (.int 0), (.int 0), (.int 0)] (.int 0) := (Arv.new A247 (by decide)).pad (pad_rep [] (.int 0) 16)
          refine gob st247 ?_
          replace X247 := castX X247 (rfl : _ = 2) (rfl : _ = 18)
          show gO (tF T247 m 116 (la7 p0 p1 p2 p3 p4 2 b238 key_) [(.ref b247)])
          refine gob (fun _ k => XS.dup X247.here hx rfl (hb hby at_116) rfl rfl k) ?_
          show gO (tF T247 m 117 (la7 p0 p1 p2 p3 p4 2 b238 key_) [(.ref b247), (.ref b247)])
          refine gob (fun _ k => XS.iconst X247.here hx rfl (hb hby at_117) k) ?_
          show gO (tF T247 m 118 (la7 p0 p1 p2 p3 p4 2 b238 key_) [(.int 0), (.ref b247), (.ref b247)])
          refine gob (fun _ k => XS.iconst X247.here hx rfl (hb hby at_118) k) ?_
          show gO (tF T247 m 119 (la7 p0 p1 p2 p3 p4 2 b238 key_) [(.int 0), (.int 0), (.ref b247), (.ref b247)])
          obtain ⟨cl251, Ar251, aq251, S251, N251, H251, G251⟩ := id V247
          have hin251 : ¬ ((0 : Int32) < 0 ∨ cl251.slots.size ≤ ((0 : Int32)).toNatClampNeg) := inb_of S251 ⟨by decide, by decide⟩
          obtain ⟨T252, h252, X252, e252, W252, st252⟩ := stI X247 hx hZ e247 Ar251 (j := (0 : Int32)) hin251 (g := (mkF m 119 (la7 p0 p1 p2 p3 p4 2 b238 key_) [(.int 0), (.int 0), (.ref b247), (.ref b247)])) rfl rfl (hb hby at_119)
          refine gob st252 ?_
          have z253 : n0 ≤ h252.size := Nat.le_trans z250 (Keep.of_wr W252).1
          have N252 := Fr.snoc X252 N245 g249
          have V252 : Arv Z h252 b247 k247 .int (16 : Int32) [(.int 0), (.int 0), (.int 0), (.int 0), (.int 0), (.int 0), (.int 0), (.int 0), (.int 0), (.int 0), (.int 0), (.int 0), (.int 0), (.int 0), (.int 0), (.int 0)] (.int 0) := Arv.set Ar251 aq251 S251 N251 H251 G251 rfl W252 0 rfl (Nat.le_of_ble_eq_true rfl)
          show gO (tF T252 m 120 (la7 p0 p1 p2 p3 p4 2 b238 key_) [(.ref b247)])
          refine gob (fun _ k => XS.dup X252.here hx rfl (hb hby at_120) rfl rfl k) ?_
          show gO (tF T252 m 121 (la7 p0 p1 p2 p3 p4 2 b238 key_) [(.ref b247), (.ref b247)])
          refine gob (fun _ k => XS.iconst X252.here hx rfl (hb hby at_121) k) ?_
          show gO (tF T252 m 122 (la7 p0 p1 p2 p3 p4 2 b238 key_) [(.int 1), (.ref b247), (.ref b247)])
          refine gob (fun _ k => XS.iconst X252.here hx rfl (hb hby at_122) k) ?_
          show gO (tF T252 m 123 (la7 p0 p1 p2 p3 p4 2 b238 key_) [(.int 1), (.int 1), (.ref b247), (.ref b247)])
          obtain ⟨cl254, Ar254, aq254, S254, N254, H254, G254⟩ := id V252
          have hin254 : ¬ ((1 : Int32) < 0 ∨ cl254.slots.size ≤ ((1 : Int32)).toNatClampNeg) := inb_of S254 ⟨by decide, by decide⟩
          obtain ⟨T255, h255, X255, e255, W255, st255⟩ := stI X252 hx hZ e252 Ar254 (j := (1 : Int32)) hin254 (g := (mkF m 123 (la7 p0 p1 p2 p3 p4 2 b238 key_) [(.int 1), (.int 1), (.ref b247), (.ref b247)])) rfl rfl (hb hby at_123)
          refine gob st255 ?_
          have z256 : n0 ≤ h255.size := Nat.le_trans z253 (Keep.of_wr W255).1
          have N255 := Fr.snoc X255 N252 g249
          have V255 : Arv Z h255 b247 k247 .int (16 : Int32) [(.int 0), (.int 1), (.int 0), (.int 0), (.int 0), (.int 0), (.int 0), (.int 0), (.int 0), (.int 0), (.int 0), (.int 0), (.int 0), (.int 0), (.int 0), (.int 0)] (.int 0) := Arv.set Ar254 aq254 S254 N254 H254 G254 rfl W255 1 rfl (Nat.le_of_ble_eq_true rfl)
          show gO (tF T255 m 124 (la7 p0 p1 p2 p3 p4 2 b238 key_) [(.ref b247)])
          refine gob (fun _ k => XS.dup X255.here hx rfl (hb hby at_124) rfl rfl k) ?_
          show gO (tF T255 m 125 (la7 p0 p1 p2 p3 p4 2 b238 key_) [(.ref b247), (.ref b247)])
          refine gob (fun _ k => XS.iconst X255.here hx rfl (hb hby at_125) k) ?_
          show gO (tF T255 m 126 (la7 p0 p1 p2 p3 p4 2 b238 key_) [(.int 2), (.ref b247), (.ref b247)])
          refine gob (fun _ k => XS.iconst X255.here hx rfl (hb hby at_126) k) ?_
          show gO (tF T255 m 127 (la7 p0 p1 p2 p3 p4 2 b238 key_) [(.int 1), (.int 2), (.ref b247), (.ref b247)])
          obtain ⟨cl257, Ar257, aq257, S257, N257, H257, G257⟩ := id V255
          have hin257 : ¬ ((2 : Int32) < 0 ∨ cl257.slots.size ≤ ((2 : Int32)).toNatClampNeg) := inb_of S257 ⟨by decide, by decide⟩
          obtain ⟨T258, h258, X258, e258, W258, st258⟩ := stI X255 hx hZ e255 Ar257 (j := (2 : Int32)) hin257 (g := (mkF m 127 (la7 p0 p1 p2 p3 p4 2 b238 key_) [(.int 1), (.int 2), (.ref b247), (.ref b247)])) rfl rfl (hb hby at_127)
          refine gob st258 ?_
          have z259 : n0 ≤ h258.size := Nat.le_trans z256 (Keep.of_wr W258).1
          have N258 := Fr.snoc X258 N255 g249
          have V258 : Arv Z h258 b247 k247 .int (16 : Int32) [(.int 0), (.int 1), (.int 1), (.int 0), (.int 0), (.int 0), (.int 0), (.int 0), (.int 0), (.int 0), (.int 0), (.int 0), (.int 0), (.int 0), (.int 0), (.int 0)] (.int 0) := Arv.set Ar257 aq257 S257 N257 H257 G257 rfl W258 2 rfl (Nat.le_of_ble_eq_true rfl)
          show gO (tF T258 m 128 (la7 p0 p1 p2 p3 p4 2 b238 key_) [(.ref b247)])
          refine gob (fun _ k => XS.dup X258.here hx rfl (hb hby at_128) rfl rfl k) ?_
          show gO (tF T258 m 129 (la7 p0 p1 p2 p3 p4 2 b238 key_) [(.ref b247), (.ref b247)])
          refine gob (fun _ k => XS.iconst X258.here hx rfl (hb hby at_129) k) ?_
          show gO (tF T258 m 130 (la7 p0 p1 p2 p3 p4 2 b238 key_) [(.int 3), (.ref b247), (.ref b247)])
          refine gob (fun _ k => XS.iconst X258.here hx rfl (hb hby at_130) k) ?_
          show gO (tF T258 m 131 (la7 p0 p1 p2 p3 p4 2 b238 key_) [(.int 5), (.int 3), (.ref b247), (.ref b247)])
          obtain ⟨cl260, Ar260, aq260, S260, N260, H260, G260⟩ := id V258
          have hin260 : ¬ ((3 : Int32) < 0 ∨ cl260.slots.size ≤ ((3 : Int32)).toNatClampNeg) := inb_of S260 ⟨by decide, by decide⟩
          obtain ⟨T261, h261, X261, e261, W261, st261⟩ := stI X258 hx hZ e258 Ar260 (j := (3 : Int32)) hin260 (g := (mkF m 131 (la7 p0 p1 p2 p3 p4 2 b238 key_) [(.int 5), (.int 3), (.ref b247), (.ref b247)])) rfl rfl (hb hby at_131)
          refine gob st261 ?_
          have z262 : n0 ≤ h261.size := Nat.le_trans z259 (Keep.of_wr W261).1
          have N261 := Fr.snoc X261 N258 g249
          have V261 : Arv Z h261 b247 k247 .int (16 : Int32) [(.int 0), (.int 1), (.int 1), (.int 5), (.int 0), (.int 0), (.int 0), (.int 0), (.int 0), (.int 0), (.int 0), (.int 0), (.int 0), (.int 0), (.int 0), (.int 0)] (.int 0) := Arv.set Ar260 aq260 S260 N260 H260 G260 rfl W261 3 rfl (Nat.le_of_ble_eq_true rfl)
          show gO (tF T261 m 132 (la7 p0 p1 p2 p3 p4 2 b238 key_) [(.ref b247)])
          refine gob (fun _ k => XS.dup X261.here hx rfl (hb hby at_132) rfl rfl k) ?_
          show gO (tF T261 m 133 (la7 p0 p1 p2 p3 p4 2 b238 key_) [(.ref b247), (.ref b247)])
          refine gob (fun _ k => XS.iconst X261.here hx rfl (hb hby at_133) k) ?_
          show gO (tF T261 m 134 (la7 p0 p1 p2 p3 p4 2 b238 key_) [(.int 4), (.ref b247), (.ref b247)])
          refine gob (fun _ k => XS.iconst X261.here hx rfl (hb hby at_134) k) ?_
          show gO (tF T261 m 135 (la7 p0 p1 p2 p3 p4 2 b238 key_) [(.int 1), (.int 4), (.ref b247), (.ref b247)])
          obtain ⟨cl263, Ar263, aq263, S263, N263, H263, G263⟩ := id V261
          have hin263 : ¬ ((4 : Int32) < 0 ∨ cl263.slots.size ≤ ((4 : Int32)).toNatClampNeg) := inb_of S263 ⟨by decide, by decide⟩
          obtain ⟨T264, h264, X264, e264, W264, st264⟩ := stI X261 hx hZ e261 Ar263 (j := (4 : Int32)) hin263 (g := (mkF m 135 (la7 p0 p1 p2 p3 p4 2 b238 key_) [(.int 1), (.int 4), (.ref b247), (.ref b247)])) rfl rfl (hb hby at_135)
          refine gob st264 ?_
          have z265 : n0 ≤ h264.size := Nat.le_trans z262 (Keep.of_wr W264).1
          have N264 := Fr.snoc X264 N261 g249
          have V264 : Arv Z h264 b247 k247 .int (16 : Int32) [(.int 0), (.int 1), (.int 1), (.int 5), (.int 1), (.int 0), (.int 0), (.int 0), (.int 0), (.int 0), (.int 0), (.int 0), (.int 0), (.int 0), (.int 0), (.int 0)] (.int 0) := Arv.set Ar263 aq263 S263 N263 H263 G263 rfl W264 4 rfl (Nat.le_of_ble_eq_true rfl)
          show gO (tF T264 m 136 (la7 p0 p1 p2 p3 p4 2 b238 key_) [(.ref b247)])
          refine gob (fun _ k => XS.dup X264.here hx rfl (hb hby at_136) rfl rfl k) ?_
          show gO (tF T264 m 137 (la7 p0 p1 p2 p3 p4 2 b238 key_) [(.ref b247), (.ref b247)])
          refine gob (fun _ k => XS.iconst X264.here hx rfl (hb hby at_137) k) ?_
          show gO (tF T264 m 138 (la7 p0 p1 p2 p3 p4 2 b238 key_) [(.int 5), (.ref b247), (.ref b247)])
          refine gob (fun _ k => XS.iconst X264.here hx rfl (hb hby at_138) k) ?_
          show gO (tF T264 m 139 (la7 p0 p1 p2 p3 p4 2 b238 key_) [(.int 1), (.int 5), (.ref b247), (.ref b247)])
          obtain ⟨cl266, Ar266, aq266, S266, N266, H266, G266⟩ := id V264
          have hin266 : ¬ ((5 : Int32) < 0 ∨ cl266.slots.size ≤ ((5 : Int32)).toNatClampNeg) := inb_of S266 ⟨by decide, by decide⟩
          obtain ⟨T267, h267, X267, e267, W267, st267⟩ := stI X264 hx hZ e264 Ar266 (j := (5 : Int32)) hin266 (g := (mkF m 139 (la7 p0 p1 p2 p3 p4 2 b238 key_) [(.int 1), (.int 5), (.ref b247), (.ref b247)])) rfl rfl (hb hby at_139)
          refine gob st267 ?_
          have z268 : n0 ≤ h267.size := Nat.le_trans z265 (Keep.of_wr W267).1
          have N267 := Fr.snoc X267 N264 g249
          have V267 : Arv Z h267 b247 k247 .int (16 : Int32) [(.int 0), (.int 1), (.int 1), (.int 5), (.int 1), (.int 1), (.int 0), (.int 0), (.int 0), (.int 0), (.int 0), (.int 0), (.int 0), (.int 0), (.int 0), (.int 0)] (.int 0) := Arv.set Ar266 aq266 S266 N266 H266 G266 rfl W267 5 rfl (Nat.le_of_ble_eq_true rfl)
          show gO (tF T267 m 140 (la7 p0 p1 p2 p3 p4 2 b238 key_) [(.ref b247)])
          refine gob (fun _ k => XS.dup X267.here hx rfl (hb hby at_140) rfl rfl k) ?_
          show gO (tF T267 m 141 (la7 p0 p1 p2 p3 p4 2 b238 key_) [(.ref b247), (.ref b247)])
          refine gob (fun _ k => XS.bipush X267.here hx rfl (hb hby at_141) k) ?_
          show gO (tF T267 m 143 (la7 p0 p1 p2 p3 p4 2 b238 key_) [(.int 6), (.ref b247), (.ref b247)])
          refine gob (fun _ k => XS.bipush X267.here hx rfl (hb hby at_143) k) ?_
          show gO (tF T267 m 145 (la7 p0 p1 p2 p3 p4 2 b238 key_) [(.int 7), (.int 6), (.ref b247), (.ref b247)])
          obtain ⟨cl269, Ar269, aq269, S269, N269, H269, G269⟩ := id V267
          have hin269 : ¬ ((6 : Int32) < 0 ∨ cl269.slots.size ≤ ((6 : Int32)).toNatClampNeg) := inb_of S269 ⟨by decide, by decide⟩
          obtain ⟨T270, h270, X270, e270, W270, st270⟩ := stI X267 hx hZ e267 Ar269 (j := (6 : Int32)) hin269 (g := (mkF m 145 (la7 p0 p1 p2 p3 p4 2 b238 key_) [(.int 7), (.int 6), (.ref b247), (.ref b247)])) rfl rfl (hb hby at_145)
          refine gob st270 ?_
          have z271 : n0 ≤ h270.size := Nat.le_trans z268 (Keep.of_wr W270).1
          have N270 := Fr.snoc X270 N267 g249
          have V270 : Arv Z h270 b247 k247 .int (16 : Int32) [(.int 0), (.int 1), (.int 1), (.int 5), (.int 1), (.int 1), (.int 7), (.int 0), (.int 0), (.int 0), (.int 0), (.int 0), (.int 0), (.int 0), (.int 0), (.int 0)] (.int 0) := Arv.set Ar269 aq269 S269 N269 H269 G269 rfl W270 6 rfl (Nat.le_of_ble_eq_true rfl)
          show gO (tF T270 m 146 (la7 p0 p1 p2 p3 p4 2 b238 key_) [(.ref b247)])
          refine gob (fun _ k => XS.dup X270.here hx rfl (hb hby at_146) rfl rfl k) ?_
          show gO (tF T270 m 147 (la7 p0 p1 p2 p3 p4 2 b238 key_) [(.ref b247), (.ref b247)])
          refine gob (fun _ k => XS.bipush X270.here hx rfl (hb hby at_147) k) ?_
          show gO (tF T270 m 149 (la7 p0 p1 p2 p3 p4 2 b238 key_) [(.int 7), (.ref b247), (.ref b247)])
          refine gob (fun _ k => XS.bipush X270.here hx rfl (hb hby at_149) k) ?_
          show gO (tF T270 m 151 (la7 p0 p1 p2 p3 p4 2 b238 key_) [(.int 23), (.int 7), (.ref b247), (.ref b247)])
          obtain ⟨cl272, Ar272, aq272, S272, N272, H272, G272⟩ := id V270
          have hin272 : ¬ ((7 : Int32) < 0 ∨ cl272.slots.size ≤ ((7 : Int32)).toNatClampNeg) := inb_of S272 ⟨by decide, by decide⟩
          obtain ⟨T273, h273, X273, e273, W273, st273⟩ := stI X270 hx hZ e270 Ar272 (j := (7 : Int32)) hin272 (g := (mkF m 151 (la7 p0 p1 p2 p3 p4 2 b238 key_) [(.int 23), (.int 7), (.ref b247), (.ref b247)])) rfl rfl (hb hby at_151)
          refine gob st273 ?_
          have z274 : n0 ≤ h273.size := Nat.le_trans z271 (Keep.of_wr W273).1
          have N273 := Fr.snoc X273 N270 g249
          have V273 : Arv Z h273 b247 k247 .int (16 : Int32) [(.int 0), (.int 1), (.int 1), (.int 5), (.int 1), (.int 1), (.int 7), (.int 23), (.int 0), (.int 0), (.int 0), (.int 0), (.int 0), (.int 0), (.int 0), (.int 0)] (.int 0) := Arv.set Ar272 aq272 S272 N272 H272 G272 rfl W273 7 rfl (Nat.le_of_ble_eq_true rfl)
          show gO (tF T273 m 152 (la7 p0 p1 p2 p3 p4 2 b238 key_) [(.ref b247)])
          refine gob (fun _ k => XS.dup X273.here hx rfl (hb hby at_152) rfl rfl k) ?_
          show gO (tF T273 m 153 (la7 p0 p1 p2 p3 p4 2 b238 key_) [(.ref b247), (.ref b247)])
          refine gob (fun _ k => XS.bipush X273.here hx rfl (hb hby at_153) k) ?_
          show gO (tF T273 m 155 (la7 p0 p1 p2 p3 p4 2 b238 key_) [(.int 8), (.ref b247), (.ref b247)])
          refine gob (fun _ k => XS.iconst X273.here hx rfl (hb hby at_155) k) ?_
          show gO (tF T273 m 156 (la7 p0 p1 p2 p3 p4 2 b238 key_) [(.int 1), (.int 8), (.ref b247), (.ref b247)])
          obtain ⟨cl275, Ar275, aq275, S275, N275, H275, G275⟩ := id V273
          have hin275 : ¬ ((8 : Int32) < 0 ∨ cl275.slots.size ≤ ((8 : Int32)).toNatClampNeg) := inb_of S275 ⟨by decide, by decide⟩
          obtain ⟨T276, h276, X276, e276, W276, st276⟩ := stI X273 hx hZ e273 Ar275 (j := (8 : Int32)) hin275 (g := (mkF m 156 (la7 p0 p1 p2 p3 p4 2 b238 key_) [(.int 1), (.int 8), (.ref b247), (.ref b247)])) rfl rfl (hb hby at_156)
          refine gob st276 ?_
          have z277 : n0 ≤ h276.size := Nat.le_trans z274 (Keep.of_wr W276).1
          have N276 := Fr.snoc X276 N273 g249
          have V276 : Arv Z h276 b247 k247 .int (16 : Int32) [(.int 0), (.int 1), (.int 1), (.int 5), (.int 1), (.int 1), (.int 7), (.int 23), (.int 1), (.int 0), (.int 0), (.int 0), (.int 0), (.int 0), (.int 0), (.int 0)] (.int 0) := Arv.set Ar275 aq275 S275 N275 H275 G275 rfl W276 8 rfl (Nat.le_of_ble_eq_true rfl)
          show gO (tF T276 m 157 (la7 p0 p1 p2 p3 p4 2 b238 key_) [(.ref b247)])
          refine gob (fun _ k => XS.dup X276.here hx rfl (hb hby at_157) rfl rfl k) ?_
          show gO (tF T276 m 158 (la7 p0 p1 p2 p3 p4 2 b238 key_) [(.ref b247), (.ref b247)])
          refine gob (fun _ k => XS.bipush X276.here hx rfl (hb hby at_158) k) ?_
          show gO (tF T276 m 160 (la7 p0 p1 p2 p3 p4 2 b238 key_) [(.int 9), (.ref b247), (.ref b247)])
          refine gob (fun _ k => XS.iconst X276.here hx rfl (hb hby at_160) k) ?_
          show gO (tF T276 m 161 (la7 p0 p1 p2 p3 p4 2 b238 key_) [(.int 3), (.int 9), (.ref b247), (.ref b247)])
          obtain ⟨cl278, Ar278, aq278, S278, N278, H278, G278⟩ := id V276
          have hin278 : ¬ ((9 : Int32) < 0 ∨ cl278.slots.size ≤ ((9 : Int32)).toNatClampNeg) := inb_of S278 ⟨by decide, by decide⟩
          obtain ⟨T279, h279, X279, e279, W279, st279⟩ := stI X276 hx hZ e276 Ar278 (j := (9 : Int32)) hin278 (g := (mkF m 161 (la7 p0 p1 p2 p3 p4 2 b238 key_) [(.int 3), (.int 9), (.ref b247), (.ref b247)])) rfl rfl (hb hby at_161)
          refine gob st279 ?_
          have z280 : n0 ≤ h279.size := Nat.le_trans z277 (Keep.of_wr W279).1
          have N279 := Fr.snoc X279 N276 g249
          have V279 : Arv Z h279 b247 k247 .int (16 : Int32) [(.int 0), (.int 1), (.int 1), (.int 5), (.int 1), (.int 1), (.int 7), (.int 23), (.int 1), (.int 3), (.int 0), (.int 0), (.int 0), (.int 0), (.int 0), (.int 0)] (.int 0) := Arv.set Ar278 aq278 S278 N278 H278 G278 rfl W279 9 rfl (Nat.le_of_ble_eq_true rfl)
          show gO (tF T279 m 162 (la7 p0 p1 p2 p3 p4 2 b238 key_) [(.ref b247)])
          refine gob (fun _ k => XS.dup X279.here hx rfl (hb hby at_162) rfl rfl k) ?_
          show gO (tF T279 m 163 (la7 p0 p1 p2 p3 p4 2 b238 key_) [(.ref b247), (.ref b247)])
          refine gob (fun _ k => XS.bipush X279.here hx rfl (hb hby at_163) k) ?_
          show gO (tF T279 m 165 (la7 p0 p1 p2 p3 p4 2 b238 key_) [(.int 10), (.ref b247), (.ref b247)])
          refine gob (fun _ k => XS.iconst X279.here hx rfl (hb hby at_165) k) ?_
          show gO (tF T279 m 166 (la7 p0 p1 p2 p3 p4 2 b238 key_) [(.int 5), (.int 10), (.ref b247), (.ref b247)])
          obtain ⟨cl281, Ar281, aq281, S281, N281, H281, G281⟩ := id V279
          have hin281 : ¬ ((10 : Int32) < 0 ∨ cl281.slots.size ≤ ((10 : Int32)).toNatClampNeg) := inb_of S281 ⟨by decide, by decide⟩
          obtain ⟨T282, h282, X282, e282, W282, st282⟩ := stI X279 hx hZ e279 Ar281 (j := (10 : Int32)) hin281 (g := (mkF m 166 (la7 p0 p1 p2 p3 p4 2 b238 key_) [(.int 5), (.int 10), (.ref b247), (.ref b247)])) rfl rfl (hb hby at_166)
          refine gob st282 ?_
          have z283 : n0 ≤ h282.size := Nat.le_trans z280 (Keep.of_wr W282).1
          have N282 := Fr.snoc X282 N279 g249
          have V282 : Arv Z h282 b247 k247 .int (16 : Int32) [(.int 0), (.int 1), (.int 1), (.int 5), (.int 1), (.int 1), (.int 7), (.int 23), (.int 1), (.int 3), (.int 5), (.int 0), (.int 0), (.int 0), (.int 0), (.int 0)] (.int 0) := Arv.set Ar281 aq281 S281 N281 H281 G281 rfl W282 10 rfl (Nat.le_of_ble_eq_true rfl)
          show gO (tF T282 m 167 (la7 p0 p1 p2 p3 p4 2 b238 key_) [(.ref b247)])
          refine gob (fun _ k => XS.dup X282.here hx rfl (hb hby at_167) rfl rfl k) ?_
          show gO (tF T282 m 168 (la7 p0 p1 p2 p3 p4 2 b238 key_) [(.ref b247), (.ref b247)])
          refine gob (fun _ k => XS.bipush X282.here hx rfl (hb hby at_168) k) ?_
          show gO (tF T282 m 170 (la7 p0 p1 p2 p3 p4 2 b238 key_) [(.int 11), (.ref b247), (.ref b247)])
          refine gob (fun _ k => XS.bipush X282.here hx rfl (hb hby at_170) k) ?_
          show gO (tF T282 m 172 (la7 p0 p1 p2 p3 p4 2 b238 key_) [(.int 29), (.int 11), (.ref b247), (.ref b247)])
          obtain ⟨cl284, Ar284, aq284, S284, N284, H284, G284⟩ := id V282
          have hin284 : ¬ ((11 : Int32) < 0 ∨ cl284.slots.size ≤ ((11 : Int32)).toNatClampNeg) := inb_of S284 ⟨by decide, by decide⟩
          obtain ⟨T285, h285, X285, e285, W285, st285⟩ := stI X282 hx hZ e282 Ar284 (j := (11 : Int32)) hin284 (g := (mkF m 172 (la7 p0 p1 p2 p3 p4 2 b238 key_) [(.int 29), (.int 11), (.ref b247), (.ref b247)])) rfl rfl (hb hby at_172)
          refine gob st285 ?_
          have z286 : n0 ≤ h285.size := Nat.le_trans z283 (Keep.of_wr W285).1
          have N285 := Fr.snoc X285 N282 g249
          have V285 : Arv Z h285 b247 k247 .int (16 : Int32) [(.int 0), (.int 1), (.int 1), (.int 5), (.int 1), (.int 1), (.int 7), (.int 23), (.int 1), (.int 3), (.int 5), (.int 29), (.int 0), (.int 0), (.int 0), (.int 0)] (.int 0) := Arv.set Ar284 aq284 S284 N284 H284 G284 rfl W285 11 rfl (Nat.le_of_ble_eq_true rfl)
          show gO (tF T285 m 173 (la7 p0 p1 p2 p3 p4 2 b238 key_) [(.ref b247)])
          refine gob (fun _ k => XS.dup X285.here hx rfl (hb hby at_173) rfl rfl k) ?_
          show gO (tF T285 m 174 (la7 p0 p1 p2 p3 p4 2 b238 key_) [(.ref b247), (.ref b247)])
          refine gob (fun _ k => XS.bipush X285.here hx rfl (hb hby at_174) k) ?_
          show gO (tF T285 m 176 (la7 p0 p1 p2 p3 p4 2 b238 key_) [(.int 12), (.ref b247), (.ref b247)])
          refine gob (fun _ k => XS.iconst X285.here hx rfl (hb hby at_176) k) ?_
          show gO (tF T285 m 177 (la7 p0 p1 p2 p3 p4 2 b238 key_) [(.int 1), (.int 12), (.ref b247), (.ref b247)])
          obtain ⟨cl287, Ar287, aq287, S287, N287, H287, G287⟩ := id V285
          have hin287 : ¬ ((12 : Int32) < 0 ∨ cl287.slots.size ≤ ((12 : Int32)).toNatClampNeg) := inb_of S287 ⟨by decide, by decide⟩
          obtain ⟨T288, h288, X288, e288, W288, st288⟩ := stI X285 hx hZ e285 Ar287 (j := (12 : Int32)) hin287 (g := (mkF m 177 (la7 p0 p1 p2 p3 p4 2 b238 key_) [(.int 1), (.int 12), (.ref b247), (.ref b247)])) rfl rfl (hb hby at_177)
          refine gob st288 ?_
          have z289 : n0 ≤ h288.size := Nat.le_trans z286 (Keep.of_wr W288).1
          have N288 := Fr.snoc X288 N285 g249
          have V288 : Arv Z h288 b247 k247 .int (16 : Int32) [(.int 0), (.int 1), (.int 1), (.int 5), (.int 1), (.int 1), (.int 7), (.int 23), (.int 1), (.int 3), (.int 5), (.int 29), (.int 1), (.int 0), (.int 0), (.int 0)] (.int 0) := Arv.set Ar287 aq287 S287 N287 H287 G287 rfl W288 12 rfl (Nat.le_of_ble_eq_true rfl)
          show gO (tF T288 m 178 (la7 p0 p1 p2 p3 p4 2 b238 key_) [(.ref b247)])
          refine gob (fun _ k => XS.dup X288.here hx rfl (hb hby at_178) rfl rfl k) ?_
          show gO (tF T288 m 179 (la7 p0 p1 p2 p3 p4 2 b238 key_) [(.ref b247), (.ref b247)])
          refine gob (fun _ k => XS.bipush X288.here hx rfl (hb hby at_179) k) ?_
          show gO (tF T288 m 181 (la7 p0 p1 p2 p3 p4 2 b238 key_) [(.int 13), (.ref b247), (.ref b247)])
          refine gob (fun _ k => XS.bipush X288.here hx rfl (hb hby at_181) k) ?_
          show gO (tF T288 m 183 (la7 p0 p1 p2 p3 p4 2 b238 key_) [(.int 11), (.int 13), (.ref b247), (.ref b247)])
          obtain ⟨cl290, Ar290, aq290, S290, N290, H290, G290⟩ := id V288
          have hin290 : ¬ ((13 : Int32) < 0 ∨ cl290.slots.size ≤ ((13 : Int32)).toNatClampNeg) := inb_of S290 ⟨by decide, by decide⟩
          obtain ⟨T291, h291, X291, e291, W291, st291⟩ := stI X288 hx hZ e288 Ar290 (j := (13 : Int32)) hin290 (g := (mkF m 183 (la7 p0 p1 p2 p3 p4 2 b238 key_) [(.int 11), (.int 13), (.ref b247), (.ref b247)])) rfl rfl (hb hby at_183)
          refine gob st291 ?_
          have z292 : n0 ≤ h291.size := Nat.le_trans z289 (Keep.of_wr W291).1
          have N291 := Fr.snoc X291 N288 g249
          have V291 : Arv Z h291 b247 k247 .int (16 : Int32) [(.int 0), (.int 1), (.int 1), (.int 5), (.int 1), (.int 1), (.int 7), (.int 23), (.int 1), (.int 3), (.int 5), (.int 29), (.int 1), (.int 11), (.int 0), (.int 0)] (.int 0) := Arv.set Ar290 aq290 S290 N290 H290 G290 rfl W291 13 rfl (Nat.le_of_ble_eq_true rfl)
          show gO (tF T291 m 184 (la7 p0 p1 p2 p3 p4 2 b238 key_) [(.ref b247)])
          refine gob (fun _ k => XS.dup X291.here hx rfl (hb hby at_184) rfl rfl k) ?_
          show gO (tF T291 m 185 (la7 p0 p1 p2 p3 p4 2 b238 key_) [(.ref b247), (.ref b247)])
          refine gob (fun _ k => XS.bipush X291.here hx rfl (hb hby at_185) k) ?_
          show gO (tF T291 m 187 (la7 p0 p1 p2 p3 p4 2 b238 key_) [(.int 14), (.ref b247), (.ref b247)])
          refine gob (fun _ k => XS.iconst X291.here hx rfl (hb hby at_187) k) ?_
          show gO (tF T291 m 188 (la7 p0 p1 p2 p3 p4 2 b238 key_) [(.int 1), (.int 14), (.ref b247), (.ref b247)])
          obtain ⟨cl293, Ar293, aq293, S293, N293, H293, G293⟩ := id V291
          have hin293 : ¬ ((14 : Int32) < 0 ∨ cl293.slots.size ≤ ((14 : Int32)).toNatClampNeg) := inb_of S293 ⟨by decide, by decide⟩
          obtain ⟨T294, h294, X294, e294, W294, st294⟩ := stI X291 hx hZ e291 Ar293 (j := (14 : Int32)) hin293 (g := (mkF m 188 (la7 p0 p1 p2 p3 p4 2 b238 key_) [(.int 1), (.int 14), (.ref b247), (.ref b247)])) rfl rfl (hb hby at_188)
          refine gob st294 ?_
          have z295 : n0 ≤ h294.size := Nat.le_trans z292 (Keep.of_wr W294).1
          have N294 := Fr.snoc X294 N291 g249
          have V294 : Arv Z h294 b247 k247 .int (16 : Int32) [(.int 0), (.int 1), (.int 1), (.int 5), (.int 1), (.int 1), (.int 7), (.int 23), (.int 1), (.int 3), (.int 5), (.int 29), (.int 1), (.int 11), (.int 1), (.int 0)] (.int 0) := Arv.set Ar293 aq293 S293 N293 H293 G293 rfl W294 14 rfl (Nat.le_of_ble_eq_true rfl)
          show gO (tF T294 m 189 (la7 p0 p1 p2 p3 p4 2 b238 key_) [(.ref b247)])
          refine gob (fun _ k => XS.dup X294.here hx rfl (hb hby at_189) rfl rfl k) ?_
          show gO (tF T294 m 190 (la7 p0 p1 p2 p3 p4 2 b238 key_) [(.ref b247), (.ref b247)])
          refine gob (fun _ k => XS.bipush X294.here hx rfl (hb hby at_190) k) ?_
          show gO (tF T294 m 192 (la7 p0 p1 p2 p3 p4 2 b238 key_) [(.int 15), (.ref b247), (.ref b247)])
          refine gob (fun _ k => XS.iconst X294.here hx rfl (hb hby at_192) k) ?_
          show gO (tF T294 m 193 (la7 p0 p1 p2 p3 p4 2 b238 key_) [(.int 1), (.int 15), (.ref b247), (.ref b247)])
          obtain ⟨cl296, Ar296, aq296, S296, N296, H296, G296⟩ := id V294
          have hin296 : ¬ ((15 : Int32) < 0 ∨ cl296.slots.size ≤ ((15 : Int32)).toNatClampNeg) := inb_of S296 ⟨by decide, by decide⟩
          obtain ⟨T297, h297, X297, e297, W297, st297⟩ := stI X294 hx hZ e294 Ar296 (j := (15 : Int32)) hin296 (g := (mkF m 193 (la7 p0 p1 p2 p3 p4 2 b238 key_) [(.int 1), (.int 15), (.ref b247), (.ref b247)])) rfl rfl (hb hby at_193)
          refine gob st297 ?_
          have z298 : n0 ≤ h297.size := Nat.le_trans z295 (Keep.of_wr W297).1
          have N297 := Fr.snoc X297 N294 g249
          have V297 : Arv Z h297 b247 k247 .int (16 : Int32) [(.int 0), (.int 1), (.int 1), (.int 5), (.int 1), (.int 1), (.int 7), (.int 23), (.int 1), (.int 3), (.int 5), (.int 29), (.int 1), (.int 11), (.int 1), (.int 1)] (.int 0) := Arv.set Ar296 aq296 S296 N296 H296 G296 rfl W297 15 rfl (Nat.le_of_ble_eq_true rfl)
          show gO (tF T297 m 194 (la7 p0 p1 p2 p3 p4 2 b238 key_) [(.ref b247)])
          refine gob (fun _ k => XS.astore X297.here hx rfl (hb hby at_194) rfl rfl (l' := (la9 p0 p1 p2 p3 p4 2 b238 key_ b247)) rfl k) ?_
          show gO (tF T297 m 196 (la9 p0 p1 p2 p3 p4 2 b238 key_ b247) [])
          refine gob (fun _ k => XS.bipush X297.here hx rfl (hb hby at_196) k) ?_
          show gO (tF T297 m 198 (la9 p0 p1 p2 p3 p4 2 b238 key_ b247) [(.int 16)])
          obtain ⟨T299, h299, k299, X299, e299, E299, A299, st299⟩ := newP X297 hx hZ (hW hw 1 rfl) e297 (g := (mkF m 198 (la9 p0 p1 p2 p3 p4 2 b238 key_ b247) [(.int 16)])) rfl (hb hby at_198) rfl (by decide) (cap := 16) (by decide) (by decide) (by decide) (by decide)
          obtain ⟨b299, g299⟩ : ∃ z, z = h297.size := ⟨_, rfl⟩
          rw [← g299] at A299 st299
          have c300 := (((((((((((((((((V245.ext E247).other W252 n248).other W255 n248).other W258 n248).other W261 n248).other W264 n248).other W267 n248).other W270 n248).other W273 n248).other W276 n248).other W279 n248).other W282 n248).other W285 n248).other W288 n248).other W291 n248).other W294 n248).other W297 n248)
          have n301 : b238 ≠ b299 := Nat.ne_of_lt (Nat.lt_of_lt_of_le c300.lt (Nat.le_of_eq g299.symm))
          have n302 : b247 ≠ b299 := Nat.ne_of_lt (Nat.lt_of_lt_of_le V297.lt (Nat.le_of_eq g299.symm))
          have g303 : n0 ≤ b299 := Nat.le_trans z298 (Nat.le_of_eq g299.symm)
          have z304 : n0 ≤ h299.size := Nat.le_trans z298 E299.1
          have V299 : Arv Z h299 b299 k299 .int (16 : Int32) [(.int 0), (.int 0), (.int 0), (.int 0), (.int 0), (.int 0), (.int 0), (.int 0), (.int 0), (.int 0), (.int 0), (.int 0), (.int 0), (.int 0), (.int 0), (.int 0)] (.int 0) := (Arv.new A299 (by decide)).pad (pad_rep [] (.int 0) 16)
          refine gob st299 ?_
          replace X299 := castX X299 (rfl : _ = 3) (rfl : _ = 34)
          show gO (tF T299 m 200 (la9 p0 p1 p2 p3 p4 2 b238 key_ b247) [(.ref b299)])
          refine gob (fun _ k => XS.dup X299.here hx rfl (hb hby at_200) rfl rfl k) ?_
          show gO (tF T299 m 201 (la9 p0 p1 p2 p3 p4 2 b238 key_ b247) [(.ref b299), (.ref b299)])
          refine gob (fun _ k => XS.iconst X299.here hx rfl (hb hby at_201) k) ?_
          show gO (tF T299 m 202 (la9 p0 p1 p2 p3 p4 2 b238 key_ b247) [(.int 0), (.ref b299), (.ref b299)])
          refine gob (fun _ k => XS.iconst X299.here hx rfl (hb hby at_202) k) ?_
          show gO (tF T299 m 203 (la9 p0 p1 p2 p3 p4 2 b238 key_ b247) [(.int 1), (.int 0), (.ref b299), (.ref b299)])
          obtain ⟨cl305, Ar305, aq305, S305, N305, H305, G305⟩ := id V299
          have hin305 : ¬ ((0 : Int32) < 0 ∨ cl305.slots.size ≤ ((0 : Int32)).toNatClampNeg) := inb_of S305 ⟨by decide, by decide⟩
          obtain ⟨T306, h306, X306, e306, W306, st306⟩ := stI X299 hx hZ e299 Ar305 (j := (0 : Int32)) hin305 (g := (mkF m 203 (la9 p0 p1 p2 p3 p4 2 b238 key_ b247) [(.int 1), (.int 0), (.ref b299), (.ref b299)])) rfl rfl (hb hby at_203)
          refine gob st306 ?_
          have z307 : n0 ≤ h306.size := Nat.le_trans z304 (Keep.of_wr W306).1
          have N306 := Fr.snoc X306 N297 g303
          have V306 : Arv Z h306 b299 k299 .int (16 : Int32) [(.int 1), (.int 0), (.int 0), (.int 0), (.int 0), (.int 0), (.int 0), (.int 0), (.int 0), (.int 0), (.int 0), (.int 0), (.int 0), (.int 0), (.int 0), (.int 0)] (.int 0) := Arv.set Ar305 aq305 S305 N305 H305 G305 rfl W306 0 rfl (Nat.le_of_ble_eq_true rfl)
          show gO (tF T306 m 204 (la9 p0 p1 p2 p3 p4 2 b238 key_ b247) [(.ref b299)])
          refine gob (fun _ k => XS.dup X306.here hx rfl (hb hby at_204) rfl rfl k) ?_
          show gO (tF T306 m 205 (la9 p0 p1 p2 p3 p4 2 b238 key_ b247) [(.ref b299), (.ref b299)])
          refine gob (fun _ k => XS.iconst X306.here hx rfl (hb hby at_205) k) ?_
          show gO (tF T306 m 206 (la9 p0 p1 p2 p3 p4 2 b238 key_ b247) [(.int 1), (.ref b299), (.ref b299)])
          refine gob (fun _ k => XS.iconst X306.here hx rfl (hb hby at_206) k) ?_
          show gO (tF T306 m 207 (la9 p0 p1 p2 p3 p4 2 b238 key_ b247) [(.int 4), (.int 1), (.ref b299), (.ref b299)])
          obtain ⟨cl308, Ar308, aq308, S308, N308, H308, G308⟩ := id V306
          have hin308 : ¬ ((1 : Int32) < 0 ∨ cl308.slots.size ≤ ((1 : Int32)).toNatClampNeg) := inb_of S308 ⟨by decide, by decide⟩
          obtain ⟨T309, h309, X309, e309, W309, st309⟩ := stI X306 hx hZ e306 Ar308 (j := (1 : Int32)) hin308 (g := (mkF m 207 (la9 p0 p1 p2 p3 p4 2 b238 key_ b247) [(.int 4), (.int 1), (.ref b299), (.ref b299)])) rfl rfl (hb hby at_207)
          refine gob st309 ?_
          have z310 : n0 ≤ h309.size := Nat.le_trans z307 (Keep.of_wr W309).1
          have N309 := Fr.snoc X309 N306 g303
          have V309 : Arv Z h309 b299 k299 .int (16 : Int32) [(.int 1), (.int 4), (.int 0), (.int 0), (.int 0), (.int 0), (.int 0), (.int 0), (.int 0), (.int 0), (.int 0), (.int 0), (.int 0), (.int 0), (.int 0), (.int 0)] (.int 0) := Arv.set Ar308 aq308 S308 N308 H308 G308 rfl W309 1 rfl (Nat.le_of_ble_eq_true rfl)
          show gO (tF T309 m 208 (la9 p0 p1 p2 p3 p4 2 b238 key_ b247) [(.ref b299)])
          refine gob (fun _ k => XS.dup X309.here hx rfl (hb hby at_208) rfl rfl k) ?_
          show gO (tF T309 m 209 (la9 p0 p1 p2 p3 p4 2 b238 key_ b247) [(.ref b299), (.ref b299)])
          refine gob (fun _ k => XS.iconst X309.here hx rfl (hb hby at_209) k) ?_
          show gO (tF T309 m 210 (la9 p0 p1 p2 p3 p4 2 b238 key_ b247) [(.int 2), (.ref b299), (.ref b299)])
          refine gob (fun _ k => XS.iconst X309.here hx rfl (hb hby at_210) k) ?_
          show gO (tF T309 m 211 (la9 p0 p1 p2 p3 p4 2 b238 key_ b247) [(.int 3), (.int 2), (.ref b299), (.ref b299)])
          obtain ⟨cl311, Ar311, aq311, S311, N311, H311, G311⟩ := id V309
          have hin311 : ¬ ((2 : Int32) < 0 ∨ cl311.slots.size ≤ ((2 : Int32)).toNatClampNeg) := inb_of S311 ⟨by decide, by decide⟩
          obtain ⟨T312, h312, X312, e312, W312, st312⟩ := stI X309 hx hZ e309 Ar311 (j := (2 : Int32)) hin311 (g := (mkF m 211 (la9 p0 p1 p2 p3 p4 2 b238 key_ b247) [(.int 3), (.int 2), (.ref b299), (.ref b299)])) rfl rfl (hb hby at_211)
          refine gob st312 ?_
          have z313 : n0 ≤ h312.size := Nat.le_trans z310 (Keep.of_wr W312).1
          have N312 := Fr.snoc X312 N309 g303
          have V312 : Arv Z h312 b299 k299 .int (16 : Int32) [(.int 1), (.int 4), (.int 3), (.int 0), (.int 0), (.int 0), (.int 0), (.int 0), (.int 0), (.int 0), (.int 0), (.int 0), (.int 0), (.int 0), (.int 0), (.int 0)] (.int 0) := Arv.set Ar311 aq311 S311 N311 H311 G311 rfl W312 2 rfl (Nat.le_of_ble_eq_true rfl)
          show gO (tF T312 m 212 (la9 p0 p1 p2 p3 p4 2 b238 key_ b247) [(.ref b299)])
          refine gob (fun _ k => XS.dup X312.here hx rfl (hb hby at_212) rfl rfl k) ?_
          show gO (tF T312 m 213 (la9 p0 p1 p2 p3 p4 2 b238 key_ b247) [(.ref b299), (.ref b299)])
          refine gob (fun _ k => XS.iconst X312.here hx rfl (hb hby at_213) k) ?_
          show gO (tF T312 m 214 (la9 p0 p1 p2 p3 p4 2 b238 key_ b247) [(.int 3), (.ref b299), (.ref b299)])
          refine gob (fun _ k => XS.bipush X312.here hx rfl (hb hby at_214) k) ?_
          show gO (tF T312 m 216 (la9 p0 p1 p2 p3 p4 2 b238 key_ b247) [(.int 12), (.int 3), (.ref b299), (.ref b299)])
          obtain ⟨cl314, Ar314, aq314, S314, N314, H314, G314⟩ := id V312
          have hin314 : ¬ ((3 : Int32) < 0 ∨ cl314.slots.size ≤ ((3 : Int32)).toNatClampNeg) := inb_of S314 ⟨by decide, by decide⟩
          obtain ⟨T315, h315, X315, e315, W315, st315⟩ := stI X312 hx hZ e312 Ar314 (j := (3 : Int32)) hin314 (g := (mkF m 216 (la9 p0 p1 p2 p3 p4 2 b238 key_ b247) [(.int 12), (.int 3), (.ref b299), (.ref b299)])) rfl rfl (hb hby at_216)
          refine gob st315 ?_
          have z316 : n0 ≤ h315.size := Nat.le_trans z313 (Keep.of_wr W315).1
          have N315 := Fr.snoc X315 N312 g303
          have V315 : Arv Z h315 b299 k299 .int (16 : Int32) [(.int 1), (.int 4), (.int 3), (.int 12), (.int 0), (.int 0), (.int 0), (.int 0), (.int 0), (.int 0), (.int 0), (.int 0), (.int 0), (.int 0), (.int 0), (.int 0)] (.int 0) := Arv.set Ar314 aq314 S314 N314 H314 G314 rfl W315 3 rfl (Nat.le_of_ble_eq_true rfl)
          show gO (tF T315 m 217 (la9 p0 p1 p2 p3 p4 2 b238 key_ b247) [(.ref b299)])
          refine gob (fun _ k => XS.dup X315.here hx rfl (hb hby at_217) rfl rfl k) ?_
          show gO (tF T315 m 218 (la9 p0 p1 p2 p3 p4 2 b238 key_ b247) [(.ref b299), (.ref b299)])
          refine gob (fun _ k => XS.iconst X315.here hx rfl (hb hby at_218) k) ?_
          show gO (tF T315 m 219 (la9 p0 p1 p2 p3 p4 2 b238 key_ b247) [(.int 4), (.ref b299), (.ref b299)])
          refine gob (fun _ k => XS.iconst X315.here hx rfl (hb hby at_219) k) ?_
          show gO (tF T315 m 220 (la9 p0 p1 p2 p3 p4 2 b238 key_ b247) [(.int 2), (.int 4), (.ref b299), (.ref b299)])
          obtain ⟨cl317, Ar317, aq317, S317, N317, H317, G317⟩ := id V315
          have hin317 : ¬ ((4 : Int32) < 0 ∨ cl317.slots.size ≤ ((4 : Int32)).toNatClampNeg) := inb_of S317 ⟨by decide, by decide⟩
          obtain ⟨T318, h318, X318, e318, W318, st318⟩ := stI X315 hx hZ e315 Ar317 (j := (4 : Int32)) hin317 (g := (mkF m 220 (la9 p0 p1 p2 p3 p4 2 b238 key_ b247) [(.int 2), (.int 4), (.ref b299), (.ref b299)])) rfl rfl (hb hby at_220)
          refine gob st318 ?_
          have z319 : n0 ≤ h318.size := Nat.le_trans z316 (Keep.of_wr W318).1
          have N318 := Fr.snoc X318 N315 g303
          have V318 : Arv Z h318 b299 k299 .int (16 : Int32) [(.int 1), (.int 4), (.int 3), (.int 12), (.int 2), (.int 0), (.int 0), (.int 0), (.int 0), (.int 0), (.int 0), (.int 0), (.int 0), (.int 0), (.int 0), (.int 0)] (.int 0) := Arv.set Ar317 aq317 S317 N317 H317 G317 rfl W318 4 rfl (Nat.le_of_ble_eq_true rfl)
          show gO (tF T318 m 221 (la9 p0 p1 p2 p3 p4 2 b238 key_ b247) [(.ref b299)])
          refine gob (fun _ k => XS.dup X318.here hx rfl (hb hby at_221) rfl rfl k) ?_
          show gO (tF T318 m 222 (la9 p0 p1 p2 p3 p4 2 b238 key_ b247) [(.ref b299), (.ref b299)])
          refine gob (fun _ k => XS.iconst X318.here hx rfl (hb hby at_222) k) ?_
          show gO (tF T318 m 223 (la9 p0 p1 p2 p3 p4 2 b238 key_ b247) [(.int 5), (.ref b299), (.ref b299)])
          refine gob (fun _ k => XS.iconst X318.here hx rfl (hb hby at_223) k) ?_
          show gO (tF T318 m 224 (la9 p0 p1 p2 p3 p4 2 b238 key_ b247) [(.int 2), (.int 5), (.ref b299), (.ref b299)])
          obtain ⟨cl320, Ar320, aq320, S320, N320, H320, G320⟩ := id V318
          have hin320 : ¬ ((5 : Int32) < 0 ∨ cl320.slots.size ≤ ((5 : Int32)).toNatClampNeg) := inb_of S320 ⟨by decide, by decide⟩
          obtain ⟨T321, h321, X321, e321, W321, st321⟩ := stI X318 hx hZ e318 Ar320 (j := (5 : Int32)) hin320 (g := (mkF m 224 (la9 p0 p1 p2 p3 p4 2 b238 key_ b247) [(.int 2), (.int 5), (.ref b299), (.ref b299)])) rfl rfl (hb hby at_224)
          refine gob st321 ?_
          have z322 : n0 ≤ h321.size := Nat.le_trans z319 (Keep.of_wr W321).1
          have N321 := Fr.snoc X321 N318 g303
          have V321 : Arv Z h321 b299 k299 .int (16 : Int32) [(.int 1), (.int 4), (.int 3), (.int 12), (.int 2), (.int 2), (.int 0), (.int 0), (.int 0), (.int 0), (.int 0), (.int 0), (.int 0), (.int 0), (.int 0), (.int 0)] (.int 0) := Arv.set Ar320 aq320 S320 N320 H320 G320 rfl W321 5 rfl (Nat.le_of_ble_eq_true rfl)
          show gO (tF T321 m 225 (la9 p0 p1 p2 p3 p4 2 b238 key_ b247) [(.ref b299)])
          refine gob (fun _ k => XS.dup X321.here hx rfl (hb hby at_225) rfl rfl k) ?_
          show gO (tF T321 m 226 (la9 p0 p1 p2 p3 p4 2 b238 key_ b247) [(.ref b299), (.ref b299)])
          refine gob (fun _ k => XS.bipush X321.here hx rfl (hb hby at_226) k) ?_
          show gO (tF T321 m 228 (la9 p0 p1 p2 p3 p4 2 b238 key_ b247) [(.int 6), (.ref b299), (.ref b299)])
          refine gob (fun _ k => XS.bipush X321.here hx rfl (hb hby at_228) k) ?_
          show gO (tF T321 m 230 (la9 p0 p1 p2 p3 p4 2 b238 key_ b247) [(.int 12), (.int 6), (.ref b299), (.ref b299)])
          obtain ⟨cl323, Ar323, aq323, S323, N323, H323, G323⟩ := id V321
          have hin323 : ¬ ((6 : Int32) < 0 ∨ cl323.slots.size ≤ ((6 : Int32)).toNatClampNeg) := inb_of S323 ⟨by decide, by decide⟩
          obtain ⟨T324, h324, X324, e324, W324, st324⟩ := stI X321 hx hZ e321 Ar323 (j := (6 : Int32)) hin323 (g := (mkF m 230 (la9 p0 p1 p2 p3 p4 2 b238 key_ b247) [(.int 12), (.int 6), (.ref b299), (.ref b299)])) rfl rfl (hb hby at_230)
          refine gob st324 ?_
          have z325 : n0 ≤ h324.size := Nat.le_trans z322 (Keep.of_wr W324).1
          have N324 := Fr.snoc X324 N321 g303
          have V324 : Arv Z h324 b299 k299 .int (16 : Int32) [(.int 1), (.int 4), (.int 3), (.int 12), (.int 2), (.int 2), (.int 12), (.int 0), (.int 0), (.int 0), (.int 0), (.int 0), (.int 0), (.int 0), (.int 0), (.int 0)] (.int 0) := Arv.set Ar323 aq323 S323 N323 H323 G323 rfl W324 6 rfl (Nat.le_of_ble_eq_true rfl)
          show gO (tF T324 m 231 (la9 p0 p1 p2 p3 p4 2 b238 key_ b247) [(.ref b299)])
          refine gob (fun _ k => XS.dup X324.here hx rfl (hb hby at_231) rfl rfl k) ?_
          show gO (tF T324 m 232 (la9 p0 p1 p2 p3 p4 2 b238 key_ b247) [(.ref b299), (.ref b299)])
          refine gob (fun _ k => XS.bipush X324.here hx rfl (hb hby at_232) k) ?_
          show gO (tF T324 m 234 (la9 p0 p1 p2 p3 p4 2 b238 key_ b247) [(.int 7), (.ref b299), (.ref b299)])
          refine gob (fun _ k => XS.bipush X324.here hx rfl (hb hby at_234) k) ?_
          show gO (tF T324 m 236 (la9 p0 p1 p2 p3 p4 2 b238 key_ b247) [(.int 36), (.int 7), (.ref b299), (.ref b299)])
          obtain ⟨cl326, Ar326, aq326, S326, N326, H326, G326⟩ := id V324
          have hin326 : ¬ ((7 : Int32) < 0 ∨ cl326.slots.size ≤ ((7 : Int32)).toNatClampNeg) := inb_of S326 ⟨by decide, by decide⟩
          obtain ⟨T327, h327, X327, e327, W327, st327⟩ := stI X324 hx hZ e324 Ar326 (j := (7 : Int32)) hin326 (g := (mkF m 236 (la9 p0 p1 p2 p3 p4 2 b238 key_ b247) [(.int 36), (.int 7), (.ref b299), (.ref b299)])) rfl rfl (hb hby at_236)
          refine gob st327 ?_
          have z328 : n0 ≤ h327.size := Nat.le_trans z325 (Keep.of_wr W327).1
          have N327 := Fr.snoc X327 N324 g303
          have V327 : Arv Z h327 b299 k299 .int (16 : Int32) [(.int 1), (.int 4), (.int 3), (.int 12), (.int 2), (.int 2), (.int 12), (.int 36), (.int 0), (.int 0), (.int 0), (.int 0), (.int 0), (.int 0), (.int 0), (.int 0)] (.int 0) := Arv.set Ar326 aq326 S326 N326 H326 G326 rfl W327 7 rfl (Nat.le_of_ble_eq_true rfl)
          show gO (tF T327 m 237 (la9 p0 p1 p2 p3 p4 2 b238 key_ b247) [(.ref b299)])
          refine gob (fun _ k => XS.dup X327.here hx rfl (hb hby at_237) rfl rfl k) ?_
          show gO (tF T327 m 238 (la9 p0 p1 p2 p3 p4 2 b238 key_ b247) [(.ref b299), (.ref b299)])
          refine gob (fun _ k => XS.bipush X327.here hx rfl (hb hby at_238) k) ?_
          show gO (tF T327 m 240 (la9 p0 p1 p2 p3 p4 2 b238 key_ b247) [(.int 8), (.ref b299), (.ref b299)])
          refine gob (fun _ k => XS.iconst X327.here hx rfl (hb hby at_240) k) ?_
          show gO (tF T327 m 241 (la9 p0 p1 p2 p3 p4 2 b238 key_ b247) [(.int 1), (.int 8), (.ref b299), (.ref b299)])
          obtain ⟨cl329, Ar329, aq329, S329, N329, H329, G329⟩ := id V327
          have hin329 : ¬ ((8 : Int32) < 0 ∨ cl329.slots.size ≤ ((8 : Int32)).toNatClampNeg) := inb_of S329 ⟨by decide, by decide⟩
          obtain ⟨T330, h330, X330, e330, W330, st330⟩ := stI X327 hx hZ e327 Ar329 (j := (8 : Int32)) hin329 (g := (mkF m 241 (la9 p0 p1 p2 p3 p4 2 b238 key_ b247) [(.int 1), (.int 8), (.ref b299), (.ref b299)])) rfl rfl (hb hby at_241)
          refine gob st330 ?_
          have z331 : n0 ≤ h330.size := Nat.le_trans z328 (Keep.of_wr W330).1
          have N330 := Fr.snoc X330 N327 g303
          have V330 : Arv Z h330 b299 k299 .int (16 : Int32) [(.int 1), (.int 4), (.int 3), (.int 12), (.int 2), (.int 2), (.int 12), (.int 36), (.int 1), (.int 0), (.int 0), (.int 0), (.int 0), (.int 0), (.int 0), (.int 0)] (.int 0) := Arv.set Ar329 aq329 S329 N329 H329 G329 rfl W330 8 rfl (Nat.le_of_ble_eq_true rfl)
          show gO (tF T330 m 242 (la9 p0 p1 p2 p3 p4 2 b238 key_ b247) [(.ref b299)])
          refine gob (fun _ k => XS.dup X330.here hx rfl (hb hby at_242) rfl rfl k) ?_
          show gO (tF T330 m 243 (la9 p0 p1 p2 p3 p4 2 b238 key_ b247) [(.ref b299), (.ref b299)])
          refine gob (fun _ k => XS.bipush X330.here hx rfl (hb hby at_243) k) ?_
          show gO (tF T330 m 245 (la9 p0 p1 p2 p3 p4 2 b238 key_ b247) [(.int 9), (.ref b299), (.ref b299)])
          refine gob (fun _ k => XS.iconst X330.here hx rfl (hb hby at_245) k) ?_
          show gO (tF T330 m 246 (la9 p0 p1 p2 p3 p4 2 b238 key_ b247) [(.int 4), (.int 9), (.ref b299), (.ref b299)])
          obtain ⟨cl332, Ar332, aq332, S332, N332, H332, G332⟩ := id V330
          have hin332 : ¬ ((9 : Int32) < 0 ∨ cl332.slots.size ≤ ((9 : Int32)).toNatClampNeg) := inb_of S332 ⟨by decide, by decide⟩
          obtain ⟨T333, h333, X333, e333, W333, st333⟩ := stI X330 hx hZ e330 Ar332 (j := (9 : Int32)) hin332 (g := (mkF m 246 (la9 p0 p1 p2 p3 p4 2 b238 key_ b247) [(.int 4), (.int 9), (.ref b299), (.ref b299)])) rfl rfl (hb hby at_246)
          refine gob st333 ?_
          have z334 : n0 ≤ h333.size := Nat.le_trans z331 (Keep.of_wr W333).1
          have N333 := Fr.snoc X333 N330 g303
          have V333 : Arv Z h333 b299 k299 .int (16 : Int32) [(.int 1), (.int 4), (.int 3), (.int 12), (.int 2), (.int 2), (.int 12), (.int 36), (.int 1), (.int 4), (.int 0), (.int 0), (.int 0), (.int 0), (.int 0), (.int 0)] (.int 0) := Arv.set Ar332 aq332 S332 N332 H332 G332 rfl W333 9 rfl (Nat.le_of_ble_eq_true rfl)
          show gO (tF T333 m 247 (la9 p0 p1 p2 p3 p4 2 b238 key_ b247) [(.ref b299)])
          refine gob (fun _ k => XS.dup X333.here hx rfl (hb hby at_247) rfl rfl k) ?_
          show gO (tF T333 m 248 (la9 p0 p1 p2 p3 p4 2 b238 key_ b247) [(.ref b299), (.ref b299)])
          refine gob (fun _ k => XS.bipush X333.here hx rfl (hb hby at_248) k) ?_
          show gO (tF T333 m 250 (la9 p0 p1 p2 p3 p4 2 b238 key_ b247) [(.int 10), (.ref b299), (.ref b299)])
          refine gob (fun _ k => XS.bipush X333.here hx rfl (hb hby at_250) k) ?_
          show gO (tF T333 m 252 (la9 p0 p1 p2 p3 p4 2 b238 key_ b247) [(.int 6), (.int 10), (.ref b299), (.ref b299)])
          obtain ⟨cl335, Ar335, aq335, S335, N335, H335, G335⟩ := id V333
          have hin335 : ¬ ((10 : Int32) < 0 ∨ cl335.slots.size ≤ ((10 : Int32)).toNatClampNeg) := inb_of S335 ⟨by decide, by decide⟩
          obtain ⟨T336, h336, X336, e336, W336, st336⟩ := stI X333 hx hZ e333 Ar335 (j := (10 : Int32)) hin335 (g := (mkF m 252 (la9 p0 p1 p2 p3 p4 2 b238 key_ b247) [(.int 6), (.int 10), (.ref b299), (.ref b299)])) rfl rfl (hb hby at_252)
          refine gob st336 ?_
          have z337 : n0 ≤ h336.size := Nat.le_trans z334 (Keep.of_wr W336).1
          have N336 := Fr.snoc X336 N333 g303
          have V336 : Arv Z h336 b299 k299 .int (16 : Int32) [(.int 1), (.int 4), (.int 3), (.int 12), (.int 2), (.int 2), (.int 12), (.int 36), (.int 1), (.int 4), (.int 6), (.int 0), (.int 0), (.int 0), (.int 0), (.int 0)] (.int 0) := Arv.set Ar335 aq335 S335 N335 H335 G335 rfl W336 10 rfl (Nat.le_of_ble_eq_true rfl)
          show gO (tF T336 m 253 (la9 p0 p1 p2 p3 p4 2 b238 key_ b247) [(.ref b299)])
          refine gob (fun _ k => XS.dup X336.here hx rfl (hb hby at_253) rfl rfl k) ?_
          show gO (tF T336 m 254 (la9 p0 p1 p2 p3 p4 2 b238 key_ b247) [(.ref b299), (.ref b299)])
          refine gob (fun _ k => XS.bipush X336.here hx rfl (hb hby at_254) k) ?_
          show gO (tF T336 m 256 (la9 p0 p1 p2 p3 p4 2 b238 key_ b247) [(.int 11), (.ref b299), (.ref b299)])
          refine gob (fun _ k => XS.bipush X336.here hx rfl (hb hby at_256) k) ?_
          show gO (tF T336 m 258 (la9 p0 p1 p2 p3 p4 2 b238 key_ b247) [(.int 36), (.int 11), (.ref b299), (.ref b299)])
          obtain ⟨cl338, Ar338, aq338, S338, N338, H338, G338⟩ := id V336
          have hin338 : ¬ ((11 : Int32) < 0 ∨ cl338.slots.size ≤ ((11 : Int32)).toNatClampNeg) := inb_of S338 ⟨by decide, by decide⟩
          obtain ⟨T339, h339, X339, e339, W339, st339⟩ := stI X336 hx hZ e336 Ar338 (j := (11 : Int32)) hin338 (g := (mkF m 258 (la9 p0 p1 p2 p3 p4 2 b238 key_ b247) [(.int 36), (.int 11), (.ref b299), (.ref b299)])) rfl rfl (hb hby at_258)
          refine gob st339 ?_
          have z340 : n0 ≤ h339.size := Nat.le_trans z337 (Keep.of_wr W339).1
          have N339 := Fr.snoc X339 N336 g303
          have V339 : Arv Z h339 b299 k299 .int (16 : Int32) [(.int 1), (.int 4), (.int 3), (.int 12), (.int 2), (.int 2), (.int 12), (.int 36), (.int 1), (.int 4), (.int 6), (.int 36), (.int 0), (.int 0), (.int 0), (.int 0)] (.int 0) := Arv.set Ar338 aq338 S338 N338 H338 G338 rfl W339 11 rfl (Nat.le_of_ble_eq_true rfl)
          show gO (tF T339 m 259 (la9 p0 p1 p2 p3 p4 2 b238 key_ b247) [(.ref b299)])
          refine gob (fun _ k => XS.dup X339.here hx rfl (hb hby at_259) rfl rfl k) ?_
          show gO (tF T339 m 260 (la9 p0 p1 p2 p3 p4 2 b238 key_ b247) [(.ref b299), (.ref b299)])
          refine gob (fun _ k => XS.bipush X339.here hx rfl (hb hby at_260) k) ?_
          show gO (tF T339 m 262 (la9 p0 p1 p2 p3 p4 2 b238 key_ b247) [(.int 12), (.ref b299), (.ref b299)])
          refine gob (fun _ k => XS.iconst X339.here hx rfl (hb hby at_262) k) ?_
          show gO (tF T339 m 263 (la9 p0 p1 p2 p3 p4 2 b238 key_ b247) [(.int 1), (.int 12), (.ref b299), (.ref b299)])
          obtain ⟨cl341, Ar341, aq341, S341, N341, H341, G341⟩ := id V339
          have hin341 : ¬ ((12 : Int32) < 0 ∨ cl341.slots.size ≤ ((12 : Int32)).toNatClampNeg) := inb_of S341 ⟨by decide, by decide⟩
          obtain ⟨T342, h342, X342, e342, W342, st342⟩ := stI X339 hx hZ e339 Ar341 (j := (12 : Int32)) hin341 (g := (mkF m 263 (la9 p0 p1 p2 p3 p4 2 b238 key_ b247) [(.int 1), (.int 12), (.ref b299), (.ref b299)])) rfl rfl (hb hby at_263)
          refine gob st342 ?_
          have z343 : n0 ≤ h342.size := Nat.le_trans z340 (Keep.of_wr W342).1
          have N342 := Fr.snoc X342 N339 g303
          have V342 : Arv Z h342 b299 k299 .int (16 : Int32) [(.int 1), (.int 4), (.int 3), (.int 12), (.int 2), (.int 2), (.int 12), (.int 36), (.int 1), (.int 4), (.int 6), (.int 36), (.int 1), (.int 0), (.int 0), (.int 0)] (.int 0) := Arv.set Ar341 aq341 S341 N341 H341 G341 rfl W342 12 rfl (Nat.le_of_ble_eq_true rfl)
          show gO (tF T342 m 264 (la9 p0 p1 p2 p3 p4 2 b238 key_ b247) [(.ref b299)])
          refine gob (fun _ k => XS.dup X342.here hx rfl (hb hby at_264) rfl rfl k) ?_
          show gO (tF T342 m 265 (la9 p0 p1 p2 p3 p4 2 b238 key_ b247) [(.ref b299), (.ref b299)])
          refine gob (fun _ k => XS.bipush X342.here hx rfl (hb hby at_265) k) ?_
          show gO (tF T342 m 267 (la9 p0 p1 p2 p3 p4 2 b238 key_ b247) [(.int 13), (.ref b299), (.ref b299)])
          refine gob (fun _ k => XS.bipush X342.here hx rfl (hb hby at_267) k) ?_
          show gO (tF T342 m 269 (la9 p0 p1 p2 p3 p4 2 b238 key_ b247) [(.int 12), (.int 13), (.ref b299), (.ref b299)])
          obtain ⟨cl344, Ar344, aq344, S344, N344, H344, G344⟩ := id V342
          have hin344 : ¬ ((13 : Int32) < 0 ∨ cl344.slots.size ≤ ((13 : Int32)).toNatClampNeg) := inb_of S344 ⟨by decide, by decide⟩
          obtain ⟨T345, h345, X345, e345, W345, st345⟩ := stI X342 hx hZ e342 Ar344 (j := (13 : Int32)) hin344 (g := (mkF m 269 (la9 p0 p1 p2 p3 p4 2 b238 key_ b247) [(.int 12), (.int 13), (.ref b299), (.ref b299)])) rfl rfl (hb hby at_269)
          refine gob st345 ?_
          have z346 : n0 ≤ h345.size := Nat.le_trans z343 (Keep.of_wr W345).1
          have N345 := Fr.snoc X345 N342 g303
          have V345 : Arv Z h345 b299 k299 .int (16 : Int32) [(.int 1), (.int 4), (.int 3), (.int 12), (.int 2), (.int 2), (.int 12), (.int 36), (.int 1), (.int 4), (.int 6), (.int 36), (.int 1), (.int 12), (.int 0), (.int 0)] (.int 0) := Arv.set Ar344 aq344 S344 N344 H344 G344 rfl W345 13 rfl (Nat.le_of_ble_eq_true rfl)
          show gO (tF T345 m 270 (la9 p0 p1 p2 p3 p4 2 b238 key_ b247) [(.ref b299)])
          refine gob (fun _ k => XS.dup X345.here hx rfl (hb hby at_270) rfl rfl k) ?_
          show gO (tF T345 m 271 (la9 p0 p1 p2 p3 p4 2 b238 key_ b247) [(.ref b299), (.ref b299)])
          refine gob (fun _ k => XS.bipush X345.here hx rfl (hb hby at_271) k) ?_
          show gO (tF T345 m 273 (la9 p0 p1 p2 p3 p4 2 b238 key_ b247) [(.int 14), (.ref b299), (.ref b299)])
          refine gob (fun _ k => XS.iconst X345.here hx rfl (hb hby at_273) k) ?_
          show gO (tF T345 m 274 (la9 p0 p1 p2 p3 p4 2 b238 key_ b247) [(.int 1), (.int 14), (.ref b299), (.ref b299)])
          obtain ⟨cl347, Ar347, aq347, S347, N347, H347, G347⟩ := id V345
          have hin347 : ¬ ((14 : Int32) < 0 ∨ cl347.slots.size ≤ ((14 : Int32)).toNatClampNeg) := inb_of S347 ⟨by decide, by decide⟩
          obtain ⟨T348, h348, X348, e348, W348, st348⟩ := stI X345 hx hZ e345 Ar347 (j := (14 : Int32)) hin347 (g := (mkF m 274 (la9 p0 p1 p2 p3 p4 2 b238 key_ b247) [(.int 1), (.int 14), (.ref b299), (.ref b299)])) rfl rfl (hb hby at_274)
          refine gob st348 ?_
          have z349 : n0 ≤ h348.size := Nat.le_trans z346 (Keep.of_wr W348).1
          have N348 := Fr.snoc X348 N345 g303
          have V348 : Arv Z h348 b299 k299 .int (16 : Int32) [(.int 1), (.int 4), (.int 3), (.int 12), (.int 2), (.int 2), (.int 12), (.int 36), (.int 1), (.int 4), (.int 6), (.int 36), (.int 1), (.int 12), (.int 1), (.int 0)] (.int 0) := Arv.set Ar347 aq347 S347 N347 H347 G347 rfl W348 14 rfl (Nat.le_of_ble_eq_true rfl)
          show gO (tF T348 m 275 (la9 p0 p1 p2 p3 p4 2 b238 key_ b247) [(.ref b299)])
          refine gob (fun _ k => XS.dup X348.here hx rfl (hb hby at_275) rfl rfl k) ?_
          show gO (tF T348 m 276 (la9 p0 p1 p2 p3 p4 2 b238 key_ b247) [(.ref b299), (.ref b299)])
          refine gob (fun _ k => XS.bipush X348.here hx rfl (hb hby at_276) k) ?_
          show gO (tF T348 m 278 (la9 p0 p1 p2 p3 p4 2 b238 key_ b247) [(.int 15), (.ref b299), (.ref b299)])
          refine gob (fun _ k => XS.iconst X348.here hx rfl (hb hby at_278) k) ?_
          show gO (tF T348 m 279 (la9 p0 p1 p2 p3 p4 2 b238 key_ b247) [(.int 1), (.int 15), (.ref b299), (.ref b299)])
          obtain ⟨cl350, Ar350, aq350, S350, N350, H350, G350⟩ := id V348
          have hin350 : ¬ ((15 : Int32) < 0 ∨ cl350.slots.size ≤ ((15 : Int32)).toNatClampNeg) := inb_of S350 ⟨by decide, by decide⟩
          obtain ⟨T351, h351, X351, e351, W351, st351⟩ := stI X348 hx hZ e348 Ar350 (j := (15 : Int32)) hin350 (g := (mkF m 279 (la9 p0 p1 p2 p3 p4 2 b238 key_ b247) [(.int 1), (.int 15), (.ref b299), (.ref b299)])) rfl rfl (hb hby at_279)
          refine gob st351 ?_
          have z352 : n0 ≤ h351.size := Nat.le_trans z349 (Keep.of_wr W351).1
          have N351 := Fr.snoc X351 N348 g303
          have V351 : Arv Z h351 b299 k299 .int (16 : Int32) [(.int 1), (.int 4), (.int 3), (.int 12), (.int 2), (.int 2), (.int 12), (.int 36), (.int 1), (.int 4), (.int 6), (.int 36), (.int 1), (.int 12), (.int 1), (.int 1)] (.int 0) := Arv.set Ar350 aq350 S350 N350 H350 G350 rfl W351 15 rfl (Nat.le_of_ble_eq_true rfl)
          show gO (tF T351 m 280 (la9 p0 p1 p2 p3 p4 2 b238 key_ b247) [(.ref b299)])
          refine gob (fun _ k => XS.astore X351.here hx rfl (hb hby at_280) rfl rfl (l' := (la8 p0 p1 p2 p3 p4 2 b238 key_ b247 b299)) rfl k) ?_
          show gO (tF T351 m 282 (la8 p0 p1 p2 p3 p4 2 b238 key_ b247 b299) [])
          have c353 := (((((((((((((((((c300.ext E299).other W306 n301).other W309 n301).other W312 n301).other W315 n301).other W318 n301).other W321 n301).other W324 n301).other W327 n301).other W330 n301).other W333 n301).other W336 n301).other W339 n301).other W342 n301).other W345 n301).other W348 n301).other W351 n301)
          have c354 := (((((((((((((((((V297.ext E299).other W306 n302).other W309 n302).other W312 n302).other W315 n302).other W318 n302).other W321 n302).other W324 n302).other W327 n302).other W330 n302).other W333 n302).other W336 n302).other W339 n302).other W342 n302).other W345 n302).other W348 n302).other W351 n302)
          exact kont _ _ _ _ _ _ _ X351 e351 N351 z352 c353 c354 V351
        refine gob (fun _ k => XS.iload X245.here hx rfl (hb hby at_61) rfl k) ?_
        show gO (tF T245 m 63 (la7 p0 p1 p2 p3 p4 2 b238 0) [(.int 2)])
        refine gob (fun _ k => XS.ifNo X245.here hx rfl (hb hby at_63) rfl ((if0 _ _).trans (tlt (by decide : (0 : Int32) < (2 : Int32))).2.2.2) k) ?_
        show gO (tF T245 m 66 (la7 p0 p1 p2 p3 p4 2 b238 0) [])
        refine gob (fun _ k => XS.iloadN X245.here hx rfl (hb hby at_66) rfl k) ?_
        show gO (tF T245 m 67 (la7 p0 p1 p2 p3 p4 2 b238 0) [(.int p0)])
        by_cases hc67_355 : (0 : Int32) < p0
        · skip
          refine gob (fun _ k => XS.ifNo X245.here hx rfl (hb hby at_67) rfl ((if0 _ _).trans (tlt hc67_355).2.2.2) k) ?_
          show gO (tF T245 m 70 (la7 p0 p1 p2 p3 p4 2 b238 0) [])
          refine gob (fun _ k => XS.iinc X245.here hx rfl (hb hby at_70) rfl (l' := (la7 p0 p1 p2 p3 p4 2 b238 8)) rfl k) ?_
          show gO (tF T245 m 73 (la7 p0 p1 p2 p3 p4 2 b238 8) [])
          refine gob (fun _ k => XS.iload X245.here hx rfl (hb hby at_73) rfl k) ?_
          show gO (tF T245 m 75 (la7 p0 p1 p2 p3 p4 2 b238 8) [(.int 2)])
          refine gob (fun _ k => XS.iconst X245.here hx rfl (hb hby at_75) k) ?_
          show gO (tF T245 m 76 (la7 p0 p1 p2 p3 p4 2 b238 8) [(.int 1), (.int 2)])
          refine gob (fun _ k => XS.icmpNo X245.here hx rfl (hb hby at_76) rfl (tlt (by decide : (1 : Int32) < (2 : Int32))).2.2.2 k) ?_
          show gO (tF T245 m 79 (la7 p0 p1 p2 p3 p4 2 b238 8) [])
          refine gob (fun _ k => XS.iloadN X245.here hx rfl (hb hby at_79) rfl k) ?_
          show gO (tF T245 m 80 (la7 p0 p1 p2 p3 p4 2 b238 8) [(.int p1)])
          by_cases hc80_356 : (0 : Int32) < p1
          · skip
            refine gob (fun _ k => XS.ifNo X245.here hx rfl (hb hby at_80) rfl ((if0 _ _).trans (tlt hc80_356).2.2.2) k) ?_
            show gO (tF T245 m 83 (la7 p0 p1 p2 p3 p4 2 b238 8) [])
            refine gob (fun _ k => XS.iinc X245.here hx rfl (hb hby at_83) rfl (l' := (la7 p0 p1 p2 p3 p4 2 b238 12)) rfl k) ?_
            show gO (tF T245 m 86 (la7 p0 p1 p2 p3 p4 2 b238 12) [])
            refine gob (fun _ k => XS.iload X245.here hx rfl (hb hby at_86) rfl k) ?_
            show gO (tF T245 m 88 (la7 p0 p1 p2 p3 p4 2 b238 12) [(.int 2)])
            refine gob (fun _ k => XS.iconst X245.here hx rfl (hb hby at_88) k) ?_
            show gO (tF T245 m 89 (la7 p0 p1 p2 p3 p4 2 b238 12) [(.int 2), (.int 2)])
            refine gob (fun _ k => XS.icmpYes X245.here hx rfl (pc0 := 89) (pc' := 99) rfl (hb hby at_89) rfl (flt (by decide : ¬ ((2 : Int32) < (2 : Int32)))).2.2.2 (by decide) (by decide) k) ?_
            show gO (tF T245 m 99 (la7 p0 p1 p2 p3 p4 2 b238 12) [])
            refine gob (fun _ k => XS.iload X245.here hx rfl (hb hby at_99) rfl k) ?_
            show gO (tF T245 m 101 (la7 p0 p1 p2 p3 p4 2 b238 12) [(.int 2)])
            refine gob (fun _ k => XS.iconst X245.here hx rfl (hb hby at_101) k) ?_
            show gO (tF T245 m 102 (la7 p0 p1 p2 p3 p4 2 b238 12) [(.int 3), (.int 2)])
            refine gob (fun _ k => XS.icmpYes X245.here hx rfl (pc0 := 102) (pc' := 112) rfl (hb hby at_102) rfl (flt (by decide : ¬ ((3 : Int32) < (2 : Int32)))).2.2.2 (by decide) (by decide) k) ?_
            show gO (tF T245 m 112 (la7 p0 p1 p2 p3 p4 2 b238 12) [])
            refine seg (12 : Int32) ?_
            intro T357 lc357 h357 b357_1 b357_2 k357_1 k357_2 X357 e357 N357 z357 V357 V357_1 V357_2
            show gO (tF T357 m 282 (la8 p0 p1 p2 p3 p4 2 b238 12 b357_1 b357_2) [])
            refine gob (fun _ k => XS.aload X357.here hx rfl (hb hby at_282) rfl rfl k) ?_
            show gO (tF T357 m 284 (la8 p0 p1 p2 p3 p4 2 b238 12 b357_1 b357_2) [(.ref b238)])
            obtain ⟨_, _, ⟨T358, L358, k358, n358⟩, -, X358, ⟨Lc358, hQ358, l358, y358, z358⟩, st358⟩ := Jvm.LawKit.callS X357 hx (y := (⟨"com/example/coevolution/coevolution/measure/Measures", "averagePrecision", "([I)D"⟩ : MethodName)) hown (mvT hZ (hW hw 2 rfl)) (mvT hZ (hW hw 3 rfl)) (mvT hZ (hW hw 4 rfl)) (mvT hZ (hW hw 5 rfl)) (by decide) (backOf (W := 0) (rmap2 l Z a0 hw [] b238 k238 p0 p1 h357 n0 z357 V357) hZ (hW hw 5 rfl) (hW hw 4 rfl) (by decide) (by decide)) (g := (mkF m 284 (la8 p0 p1 p2 p3 p4 2 b238 12 b357_1 b357_2) [(.ref b238)])) rfl (by rw [hml]; rfl) (argsL := [(.ref b238)]) (rest := []) (lenOf pd_0 rfl) rfl (by show 2 * 0 + _ ≤ _; exact Nat.le_of_eq rfl) (hb hby at_284) (fun _ _ => ⟨rfl, e357, (by decide : 3 + 0 ≤ _), (by decide : 34 + 0 ≤ _)⟩)
            dsimp only [Pt.U, Pt.locs, Pt.cells, Pt.slots] at X358 l358 y358 z358 st358 hQ358
            replace X358 := castX X358 (y358.trans (rfl : _ = 3)) (z358.trans (rfl : _ = 34))
            obtain ⟨r358, rfl, hr358, Nq358, e358⟩ := hQ358
            have N358 : Fr n0 L358 := l358 ▸ Fr.app N357 Nq358
            refine gob st358 ?_
            show gO (tF T358 m 287 (la8 p0 p1 p2 p3 p4 2 b238 12 b357_1 b357_2) [(.double r358)])
            have hlr358 : r358 = (4607182418800017408 : UInt64) := by simpa [hc67_355, hc80_356] using hr358
            subst hlr358
            show gO (tF T358 m 287 (la8 p0 p1 p2 p3 p4 2 b238 12 b357_1 b357_2) [(.double (4607182418800017408 : UInt64))])
            refine gob (fun _ k => XS.dstore X358.here hx rfl (hb hby at_287) rfl (l' := (la10 p0 p1 p2 p3 p4 2 b238 12 b357_1 b357_2 (4607182418800017408 : UInt64))) rfl k) ?_
            show gO (tF T358 m 289 (la10 p0 p1 p2 p3 p4 2 b238 12 b357_1 b357_2 (4607182418800017408 : UInt64)) [])
            refine gob (fun _ k => XS.iload X358.here hx rfl (hb hby at_289) rfl k) ?_
            show gO (tF T358 m 291 (la10 p0 p1 p2 p3 p4 2 b238 12 b357_1 b357_2 (4607182418800017408 : UInt64)) [(.int 12)])
            refine gob (fun _ k => XS.ifYes X358.here hx rfl (pc0 := 291) (pc' := 307) rfl (hb hby at_291) rfl ((if0 _ _).trans (feq (by decide : ¬ ((12 : Int32) = (0 : Int32)))).2) (by decide) (by decide) k) ?_
            show gO (tF T358 m 307 (la10 p0 p1 p2 p3 p4 2 b238 12 b357_1 b357_2 (4607182418800017408 : UInt64)) [])
            refine gob (fun _ k => XS.dload X358.here hx rfl (hb hby at_307) rfl k) ?_
            show gO (tF T358 m 309 (la10 p0 p1 p2 p3 p4 2 b238 12 b357_1 b357_2 (4607182418800017408 : UInt64)) [(.double (4607182418800017408 : UInt64))])
            refine gob (fun _ k => XS.aload X358.here hx rfl (hb hby at_309) rfl rfl k) ?_
            show gO (tF T358 m 311 (la10 p0 p1 p2 p3 p4 2 b238 12 b357_1 b357_2 (4607182418800017408 : UInt64)) [(.ref b357_2), (.double (4607182418800017408 : UInt64))])
            refine gob (fun _ k => XS.iload X358.here hx rfl (hb hby at_311) rfl k) ?_
            show gO (tF T358 m 313 (la10 p0 p1 p2 p3 p4 2 b238 12 b357_1 b357_2 (4607182418800017408 : UInt64)) [(.int 12), (.ref b357_2), (.double (4607182418800017408 : UInt64))])
            obtain ⟨cl359, Ar359, aq359, S359, N359, H359, G359⟩ := id V357_2
            have hin359 : ¬ ((12 : Int32) < 0 ∨ cl359.slots.size ≤ ((12 : Int32)).toNatClampNeg) := inb_of S359 ⟨by decide, by decide⟩
            refine gob (X358.iaload hx (j := (12 : Int32)) (v := (.int 1)) (by rw [e358]; exact Ar359.1) (State.isArrayOf_alike hZ.alike Ar359.2.1) Ar359.2.2 hin359 (Has.at H359 hin359 rfl) (g := (mkF m 313 (la10 p0 p1 p2 p3 p4 2 b238 12 b357_1 b357_2 (4607182418800017408 : UInt64)) [(.int 12), (.ref b357_2), (.double (4607182418800017408 : UInt64))])) rfl rfl (hb hby at_313)) ?_
            show gO (tF T358 m 314 (la10 p0 p1 p2 p3 p4 2 b238 12 b357_1 b357_2 (4607182418800017408 : UInt64)) [(.int 1), (.double (4607182418800017408 : UInt64))])
            refine gob (fun _ k => XS.i2dS X358.here hx rfl (hb hby at_314) rfl (v := (4607182418800017408 : UInt64)) (by decide +kernel) k) ?_
            show gO (tF T358 m 315 (la10 p0 p1 p2 p3 p4 2 b238 12 b357_1 b357_2 (4607182418800017408 : UInt64)) [(.double (4607182418800017408 : UInt64)), (.double (4607182418800017408 : UInt64))])
            refine gob (fun _ k => XS.dmulS X358.here hx rfl (hb hby at_315) rfl (v := (4607182418800017408 : UInt64)) (by unfold Jvm.Free.Fl.NoNaN64; decide +kernel) (by decide +kernel) k) ?_
            show gO (tF T358 m 316 (la10 p0 p1 p2 p3 p4 2 b238 12 b357_1 b357_2 (4607182418800017408 : UInt64)) [(.double (4607182418800017408 : UInt64))])
            refine gob (fun _ k => XS.aload X358.here hx rfl (hb hby at_316) rfl rfl k) ?_
            show gO (tF T358 m 318 (la10 p0 p1 p2 p3 p4 2 b238 12 b357_1 b357_2 (4607182418800017408 : UInt64)) [(.ref b357_1), (.double (4607182418800017408 : UInt64))])
            refine gob (fun _ k => XS.iload X358.here hx rfl (hb hby at_318) rfl k) ?_
            show gO (tF T358 m 320 (la10 p0 p1 p2 p3 p4 2 b238 12 b357_1 b357_2 (4607182418800017408 : UInt64)) [(.int 12), (.ref b357_1), (.double (4607182418800017408 : UInt64))])
            obtain ⟨cl360, Ar360, aq360, S360, N360, H360, G360⟩ := id V357_1
            have hin360 : ¬ ((12 : Int32) < 0 ∨ cl360.slots.size ≤ ((12 : Int32)).toNatClampNeg) := inb_of S360 ⟨by decide, by decide⟩
            refine gob (X358.iaload hx (j := (12 : Int32)) (v := (.int 1)) (by rw [e358]; exact Ar360.1) (State.isArrayOf_alike hZ.alike Ar360.2.1) Ar360.2.2 hin360 (Has.at H360 hin360 rfl) (g := (mkF m 320 (la10 p0 p1 p2 p3 p4 2 b238 12 b357_1 b357_2 (4607182418800017408 : UInt64)) [(.int 12), (.ref b357_1), (.double (4607182418800017408 : UInt64))])) rfl rfl (hb hby at_320)) ?_
            show gO (tF T358 m 321 (la10 p0 p1 p2 p3 p4 2 b238 12 b357_1 b357_2 (4607182418800017408 : UInt64)) [(.int 1), (.double (4607182418800017408 : UInt64))])
            refine gob (fun _ k => XS.i2dS X358.here hx rfl (hb hby at_321) rfl (v := (4607182418800017408 : UInt64)) (by decide +kernel) k) ?_
            show gO (tF T358 m 322 (la10 p0 p1 p2 p3 p4 2 b238 12 b357_1 b357_2 (4607182418800017408 : UInt64)) [(.double (4607182418800017408 : UInt64)), (.double (4607182418800017408 : UInt64))])
            refine gob (fun _ k => XS.dsubS X358.here hx rfl (hb hby at_322) rfl (v := (0 : UInt64)) (by unfold Jvm.Free.Fl.NoNaN64; decide +kernel) (by decide +kernel) k) ?_
            show gO (tF T358 m 323 (la10 p0 p1 p2 p3 p4 2 b238 12 b357_1 b357_2 (4607182418800017408 : UInt64)) [(.double (0 : UInt64))])
            refine gob (fun _ k => XS.dstore X358.here hx rfl (hb hby at_323) rfl (l' := (la11 p0 p1 p2 p3 p4 2 b238 12 b357_1 b357_2 (4607182418800017408 : UInt64) (0 : UInt64))) rfl k) ?_
            show gO (tF T358 m 325 (la11 p0 p1 p2 p3 p4 2 b238 12 b357_1 b357_2 (4607182418800017408 : UInt64) (0 : UInt64)) [])
            refine gob (fun _ k => XS.dload X358.here hx rfl (hb hby at_325) rfl k) ?_
            show gO (tF T358 m 327 (la11 p0 p1 p2 p3 p4 2 b238 12 b357_1 b357_2 (4607182418800017408 : UInt64) (0 : UInt64)) [(.double (0 : UInt64))])
            refine gob (X358.ldc2DoubleC hx hown (mvT hZ (hW hw 6 rfl)) (g := (mkF m 327 (la11 p0 p1 p2 p3 p4 2 b238 12 b357_1 b357_2 (4607182418800017408 : UInt64) (0 : UInt64)) [(.double (0 : UInt64))])) rfl (hb hby at_327)) ?_
            show gO (tF T358 m 330 (la11 p0 p1 p2 p3 p4 2 b238 12 b357_1 b357_2 (4607182418800017408 : UInt64) (0 : UInt64)) [(.double (4472406533629990549 : UInt64)), (.double (0 : UInt64))])
            refine gob (fun _ k => XS.dcmpS X358.here hx rfl (hb hby at_330) rfl (v := (-1 : Int32)) (by decide +kernel) k) ?_
            show gO (tF T358 m 331 (la11 p0 p1 p2 p3 p4 2 b238 12 b357_1 b357_2 (4607182418800017408 : UInt64) (0 : UInt64)) [(.int (-1))])
            refine gob (fun _ k => XS.ifNo X358.here hx rfl (hb hby at_331) rfl ((if0 _ _).trans (tlt (by decide : (-1 : Int32) < (0 : Int32))).2.1) k) ?_
            show gO (tF T358 m 334 (la11 p0 p1 p2 p3 p4 2 b238 12 b357_1 b357_2 (4607182418800017408 : UInt64) (0 : UInt64)) [])
            refine gob (fun _ k => XS.dload X358.here hx rfl (hb hby at_334) rfl k) ?_
            show gO (tF T358 m 336 (la11 p0 p1 p2 p3 p4 2 b238 12 b357_1 b357_2 (4607182418800017408 : UInt64) (0 : UInt64)) [(.double (0 : UInt64))])
            refine gob (X358.ldc2DoubleC hx hown (mvT hZ (hW hw 7 rfl)) (g := (mkF m 336 (la11 p0 p1 p2 p3 p4 2 b238 12 b357_1 b357_2 (4607182418800017408 : UInt64) (0 : UInt64)) [(.double (0 : UInt64))])) rfl (hb hby at_336)) ?_
            show gO (tF T358 m 339 (la11 p0 p1 p2 p3 p4 2 b238 12 b357_1 b357_2 (4607182418800017408 : UInt64) (0 : UInt64)) [(.double (13695778570484766357 : UInt64)), (.double (0 : UInt64))])
            refine gob (fun _ k => XS.dcmpS X358.here hx rfl (hb hby at_339) rfl (v := (1 : Int32)) (by decide +kernel) k) ?_
            show gO (tF T358 m 340 (la11 p0 p1 p2 p3 p4 2 b238 12 b357_1 b357_2 (4607182418800017408 : UInt64) (0 : UInt64)) [(.int 1)])
            refine gob (fun _ k => XS.ifNo X358.here hx rfl (hb hby at_340) rfl ((if0 _ _).trans (tlt (by decide : (0 : Int32) < (1 : Int32))).2.2.2) k) ?_
            show gO (tF T358 m 343 (la11 p0 p1 p2 p3 p4 2 b238 12 b357_1 b357_2 (4607182418800017408 : UInt64) (0 : UInt64)) [])
            refine gob (fun _ k => XS.iconst X358.here hx rfl (hb hby at_343) k) ?_
            show gO (tF T358 m 344 (la11 p0 p1 p2 p3 p4 2 b238 12 b357_1 b357_2 (4607182418800017408 : UInt64) (0 : UInt64)) [(.int 1)])
            refine gob (fun _ k => XS.goto X358.here hx rfl (pc0 := 344) (pc' := 348) rfl (hb hby at_344) (by decide) (by decide) k) ?_
            show gO (tF T358 m 348 (la11 p0 p1 p2 p3 p4 2 b238 12 b357_1 b357_2 (4607182418800017408 : UInt64) (0 : UInt64)) [(.int 1)])
            refine goZ X358 hx hlk (t := .boolean) Bd.returns (by simp) (hb hby at_348) (z' := (1 : Int32)) rfl ?_ (by decide) (by decide)
            show Q0 Z p0 p1 p2 p3 p4 h0 n0 (some (.int (1 : Int32))) T358.heap _
            exact ⟨rfl, N358⟩
          · skip
            refine gob (fun _ k => XS.ifYes X245.here hx rfl (pc0 := 80) (pc' := 86) rfl (hb hby at_80) rfl ((if0 _ _).trans (flt hc80_356).2.2.2) (by decide) (by decide) k) ?_
            show gO (tF T245 m 86 (la7 p0 p1 p2 p3 p4 2 b238 8) [])
            refine gob (fun _ k => XS.iload X245.here hx rfl (hb hby at_86) rfl k) ?_
            show gO (tF T245 m 88 (la7 p0 p1 p2 p3 p4 2 b238 8) [(.int 2)])
            refine gob (fun _ k => XS.iconst X245.here hx rfl (hb hby at_88) k) ?_
            show gO (tF T245 m 89 (la7 p0 p1 p2 p3 p4 2 b238 8) [(.int 2), (.int 2)])
            refine gob (fun _ k => XS.icmpYes X245.here hx rfl (pc0 := 89) (pc' := 99) rfl (hb hby at_89) rfl (flt (by decide : ¬ ((2 : Int32) < (2 : Int32)))).2.2.2 (by decide) (by decide) k) ?_
            show gO (tF T245 m 99 (la7 p0 p1 p2 p3 p4 2 b238 8) [])
            refine gob (fun _ k => XS.iload X245.here hx rfl (hb hby at_99) rfl k) ?_
            show gO (tF T245 m 101 (la7 p0 p1 p2 p3 p4 2 b238 8) [(.int 2)])
            refine gob (fun _ k => XS.iconst X245.here hx rfl (hb hby at_101) k) ?_
            show gO (tF T245 m 102 (la7 p0 p1 p2 p3 p4 2 b238 8) [(.int 3), (.int 2)])
            refine gob (fun _ k => XS.icmpYes X245.here hx rfl (pc0 := 102) (pc' := 112) rfl (hb hby at_102) rfl (flt (by decide : ¬ ((3 : Int32) < (2 : Int32)))).2.2.2 (by decide) (by decide) k) ?_
            show gO (tF T245 m 112 (la7 p0 p1 p2 p3 p4 2 b238 8) [])
            refine seg (8 : Int32) ?_
            intro T361 lc361 h361 b361_1 b361_2 k361_1 k361_2 X361 e361 N361 z361 V361 V361_1 V361_2
            show gO (tF T361 m 282 (la8 p0 p1 p2 p3 p4 2 b238 8 b361_1 b361_2) [])
            refine gob (fun _ k => XS.aload X361.here hx rfl (hb hby at_282) rfl rfl k) ?_
            show gO (tF T361 m 284 (la8 p0 p1 p2 p3 p4 2 b238 8 b361_1 b361_2) [(.ref b238)])
            obtain ⟨_, _, ⟨T362, L362, k362, n362⟩, -, X362, ⟨Lc362, hQ362, l362, y362, z362⟩, st362⟩ := Jvm.LawKit.callS X361 hx (y := (⟨"com/example/coevolution/coevolution/measure/Measures", "averagePrecision", "([I)D"⟩ : MethodName)) hown (mvT hZ (hW hw 2 rfl)) (mvT hZ (hW hw 3 rfl)) (mvT hZ (hW hw 4 rfl)) (mvT hZ (hW hw 5 rfl)) (by decide) (backOf (W := 0) (rmap2 l Z a0 hw [] b238 k238 p0 p1 h361 n0 z361 V361) hZ (hW hw 5 rfl) (hW hw 4 rfl) (by decide) (by decide)) (g := (mkF m 284 (la8 p0 p1 p2 p3 p4 2 b238 8 b361_1 b361_2) [(.ref b238)])) rfl (by rw [hml]; rfl) (argsL := [(.ref b238)]) (rest := []) (lenOf pd_0 rfl) rfl (by show 2 * 0 + _ ≤ _; exact Nat.le_of_eq rfl) (hb hby at_284) (fun _ _ => ⟨rfl, e361, (by decide : 3 + 0 ≤ _), (by decide : 34 + 0 ≤ _)⟩)
            dsimp only [Pt.U, Pt.locs, Pt.cells, Pt.slots] at X362 l362 y362 z362 st362 hQ362
            replace X362 := castX X362 (y362.trans (rfl : _ = 3)) (z362.trans (rfl : _ = 34))
            obtain ⟨r362, rfl, hr362, Nq362, e362⟩ := hQ362
            have N362 : Fr n0 L362 := l362 ▸ Fr.app N361 Nq362
            refine gob st362 ?_
            show gO (tF T362 m 287 (la8 p0 p1 p2 p3 p4 2 b238 8 b361_1 b361_2) [(.double r362)])
            have hlr362 : r362 = (4607182418800017408 : UInt64) := by simpa [hc67_355, hc80_356] using hr362
            subst hlr362
            show gO (tF T362 m 287 (la8 p0 p1 p2 p3 p4 2 b238 8 b361_1 b361_2) [(.double (4607182418800017408 : UInt64))])
            refine gob (fun _ k => XS.dstore X362.here hx rfl (hb hby at_287) rfl (l' := (la10 p0 p1 p2 p3 p4 2 b238 8 b361_1 b361_2 (4607182418800017408 : UInt64))) rfl k) ?_
            show gO (tF T362 m 289 (la10 p0 p1 p2 p3 p4 2 b238 8 b361_1 b361_2 (4607182418800017408 : UInt64)) [])
            refine gob (fun _ k => XS.iload X362.here hx rfl (hb hby at_289) rfl k) ?_
            show gO (tF T362 m 291 (la10 p0 p1 p2 p3 p4 2 b238 8 b361_1 b361_2 (4607182418800017408 : UInt64)) [(.int 8)])
            refine gob (fun _ k => XS.ifYes X362.here hx rfl (pc0 := 291) (pc' := 307) rfl (hb hby at_291) rfl ((if0 _ _).trans (feq (by decide : ¬ ((8 : Int32) = (0 : Int32)))).2) (by decide) (by decide) k) ?_
            show gO (tF T362 m 307 (la10 p0 p1 p2 p3 p4 2 b238 8 b361_1 b361_2 (4607182418800017408 : UInt64)) [])
            refine gob (fun _ k => XS.dload X362.here hx rfl (hb hby at_307) rfl k) ?_
            show gO (tF T362 m 309 (la10 p0 p1 p2 p3 p4 2 b238 8 b361_1 b361_2 (4607182418800017408 : UInt64)) [(.double (4607182418800017408 : UInt64))])
            refine gob (fun _ k => XS.aload X362.here hx rfl (hb hby at_309) rfl rfl k) ?_
            show gO (tF T362 m 311 (la10 p0 p1 p2 p3 p4 2 b238 8 b361_1 b361_2 (4607182418800017408 : UInt64)) [(.ref b361_2), (.double (4607182418800017408 : UInt64))])
            refine gob (fun _ k => XS.iload X362.here hx rfl (hb hby at_311) rfl k) ?_
            show gO (tF T362 m 313 (la10 p0 p1 p2 p3 p4 2 b238 8 b361_1 b361_2 (4607182418800017408 : UInt64)) [(.int 8), (.ref b361_2), (.double (4607182418800017408 : UInt64))])
            obtain ⟨cl363, Ar363, aq363, S363, N363, H363, G363⟩ := id V361_2
            have hin363 : ¬ ((8 : Int32) < 0 ∨ cl363.slots.size ≤ ((8 : Int32)).toNatClampNeg) := inb_of S363 ⟨by decide, by decide⟩
            refine gob (X362.iaload hx (j := (8 : Int32)) (v := (.int 1)) (by rw [e362]; exact Ar363.1) (State.isArrayOf_alike hZ.alike Ar363.2.1) Ar363.2.2 hin363 (Has.at H363 hin363 rfl) (g := (mkF m 313 (la10 p0 p1 p2 p3 p4 2 b238 8 b361_1 b361_2 (4607182418800017408 : UInt64)) [(.int 8), (.ref b361_2), (.double (4607182418800017408 : UInt64))])) rfl rfl (hb hby at_313)) ?_
            show gO (tF T362 m 314 (la10 p0 p1 p2 p3 p4 2 b238 8 b361_1 b361_2 (4607182418800017408 : UInt64)) [(.int 1), (.double (4607182418800017408 : UInt64))])
            refine gob (fun _ k => XS.i2dS X362.here hx rfl (hb hby at_314) rfl (v := (4607182418800017408 : UInt64)) (by decide +kernel) k) ?_
            show gO (tF T362 m 315 (la10 p0 p1 p2 p3 p4 2 b238 8 b361_1 b361_2 (4607182418800017408 : UInt64)) [(.double (4607182418800017408 : UInt64)), (.double (4607182418800017408 : UInt64))])
            refine gob (fun _ k => XS.dmulS X362.here hx rfl (hb hby at_315) rfl (v := (4607182418800017408 : UInt64)) (by unfold Jvm.Free.Fl.NoNaN64; decide +kernel) (by decide +kernel) k) ?_
            show gO (tF T362 m 316 (la10 p0 p1 p2 p3 p4 2 b238 8 b361_1 b361_2 (4607182418800017408 : UInt64)) [(.double (4607182418800017408 : UInt64))])
            refine gob (fun _ k => XS.aload X362.here hx rfl (hb hby at_316) rfl rfl k) ?_
            show gO (tF T362 m 318 (la10 p0 p1 p2 p3 p4 2 b238 8 b361_1 b361_2 (4607182418800017408 : UInt64)) [(.ref b361_1), (.double (4607182418800017408 : UInt64))])
            refine gob (fun _ k => XS.iload X362.here hx rfl (hb hby at_318) rfl k) ?_
            show gO (tF T362 m 320 (la10 p0 p1 p2 p3 p4 2 b238 8 b361_1 b361_2 (4607182418800017408 : UInt64)) [(.int 8), (.ref b361_1), (.double (4607182418800017408 : UInt64))])
            obtain ⟨cl364, Ar364, aq364, S364, N364, H364, G364⟩ := id V361_1
            have hin364 : ¬ ((8 : Int32) < 0 ∨ cl364.slots.size ≤ ((8 : Int32)).toNatClampNeg) := inb_of S364 ⟨by decide, by decide⟩
            refine gob (X362.iaload hx (j := (8 : Int32)) (v := (.int 1)) (by rw [e362]; exact Ar364.1) (State.isArrayOf_alike hZ.alike Ar364.2.1) Ar364.2.2 hin364 (Has.at H364 hin364 rfl) (g := (mkF m 320 (la10 p0 p1 p2 p3 p4 2 b238 8 b361_1 b361_2 (4607182418800017408 : UInt64)) [(.int 8), (.ref b361_1), (.double (4607182418800017408 : UInt64))])) rfl rfl (hb hby at_320)) ?_
            show gO (tF T362 m 321 (la10 p0 p1 p2 p3 p4 2 b238 8 b361_1 b361_2 (4607182418800017408 : UInt64)) [(.int 1), (.double (4607182418800017408 : UInt64))])
            refine gob (fun _ k => XS.i2dS X362.here hx rfl (hb hby at_321) rfl (v := (4607182418800017408 : UInt64)) (by decide +kernel) k) ?_
            show gO (tF T362 m 322 (la10 p0 p1 p2 p3 p4 2 b238 8 b361_1 b361_2 (4607182418800017408 : UInt64)) [(.double (4607182418800017408 : UInt64)), (.double (4607182418800017408 : UInt64))])
            refine gob (fun _ k => XS.dsubS X362.here hx rfl (hb hby at_322) rfl (v := (0 : UInt64)) (by unfold Jvm.Free.Fl.NoNaN64; decide +kernel) (by decide +kernel) k) ?_
            show gO (tF T362 m 323 (la10 p0 p1 p2 p3 p4 2 b238 8 b361_1 b361_2 (4607182418800017408 : UInt64)) [(.double (0 : UInt64))])
            refine gob (fun _ k => XS.dstore X362.here hx rfl (hb hby at_323) rfl (l' := (la11 p0 p1 p2 p3 p4 2 b238 8 b361_1 b361_2 (4607182418800017408 : UInt64) (0 : UInt64))) rfl k) ?_
            show gO (tF T362 m 325 (la11 p0 p1 p2 p3 p4 2 b238 8 b361_1 b361_2 (4607182418800017408 : UInt64) (0 : UInt64)) [])
            refine gob (fun _ k => XS.dload X362.here hx rfl (hb hby at_325) rfl k) ?_
            show gO (tF T362 m 327 (la11 p0 p1 p2 p3 p4 2 b238 8 b361_1 b361_2 (4607182418800017408 : UInt64) (0 : UInt64)) [(.double (0 : UInt64))])
            refine gob (X362.ldc2DoubleC hx hown (mvT hZ (hW hw 6 rfl)) (g := (mkF m 327 (la11 p0 p1 p2 p3 p4 2 b238 8 b361_1 b361_2 (4607182418800017408 : UInt64) (0 : UInt64)) [(.double (0 : UInt64))])) rfl (hb hby at_327)) ?_
            show gO (tF T362 m 330 (la11 p0 p1 p2 p3 p4 2 b238 8 b361_1 b361_2 (4607182418800017408 : UInt64) (0 : UInt64)) [(.double (4472406533629990549 : UInt64)), (.double (0 : UInt64))])
            refine gob (fun _ k => XS.dcmpS X362.here hx rfl (hb hby at_330) rfl (v := (-1 : Int32)) (by decide +kernel) k) ?_
            show gO (tF T362 m 331 (la11 p0 p1 p2 p3 p4 2 b238 8 b361_1 b361_2 (4607182418800017408 : UInt64) (0 : UInt64)) [(.int (-1))])
            refine gob (fun _ k => XS.ifNo X362.here hx rfl (hb hby at_331) rfl ((if0 _ _).trans (tlt (by decide : (-1 : Int32) < (0 : Int32))).2.1) k) ?_
            show gO (tF T362 m 334 (la11 p0 p1 p2 p3 p4 2 b238 8 b361_1 b361_2 (4607182418800017408 : UInt64) (0 : UInt64)) [])
            refine gob (fun _ k => XS.dload X362.here hx rfl (hb hby at_334) rfl k) ?_
            show gO (tF T362 m 336 (la11 p0 p1 p2 p3 p4 2 b238 8 b361_1 b361_2 (4607182418800017408 : UInt64) (0 : UInt64)) [(.double (0 : UInt64))])
            refine gob (X362.ldc2DoubleC hx hown (mvT hZ (hW hw 7 rfl)) (g := (mkF m 336 (la11 p0 p1 p2 p3 p4 2 b238 8 b361_1 b361_2 (4607182418800017408 : UInt64) (0 : UInt64)) [(.double (0 : UInt64))])) rfl (hb hby at_336)) ?_
            show gO (tF T362 m 339 (la11 p0 p1 p2 p3 p4 2 b238 8 b361_1 b361_2 (4607182418800017408 : UInt64) (0 : UInt64)) [(.double (13695778570484766357 : UInt64)), (.double (0 : UInt64))])
            refine gob (fun _ k => XS.dcmpS X362.here hx rfl (hb hby at_339) rfl (v := (1 : Int32)) (by decide +kernel) k) ?_
            show gO (tF T362 m 340 (la11 p0 p1 p2 p3 p4 2 b238 8 b361_1 b361_2 (4607182418800017408 : UInt64) (0 : UInt64)) [(.int 1)])
            refine gob (fun _ k => XS.ifNo X362.here hx rfl (hb hby at_340) rfl ((if0 _ _).trans (tlt (by decide : (0 : Int32) < (1 : Int32))).2.2.2) k) ?_
            show gO (tF T362 m 343 (la11 p0 p1 p2 p3 p4 2 b238 8 b361_1 b361_2 (4607182418800017408 : UInt64) (0 : UInt64)) [])
            refine gob (fun _ k => XS.iconst X362.here hx rfl (hb hby at_343) k) ?_
            show gO (tF T362 m 344 (la11 p0 p1 p2 p3 p4 2 b238 8 b361_1 b361_2 (4607182418800017408 : UInt64) (0 : UInt64)) [(.int 1)])
            refine gob (fun _ k => XS.goto X362.here hx rfl (pc0 := 344) (pc' := 348) rfl (hb hby at_344) (by decide) (by decide) k) ?_
            show gO (tF T362 m 348 (la11 p0 p1 p2 p3 p4 2 b238 8 b361_1 b361_2 (4607182418800017408 : UInt64) (0 : UInt64)) [(.int 1)])
            refine goZ X362 hx hlk (t := .boolean) Bd.returns (by simp) (hb hby at_348) (z' := (1 : Int32)) rfl ?_ (by decide) (by decide)
            show Q0 Z p0 p1 p2 p3 p4 h0 n0 (some (.int (1 : Int32))) T362.heap _
            exact ⟨rfl, N362⟩
        · skip
          refine gob (fun _ k => XS.ifYes X245.here hx rfl (pc0 := 67) (pc' := 73) rfl (hb hby at_67) rfl ((if0 _ _).trans (flt hc67_355).2.2.2) (by decide) (by decide) k) ?_
          show gO (tF T245 m 73 (la7 p0 p1 p2 p3 p4 2 b238 0) [])
          refine gob (fun _ k => XS.iload X245.here hx rfl (hb hby at_73) rfl k) ?_
          show gO (tF T245 m 75 (la7 p0 p1 p2 p3 p4 2 b238 0) [(.int 2)])
          refine gob (fun _ k => XS.iconst X245.here hx rfl (hb hby at_75) k) ?_
          show gO (tF T245 m 76 (la7 p0 p1 p2 p3 p4 2 b238 0) [(.int 1), (.int 2)])
          refine gob (fun _ k => XS.icmpNo X245.here hx rfl (hb hby at_76) rfl (tlt (by decide : (1 : Int32) < (2 : Int32))).2.2.2 k) ?_
          show gO (tF T245 m 79 (la7 p0 p1 p2 p3 p4 2 b238 0) [])
          refine gob (fun _ k => XS.iloadN X245.here hx rfl (hb hby at_79) rfl k) ?_
          show gO (tF T245 m 80 (la7 p0 p1 p2 p3 p4 2 b238 0) [(.int p1)])
          by_cases hc80_365 : (0 : Int32) < p1
          · skip
            refine gob (fun _ k => XS.ifNo X245.here hx rfl (hb hby at_80) rfl ((if0 _ _).trans (tlt hc80_365).2.2.2) k) ?_
            show gO (tF T245 m 83 (la7 p0 p1 p2 p3 p4 2 b238 0) [])
            refine gob (fun _ k => XS.iinc X245.here hx rfl (hb hby at_83) rfl (l' := (la7 p0 p1 p2 p3 p4 2 b238 4)) rfl k) ?_
            show gO (tF T245 m 86 (la7 p0 p1 p2 p3 p4 2 b238 4) [])
            refine gob (fun _ k => XS.iload X245.here hx rfl (hb hby at_86) rfl k) ?_
            show gO (tF T245 m 88 (la7 p0 p1 p2 p3 p4 2 b238 4) [(.int 2)])
            refine gob (fun _ k => XS.iconst X245.here hx rfl (hb hby at_88) k) ?_
            show gO (tF T245 m 89 (la7 p0 p1 p2 p3 p4 2 b238 4) [(.int 2), (.int 2)])
            refine gob (fun _ k => XS.icmpYes X245.here hx rfl (pc0 := 89) (pc' := 99) rfl (hb hby at_89) rfl (flt (by decide : ¬ ((2 : Int32) < (2 : Int32)))).2.2.2 (by decide) (by decide) k) ?_
            show gO (tF T245 m 99 (la7 p0 p1 p2 p3 p4 2 b238 4) [])
            refine gob (fun _ k => XS.iload X245.here hx rfl (hb hby at_99) rfl k) ?_
            show gO (tF T245 m 101 (la7 p0 p1 p2 p3 p4 2 b238 4) [(.int 2)])
            refine gob (fun _ k => XS.iconst X245.here hx rfl (hb hby at_101) k) ?_
            show gO (tF T245 m 102 (la7 p0 p1 p2 p3 p4 2 b238 4) [(.int 3), (.int 2)])
            refine gob (fun _ k => XS.icmpYes X245.here hx rfl (pc0 := 102) (pc' := 112) rfl (hb hby at_102) rfl (flt (by decide : ¬ ((3 : Int32) < (2 : Int32)))).2.2.2 (by decide) (by decide) k) ?_
            show gO (tF T245 m 112 (la7 p0 p1 p2 p3 p4 2 b238 4) [])
            refine seg (4 : Int32) ?_
            intro T366 lc366 h366 b366_1 b366_2 k366_1 k366_2 X366 e366 N366 z366 V366 V366_1 V366_2
            show gO (tF T366 m 282 (la8 p0 p1 p2 p3 p4 2 b238 4 b366_1 b366_2) [])
            refine gob (fun _ k => XS.aload X366.here hx rfl (hb hby at_282) rfl rfl k) ?_
            show gO (tF T366 m 284 (la8 p0 p1 p2 p3 p4 2 b238 4 b366_1 b366_2) [(.ref b238)])
            obtain ⟨_, _, ⟨T367, L367, k367, n367⟩, -, X367, ⟨Lc367, hQ367, l367, y367, z367⟩, st367⟩ := Jvm.LawKit.callS X366 hx (y := (⟨"com/example/coevolution/coevolution/measure/Measures", "averagePrecision", "([I)D"⟩ : MethodName)) hown (mvT hZ (hW hw 2 rfl)) (mvT hZ (hW hw 3 rfl)) (mvT hZ (hW hw 4 rfl)) (mvT hZ (hW hw 5 rfl)) (by decide) (backOf (W := 0) (rmap2 l Z a0 hw [] b238 k238 p0 p1 h366 n0 z366 V366) hZ (hW hw 5 rfl) (hW hw 4 rfl) (by decide) (by decide)) (g := (mkF m 284 (la8 p0 p1 p2 p3 p4 2 b238 4 b366_1 b366_2) [(.ref b238)])) rfl (by rw [hml]; rfl) (argsL := [(.ref b238)]) (rest := []) (lenOf pd_0 rfl) rfl (by show 2 * 0 + _ ≤ _; exact Nat.le_of_eq rfl) (hb hby at_284) (fun _ _ => ⟨rfl, e366, (by decide : 3 + 0 ≤ _), (by decide : 34 + 0 ≤ _)⟩)
            dsimp only [Pt.U, Pt.locs, Pt.cells, Pt.slots] at X367 l367 y367 z367 st367 hQ367
            replace X367 := castX X367 (y367.trans (rfl : _ = 3)) (z367.trans (rfl : _ = 34))
            obtain ⟨r367, rfl, hr367, Nq367, e367⟩ := hQ367
            have N367 : Fr n0 L367 := l367 ▸ Fr.app N366 Nq367
            refine gob st367 ?_
            show gO (tF T367 m 287 (la8 p0 p1 p2 p3 p4 2 b238 4 b366_1 b366_2) [(.double r367)])
            have hlr367 : r367 = (4602678819172646912 : UInt64) := by simpa [hc67_355, hc80_365] using hr367
            subst hlr367
            show gO (tF T367 m 287 (la8 p0 p1 p2 p3 p4 2 b238 4 b366_1 b366_2) [(.double (4602678819172646912 : UInt64))])
            refine gob (fun _ k => XS.dstore X367.here hx rfl (hb hby at_287) rfl (l' := (la10 p0 p1 p2 p3 p4 2 b238 4 b366_1 b366_2 (4602678819172646912 : UInt64))) rfl k) ?_
            show gO (tF T367 m 289 (la10 p0 p1 p2 p3 p4 2 b238 4 b366_1 b366_2 (4602678819172646912 : UInt64)) [])
            refine gob (fun _ k => XS.iload X367.here hx rfl (hb hby at_289) rfl k) ?_
            show gO (tF T367 m 291 (la10 p0 p1 p2 p3 p4 2 b238 4 b366_1 b366_2 (4602678819172646912 : UInt64)) [(.int 4)])
            refine gob (fun _ k => XS.ifYes X367.here hx rfl (pc0 := 291) (pc' := 307) rfl (hb hby at_291) rfl ((if0 _ _).trans (feq (by decide : ¬ ((4 : Int32) = (0 : Int32)))).2) (by decide) (by decide) k) ?_
            show gO (tF T367 m 307 (la10 p0 p1 p2 p3 p4 2 b238 4 b366_1 b366_2 (4602678819172646912 : UInt64)) [])
            refine gob (fun _ k => XS.dload X367.here hx rfl (hb hby at_307) rfl k) ?_
            show gO (tF T367 m 309 (la10 p0 p1 p2 p3 p4 2 b238 4 b366_1 b366_2 (4602678819172646912 : UInt64)) [(.double (4602678819172646912 : UInt64))])
            refine gob (fun _ k => XS.aload X367.here hx rfl (hb hby at_309) rfl rfl k) ?_
            show gO (tF T367 m 311 (la10 p0 p1 p2 p3 p4 2 b238 4 b366_1 b366_2 (4602678819172646912 : UInt64)) [(.ref b366_2), (.double (4602678819172646912 : UInt64))])
            refine gob (fun _ k => XS.iload X367.here hx rfl (hb hby at_311) rfl k) ?_
            show gO (tF T367 m 313 (la10 p0 p1 p2 p3 p4 2 b238 4 b366_1 b366_2 (4602678819172646912 : UInt64)) [(.int 4), (.ref b366_2), (.double (4602678819172646912 : UInt64))])
            obtain ⟨cl368, Ar368, aq368, S368, N368, H368, G368⟩ := id V366_2
            have hin368 : ¬ ((4 : Int32) < 0 ∨ cl368.slots.size ≤ ((4 : Int32)).toNatClampNeg) := inb_of S368 ⟨by decide, by decide⟩
            refine gob (X367.iaload hx (j := (4 : Int32)) (v := (.int 2)) (by rw [e367]; exact Ar368.1) (State.isArrayOf_alike hZ.alike Ar368.2.1) Ar368.2.2 hin368 (Has.at H368 hin368 rfl) (g := (mkF m 313 (la10 p0 p1 p2 p3 p4 2 b238 4 b366_1 b366_2 (4602678819172646912 : UInt64)) [(.int 4), (.ref b366_2), (.double (4602678819172646912 : UInt64))])) rfl rfl (hb hby at_313)) ?_
            show gO (tF T367 m 314 (la10 p0 p1 p2 p3 p4 2 b238 4 b366_1 b366_2 (4602678819172646912 : UInt64)) [(.int 2), (.double (4602678819172646912 : UInt64))])
            refine gob (fun _ k => XS.i2dS X367.here hx rfl (hb hby at_314) rfl (v := (4611686018427387904 : UInt64)) (by decide +kernel) k) ?_
            show gO (tF T367 m 315 (la10 p0 p1 p2 p3 p4 2 b238 4 b366_1 b366_2 (4602678819172646912 : UInt64)) [(.double (4611686018427387904 : UInt64)), (.double (4602678819172646912 : UInt64))])
            refine gob (fun _ k => XS.dmulS X367.here hx rfl (hb hby at_315) rfl (v := (4607182418800017408 : UInt64)) (by unfold Jvm.Free.Fl.NoNaN64; decide +kernel) (by decide +kernel) k) ?_
            show gO (tF T367 m 316 (la10 p0 p1 p2 p3 p4 2 b238 4 b366_1 b366_2 (4602678819172646912 : UInt64)) [(.double (4607182418800017408 : UInt64))])
            refine gob (fun _ k => XS.aload X367.here hx rfl (hb hby at_316) rfl rfl k) ?_
            show gO (tF T367 m 318 (la10 p0 p1 p2 p3 p4 2 b238 4 b366_1 b366_2 (4602678819172646912 : UInt64)) [(.ref b366_1), (.double (4607182418800017408 : UInt64))])
            refine gob (fun _ k => XS.iload X367.here hx rfl (hb hby at_318) rfl k) ?_
            show gO (tF T367 m 320 (la10 p0 p1 p2 p3 p4 2 b238 4 b366_1 b366_2 (4602678819172646912 : UInt64)) [(.int 4), (.ref b366_1), (.double (4607182418800017408 : UInt64))])
            obtain ⟨cl369, Ar369, aq369, S369, N369, H369, G369⟩ := id V366_1
            have hin369 : ¬ ((4 : Int32) < 0 ∨ cl369.slots.size ≤ ((4 : Int32)).toNatClampNeg) := inb_of S369 ⟨by decide, by decide⟩
            refine gob (X367.iaload hx (j := (4 : Int32)) (v := (.int 1)) (by rw [e367]; exact Ar369.1) (State.isArrayOf_alike hZ.alike Ar369.2.1) Ar369.2.2 hin369 (Has.at H369 hin369 rfl) (g := (mkF m 320 (la10 p0 p1 p2 p3 p4 2 b238 4 b366_1 b366_2 (4602678819172646912 : UInt64)) [(.int 4), (.ref b366_1), (.double (4607182418800017408 : UInt64))])) rfl rfl (hb hby at_320)) ?_
            show gO (tF T367 m 321 (la10 p0 p1 p2 p3 p4 2 b238 4 b366_1 b366_2 (4602678819172646912 : UInt64)) [(.int 1), (.double (4607182418800017408 : UInt64))])
            refine gob (fun _ k => XS.i2dS X367.here hx rfl (hb hby at_321) rfl (v := (4607182418800017408 : UInt64)) (by decide +kernel) k) ?_
            show gO (tF T367 m 322 (la10 p0 p1 p2 p3 p4 2 b238 4 b366_1 b366_2 (4602678819172646912 : UInt64)) [(.double (4607182418800017408 : UInt64)), (.double (4607182418800017408 : UInt64))])
            refine gob (fun _ k => XS.dsubS X367.here hx rfl (hb hby at_322) rfl (v := (0 : UInt64)) (by unfold Jvm.Free.Fl.NoNaN64; decide +kernel) (by decide +kernel) k) ?_
            show gO (tF T367 m 323 (la10 p0 p1 p2 p3 p4 2 b238 4 b366_1 b366_2 (4602678819172646912 : UInt64)) [(.double (0 : UInt64))])
            refine gob (fun _ k => XS.dstore X367.here hx rfl (hb hby at_323) rfl (l' := (la11 p0 p1 p2 p3 p4 2 b238 4 b366_1 b366_2 (4602678819172646912 : UInt64) (0 : UInt64))) rfl k) ?_
            show gO (tF T367 m 325 (la11 p0 p1 p2 p3 p4 2 b238 4 b366_1 b366_2 (4602678819172646912 : UInt64) (0 : UInt64)) [])
            refine gob (fun _ k => XS.dload X367.here hx rfl (hb hby at_325) rfl k) ?_
            show gO (tF T367 m 327 (la11 p0 p1 p2 p3 p4 2 b238 4 b366_1 b366_2 (4602678819172646912 : UInt64) (0 : UInt64)) [(.double (0 : UInt64))])
            refine gob (X367.ldc2DoubleC hx hown (mvT hZ (hW hw 6 rfl)) (g := (mkF m 327 (la11 p0 p1 p2 p3 p4 2 b238 4 b366_1 b366_2 (4602678819172646912 : UInt64) (0 : UInt64)) [(.double (0 : UInt64))])) rfl (hb hby at_327)) ?_
            show gO (tF T367 m 330 (la11 p0 p1 p2 p3 p4 2 b238 4 b366_1 b366_2 (4602678819172646912 : UInt64) (0 : UInt64)) [(.double (4472406533629990549 : UInt64)), (.double (0 : UInt64))])
            refine gob (fun _ k => XS.dcmpS X367.here hx rfl (hb hby at_330) rfl (v := (-1 : Int32)) (by decide +kernel) k) ?_
            show gO (tF T367 m 331 (la11 p0 p1 p2 p3 p4 2 b238 4 b366_1 b366_2 (4602678819172646912 : UInt64) (0 : UInt64)) [(.int (-1))])
            refine gob (fun _ k => XS.ifNo X367.here hx rfl (hb hby at_331) rfl ((if0 _ _).trans (tlt (by decide : (-1 : Int32) < (0 : Int32))).2.1) k) ?_
            show gO (tF T367 m 334 (la11 p0 p1 p2 p3 p4 2 b238 4 b366_1 b366_2 (4602678819172646912 : UInt64) (0 : UInt64)) [])
            refine gob (fun _ k => XS.dload X367.here hx rfl (hb hby at_334) rfl k) ?_
            show gO (tF T367 m 336 (la11 p0 p1 p2 p3 p4 2 b238 4 b366_1 b366_2 (4602678819172646912 : UInt64) (0 : UInt64)) [(.double (0 : UInt64))])
            refine gob (X367.ldc2DoubleC hx hown (mvT hZ (hW hw 7 rfl)) (g := (mkF m 336 (la11 p0 p1 p2 p3 p4 2 b238 4 b366_1 b366_2 (4602678819172646912 : UInt64) (0 : UInt64)) [(.double (0 : UInt64))])) rfl (hb hby at_336)) ?_
            show gO (tF T367 m 339 (la11 p0 p1 p2 p3 p4 2 b238 4 b366_1 b366_2 (4602678819172646912 : UInt64) (0 : UInt64)) [(.double (13695778570484766357 : UInt64)), (.double (0 : UInt64))])
            refine gob (fun _ k => XS.dcmpS X367.here hx rfl (hb hby at_339) rfl (v := (1 : Int32)) (by decide +kernel) k) ?_
            show gO (tF T367 m 340 (la11 p0 p1 p2 p3 p4 2 b238 4 b366_1 b366_2 (4602678819172646912 : UInt64) (0 : UInt64)) [(.int 1)])
            refine gob (fun _ k => XS.ifNo X367.here hx rfl (hb hby at_340) rfl ((if0 _ _).trans (tlt (by decide : (0 : Int32) < (1 : Int32))).2.2.2) k) ?_
            show gO (tF T367 m 343 (la11 p0 p1 p2 p3 p4 2 b238 4 b366_1 b366_2 (4602678819172646912 : UInt64) (0 : UInt64)) [])
            refine gob (fun _ k => XS.iconst X367.here hx rfl (hb hby at_343) k) ?_
            show gO (tF T367 m 344 (la11 p0 p1 p2 p3 p4 2 b238 4 b366_1 b366_2 (4602678819172646912 : UInt64) (0 : UInt64)) [(.int 1)])
            refine gob (fun _ k => XS.goto X367.here hx rfl (pc0 := 344) (pc' := 348) rfl (hb hby at_344) (by decide) (by decide) k) ?_
            show gO (tF T367 m 348 (la11 p0 p1 p2 p3 p4 2 b238 4 b366_1 b366_2 (4602678819172646912 : UInt64) (0 : UInt64)) [(.int 1)])
            refine goZ X367 hx hlk (t := .boolean) Bd.returns (by simp) (hb hby at_348) (z' := (1 : Int32)) rfl ?_ (by decide) (by decide)
            show Q0 Z p0 p1 p2 p3 p4 h0 n0 (some (.int (1 : Int32))) T367.heap _
            exact ⟨rfl, N367⟩
          · skip
            refine gob (fun _ k => XS.ifYes X245.here hx rfl (pc0 := 80) (pc' := 86) rfl (hb hby at_80) rfl ((if0 _ _).trans (flt hc80_365).2.2.2) (by decide) (by decide) k) ?_
            show gO (tF T245 m 86 (la7 p0 p1 p2 p3 p4 2 b238 0) [])
            refine gob (fun _ k => XS.iload X245.here hx rfl (hb hby at_86) rfl k) ?_
            show gO (tF T245 m 88 (la7 p0 p1 p2 p3 p4 2 b238 0) [(.int 2)])
            refine gob (fun _ k => XS.iconst X245.here hx rfl (hb hby at_88) k) ?_
            show gO (tF T245 m 89 (la7 p0 p1 p2 p3 p4 2 b238 0) [(.int 2), (.int 2)])
            refine gob (fun _ k => XS.icmpYes X245.here hx rfl (pc0 := 89) (pc' := 99) rfl (hb hby at_89) rfl (flt (by decide : ¬ ((2 : Int32) < (2 : Int32)))).2.2.2 (by decide) (by decide) k) ?_
            show gO (tF T245 m 99 (la7 p0 p1 p2 p3 p4 2 b238 0) [])
            refine gob (fun _ k => XS.iload X245.here hx rfl (hb hby at_99) rfl k) ?_
            show gO (tF T245 m 101 (la7 p0 p1 p2 p3 p4 2 b238 0) [(.int 2)])
            refine gob (fun _ k => XS.iconst X245.here hx rfl (hb hby at_101) k) ?_
            show gO (tF T245 m 102 (la7 p0 p1 p2 p3 p4 2 b238 0) [(.int 3), (.int 2)])
            refine gob (fun _ k => XS.icmpYes X245.here hx rfl (pc0 := 102) (pc' := 112) rfl (hb hby at_102) rfl (flt (by decide : ¬ ((3 : Int32) < (2 : Int32)))).2.2.2 (by decide) (by decide) k) ?_
            show gO (tF T245 m 112 (la7 p0 p1 p2 p3 p4 2 b238 0) [])
            refine seg (0 : Int32) ?_
            intro T370 lc370 h370 b370_1 b370_2 k370_1 k370_2 X370 e370 N370 z370 V370 V370_1 V370_2
            show gO (tF T370 m 282 (la8 p0 p1 p2 p3 p4 2 b238 0 b370_1 b370_2) [])
            refine gob (fun _ k => XS.aload X370.here hx rfl (hb hby at_282) rfl rfl k) ?_
            show gO (tF T370 m 284 (la8 p0 p1 p2 p3 p4 2 b238 0 b370_1 b370_2) [(.ref b238)])
            obtain ⟨_, _, ⟨T371, L371, k371, n371⟩, -, X371, ⟨Lc371, hQ371, l371, y371, z371⟩, st371⟩ := Jvm.LawKit.callS X370 hx (y := (⟨"com/example/coevolution/coevolution/measure/Measures", "averagePrecision", "([I)D"⟩ : MethodName)) hown (mvT hZ (hW hw 2 rfl)) (mvT hZ (hW hw 3 rfl)) (mvT hZ (hW hw 4 rfl)) (mvT hZ (hW hw 5 rfl)) (by decide) (backOf (W := 0) (rmap2 l Z a0 hw [] b238 k238 p0 p1 h370 n0 z370 V370) hZ (hW hw 5 rfl) (hW hw 4 rfl) (by decide) (by decide)) (g := (mkF m 284 (la8 p0 p1 p2 p3 p4 2 b238 0 b370_1 b370_2) [(.ref b238)])) rfl (by rw [hml]; rfl) (argsL := [(.ref b238)]) (rest := []) (lenOf pd_0 rfl) rfl (by show 2 * 0 + _ ≤ _; exact Nat.le_of_eq rfl) (hb hby at_284) (fun _ _ => ⟨rfl, e370, (by decide : 3 + 0 ≤ _), (by decide : 34 + 0 ≤ _)⟩)
            dsimp only [Pt.U, Pt.locs, Pt.cells, Pt.slots] at X371 l371 y371 z371 st371 hQ371
            replace X371 := castX X371 (y371.trans (rfl : _ = 3)) (z371.trans (rfl : _ = 34))
            obtain ⟨r371, rfl, hr371, Nq371, e371⟩ := hQ371
            have N371 : Fr n0 L371 := l371 ▸ Fr.app N370 Nq371
            refine gob st371 ?_
            show gO (tF T371 m 287 (la8 p0 p1 p2 p3 p4 2 b238 0 b370_1 b370_2) [(.double r371)])
            have hlr371 : r371 = (0 : UInt64) := by simpa [hc67_355, hc80_365] using hr371
            subst hlr371
            show gO (tF T371 m 287 (la8 p0 p1 p2 p3 p4 2 b238 0 b370_1 b370_2) [(.double (0 : UInt64))])
            refine gob (fun _ k => XS.dstore X371.here hx rfl (hb hby at_287) rfl (l' := (la10 p0 p1 p2 p3 p4 2 b238 0 b370_1 b370_2 (0 : UInt64))) rfl k) ?_
            show gO (tF T371 m 289 (la10 p0 p1 p2 p3 p4 2 b238 0 b370_1 b370_2 (0 : UInt64)) [])
            refine gob (fun _ k => XS.iload X371.here hx rfl (hb hby at_289) rfl k) ?_
            show gO (tF T371 m 291 (la10 p0 p1 p2 p3 p4 2 b238 0 b370_1 b370_2 (0 : UInt64)) [(.int 0)])
            refine gob (fun _ k => XS.ifNo X371.here hx rfl (hb hby at_291) rfl ((if0 _ _).trans (teq (by decide : (0 : Int32) = (0 : Int32))).2) k) ?_
            show gO (tF T371 m 294 (la10 p0 p1 p2 p3 p4 2 b238 0 b370_1 b370_2 (0 : UInt64)) [])
            refine gob (fun _ k => XS.dload X371.here hx rfl (hb hby at_294) rfl k) ?_
            show gO (tF T371 m 296 (la10 p0 p1 p2 p3 p4 2 b238 0 b370_1 b370_2 (0 : UInt64)) [(.double (0 : UInt64))])
            refine gob (fun _ k => XS.dconst0 X371.here hx rfl (hb hby at_296) (v := (0 : UInt64)) (by decide +kernel) k) ?_
            show gO (tF T371 m 297 (la10 p0 p1 p2 p3 p4 2 b238 0 b370_1 b370_2 (0 : UInt64)) [(.double (0 : UInt64)), (.double (0 : UInt64))])
            refine gob (fun _ k => XS.dcmpS X371.here hx rfl (hb hby at_297) rfl (v := (0 : Int32)) (by decide +kernel) k) ?_
            show gO (tF T371 m 298 (la10 p0 p1 p2 p3 p4 2 b238 0 b370_1 b370_2 (0 : UInt64)) [(.int 0)])
            refine gob (fun _ k => XS.ifNo X371.here hx rfl (hb hby at_298) rfl ((if0 _ _).trans (teq (by decide : (0 : Int32) = (0 : Int32))).2) k) ?_
            show gO (tF T371 m 301 (la10 p0 p1 p2 p3 p4 2 b238 0 b370_1 b370_2 (0 : UInt64)) [])
            refine gob (fun _ k => XS.iconst X371.here hx rfl (hb hby at_301) k) ?_
            show gO (tF T371 m 302 (la10 p0 p1 p2 p3 p4 2 b238 0 b370_1 b370_2 (0 : UInt64)) [(.int 1)])
            refine gob (fun _ k => XS.goto X371.here hx rfl (pc0 := 302) (pc' := 306) rfl (hb hby at_302) (by decide) (by decide) k) ?_
            show gO (tF T371 m 306 (la10 p0 p1 p2 p3 p4 2 b238 0 b370_1 b370_2 (0 : UInt64)) [(.int 1)])
            refine goZ X371 hx hlk (t := .boolean) Bd.returns (by simp) (hb hby at_306) (z' := (1 : Int32)) rfl ?_ (by decide) (by decide)
            show Q0 Z p0 p1 p2 p3 p4 h0 n0 (some (.int (1 : Int32))) T371.heap _
            exact ⟨rfl, N371⟩
      · skip
        by_cases hn372 : n_ = (3 : Int32)
        · skip
          subst hn372
          show gO (tF s₁ m 9 (la5 p0 p1 p2 p3 p4 3) [])
          refine gob (fun _ k => XS.iload X0.here hx rfl (hb hby at_9) rfl k) ?_
          show gO (tF s₁ m 11 (la5 p0 p1 p2 p3 p4 3) [(.int 3)])
          obtain ⟨T373, h373, k373, X373, e373, E373, A373, st373⟩ := newP X0 hx hZ (hW hw 1 rfl) e0 (g := (mkF m 11 (la5 p0 p1 p2 p3 p4 3) [(.int 3)])) rfl (hb hby at_11) rfl (by decide) (cap := 3) (by decide) (by decide) (by decide) (by decide)
          obtain ⟨b373, g373⟩ : ∃ z, z = h0.size := ⟨_, rfl⟩
          rw [← g373] at A373 st373
          have g374 : n0 ≤ b373 := Nat.le_trans Z0 (Nat.le_of_eq g373.symm)
          have z375 : n0 ≤ h373.size := Nat.le_trans Z0 E373.1
          have V373 : Arv Z h373 b373 k373 .int (3 : Int32) [(.int 0), (.int 0), (.int 0)] (.int 0) := (Arv.new A373 (by decide)).pad (pad_rep [] (.int 0) 3)
          refine gob st373 ?_
          replace X373 := castX X373 (rfl : _ = 1) (rfl : _ = 3)
          show gO (tF T373 m 13 (la5 p0 p1 p2 p3 p4 3) [(.ref b373)])
          refine gob (fun _ k => XS.astore X373.here hx rfl (hb hby at_13) rfl rfl (l' := (la6 p0 p1 p2 p3 p4 3 b373)) rfl k) ?_
          show gO (tF T373 m 15 (la6 p0 p1 p2 p3 p4 3 b373) [])
          refine gob (fun _ k => XS.iload X373.here hx rfl (hb hby at_15) rfl k) ?_
          show gO (tF T373 m 17 (la6 p0 p1 p2 p3 p4 3 b373) [(.int 3)])
          refine gob (fun _ k => XS.ifNo X373.here hx rfl (hb hby at_17) rfl ((if0 _ _).trans (tlt (by decide : (0 : Int32) < (3 : Int32))).2.2.2) k) ?_
          show gO (tF T373 m 20 (la6 p0 p1 p2 p3 p4 3 b373) [])
          refine gob (fun _ k => XS.aload X373.here hx rfl (hb hby at_20) rfl rfl k) ?_
          show gO (tF T373 m 22 (la6 p0 p1 p2 p3 p4 3 b373) [(.ref b373)])
          refine gob (fun _ k => XS.iconst X373.here hx rfl (hb hby at_22) k) ?_
          show gO (tF T373 m 23 (la6 p0 p1 p2 p3 p4 3 b373) [(.int 0), (.ref b373)])
          refine gob (fun _ k => XS.iloadN X373.here hx rfl (hb hby at_23) rfl k) ?_
          show gO (tF T373 m 24 (la6 p0 p1 p2 p3 p4 3 b373) [(.int p0), (.int 0), (.ref b373)])
          obtain ⟨cl376, Ar376, aq376, S376, N376, H376, G376⟩ := id V373
          have hin376 : ¬ ((0 : Int32) < 0 ∨ cl376.slots.size ≤ ((0 : Int32)).toNatClampNeg) := inb_of S376 ⟨by decide, by decide⟩
          obtain ⟨T377, h377, X377, e377, W377, st377⟩ := stI X373 hx hZ e373 Ar376 (j := (0 : Int32)) hin376 (g := (mkF m 24 (la6 p0 p1 p2 p3 p4 3 b373) [(.int p0), (.int 0), (.ref b373)])) rfl rfl (hb hby at_24)
          refine gob st377 ?_
          have z378 : n0 ≤ h377.size := Nat.le_trans z375 (Keep.of_wr W377).1
          have N377 := Fr.snoc X377 N0 g374
          have V377 : Arv Z h377 b373 k373 .int (3 : Int32) [(.int p0), (.int 0), (.int 0)] (.int 0) := Arv.set Ar376 aq376 S376 N376 H376 G376 rfl W377 0 rfl (Nat.le_of_ble_eq_true rfl)
          show gO (tF T377 m 25 (la6 p0 p1 p2 p3 p4 3 b373) [])
          refine gob (fun _ k => XS.iload X377.here hx rfl (hb hby at_25) rfl k) ?_
          show gO (tF T377 m 27 (la6 p0 p1 p2 p3 p4 3 b373) [(.int 3)])
          refine gob (fun _ k => XS.iconst X377.here hx rfl (hb hby at_27) k) ?_
          show gO (tF T377 m 28 (la6 p0 p1 p2 p3 p4 3 b373) [(.int 1), (.int 3)])
          refine gob (fun _ k => XS.icmpNo X377.here hx rfl (hb hby at_28) rfl (tlt (by decide : (1 : Int32) < (3 : Int32))).2.2.2 k) ?_
          show gO (tF T377 m 31 (la6 p0 p1 p2 p3 p4 3 b373) [])
          refine gob (fun _ k => XS.aload X377.here hx rfl (hb hby at_31) rfl rfl k) ?_
          show gO (tF T377 m 33 (la6 p0 p1 p2 p3 p4 3 b373) [(.ref b373)])
          refine gob (fun _ k => XS.iconst X377.here hx rfl (hb hby at_33) k) ?_
          show gO (tF T377 m 34 (la6 p0 p1 p2 p3 p4 3 b373) [(.int 1), (.ref b373)])
          refine gob (fun _ k => XS.iloadN X377.here hx rfl (hb hby at_34) rfl k) ?_
          show gO (tF T377 m 35 (la6 p0 p1 p2 p3 p4 3 b373) [(.int p1), (.int 1), (.ref b373)])
          obtain ⟨cl379, Ar379, aq379, S379, N379, H379, G379⟩ := id V377
          have hin379 : ¬ ((1 : Int32) < 0 ∨ cl379.slots.size ≤ ((1 : Int32)).toNatClampNeg) := inb_of S379 ⟨by decide, by decide⟩
          obtain ⟨T380, h380, X380, e380, W380, st380⟩ := stI X377 hx hZ e377 Ar379 (j := (1 : Int32)) hin379 (g := (mkF m 35 (la6 p0 p1 p2 p3 p4 3 b373) [(.int p1), (.int 1), (.ref b373)])) rfl rfl (hb hby at_35)
          refine gob st380 ?_
          have z381 : n0 ≤ h380.size := Nat.le_trans z378 (Keep.of_wr W380).1
          have N380 := Fr.snoc X380 N377 g374
          have V380 : Arv Z h380 b373 k373 .int (3 : Int32) [(.int p0), (.int p1), (.int 0)] (.int 0) := Arv.set Ar379 aq379 S379 N379 H379 G379 rfl W380 1 rfl (Nat.le_of_ble_eq_true rfl)
          show gO (tF T380 m 36 (la6 p0 p1 p2 p3 p4 3 b373) [])
          refine gob (fun _ k => XS.iload X380.here hx rfl (hb hby at_36) rfl k) ?_
          show gO (tF T380 m 38 (la6 p0 p1 p2 p3 p4 3 b373) [(.int 3)])
          refine gob (fun _ k => XS.iconst X380.here hx rfl (hb hby at_38) k) ?_
          show gO (tF T380 m 39 (la6 p0 p1 p2 p3 p4 3 b373) [(.int 2), (.int 3)])
          refine gob (fun _ k => XS.icmpNo X380.here hx rfl (hb hby at_39) rfl (tlt (by decide : (2 : Int32) < (3 : Int32))).2.2.2 k) ?_
          show gO (tF T380 m 42 (la6 p0 p1 p2 p3 p4 3 b373) [])
          refine gob (fun _ k => XS.aload X380.here hx rfl (hb hby at_42) rfl rfl k) ?_
          show gO (tF T380 m 44 (la6 p0 p1 p2 p3 p4 3 b373) [(.ref b373)])
          refine gob (fun _ k => XS.iconst X380.here hx rfl (hb hby at_44) k) ?_
          show gO (tF T380 m 45 (la6 p0 p1 p2 p3 p4 3 b373) [(.int 2), (.ref b373)])
          refine gob (fun _ k => XS.iloadN X380.here hx rfl (hb hby at_45) rfl k) ?_
          show gO (tF T380 m 46 (la6 p0 p1 p2 p3 p4 3 b373) [(.int p2), (.int 2), (.ref b373)])
          obtain ⟨cl382, Ar382, aq382, S382, N382, H382, G382⟩ := id V380
          have hin382 : ¬ ((2 : Int32) < 0 ∨ cl382.slots.size ≤ ((2 : Int32)).toNatClampNeg) := inb_of S382 ⟨by decide, by decide⟩
          obtain ⟨T383, h383, X383, e383, W383, st383⟩ := stI X380 hx hZ e380 Ar382 (j := (2 : Int32)) hin382 (g := (mkF m 46 (la6 p0 p1 p2 p3 p4 3 b373) [(.int p2), (.int 2), (.ref b373)])) rfl rfl (hb hby at_46)
          refine gob st383 ?_
          have z384 : n0 ≤ h383.size := Nat.le_trans z381 (Keep.of_wr W383).1
          have N383 := Fr.snoc X383 N380 g374
          have V383 : Arv Z h383 b373 k373 .int (3 : Int32) [(.int p0), (.int p1), (.int p2)] (.int 0) := Arv.set Ar382 aq382 S382 N382 H382 G382 rfl W383 2 rfl (Nat.le_of_ble_eq_true rfl)
          show gO (tF T383 m 47 (la6 p0 p1 p2 p3 p4 3 b373) [])
          refine gob (fun _ k => XS.iload X383.here hx rfl (hb hby at_47) rfl k) ?_
          show gO (tF T383 m 49 (la6 p0 p1 p2 p3 p4 3 b373) [(.int 3)])
          refine gob (fun _ k => XS.iconst X383.here hx rfl (hb hby at_49) k) ?_
          show gO (tF T383 m 50 (la6 p0 p1 p2 p3 p4 3 b373) [(.int 3), (.int 3)])
          refine gob (fun _ k => XS.icmpYes X383.here hx rfl (pc0 := 50) (pc' := 58) rfl (hb hby at_50) rfl (flt (by decide : ¬ ((3 : Int32) < (3 : Int32)))).2.2.2 (by decide) (by decide) k) ?_
          show gO (tF T383 m 58 (la6 p0 p1 p2 p3 p4 3 b373) [])
          refine gob (fun _ k => XS.iconst X383.here hx rfl (hb hby at_58) k) ?_
          show gO (tF T383 m 59 (la6 p0 p1 p2 p3 p4 3 b373) [(.int 0)])
          refine gob (fun _ k => XS.istore X383.here hx rfl (hb hby at_59) rfl (l' := (la7 p0 p1 p2 p3 p4 3 b373 0)) rfl k) ?_
          show gO (tF T383 m 61 (la7 p0 p1 p2 p3 p4 3 b373 0) [])
          have seg : ∀ (key_ : Int32), (∀ (T_ : State) (lc_ : List Loc) (h_ : Heap) (b1_ b2_ : Addr) (k1_ k2_ : ClassId), Stand p l e room_1 s m #[(.int p0), (.int p1), (.int p2), (.int p3), (.int p4)] below meth c T_ lc_ 3 35 → T_.heap = h_ → Fr n0 lc_ → n0 ≤ h_.size → Arv Z h_ b373 k373 .int (3 : Int32) [(.int p0), (.int p1), (.int p2)] (.int 0) → Arv Z h_ b1_ k1_ .int (16 : Int32) [(.int 0), (.int 1), (.int 1), (.int 5), (.int 1), (.int 1), (.int 7), (.int 23), (.int 1), (.int 3), (.int 5), (.int 29), (.int 1), (.int 11), (.int 1), (.int 1)] (.int 0) → Arv Z h_ b2_ k2_ .int (16 : Int32) [(.int 1), (.int 4), (.int 3), (.int 12), (.int 2), (.int 2), (.int 12), (.int 36), (.int 1), (.int 4), (.int 6), (.int 36), (.int 1), (.int 12), (.int 1), (.int 1)] (.int 0) → Go p e below s (Q0 Z p0 p1 p2 p3 p4 h0 n0) 16 192 (T_.setTop (mkF m 282 (la8 p0 p1 p2 p3 p4 3 b373 key_ b1_ b2_) []))) → Go p e below s (Q0 Z p0 p1 p2 p3 p4 h0 n0) 16 192 (T383.setTop (mkF m 112 (la7 p0 p1 p2 p3 p4 3 b373 key_) [])) := by
            intro key_ kont
            show gO (tF T383 m 112 (la7 p0 p1 p2 p3 p4 3 b373 key_) [])
            refine gob (fun _ k => XS.bipush X383.here hx rfl (hb hby at_112) k) ?_
            show gO (tF T383 m 114 (la7 p0 p1 p2 p3 p4 3 b373 key_) [(.int 16)])
            obtain ⟨T385, h385, k385, X385, e385, E385, A385, st385⟩ := newP X383 hx hZ (hW hw 1 rfl) e383 (g := (mkF m 114 (la7 p0 p1 p2 p3 p4 3 b373 key_) [(.int 16)])) rfl (hb hby at_114) rfl (by decide) (cap := 16) (by decide) (by decide) (by decide) (by decide)
            obtain ⟨b385, g385⟩ : ∃ z, z = h383.size := ⟨_, rfl⟩
            rw [← g385] at A385 st385
            have n386 : b373 ≠ b385 := Nat.ne_of_lt (Nat.lt_of_lt_of_le V383.lt (Nat.le_of_eq g385.symm))
            have g387 : n0 ≤ b385 := Nat.le_trans z384 (Nat.le_of_eq g385.symm)
            have z388 : n0 ≤ h385.size := Nat.le_trans z384 E385.1
            have V385 : Arv Z h385 b385 k385 .int (16 : Int32) [(.int 0), (.int 0), (.int 0), (.int 0), (.int 0), (.int 0), (.int 0), (.int 0), (.int 0), (.int 0), (.int 0), (.int 0), (.int 0), (.int 0), (.int 0), (.int 0)] (.int 0) := (Arv.new A385 (by decide)).pad (pad_rep [] (.int 0) 16)
            refine gob st385 ?_
            replace X385 := castX X385 (rfl : _ = 2) (rfl : _ = 19)
            show gO (tF T385 m 116 (la7 p0 p1 p2 p3 p4 3 b373 key_) [(.ref b385)])
            refine gob (fun _ k => XS.dup X385.here hx rfl (hb hby at_116) rfl rfl k) ?_
            show gO (tF T385 m 117 (la7 p0 p1 p2 p3 p4 3 b373 key_) [(.ref b385), (.ref b385)])
            refine gob (fun _ k => XS.iconst X385.here hx rfl (hb hby at_117) k) ?_
            show gO (tF T385 m 118 (la7 p0 p1 p2 p3 p4 3 b373 key_) [(.int 0), (.ref b385), (.ref b385)])
            refine gob (fun _ k => XS.iconst X385.here hx rfl (hb hby at_118) k) ?_
            show gO (tF T385 m 119 (la7 p0 p1 p2 p3 p4 3 b373 key_) [(.int 0), (.int 0), (.ref b385), (.ref b385)])
            obtain ⟨cl389, Ar389, aq389, S389, N389, H389, G389⟩ := id V385
            have hin389 : ¬ ((0 : Int32) < 0 ∨ cl389.slots.size ≤ ((0 : Int32)).toNatClampNeg) := inb_of S389 ⟨by decide, by decide⟩
            obtain ⟨T390, h390, X390, e390, W390, st390⟩ := stI X385 hx hZ e385 Ar389 (j := (0 : Int32)) hin389 (g := (mkF m 119 (la7 p0 p1 p2 p3 p4 3 b373 key_) [(.int 0), (.int 0), (.ref b385), (.ref b385)])) rfl rfl (hb hby at_119)
            refine gob st390 ?_
            have z391 : n0 ≤ h390.size := Nat.le_trans z388 (Keep.of_wr W390).1
            have N390 := Fr.snoc X390 N383 g387
            have V390 : Arv Z h390 b385 k385 .int (16 : Int32) [(.int 0), (.int 0), (.int 0), (.int 0), (.int 0), (.int 0), (.int 0), (.int 0), (.int 0), (.int 0), (.int 0), (.int 0), (.int 0), (.int 0), (.int 0), (.int 0)] (.int 0) := Arv.set Ar389 aq389 S389 N389 H389 G389 rfl W390 0 rfl (Nat.le_of_ble_eq_true rfl)
            show gO (tF T390 m 120 (la7 p0 p1 p2 p3 p4 3 b373 key_) [(.ref b385)])
            refine gob (fun _ k => XS.dup X390.here hx rfl (hb hby at_120) rfl rfl k) ?_
            show gO (tF T390 m 121 (la7 p0 p1 p2 p3 p4 3 b373 key_) [(.ref b385), (.ref b385)])
            refine gob (fun _ k => XS.iconst X390.here hx rfl (hb hby at_121) k) ?_
            show gO (tF T390 m 122 (la7 p0 p1 p2 p3 p4 3 b373 key_) [(.int 1), (.ref b385), (.ref b385)])
            refine gob (fun _ k => XS.iconst X390.here hx rfl (hb hby at_122) k) ?_
            show gO (tF T390 m 123 (la7 p0 p1 p2 p3 p4 3 b373 key_) [(.int 1), (.int 1), (.ref b385), (.ref b385)])
            obtain ⟨cl392, Ar392, aq392, S392, N392, H392, G392⟩ := id V390
            have hin392 : ¬ ((1 : Int32) < 0 ∨ cl392.slots.size ≤ ((1 : Int32)).toNatClampNeg) := inb_of S392 ⟨by decide, by decide⟩
            obtain ⟨T393, h393, X393, e393, W393, st393⟩ := stI X390 hx hZ e390 Ar392 (j := (1 : Int32)) hin392 (g := (mkF m 123 (la7 p0 p1 p2 p3 p4 3 b373 key_) [(.int 1), (.int 1), (.ref b385), (.ref b385)])) rfl rfl (hb hby at_123)
            refine gob st393 ?_
            have z394 : n0 ≤ h393.size := Nat.le_trans z391 (Keep.of_wr W393).1
            have N393 := Fr.snoc X393 N390 g387
            have V393 : Arv Z h393 b385 k385 .int (16 : Int32) [(.int 0), (.int 1), (.int 0), (.int 0), (.int 0), (.int 0), (.int 0), (.int 0), (.int 0), (.int 0), (.int 0), (.int 0), (.int 0), (.int 0), (.int 0), (.int 0)] (.int 0) := Arv.set Ar392 aq392 S392 N392 H392 G392 rfl W393 1 rfl (Nat.le_of_ble_eq_true rfl)
            show gO (tF T393 m 124 (la7 p0 p1 p2 p3 p4 3 b373 key_) [(.ref b385)])
            refine gob (fun _ k => XS.dup X393.here hx rfl (hb hby at_124) rfl rfl k) ?_
            show gO (tF T393 m 125 (la7 p0 p1 p2 p3 p4 3 b373 key_) [(.ref b385), (.ref b385)])
            refine gob (fun _ k => XS.iconst X393.here hx rfl (hb hby at_125) k) ?_
            show gO (tF T393 m 126 (la7 p0 p1 p2 p3 p4 3 b373 key_) [(.int 2), (.ref b385), (.ref b385)])
            refine gob (fun _ k => XS.iconst X393.here hx rfl (hb hby at_126) k) ?_
            show gO (tF T393 m 127 (la7 p0 p1 p2 p3 p4 3 b373 key_) [(.int 1), (.int 2), (.ref b385), (.ref b385)])
            obtain ⟨cl395, Ar395, aq395, S395, N395, H395, G395⟩ := id V393
            have hin395 : ¬ ((2 : Int32) < 0 ∨ cl395.slots.size ≤ ((2 : Int32)).toNatClampNeg) := inb_of S395 ⟨by decide, by decide⟩
            obtain ⟨T396, h396, X396, e396, W396, st396⟩ := stI X393 hx hZ e393 Ar395 (j := (2 : Int32)) hin395 (g := (mkF m 127 (la7 p0 p1 p2 p3 p4 3 b373 key_) [(.int 1), (.int 2), (.ref b385), (.ref b385)])) rfl rfl (hb hby at_127)
            refine gob st396 ?_
            have z397 : n0 ≤ h396.size := Nat.le_trans z394 (Keep.of_wr W396).1
            have N396 := Fr.snoc X396 N393 g387
            have V396 : Arv Z h396 b385 k385 .int (16 : Int32) [(.int 0), (.int 1), (.int 1), (.int 0), (.int 0), (.int 0), (.int 0), (.int 0), (.int 0), (.int 0), (.int 0), (.int 0), (.int 0), (.int 0), (.int 0), (.int 0)] (.int 0) := Arv.set Ar395 aq395 S395 N395 H395 G395 rfl W396 2 rfl (Nat.le_of_ble_eq_true rfl)
            show gO (tF T396 m 128 (la7 p0 p1 p2 p3 p4 3 b373 key_) [(.ref b385)])
            refine gob (fun _ k => XS.dup X396.here hx rfl (hb hby at_128) rfl rfl k) ?_
            show gO (tF T396 m 129 (la7 p0 p1 p2 p3 p4 3 b373 key_) [(.ref b385), (.ref b385)])
            refine gob (fun _ k => XS.iconst X396.here hx rfl (hb hby at_129) k) ?_
            show gO (tF T396 m 130 (la7 p0 p1 p2 p3 p4 3 b373 key_) [(.int 3), (.ref b385), (.ref b385)])
            refine gob (fun _ k => XS.iconst X396.here hx rfl (hb hby at_130) k) ?_
            show gO (tF T396 m 131 (la7 p0 p1 p2 p3 p4 3 b373 key_) [(.int 5), (.int 3), (.ref b385), (.ref b385)])
            obtain ⟨cl398, Ar398, aq398, S398, N398, H398, G398⟩ := id V396
            have hin398 : ¬ ((3 : Int32) < 0 ∨ cl398.slots.size ≤ ((3 : Int32)).toNatClampNeg) := inb_of S398 ⟨by decide, by decide⟩
            obtain ⟨T399, h399, X399, e399, W399, st399⟩ := stI X396 hx hZ e396 Ar398 (j := (3 : Int32)) hin398 (g := (mkF m 131 (la7 p0 p1 p2 p3 p4 3 b373 key_) [(.int 5), (.int 3), (.ref b385), (.ref b385)])) rfl rfl (hb hby at_131)
            refine gob st399 ?_
            have z400 : n0 ≤ h399.size := Nat.le_trans z397 (Keep.of_wr W399).1
            have N399 := Fr.snoc X399 N396 g387
            have V399 : Arv Z h399 b385 k385 .int (16 : Int32) [(.int 0), (.int 1), (.int 1), (.int 5), (.int 0), (.int 0), (.int 0), (.int 0), (.int 0), (.int 0), (.int 0), (.int 0), (.int 0), (.int 0), (.int 0), (.int 0)] (.int 0) := Arv.set Ar398 aq398 S398 N398 H398 G398 rfl W399 3 rfl (Nat.le_of_ble_eq_true rfl)
            show gO (tF T399 m 132 (la7 p0 p1 p2 p3 p4 3 b373 key_) [(.ref b385)])
            refine gob (fun _ k => XS.dup X399.here hx rfl (hb hby at_132) rfl rfl k) ?_
            show gO (tF T399 m 133 (la7 p0 p1 p2 p3 p4 3 b373 key_) [(.ref b385), (.ref b385)])
            refine gob (fun _ k => XS.iconst X399.here hx rfl (hb hby at_133) k) ?_
            show gO (tF T399 m 134 (la7 p0 p1 p2 p3 p4 3 b373 key_) [(.int 4), (.ref b385), (.ref b385)])
            refine gob (fun _ k => XS.iconst X399.here hx rfl (hb hby at_134) k) ?_
            show gO (tF T399 m 135 (la7 p0 p1 p2 p3 p4 3 b373 key_) [(.int 1), (.int 4), (.ref b385), (.ref b385)])
            obtain ⟨cl401, Ar401, aq401, S401, N401, H401, G401⟩ := id V399
            have hin401 : ¬ ((4 : Int32) < 0 ∨ cl401.slots.size ≤ ((4 : Int32)).toNatClampNeg) := inb_of S401 ⟨by decide, by decide⟩
            obtain ⟨T402, h402, X402, e402, W402, st402⟩ := stI X399 hx hZ e399 Ar401 (j := (4 : Int32)) hin401 (g := (mkF m 135 (la7 p0 p1 p2 p3 p4 3 b373 key_) [(.int 1), (.int 4), (.ref b385), (.ref b385)])) rfl rfl (hb hby at_135)
            refine gob st402 ?_
            have z403 : n0 ≤ h402.size := Nat.le_trans z400 (Keep.of_wr W402).1
            have N402 := Fr.snoc X402 N399 g387
            have V402 : Arv Z h402 b385 k385 .int (16 : Int32) [(.int 0), (.int 1), (.int 1), (.int 5), (.int 1), (.int 0), (.int 0), (.int 0), (.int 0), (.int 0), (.int 0), (.int 0), (.int 0), (.int 0), (.int 0), (.int 0)] (.int 0) := Arv.set Ar401 aq401 S401 N401 H401 G401 rfl W402 4 rfl (Nat.le_of_ble_eq_true rfl)
            show gO (tF T402 m 136 (la7 p0 p1 p2 p3 p4 3 b373 key_) [(.ref b385)])
            refine gob (fun _ k => XS.dup X402.here hx rfl (hb hby at_136) rfl rfl k) ?_
            show gO (tF T402 m 137 (la7 p0 p1 p2 p3 p4 3 b373 key_) [(.ref b385), (.ref b385)])
            refine gob (fun _ k => XS.iconst X402.here hx rfl (hb hby at_137) k) ?_
            show gO (tF T402 m 138 (la7 p0 p1 p2 p3 p4 3 b373 key_) [(.int 5), (.ref b385), (.ref b385)])
            refine gob (fun _ k => XS.iconst X402.here hx rfl (hb hby at_138) k) ?_
            show gO (tF T402 m 139 (la7 p0 p1 p2 p3 p4 3 b373 key_) [(.int 1), (.int 5), (.ref b385), (.ref b385)])
            obtain ⟨cl404, Ar404, aq404, S404, N404, H404, G404⟩ := id V402
            have hin404 : ¬ ((5 : Int32) < 0 ∨ cl404.slots.size ≤ ((5 : Int32)).toNatClampNeg) := inb_of S404 ⟨by decide, by decide⟩
            obtain ⟨T405, h405, X405, e405, W405, st405⟩ := stI X402 hx hZ e402 Ar404 (j := (5 : Int32)) hin404 (g := (mkF m 139 (la7 p0 p1 p2 p3 p4 3 b373 key_) [(.int 1), (.int 5), (.ref b385), (.ref b385)])) rfl rfl (hb hby at_139)
            refine gob st405 ?_
            have z406 : n0 ≤ h405.size := Nat.le_trans z403 (Keep.of_wr W405).1
            have N405 := Fr.snoc X405 N402 g387
            have V405 : Arv Z h405 b385 k385 .int (16 : Int32) [(.int 0), (.int 1), (.int 1), (.int 5), (.int 1), (.int 1), (.int 0), (.int 0), (.int 0), (.int 0), (.int 0), (.int 0), (.int 0), (.int 0), (.int 0), (.int 0)] (.int 0) := Arv.set Ar404 aq404 S404 N404 H404 G404 rfl W405 5 rfl (Nat.le_of_ble_eq_true rfl)
            show gO (tF T405 m 140 (la7 p0 p1 p2 p3 p4 3 b373 key_) [(.ref b385)])
            refine gob (fun _ k => XS.dup X405.here hx rfl (hb hby at_140) rfl rfl k) ?_
            show gO (tF T405 m 141 (la7 p0 p1 p2 p3 p4 3 b373 key_) [(.ref b385), (.ref b385)])
            refine gob (fun _ k => XS.bipush X405.here hx rfl (hb hby at_141) k) ?_
            show gO (tF T405 m 143 (la7 p0 p1 p2 p3 p4 3 b373 key_) [(.int 6), (.ref b385), (.ref b385)])
            refine gob (fun _ k => XS.bipush X405.here hx rfl (hb hby at_143) k) ?_
            show gO (tF T405 m 145 (la7 p0 p1 p2 p3 p4 3 b373 key_) [(.int 7), (.int 6), (.ref b385), (.ref b385)])
            obtain ⟨cl407, Ar407, aq407, S407, N407, H407, G407⟩ := id V405
            have hin407 : ¬ ((6 : Int32) < 0 ∨ cl407.slots.size ≤ ((6 : Int32)).toNatClampNeg) := inb_of S407 ⟨by decide, by decide⟩
            obtain ⟨T408, h408, X408, e408, W408, st408⟩ := stI X405 hx hZ e405 Ar407 (j := (6 : Int32)) hin407 (g := (mkF m 145 (la7 p0 p1 p2 p3 p4 3 b373 key_) [(.int 7), (.int 6), (.ref b385), (.ref b385)])) rfl rfl (hb hby at_145)
            refine gob st408 ?_
            have z409 : n0 ≤ h408.size := Nat.le_trans z406 (Keep.of_wr W408).1
            have N408 := Fr.snoc X408 N405 g387
            have V408 : Arv Z h408 b385 k385 .int (16 : Int32) [(.int 0), (.int 1), (.int 1), (.int 5), (.int 1), (.int 1), (.int 7), (.int 0), (.int 0), (.int 0), (.int 0), (.int 0), (.int 0), (.int 0), (.int 0), (.int 0)] (.int 0) := Arv.set Ar407 aq407 S407 N407 H407 G407 rfl W408 6 rfl (Nat.le_of_ble_eq_true rfl)
            show gO (tF T408 m 146 (la7 p0 p1 p2 p3 p4 3 b373 key_) [(.ref b385)])
            refine gob (fun _ k => XS.dup X408.here hx rfl (hb hby at_146) rfl rfl k) ?_
            show gO (tF T408 m 147 (la7 p0 p1 p2 p3 p4 3 b373 key_) [(.ref b385), (.ref b385)])
            refine gob (fun _ k => XS.bipush X408.here hx rfl (hb hby at_147) k) ?_
            show gO (tF T408 m 149 (la7 p0 p1 p2 p3 p4 3 b373 key_) [(.int 7), (.ref b385), (.ref b385)])
            refine gob (fun _ k => XS.bipush X408.here hx rfl (hb hby at_149) k) ?_
            show gO (tF T408 m 151 (la7 p0 p1 p2 p3 p4 3 b373 key_) [(.int 23), (.int 7), (.ref b385), (.ref b385)])
            obtain ⟨cl410, Ar410, aq410, S410, N410, H410, G410⟩ := id V408
            have hin410 : ¬ ((7 : Int32) < 0 ∨ cl410.slots.size ≤ ((7 : Int32)).toNatClampNeg) := inb_of S410 ⟨by decide, by decide⟩
            obtain ⟨T411, h411, X411, e411, W411, st411⟩ := stI X408 hx hZ e408 Ar410 (j := (7 : Int32)) hin410 (g := (mkF m 151 (la7 p0 p1 p2 p3 p4 3 b373 key_) [(.int 23), (.int 7), (.ref b385), (.ref b385)])) rfl rfl (hb hby at_151)
            refine gob st411 ?_
            have z412 : n0 ≤ h411.size := Nat.le_trans z409 (Keep.of_wr W411).1
            have N411 := Fr.snoc X411 N408 g387
            have V411 : Arv Z h411 b385 k385 .int (16 : Int32) [(.int 0), (.int 1), (.int 1), (.int 5), (.int 1), (.int 1), (.int 7), (.int 23), (.int 0), (.int 0), (.int 0), (.int 0), (.int 0), (.int 0), (.int 0), (.int 0)] (.int 0) := Arv.set Ar410 aq410 S410 N410 H410 G410 rfl W411 7 rfl (Nat.le_of_ble_eq_true rfl)
            show gO (tF T411 m 152 (la7 p0 p1 p2 p3 p4 3 b373 key_) [(.ref b385)])
            refine gob (fun _ k => XS.dup X411.here hx rfl (hb hby at_152) rfl rfl k) ?_
            show gO (tF T411 m 153 (la7 p0 p1 p2 p3 p4 3 b373 key_) [(.ref b385), (.ref b385)])
            refine gob (fun _ k => XS.bipush X411.here hx rfl (hb hby at_153) k) ?_
            show gO (tF T411 m 155 (la7 p0 p1 p2 p3 p4 3 b373 key_) [(.int 8), (.ref b385), (.ref b385)])
            refine gob (fun _ k => XS.iconst X411.here hx rfl (hb hby at_155) k) ?_
            show gO (tF T411 m 156 (la7 p0 p1 p2 p3 p4 3 b373 key_) [(.int 1), (.int 8), (.ref b385), (.ref b385)])
            obtain ⟨cl413, Ar413, aq413, S413, N413, H413, G413⟩ := id V411
            have hin413 : ¬ ((8 : Int32) < 0 ∨ cl413.slots.size ≤ ((8 : Int32)).toNatClampNeg) := inb_of S413 ⟨by decide, by decide⟩
            obtain ⟨T414, h414, X414, e414, W414, st414⟩ := stI X411 hx hZ e411 Ar413 (j := (8 : Int32)) hin413 (g := (mkF m 156 (la7 p0 p1 p2 p3 p4 3 b373 key_) [(.int 1), (.int 8), (.ref b385), (.ref b385)])) rfl rfl (hb hby at_156)
            refine gob st414 ?_
            have z415 : n0 ≤ h414.size := Nat.le_trans z412 (Keep.of_wr W414).1
            have N414 := Fr.snoc X414 N411 g387
            have V414 : Arv Z h414 b385 k385 .int (16 : Int32) [(.int 0), (.int 1), (.int 1), (.int 5), (.int 1), (.int 1), (.int 7), (.int 23), (.int 1), (.int 0), (.int 0), (.int 0), (.int 0), (.int 0), (.int 0), (.int 0)] (.int 0) := Arv.set Ar413 aq413 S413 N413 H413 G413 rfl W414 8 rfl (Nat.le_of_ble_eq_true rfl)
            show gO (tF T414 m 157 (la7 p0 p1 p2 p3 p4 3 b373 key_) [(.ref b385)])
            refine gob (fun _ k => XS.dup X414.here hx rfl (hb hby at_157) rfl rfl k) ?_
            show gO (tF T414 m 158 (la7 p0 p1 p2 p3 p4 3 b373 key_) [(.ref b385), (.ref b385)])
            refine gob (fun _ k => XS.bipush X414.here hx rfl (hb hby at_158) k) ?_
            show gO (tF T414 m 160 (la7 p0 p1 p2 p3 p4 3 b373 key_) [(.int 9), (.ref b385), (.ref b385)])
            refine gob (fun _ k => XS.iconst X414.here hx rfl (hb hby at_160) k) ?_
            show gO (tF T414 m 161 (la7 p0 p1 p2 p3 p4 3 b373 key_) [(.int 3), (.int 9), (.ref b385), (.ref b385)])
            obtain ⟨cl416, Ar416, aq416, S416, N416, H416, G416⟩ := id V414
            have hin416 : ¬ ((9 : Int32) < 0 ∨ cl416.slots.size ≤ ((9 : Int32)).toNatClampNeg) := inb_of S416 ⟨by decide, by decide⟩
            obtain ⟨T417, h417, X417, e417, W417, st417⟩ := stI X414 hx hZ e414 Ar416 (j := (9 : Int32)) hin416 (g := (mkF m 161 (la7 p0 p1 p2 p3 p4 3 b373 key_) [(.int 3), (.int 9), (.ref b385), (.ref b385)])) rfl rfl (hb hby at_161)
            refine gob st417 ?_
            have z418 : n0 ≤ h417.size := Nat.le_trans z415 (Keep.of_wr W417).1
            have N417 := Fr.snoc X417 N414 g387
            have V417 : Arv Z h417 b385 k385 .int (16 : Int32) [(.int 0), (.int 1), (.int 1), (.int 5), (.int 1), (.int 1), (.int 7), (.int 23), (.int 1), (.int 3), (.int 0), (.int 0), (.int 0), (.int 0), (.int 0), (.int 0)] (.int 0) := Arv.set Ar416 aq416 S416 N416 H416 G416 rfl W417 9 rfl (Nat.le_of_ble_eq_true rfl)
            show gO (tF T417 m 162 (la7 p0 p1 p2 p3 p4 3 b373 key_) [(.ref b385)])
            refine gob (fun _ k => XS.dup X417.here hx rfl (hb hby at_162) rfl rfl k) ?_
            show gO (tF T417 m 163 (la7 p0 p1 p2 p3 p4 3 b373 key_) [(.ref b385), (.ref b385)])
            refine gob (fun _ k => XS.bipush X417.here hx rfl (hb hby at_163) k) ?_
            show gO (tF T417 m 165 (la7 p0 p1 p2 p3 p4 3 b373 key_) [(.int 10), (.ref b385), (.ref b385)])
            refine gob (fun _ k => XS.iconst X417.here hx rfl (hb hby at_165) k) ?_
            show gO (tF T417 m 166 (la7 p0 p1 p2 p3 p4 3 b373 key_) [(.int 5), (.int 10), (.ref b385), (.ref b385)])
            obtain ⟨cl419, Ar419, aq419, S419, N419, H419, G419⟩ := id V417
            have hin419 : ¬ ((10 : Int32) < 0 ∨ cl419.slots.size ≤ ((10 : Int32)).toNatClampNeg) := inb_of S419 ⟨by decide, by decide⟩
            obtain ⟨T420, h420, X420, e420, W420, st420⟩ := stI X417 hx hZ e417 Ar419 (j := (10 : Int32)) hin419 (g := (mkF m 166 (la7 p0 p1 p2 p3 p4 3 b373 key_) [(.int 5), (.int 10), (.ref b385), (.ref b385)])) rfl rfl (hb hby at_166)
            refine gob st420 ?_
            have z421 : n0 ≤ h420.size := Nat.le_trans z418 (Keep.of_wr W420).1
            have N420 := Fr.snoc X420 N417 g387
            have V420 : Arv Z h420 b385 k385 .int (16 : Int32) [(.int 0), (.int 1), (.int 1), (.int 5), (.int 1), (.int 1), (.int 7), (.int 23), (.int 1), (.int 3), (.int 5), (.int 0), (.int 0), (.int 0), (.int 0), (.int 0)] (.int 0) := Arv.set Ar419 aq419 S419 N419 H419 G419 rfl W420 10 rfl (Nat.le_of_ble_eq_true rfl)
            show gO (tF T420 m 167 (la7 p0 p1 p2 p3 p4 3 b373 key_) [(.ref b385)])
            refine gob (fun _ k => XS.dup X420.here hx rfl (hb hby at_167) rfl rfl k) ?_
            show gO (tF T420 m 168 (la7 p0 p1 p2 p3 p4 3 b373 key_) [(.ref b385), (.ref b385)])
            refine gob (fun _ k => XS.bipush X420.here hx rfl (hb hby at_168) k) ?_
            show gO (tF T420 m 170 (la7 p0 p1 p2 p3 p4 3 b373 key_) [(.int 11), (.ref b385), (.ref b385)])
            refine gob (fun _ k => XS.bipush X420.here hx rfl (hb hby at_170) k) ?_
            show gO (tF T420 m 172 (la7 p0 p1 p2 p3 p4 3 b373 key_) [(.int 29), (.int 11), (.ref b385), (.ref b385)])
            obtain ⟨cl422, Ar422, aq422, S422, N422, H422, G422⟩ := id V420
            have hin422 : ¬ ((11 : Int32) < 0 ∨ cl422.slots.size ≤ ((11 : Int32)).toNatClampNeg) := inb_of S422 ⟨by decide, by decide⟩
            obtain ⟨T423, h423, X423, e423, W423, st423⟩ := stI X420 hx hZ e420 Ar422 (j := (11 : Int32)) hin422 (g := (mkF m 172 (la7 p0 p1 p2 p3 p4 3 b373 key_) [(.int 29), (.int 11), (.ref b385), (.ref b385)])) rfl rfl (hb hby at_172)
            refine gob st423 ?_
            have z424 : n0 ≤ h423.size := Nat.le_trans z421 (Keep.of_wr W423).1
            have N423 := Fr.snoc X423 N420 g387
            have V423 : Arv Z h423 b385 k385 .int (16 : Int32) [(.int 0), (.int 1), (.int 1), (.int 5), (.int 1), (.int 1), (.int 7), (.int 23), (.int 1), (.int 3), (.int 5), (.int 29), (.int 0), (.int 0), (.int 0), (.int 0)] (.int 0) := Arv.set Ar422 aq422 S422 N422 H422 G422 rfl W423 11 rfl (Nat.le_of_ble_eq_true rfl)
            show gO (tF T423 m 173 (la7 p0 p1 p2 p3 p4 3 b373 key_) [(.ref b385)])
            refine gob (fun _ k => XS.dup X423.here hx rfl (hb hby at_173) rfl rfl k) ?_
            show gO (tF T423 m 174 (la7 p0 p1 p2 p3 p4 3 b373 key_) [(.ref b385), (.ref b385)])
            refine gob (fun _ k => XS.bipush X423.here hx rfl (hb hby at_174) k) ?_
            show gO (tF T423 m 176 (la7 p0 p1 p2 p3 p4 3 b373 key_) [(.int 12), (.ref b385), (.ref b385)])
            refine gob (fun _ k => XS.iconst X423.here hx rfl (hb hby at_176) k) ?_
            show gO (tF T423 m 177 (la7 p0 p1 p2 p3 p4 3 b373 key_) [(.int 1), (.int 12), (.ref b385), (.ref b385)])
            obtain ⟨cl425, Ar425, aq425, S425, N425, H425, G425⟩ := id V423
            have hin425 : ¬ ((12 : Int32) < 0 ∨ cl425.slots.size ≤ ((12 : Int32)).toNatClampNeg) := inb_of S425 ⟨by decide, by decide⟩
            obtain ⟨T426, h426, X426, e426, W426, st426⟩ := stI X423 hx hZ e423 Ar425 (j := (12 : Int32)) hin425 (g := (mkF m 177 (la7 p0 p1 p2 p3 p4 3 b373 key_) [(.int 1), (.int 12), (.ref b385), (.ref b385)])) rfl rfl (hb hby at_177)
            refine gob st426 ?_
            have z427 : n0 ≤ h426.size := Nat.le_trans z424 (Keep.of_wr W426).1
            have N426 := Fr.snoc X426 N423 g387
            have V426 : Arv Z h426 b385 k385 .int (16 : Int32) [(.int 0), (.int 1), (.int 1), (.int 5), (.int 1), (.int 1), (.int 7), (.int 23), (.int 1), (.int 3), (.int 5), (.int 29), (.int 1), (.int 0), (.int 0), (.int 0)] (.int 0) := Arv.set Ar425 aq425 S425 N425 H425 G425 rfl W426 12 rfl (Nat.le_of_ble_eq_true rfl)
            show gO (tF T426 m 178 (la7 p0 p1 p2 p3 p4 3 b373 key_) [(.ref b385)])
            refine gob (fun _ k => XS.dup X426.here hx rfl (hb hby at_178) rfl rfl k) ?_
            show gO (tF T426 m 179 (la7 p0 p1 p2 p3 p4 3 b373 key_) [(.ref b385), (.ref b385)])
            refine gob (fun _ k => XS.bipush X426.here hx rfl (hb hby at_179) k) ?_
            show gO (tF T426 m 181 (la7 p0 p1 p2 p3 p4 3 b373 key_) [(.int 13), (.ref b385), (.ref b385)])
            refine gob (fun _ k => XS.bipush X426.here hx rfl (hb hby at_181) k) ?_
            show gO (tF T426 m 183 (la7 p0 p1 p2 p3 p4 3 b373 key_) [(.int 11), (.int 13), (.ref b385), (.ref b385)])
            obtain ⟨cl428, Ar428, aq428, S428, N428, H428, G428⟩ := id V426
            have hin428 : ¬ ((13 : Int32) < 0 ∨ cl428.slots.size ≤ ((13 : Int32)).toNatClampNeg) := inb_of S428 ⟨by decide, by decide⟩
            obtain ⟨T429, h429, X429, e429, W429, st429⟩ := stI X426 hx hZ e426 Ar428 (j := (13 : Int32)) hin428 (g := (mkF m 183 (la7 p0 p1 p2 p3 p4 3 b373 key_) [(.int 11), (.int 13), (.ref b385), (.ref b385)])) rfl rfl (hb hby at_183)
            refine gob st429 ?_
            have z430 : n0 ≤ h429.size := Nat.le_trans z427 (Keep.of_wr W429).1
            have N429 := Fr.snoc X429 N426 g387
            have V429 : Arv Z h429 b385 k385 .int (16 : Int32) [(.int 0), (.int 1), (.int 1), (.int 5), (.int 1), (.int 1), (.int 7), (.int 23), (.int 1), (.int 3), (.int 5), (.int 29), (.int 1), (.int 11), (.int 0), (.int 0)] (.int 0) := Arv.set Ar428 aq428 S428 N428 H428 G428 rfl W429 13 rfl (Nat.le_of_ble_eq_true rfl)
            show gO (tF T429 m 184 (la7 p0 p1 p2 p3 p4 3 b373 key_) [(.ref b385)])
            refine gob (fun _ k => XS.dup X429.here hx rfl (hb hby at_184) rfl rfl k) ?_
            show gO (tF T429 m 185 (la7 p0 p1 p2 p3 p4 3 b373 key_) [(.ref b385), (.ref b385)])
            refine gob (fun _ k => XS.bipush X429.here hx rfl (hb hby at_185) k) ?_
            show gO (tF T429 m 187 (la7 p0 p1 p2 p3 p4 3 b373 key_) [(.int 14), (.ref b385), (.ref b385)])
            refine gob (fun _ k => XS.iconst X429.here hx rfl (hb hby at_187) k) ?_
            show gO (tF T429 m 188 (la7 p0 p1 p2 p3 p4 3 b373 key_) [(.int 1), (.int 14), (.ref b385), (.ref b385)])
            obtain ⟨cl431, Ar431, aq431, S431, N431, H431, G431⟩ := id V429
            have hin431 : ¬ ((14 : Int32) < 0 ∨ cl431.slots.size ≤ ((14 : Int32)).toNatClampNeg) := inb_of S431 ⟨by decide, by decide⟩
            obtain ⟨T432, h432, X432, e432, W432, st432⟩ := stI X429 hx hZ e429 Ar431 (j := (14 : Int32)) hin431 (g := (mkF m 188 (la7 p0 p1 p2 p3 p4 3 b373 key_) [(.int 1), (.int 14), (.ref b385), (.ref b385)])) rfl rfl (hb hby at_188)
            refine gob st432 ?_
            have z433 : n0 ≤ h432.size := Nat.le_trans z430 (Keep.of_wr W432).1
            have N432 := Fr.snoc X432 N429 g387
            have V432 : Arv Z h432 b385 k385 .int (16 : Int32) [(.int 0), (.int 1), (.int 1), (.int 5), (.int 1), (.int 1), (.int 7), (.int 23), (.int 1), (.int 3), (.int 5), (.int 29), (.int 1), (.int 11), (.int 1), (.int 0)] (.int 0) := Arv.set Ar431 aq431 S431 N431 H431 G431 rfl W432 14 rfl (Nat.le_of_ble_eq_true rfl)
            show gO (tF T432 m 189 (la7 p0 p1 p2 p3 p4 3 b373 key_) [(.ref b385)])
            refine gob (fun _ k => XS.dup X432.here hx rfl (hb hby at_189) rfl rfl k) ?_
            show gO (tF T432 m 190 (la7 p0 p1 p2 p3 p4 3 b373 key_) [(.ref b385), (.ref b385)])
            refine gob (fun _ k => XS.bipush X432.here hx rfl (hb hby at_190) k) ?_
            show gO (tF T432 m 192 (la7 p0 p1 p2 p3 p4 3 b373 key_) [(.int 15), (.ref b385), (.ref b385)])
            refine gob (fun _ k => XS.iconst X432.here hx rfl (hb hby at_192) k) ?_
            show gO (tF T432 m 193 (la7 p0 p1 p2 p3 p4 3 b373 key_) [(.int 1), (.int 15), (.ref b385), (.ref b385)])
            obtain ⟨cl434, Ar434, aq434, S434, N434, H434, G434⟩ := id V432
            have hin434 : ¬ ((15 : Int32) < 0 ∨ cl434.slots.size ≤ ((15 : Int32)).toNatClampNeg) := inb_of S434 ⟨by decide, by decide⟩
            obtain ⟨T435, h435, X435, e435, W435, st435⟩ := stI X432 hx hZ e432 Ar434 (j := (15 : Int32)) hin434 (g := (mkF m 193 (la7 p0 p1 p2 p3 p4 3 b373 key_) [(.int 1), (.int 15), (.ref b385), (.ref b385)])) rfl rfl (hb hby at_193)
            refine gob st435 ?_
            have z436 : n0 ≤ h435.size := Nat.le_trans z433 (Keep.of_wr W435).1
            have N435 := Fr.snoc X435 N432 g387
            have V435 : Arv Z h435 b385 k385 .int (16 : Int32) [(.int 0), (.int 1), (.int 1), (.int 5), (.int 1), (.int 1), (.int 7), (.int 23), (.int 1), (.int 3), (.int 5), (.int 29), (.int 1), (.int 11), (.int 1), (.int 1)] (.int 0) := Arv.set Ar434 aq434 S434 N434 H434 G434 rfl W435 15 rfl (Nat.le_of_ble_eq_true rfl)
            show gO (tF T435 m 194 (la7 p0 p1 p2 p3 p4 3 b373 key_) [(.ref b385)])
            refine gob (fun _ k => XS.astore X435.here hx rfl (hb hby at_194) rfl rfl (l' := (la9 p0 p1 p2 p3 p4 3 b373 key_ b385)) rfl k) ?_
            show gO (tF T435 m 196 (la9 p0 p1 p2 p3 p4 3 b373 key_ b385) [])
            refine gob (fun _ k => XS.bipush X435.here hx rfl (hb hby at_196) k) ?_
            show gO (tF T435 m 198 (la9 p0 p1 p2 p3 p4 3 b373 key_ b385) [(.int 16)])
            obtain ⟨T437, h437, k437, X437, e437, E437, A437, st437⟩ := newP X435 hx hZ (hW hw 1 rfl) e435 (g := (mkF m 198 (la9 p0 p1 p2 p3 p4 3 b373 key_ b385) [(.int 16)])) rfl (hb hby at_198) rfl (by decide) (cap := 16) (by decide) (by decide) (by decide) (by decide)
            obtain ⟨b437, g437⟩ : ∃ z, z = h435.size := ⟨_, rfl⟩
            rw [← g437] at A437 st437
            have c438 := (((((((((((((((((V383.ext E385).other W390 n386).other W393 n386).other W396 n386).other W399 n386).other W402 n386).other W405 n386).other W408 n386).other W411 n386).other W414 n386).other W417 n386).other W420 n386).other W423 n386).other W426 n386).other W429 n386).other W432 n386).other W435 n386)
            have n439 : b373 ≠ b437 := Nat.ne_of_lt (Nat.lt_of_lt_of_le c438.lt (Nat.le_of_eq g437.symm))
            have n440 : b385 ≠ b437 := Nat.ne_of_lt (Nat.lt_of_lt_of_le V435.lt (Nat.le_of_eq g437.symm))
            have g441 : n0 ≤ b437 := Nat.le_trans z436 (Nat.le_of_eq g437.symm)
            have z442 : n0 ≤ h437.size := Nat.le_trans z436 E437.1
            have V437 : Arv Z h437 b437 k437 .int (16 : Int32) [(.int 0), (.int 0), (.int 0), (.int 0), (.int 0), (.int 0), (.int 0), (.int 0), (.int 0), (.int 0), (.int 0), (.int 0), (.int 0), (.int 0), (.int 0), (.int 0)] (.int 0) := (Arv.new A437 (by decide)).pad (pad_rep [] (.int 0) 16)
            refine gob st437 ?_
            replace X437 := castX X437 (rfl : _ = 3) (rfl : _ = 35)
            show gO (tF T437 m 200 (la9 p0 p1 p2 p3 p4 3 b373 key_ b385) [(.ref b437)])
            refine gob (fun _ k => XS.dup X437.here hx rfl (hb hby at_200) rfl rfl k) ?_
            show gO (tF T437 m 201 (la9 p0 p1 p2 p3 p4 3 b373 key_ b385) [(.ref b437), (.ref b437)])
            refine gob (fun _ k => XS.iconst X437.here hx rfl (hb hby at_201) k) ?_
            show gO (tF T437 m 202 (la9 p0 p1 p2 p3 p4 3 b373 key_ b385) [(.int 0), (.ref b437), (.ref b437)])
            refine gob (fun _ k => XS.iconst X437.here hx rfl (hb hby at_202) k) ?_
            show gO (tF T437 m 203 (la9 p0 p1 p2 p3 p4 3 b373 key_ b385) [(.int 1), (.int 0), (.ref b437), (.ref b437)])
            obtain ⟨cl443, Ar443, aq443, S443, N443, H443, G443⟩ := id V437
            have hin443 : ¬ ((0 : Int32) < 0 ∨ cl443.slots.size ≤ ((0 : Int32)).toNatClampNeg) := inb_of S443 ⟨by decide, by decide⟩
            obtain ⟨T444, h444, X444, e444, W444, st444⟩ := stI X437 hx hZ e437 Ar443 (j := (0 : Int32)) hin443 (g := (mkF m 203 (la9 p0 p1 p2 p3 p4 3 b373 key_ b385) [(.int 1), (.int 0), (.ref b437), (.ref b437)])) rfl rfl (hb hby at_203)
            refine gob st444 ?_
            have z445 : n0 ≤ h444.size := Nat.le_trans z442 (Keep.of_wr W444).1
            have N444 := Fr.snoc X444 N435 g441
            have V444 : Arv Z h444 b437 k437 .int (16 : Int32) [(.int 1), (.int 0), (.int 0), (.int 0), (.int 0), (.int 0), (.int 0), (.int 0), (.int 0), (.int 0), (.int 0), (.int 0), (.int 0), (.int 0), (.int 0), (.int 0)] (.int 0) := Arv.set Ar443 aq443 S443 N443 H443 G443 rfl W444 0 rfl (Nat.le_of_ble_eq_true rfl)
            show gO (tF T444 m 204 (la9 p0 p1 p2 p3 p4 3 b373 key_ b385) [(.ref b437)])
            refine gob (fun _ k => XS.dup X444.here hx rfl (hb hby at_204) rfl rfl k) ?_
            show gO (tF T444 m 205 (la9 p0 p1 p2 p3 p4 3 b373 key_ b385) [(.ref b437), (.ref b437)])
            refine gob (fun _ k => XS.iconst X444.here hx rfl (hb hby at_205) k) ?_
            show gO (tF T444 m 206 (la9 p0 p1 p2 p3 p4 3 b373 key_ b385) [(.int 1), (.ref b437), (.ref b437)])
            refine gob (fun _ k => XS.iconst X444.here hx rfl (hb hby at_206) k) ?_
            show gO (tF T444 m 207 (la9 p0 p1 p2 p3 p4 3 b373 key_ b385) [(.int 4), (.int 1), (.ref b437), (.ref b437)])
            obtain ⟨cl446, Ar446, aq446, S446, N446, H446, G446⟩ := id V444
            have hin446 : ¬ ((1 : Int32) < 0 ∨ cl446.slots.size ≤ ((1 : Int32)).toNatClampNeg) := inb_of S446 ⟨by decide, by decide⟩
            obtain ⟨T447, h447, X447, e447, W447, st447⟩ := stI X444 hx hZ e444 Ar446 (j := (1 : Int32)) hin446 (g := (mkF m 207 (la9 p0 p1 p2 p3 p4 3 b373 key_ b385) [(.int 4), (.int 1), (.ref b437), (.ref b437)])) rfl rfl (hb hby at_207)
            refine gob st447 ?_
            have z448 : n0 ≤ h447.size := Nat.le_trans z445 (Keep.of_wr W447).1
            have N447 := Fr.snoc X447 N444 g441
            have V447 : Arv Z h447 b437 k437 .int (16 : Int32) [(.int 1), (.int 4), (.int 0), (.int 0), (.int 0), (.int 0), (.int 0), (.int 0), (.int 0), (.int 0), (.int 0), (.int 0), (.int 0), (.int 0), (.int 0), (.int 0)] (.int 0) := Arv.set Ar446 aq446 S446 N446 H446 G446 rfl W447 1 rfl (Nat.le_of_ble_eq_true rfl)
            show gO (tF T447 m 208 (la9 p0 p1 p2 p3 p4 3 b373 key_ b385) [(.ref b437)])
            refine gob (fun _ k => XS.dup X447.here hx rfl (hb hby at_208) rfl rfl k) ?_
            show gO (tF T447 m 209 (la9 p0 p1 p2 p3 p4 3 b373 key_ b385) [(.ref b437), (.ref b437)])
            refine gob (fun _ k => XS.iconst X447.here hx rfl (hb hby at_209) k) ?_
            show gO (tF T447 m 210 (la9 p0 p1 p2 p3 p4 3 b373 key_ b385) [(.int 2), (.ref b437), (.ref b437)])
            refine gob (fun _ k => XS.iconst X447.here hx rfl (hb hby at_210) k) ?_
            show gO (tF T447 m 211 (la9 p0 p1 p2 p3 p4 3 b373 key_ b385) [(.int 3), (.int 2), (.ref b437), (.ref b437)])
            obtain ⟨cl449, Ar449, aq449, S449, N449, H449, G449⟩ := id V447
            have hin449 : ¬ ((2 : Int32) < 0 ∨ cl449.slots.size ≤ ((2 : Int32)).toNatClampNeg) := inb_of S449 ⟨by decide, by decide⟩
            obtain ⟨T450, h450, X450, e450, W450, st450⟩ := stI X447 hx hZ e447 Ar449 (j := (2 : Int32)) hin449 (g := (mkF m 211 (la9 p0 p1 p2 p3 p4 3 b373 key_ b385) [(.int 3), (.int 2), (.ref b437), (.ref b437)])) rfl rfl (hb hby at_211)
            refine gob st450 ?_
            have z451 : n0 ≤ h450.size := Nat.le_trans z448 (Keep.of_wr W450).1
            have N450 := Fr.snoc X450 N447 g441
            have V450 : Arv Z h450 b437 k437 .int (16 : Int32) [(.int 1), (.int 4), (.int 3), (.int 0), (.int 0), (.int 0), (.int 0), (.int 0), (.int 0), (.int 0), (.int 0), (.int 0), (.int 0), (.int 0), (.int 0), (.int 0)] (.int 0) := Arv.set Ar449 aq449 S449 N449 H449 G449 rfl W450 2 rfl (Nat.le_of_ble_eq_true rfl)
            show gO (tF T450 m 212 (la9 p0 p1 p2 p3 p4 3 b373 key_ b385) [(.ref b437)])
            refine gob (fun _ k => XS.dup X450.here hx rfl (hb hby at_212) rfl rfl k) ?_
            show gO (tF T450 m 213 (la9 p0 p1 p2 p3 p4 3 b373 key_ b385) [(.ref b437), (.ref b437)])
            refine gob (fun _ k => XS.iconst X450.here hx rfl (hb hby at_213) k) ?_
            show gO (tF T450 m 214 (la9 p0 p1 p2 p3 p4 3 b373 key_ b385) [(.int 3), (.ref b437), (.ref b437)])
            refine gob (fun _ k => XS.bipush X450.here hx rfl (hb hby at_214) k) ?_
            show gO (tF T450 m 216 (la9 p0 p1 p2 p3 p4 3 b373 key_ b385) [(.int 12), (.int 3), (.ref b437), (.ref b437)])
            obtain ⟨cl452, Ar452, aq452, S452, N452, H452, G452⟩ := id V450
            have hin452 : ¬ ((3 : Int32) < 0 ∨ cl452.slots.size ≤ ((3 : Int32)).toNatClampNeg) := inb_of S452 ⟨by decide, by decide⟩
            obtain ⟨T453, h453, X453, e453, W453, st453⟩ := stI X450 hx hZ e450 Ar452 (j := (3 : Int32)) hin452 (g := (mkF m 216 (la9 p0 p1 p2 p3 p4 3 b373 key_ b385) [(.int 12), (.int 3), (.ref b437), (.ref b437)])) rfl rfl (hb hby at_216)
            refine gob st453 ?_
            have z454 : n0 ≤ h453.size := Nat.le_trans z451 (Keep.of_wr W453).1
            have N453 := Fr.snoc X453 N450 g441
            have V453 : Arv Z h453 b437 k437 .int (16 : Int32) [(.int 1), (.int 4), (.int 3), (.int 12), (.int 0), (.int 0), (.int 0), (.int 0), (.int 0), (.int 0), (.int 0), (.int 0), (.int 0), (.int 0), (.int 0), (.int 0)] (.int 0) := Arv.set Ar452 aq452 S452 N452 H452 G452 rfl W453 3 rfl (Nat.le_of_ble_eq_true rfl)
            show gO (tF T453 m 217 (la9 p0 p1 p2 p3 p4 3 b373 key_ b385) [(.ref b437)])
            refine gob (fun _ k => XS.dup X453.here hx rfl (hb hby at_217) rfl rfl k) ?_
            show gO (tF T453 m 218 (la9 p0 p1 p2 p3 p4 3 b373 key_ b385) [(.ref b437), (.ref b437)])
            refine gob (fun _ k => XS.iconst X453.here hx rfl (hb hby at_218) k) ?_
            show gO (tF T453 m 219 (la9 p0 p1 p2 p3 p4 3 b373 key_ b385) [(.int 4), (.ref b437), (.ref b437)])
            refine gob (fun _ k => XS.iconst X453.here hx rfl (hb hby at_219) k) ?_
            show gO (tF T453 m 220 (la9 p0 p1 p2 p3 p4 3 b373 key_ b385) [(.int 2), (.int 4), (.ref b437), (.ref b437)])
            obtain ⟨cl455, Ar455, aq455, S455, N455, H455, G455⟩ := id V453
            have hin455 : ¬ ((4 : Int32) < 0 ∨ cl455.slots.size ≤ ((4 : Int32)).toNatClampNeg) := inb_of S455 ⟨by decide, by decide⟩
            obtain ⟨T456, h456, X456, e456, W456, st456⟩ := stI X453 hx hZ e453 Ar455 (j := (4 : Int32)) hin455 (g := (mkF m 220 (la9 p0 p1 p2 p3 p4 3 b373 key_ b385) [(.int 2), (.int 4), (.ref b437), (.ref b437)])) rfl rfl (hb hby at_220)
            refine gob st456 ?_
            have z457 : n0 ≤ h456.size := Nat.le_trans z454 (Keep.of_wr W456).1
            have N456 := Fr.snoc X456 N453 g441
            have V456 : Arv Z h456 b437 k437 .int (16 : Int32) [(.int 1), (.int 4), (.int 3), (.int 12), (.int 2), (.int 0), (.int 0), (.int 0), (.int 0), (.int 0), (.int 0), (.int 0), (.int 0), (.int 0), (.int 0), (.int 0)] (.int 0) := Arv.set Ar455 aq455 S455 N455 H455 G455 rfl W456 4 rfl (Nat.le_of_ble_eq_true rfl)
            show gO (tF T456 m 221 (la9 p0 p1 p2 p3 p4 3 b373 key_ b385) [(.ref b437)])
            refine gob (fun _ k => XS.dup X456.here hx rfl (hb hby at_221) rfl rfl k) ?_
            show gO (tF T456 m 222 (la9 p0 p1 p2 p3 p4 3 b373 key_ b385) [(.ref b437), (.ref b437)])
            refine gob (fun _ k => XS.iconst X456.here hx rfl (hb hby at_222) k) ?_
            show gO (tF T456 m 223 (la9 p0 p1 p2 p3 p4 3 b373 key_ b385) [(.int 5), (.ref b437), (.ref b437)])
            refine gob (fun _ k => XS.iconst X456.here hx rfl (hb hby at_223) k) ?_
            show gO (tF T456 m 224 (la9 p0 p1 p2 p3 p4 3 b373 key_ b385) [(.int 2), (.int 5), (.ref b437), (.ref b437)])
            obtain ⟨cl458, Ar458, aq458, S458, N458, H458, G458⟩ := id V456
            have hin458 : ¬ ((5 : Int32) < 0 ∨ cl458.slots.size ≤ ((5 : Int32)).toNatClampNeg) := inb_of S458 ⟨by decide, by decide⟩
            obtain ⟨T459, h459, X459, e459, W459, st459⟩ := stI X456 hx hZ e456 Ar458 (j := (5 : Int32)) hin458 (g := (mkF m 224 (la9 p0 p1 p2 p3 p4 3 b373 key_ b385) [(.int 2), (.int 5), (.ref b437), (.ref b437)])) rfl rfl (hb hby at_224)
            refine gob st459 ?_
            have z460 : n0 ≤ h459.size := Nat.le_trans z457 (Keep.of_wr W459).1
            have N459 := Fr.snoc X459 N456 g441
            have V459 : Arv Z h459 b437 k437 .int (16 : Int32) [(.int 1), (.int 4), (.int 3), (.int 12), (.int 2), (.int 2), (.int 0), (.int 0), (.int 0), (.int 0), (.int 0), (.int 0), (.int 0), (.int 0), (.int 0), (.int 0)] (.int 0) := Arv.set Ar458 aq458 S458 N458 H458 G458 rfl W459 5 rfl (Nat.le_of_ble_eq_true rfl)
            show gO (tF T459 m 225 (la9 p0 p1 p2 p3 p4 3 b373 key_ b385) [(.ref b437)])
            refine gob (fun _ k => XS.dup X459.here hx rfl (hb hby at_225) rfl rfl k) ?_
            show gO (tF T459 m 226 (la9 p0 p1 p2 p3 p4 3 b373 key_ b385) [(.ref b437), (.ref b437)])
            refine gob (fun _ k => XS.bipush X459.here hx rfl (hb hby at_226) k) ?_
            show gO (tF T459 m 228 (la9 p0 p1 p2 p3 p4 3 b373 key_ b385) [(.int 6), (.ref b437), (.ref b437)])
            refine gob (fun _ k => XS.bipush X459.here hx rfl (hb hby at_228) k) ?_
            show gO (tF T459 m 230 (la9 p0 p1 p2 p3 p4 3 b373 key_ b385) [(.int 12), (.int 6), (.ref b437), (.ref b437)])
            obtain ⟨cl461, Ar461, aq461, S461, N461, H461, G461⟩ := id V459
            have hin461 : ¬ ((6 : Int32) < 0 ∨ cl461.slots.size ≤ ((6 : Int32)).toNatClampNeg) := inb_of S461 ⟨by decide, by decide⟩
            obtain ⟨T462, h462, X462, e462, W462, st462⟩ := stI X459 hx hZ e459 Ar461 (j := (6 : Int32)) hin461 (g := (mkF m 230 (la9 p0 p1 p2 p3 p4 3 b373 key_ b385) [(.int 12), (.int 6), (.ref b437), (.ref b437)])) rfl rfl (hb hby at_230)
            refine gob st462 ?_
            have z463 : n0 ≤ h462.size := Nat.le_trans z460 (Keep.of_wr W462).1
            have N462 := Fr.snoc X462 N459 g441
            have V462 : Arv Z h462 b437 k437 .int (16 : Int32) [(.int 1), (.int 4), (.int 3), (.int 12), (.int 2), (.int 2), (.int 12), (.int 0), (.int 0), (.int 0), (.int 0), (.int 0), (.int 0), (.int 0), (.int 0), (.int 0)] (.int 0) := Arv.set Ar461 aq461 S461 N461 H461 G461 rfl W462 6 rfl (Nat.le_of_ble_eq_true rfl)
            show gO (tF T462 m 231 (la9 p0 p1 p2 p3 p4 3 b373 key_ b385) [(.ref b437)])
            refine gob (fun _ k => XS.dup X462.here hx rfl (hb hby at_231) rfl rfl k) ?_
            show gO (tF T462 m 232 (la9 p0 p1 p2 p3 p4 3 b373 key_ b385) [(.ref b437), (.ref b437)])
            refine gob (fun _ k => XS.bipush X462.here hx rfl (hb hby at_232) k) ?_
            show gO (tF T462 m 234 (la9 p0 p1 p2 p3 p4 3 b373 key_ b385) [(.int 7), (.ref b437), (.ref b437)])
            refine gob (fun _ k => XS.bipush X462.here hx rfl (hb hby at_234) k) ?_
            show gO (tF T462 m 236 (la9 p0 p1 p2 p3 p4 3 b373 key_ b385) [(.int 36), (.int 7), (.ref b437), (.ref b437)])
            obtain ⟨cl464, Ar464, aq464, S464, N464, H464, G464⟩ := id V462
            have hin464 : ¬ ((7 : Int32) < 0 ∨ cl464.slots.size ≤ ((7 : Int32)).toNatClampNeg) := inb_of S464 ⟨by decide, by decide⟩
            obtain ⟨T465, h465, X465, e465, W465, st465⟩ := stI X462 hx hZ e462 Ar464 (j := (7 : Int32)) hin464 (g := (mkF m 236 (la9 p0 p1 p2 p3 p4 3 b373 key_ b385) [(.int 36), (.int 7), (.ref b437), (.ref b437)])) rfl rfl (hb hby at_236)
            refine gob st465 ?_
            have z466 : n0 ≤ h465.size := Nat.le_trans z463 (Keep.of_wr W465).1
            have N465 := Fr.snoc X465 N462 g441
            have V465 : Arv Z h465 b437 k437 .int (16 : Int32) [(.int 1), (.int 4), (.int 3), (.int 12), (.int 2), (.int 2), (.int 12), (.int 36), (.int 0), (.int 0), (.int 0), (.int 0), (.int 0), (.int 0), (.int 0), (.int 0)] (.int 0) := Arv.set Ar464 aq464 S464 N464 H464 G464 rfl W465 7 rfl (Nat.le_of_ble_eq_true rfl)
            show gO (tF T465 m 237 (la9 p0 p1 p2 p3 p4 3 b373 key_ b385) [(.ref b437)])
            refine gob (fun _ k => XS.dup X465.here hx rfl (hb hby at_237) rfl rfl k) ?_
            show gO (tF T465 m 238 (la9 p0 p1 p2 p3 p4 3 b373 key_ b385) [(.ref b437), (.ref b437)])
            refine gob (fun _ k => XS.bipush X465.here hx rfl (hb hby at_238) k) ?_
            show gO (tF T465 m 240 (la9 p0 p1 p2 p3 p4 3 b373 key_ b385) [(.int 8), (.ref b437), (.ref b437)])
            refine gob (fun _ k => XS.iconst X465.here hx rfl (hb hby at_240) k) ?_
            show gO (tF T465 m 241 (la9 p0 p1 p2 p3 p4 3 b373 key_ b385) [(.int 1), (.int 8), (.ref b437), (.ref b437)])
            obtain ⟨cl467, Ar467, aq467, S467, N467, H467, G467⟩ := id V465
            have hin467 : ¬ ((8 : Int32) < 0 ∨ cl467.slots.size ≤ ((8 : Int32)).toNatClampNeg) := inb_of S467 ⟨by decide, by decide⟩
            obtain ⟨T468, h468, X468, e468, W468, st468⟩ := stI X465 hx hZ e465 Ar467 (j := (8 : Int32)) hin467 (g := (mkF m 241 (la9 p0 p1 p2 p3 p4 3 b373 key_ b385) [(.int 1), (.int 8), (.ref b437), (.ref b437)])) rfl rfl (hb hby at_241)
            refine gob st468 ?_
            have z469 : n0 ≤ h468.size := Nat.le_trans z466 (Keep.of_wr W468).1
            have N468 := Fr.snoc X468 N465 g441
            have V468 : Arv Z h468 b437 k437 .int (16 : Int32) [(.int 1), (.int 4), (.int 3), (.int 12), (.int 2), (.int 2), (.int 12), (.int 36), (.int 1), (.int 0), (.int 0), (.int 0), (.int 0), (.int 0), (.int 0), (.int 0)] (.int 0) := Arv.set Ar467 aq467 S467 N467 H467 G467 rfl W468 8 rfl (Nat.le_of_ble_eq_true rfl)
            show gO (tF T468 m 242 (la9 p0 p1 p2 p3 p4 3 b373 key_ b385) [(.ref b437)])
            refine gob (fun _ k => XS.dup X468.here hx rfl (hb hby at_242) rfl rfl k) ?_
            show gO (tF T468 m 243 (la9 p0 p1 p2 p3 p4 3 b373 key_ b385) [(.ref b437), (.ref b437)])
            refine gob (fun _ k => XS.bipush X468.here hx rfl (hb hby at_243) k) ?_
            show gO (tF T468 m 245 (la9 p0 p1 p2 p3 p4 3 b373 key_ b385) [(.int 9), (.ref b437), (.ref b437)])
            refine gob (fun _ k => XS.iconst X468.here hx rfl (hb hby at_245) k) ?_
            show gO (tF T468 m 246 (la9 p0 p1 p2 p3 p4 3 b373 key_ b385) [(.int 4), (.int 9), (.ref b437), (.ref b437)])
            obtain ⟨cl470, Ar470, aq470, S470, N470, H470, G470⟩ := id V468
            have hin470 : ¬ ((9 : Int32) < 0 ∨ cl470.slots.size ≤ ((9 : Int32)).toNatClampNeg) := inb_of S470 ⟨by decide, by decide⟩
            obtain ⟨T471, h471, X471, e471, W471, st471⟩ := stI X468 hx hZ e468 Ar470 (j := (9 : Int32)) hin470 (g := (mkF m 246 (la9 p0 p1 p2 p3 p4 3 b373 key_ b385) [(.int 4), (.int 9), (.ref b437), (.ref b437)])) rfl rfl (hb hby at_246)
            refine gob st471 ?_
            have z472 : n0 ≤ h471.size := Nat.le_trans z469 (Keep.of_wr W471).1
            have N471 := Fr.snoc X471 N468 g441
            have V471 : Arv Z h471 b437 k437 .int (16 : Int32) [(.int 1), (.int 4), (.int 3), (.int 12), (.int 2), (.int 2), (.int 12), (.int 36), (.int 1), (.int 4), (.int 0), (.int 0), (.int 0), (.int 0), (.int 0), (.int 0)] (.int 0) := Arv.set Ar470 aq470 S470 N470 H470 G470 rfl W471 9 rfl (Nat.le_of_ble_eq_true rfl)
            show gO (tF T471 m 247 (la9 p0 p1 p2 p3 p4 3 b373 key_ b385) [(.ref b437)])
            refine gob (fun _ k => XS.dup X471.here hx rfl (hb hby at_247) rfl rfl k) ?_
            show gO (tF T471 m 248 (la9 p0 p1 p2 p3 p4 3 b373 key_ b385) [(.ref b437), (.ref b437)])
            refine gob (fun _ k => XS.bipush X471.here hx rfl (hb hby at_248) k) ?_
            show gO (tF T471 m 250 (la9 p0 p1 p2 p3 p4 3 b373 key_ b385) [(.int 10), (.ref b437), (.ref b437)])
            refine gob (fun _ k => XS.bipush X471.here hx rfl (hb hby at_250) k) ?_
            show gO (tF T471 m 252 (la9 p0 p1 p2 p3 p4 3 b373 key_ b385) [(.int 6), (.int 10), (.ref b437), (.ref b437)])
            obtain ⟨cl473, Ar473, aq473, S473, N473, H473, G473⟩ := id V471
            have hin473 : ¬ ((10 : Int32) < 0 ∨ cl473.slots.size ≤ ((10 : Int32)).toNatClampNeg) := inb_of S473 ⟨by decide, by decide⟩
            obtain ⟨T474, h474, X474, e474, W474, st474⟩ := stI X471 hx hZ e471 Ar473 (j := (10 : Int32)) hin473 (g := (mkF m 252 (la9 p0 p1 p2 p3 p4 3 b373 key_ b385) [(.int 6), (.int 10), (.ref b437), (.ref b437)])) rfl rfl (hb hby at_252)
            refine gob st474 ?_
            have z475 : n0 ≤ h474.size := Nat.le_trans z472 (Keep.of_wr W474).1
            have N474 := Fr.snoc X474 N471 g441
            have V474 : Arv Z h474 b437 k437 .int (16 : Int32) [(.int 1), (.int 4), (.int 3), (.int 12), (.int 2), (.int 2), (.int 12), (.int 36), (.int 1), (.int 4), (.int 6), (.int 0), (.int 0), (.int 0), (.int 0), (.int 0)] (.int 0) := Arv.set Ar473 aq473 S473 N473 H473 G473 rfl W474 10 rfl (Nat.le_of_ble_eq_true rfl)
            show gO (tF T474 m 253 (la9 p0 p1 p2 p3 p4 3 b373 key_ b385) [(.ref b437)])
            refine gob (fun _ k => XS.dup X474.here hx rfl (hb hby at_253) rfl rfl k) ?_
            show gO (tF T474 m 254 (la9 p0 p1 p2 p3 p4 3 b373 key_ b385) [(.ref b437), (.ref b437)])
            refine gob (fun _ k => XS.bipush X474.here hx rfl (hb hby at_254) k) ?_
            show gO (tF T474 m 256 (la9 p0 p1 p2 p3 p4 3 b373 key_ b385) [(.int 11), (.ref b437), (.ref b437)])
            refine gob (fun _ k => XS.bipush X474.here hx rfl (hb hby at_256) k) ?_
            show gO (tF T474 m 258 (la9 p0 p1 p2 p3 p4 3 b373 key_ b385) [(.int 36), (.int 11), (.ref b437), (.ref b437)])
            obtain ⟨cl476, Ar476, aq476, S476, N476, H476, G476⟩ := id V474
            have hin476 : ¬ ((11 : Int32) < 0 ∨ cl476.slots.size ≤ ((11 : Int32)).toNatClampNeg) := inb_of S476 ⟨by decide, by decide⟩
            obtain ⟨T477, h477, X477, e477, W477, st477⟩ := stI X474 hx hZ e474 Ar476 (j := (11 : Int32)) hin476 (g := (mkF m 258 (la9 p0 p1 p2 p3 p4 3 b373 key_ b385) [(.int 36), (.int 11), (.ref b437), (.ref b437)])) rfl rfl (hb hby at_258)
            refine gob st477 ?_
            have z478 : n0 ≤ h477.size := Nat.le_trans z475 (Keep.of_wr W477).1
            have N477 := Fr.snoc X477 N474 g441
            have V477 : Arv Z h477 b437 k437 .int (16 : Int32) [(.int 1), (.int 4), (.int 3), (.int 12), (.int 2), (.int 2), (.int 12), (.int 36), (.int 1), (.int 4), (.int 6), (.int 36), (.int 0), (.int 0), (.int 0), (.int 0)] (.int 0) := Arv.set Ar476 aq476 S476 N476 H476 G476 rfl W477 11 rfl (Nat.le_of_ble_eq_true rfl)
            show gO (tF T477 m 259 (la9 p0 p1 p2 p3 p4 3 b373 key_ b385) [(.ref b437)])
            refine gob (fun _ k => XS.dup X477.here hx rfl (hb hby at_259) rfl rfl k) ?_
            show gO (tF T477 m 260 (la9 p0 p1 p2 p3 p4 3 b373 key_ b385) [(.ref b437), (.ref b437)])
            refine gob (fun _ k => XS.bipush X477.here hx rfl (hb hby at_260) k) ?_
            show gO (tF T477 m 262 (la9 p0 p1 p2 p3 p4 3 b373 key_ b385) [(.int 12), (.ref b437), (.ref b437)])
            refine gob (fun _ k => XS.iconst X477.here hx rfl (hb hby at_262) k) ?_
            show gO (tF T477 m 263 (la9 p0 p1 p2 p3 p4 3 b373 key_ b385) [(.int 1), (.int 12), (.ref b437), (.ref b437)])
            obtain ⟨cl479, Ar479, aq479, S479, N479, H479, G479⟩ := id V477
            have hin479 : ¬ ((12 : Int32) < 0 ∨ cl479.slots.size ≤ ((12 : Int32)).toNatClampNeg) := inb_of S479 ⟨by decide, by decide⟩
            obtain ⟨T480, h480, X480, e480, W480, st480⟩ := stI X477 hx hZ e477 Ar479 (j := (12 : Int32)) hin479 (g := (mkF m 263 (la9 p0 p1 p2 p3 p4 3 b373 key_ b385) [(.int 1), (.int 12), (.ref b437), (.ref b437)])) rfl rfl (hb hby at_263)
            refine gob st480 ?_
            have z481 : n0 ≤ h480.size := Nat.le_trans z478 (Keep.of_wr W480).1
            have N480 := Fr.snoc X480 N477 g441
            have V480 : Arv Z h480 b437 k437 .int (16 : Int32) [(.int 1), (.int 4), (.int 3), (.int 12), (.int 2), (.int 2), (.int 12), (.int 36), (.int 1), (.int 4), (.int 6), (.int 36), (.int 1), (.int 0), (.int 0), (.int 0)] (.int 0) := Arv.set Ar479 aq479 S479 N479 H479 G479 rfl W480 12 rfl (Nat.le_of_ble_eq_true rfl)
            show gO (tF T480 m 264 (la9 p0 p1 p2 p3 p4 3 b373 key_ b385) [(.ref b437)])
            refine gob (fun _ k => XS.dup X480.here hx rfl (hb hby at_264) rfl rfl k) ?_
            show gO (tF T480 m 265 (la9 p0 p1 p2 p3 p4 3 b373 key_ b385) [(.ref b437), (.ref b437)])
            refine gob (fun _ k => XS.bipush X480.here hx rfl (hb hby at_265) k) ?_
            show gO (tF T480 m 267 (la9 p0 p1 p2 p3 p4 3 b373 key_ b385) [(.int 13), (.ref b437), (.ref b437)])
            refine gob (fun _ k => XS.bipush X480.here hx rfl (hb hby at_267) k) ?_
            show gO (tF T480 m 269 (la9 p0 p1 p2 p3 p4 3 b373 key_ b385) [(.int 12), (.int 13), (.ref b437), (.ref b437)])
            obtain ⟨cl482, Ar482, aq482, S482, N482, H482, G482⟩ := id V480
            have hin482 : ¬ ((13 : Int32) < 0 ∨ cl482.slots.size ≤ ((13 : Int32)).toNatClampNeg) := inb_of S482 ⟨by decide, by decide⟩
            obtain ⟨T483, h483, X483, e483, W483, st483⟩ := stI X480 hx hZ e480 Ar482 (j := (13 : Int32)) hin482 (g := (mkF m 269 (la9 p0 p1 p2 p3 p4 3 b373 key_ b385) [(.int 12), (.int 13), (.ref b437), (.ref b437)])) rfl rfl (hb hby at_269)
            refine gob st483 ?_
            have z484 : n0 ≤ h483.size := Nat.le_trans z481 (Keep.of_wr W483).1
            have N483 := Fr.snoc X483 N480 g441
            have V483 : Arv Z h483 b437 k437 .int (16 : Int32) [(.int 1), (.int 4), (.int 3), (.int 12), (.int 2), (.int 2), (.int 12), (.int 36), (.int 1), (.int 4), (.int 6), (.int 36), (.int 1), (.int 12), (.int 0), (.int 0)] (.int 0) := Arv.set Ar482 aq482 S482 N482 H482 G482 rfl W483 13 rfl (Nat.le_of_ble_eq_true rfl)
            show gO (tF T483 m 270 (la9 p0 p1 p2 p3 p4 3 b373 key_ b385) [(.ref b437)])
            refine gob (fun _ k => XS.dup X483.here hx rfl (hb hby at_270) rfl rfl k) ?_
            show gO (tF T483 m 271 (la9 p0 p1 p2 p3 p4 3 b373 key_ b385) [(.ref b437), (.ref b437)])
            refine gob (fun _ k => XS.bipush X483.here hx rfl (hb hby at_271) k) ?_
            show gO (tF T483 m 273 (la9 p0 p1 p2 p3 p4 3 b373 key_ b385) [(.int 14), (.ref b437), (.ref b437)])
            refine gob (fun _ k => XS.iconst X483.here hx rfl (hb hby at_273) k) ?_
            show gO (tF T483 m 274 (la9 p0 p1 p2 p3 p4 3 b373 key_ b385) [(.int 1), (.int 14), (.ref b437), (.ref b437)])
            obtain ⟨cl485, Ar485, aq485, S485, N485, H485, G485⟩ := id V483
            have hin485 : ¬ ((14 : Int32) < 0 ∨ cl485.slots.size ≤ ((14 : Int32)).toNatClampNeg) := inb_of S485 ⟨by decide, by decide⟩
            obtain ⟨T486, h486, X486, e486, W486, st486⟩ := stI X483 hx hZ e483 Ar485 (j := (14 : Int32)) hin485 (g := (mkF m 274 (la9 p0 p1 p2 p3 p4 3 b373 key_ b385) [(.int 1), (.int 14), (.ref b437), (.ref b437)])) rfl rfl (hb hby at_274)
            refine gob st486 ?_
            have z487 : n0 ≤ h486.size := Nat.le_trans z484 (Keep.of_wr W486).1
            have N486 := Fr.snoc X486 N483 g441
            have V486 : Arv Z h486 b437 k437 .int (16 : Int32) [(.int 1), (.int 4), (.int 3), (.int 12), (.int 2), (.int 2), (.int 12), (.int 36), (.int 1), (.int 4), (.int 6), (.int 36), (.int 1), (.int 12), (.int 1), (.int 0)] (.int 0) := Arv.set Ar485 aq485 S485 N485 H485 G485 rfl W486 14 rfl (Nat.le_of_ble_eq_true rfl)
            show gO (tF T486 m 275 (la9 p0 p1 p2 p3 p4 3 b373 key_ b385) [(.ref b437)])
            refine gob (fun _ k => XS.dup X486.here hx rfl (hb hby at_275) rfl rfl k) ?_
            show gO (tF T486 m 276 (la9 p0 p1 p2 p3 p4 3 b373 key_ b385) [(.ref b437), (.ref b437)])
            refine gob (fun _ k => XS.bipush X486.here hx rfl (hb hby at_276) k) ?_
            show gO (tF T486 m 278 (la9 p0 p1 p2 p3 p4 3 b373 key_ b385) [(.int 15), (.ref b437), (.ref b437)])
            refine gob (fun _ k => XS.iconst X486.here hx rfl (hb hby at_278) k) ?_
            show gO (tF T486 m 279 (la9 p0 p1 p2 p3 p4 3 b373 key_ b385) [(.int 1), (.int 15), (.ref b437), (.ref b437)])
            obtain ⟨cl488, Ar488, aq488, S488, N488, H488, G488⟩ := id V486
            have hin488 : ¬ ((15 : Int32) < 0 ∨ cl488.slots.size ≤ ((15 : Int32)).toNatClampNeg) := inb_of S488 ⟨by decide, by decide⟩
            obtain ⟨T489, h489, X489, e489, W489, st489⟩ := stI X486 hx hZ e486 Ar488 (j := (15 : Int32)) hin488 (g := (mkF m 279 (la9 p0 p1 p2 p3 p4 3 b373 key_ b385) [(.int 1), (.int 15), (.ref b437), (.ref b437)])) rfl rfl (hb hby at_279)
            refine gob st489 ?_
            have z490 : n0 ≤ h489.size := Nat.le_trans z487 (Keep.of_wr W489).1
            have N489 := Fr.snoc X489 N486 g441
            have V489 : Arv Z h489 b437 k437 .int (16 : Int32) [(.int 1), (.int 4), (.int 3), (.int 12), (.int 2), (.int 2), (.int 12), (.int 36), (.int 1), (.int 4), (.int 6), (.int 36), (.int 1), (.int 12), (.int 1), (.int 1)] (.int 0) := Arv.set Ar488 aq488 S488 N488 H488 G488 rfl W489 15 rfl (Nat.le_of_ble_eq_true rfl)
            show gO (tF T489 m 280 (la9 p0 p1 p2 p3 p4 3 b373 key_ b385) [(.ref b437)])
            refine gob (fun _ k => XS.astore X489.here hx rfl (hb hby at_280) rfl rfl (l' := (la8 p0 p1 p2 p3 p4 3 b373 key_ b385 b437)) rfl k) ?_
            show gO (tF T489 m 282 (la8 p0 p1 p2 p3 p4 3 b373 key_ b385 b437) [])
            have c491 := (((((((((((((((((c438.ext E437).other W444 n439).other W447 n439).other W450 n439).other W453 n439).other W456 n439).other W459 n439).other W462 n439).other W465 n439).other W468 n439).other W471 n439).other W474 n439).other W477 n439).other W480 n439).other W483 n439).other W486 n439).other W489 n439)
            have c492 := (((((((((((((((((V435.ext E437).other W444 n440).other W447 n440).other W450 n440).other W453 n440).other W456 n440).other W459 n440).other W462 n440).other W465 n440).other W468 n440).other W471 n440).other W474 n440).other W477 n440).other W480 n440).other W483 n440).other W486 n440).other W489 n440)
            exact kont _ _ _ _ _ _ _ X489 e489 N489 z490 c491 c492 V489
          refine gob (fun _ k => XS.iload X383.here hx rfl (hb hby at_61) rfl k) ?_
          show gO (tF T383 m 63 (la7 p0 p1 p2 p3 p4 3 b373 0) [(.int 3)])
          refine gob (fun _ k => XS.ifNo X383.here hx rfl (hb hby at_63) rfl ((if0 _ _).trans (tlt (by decide : (0 : Int32) < (3 : Int32))).2.2.2) k) ?_
          show gO (tF T383 m 66 (la7 p0 p1 p2 p3 p4 3 b373 0) [])
          refine gob (fun _ k => XS.iloadN X383.here hx rfl (hb hby at_66) rfl k) ?_
          show gO (tF T383 m 67 (la7 p0 p1 p2 p3 p4 3 b373 0) [(.int p0)])
          by_cases hc67_493 : (0 : Int32) < p0
          · skip
            refine gob (fun _ k => XS.ifNo X383.here hx rfl (hb hby at_67) rfl ((if0 _ _).trans (tlt hc67_493).2.2.2) k) ?_
            show gO (tF T383 m 70 (la7 p0 p1 p2 p3 p4 3 b373 0) [])
            refine gob (fun _ k => XS.iinc X383.here hx rfl (hb hby at_70) rfl (l' := (la7 p0 p1 p2 p3 p4 3 b373 8)) rfl k) ?_
            show gO (tF T383 m 73 (la7 p0 p1 p2 p3 p4 3 b373 8) [])
            refine gob (fun _ k => XS.iload X383.here hx rfl (hb hby at_73) rfl k) ?_
            show gO (tF T383 m 75 (la7 p0 p1 p2 p3 p4 3 b373 8) [(.int 3)])
            refine gob (fun _ k => XS.iconst X383.here hx rfl (hb hby at_75) k) ?_
            show gO (tF T383 m 76 (la7 p0 p1 p2 p3 p4 3 b373 8) [(.int 1), (.int 3)])
            refine gob (fun _ k => XS.icmpNo X383.here hx rfl (hb hby at_76) rfl (tlt (by decide : (1 : Int32) < (3 : Int32))).2.2.2 k) ?_
            show gO (tF T383 m 79 (la7 p0 p1 p2 p3 p4 3 b373 8) [])
            refine gob (fun _ k => XS.iloadN X383.here hx rfl (hb hby at_79) rfl k) ?_
            show gO (tF T383 m 80 (la7 p0 p1 p2 p3 p4 3 b373 8) [(.int p1)])
            by_cases hc80_494 : (0 : Int32) < p1
            · skip
              refine gob (fun _ k => XS.ifNo X383.here hx rfl (hb hby at_80) rfl ((if0 _ _).trans (tlt hc80_494).2.2.2) k) ?_
              show gO (tF T383 m 83 (la7 p0 p1 p2 p3 p4 3 b373 8) [])
              refine gob (fun _ k => XS.iinc X383.here hx rfl (hb hby at_83) rfl (l' := (la7 p0 p1 p2 p3 p4 3 b373 12)) rfl k) ?_
              show gO (tF T383 m 86 (la7 p0 p1 p2 p3 p4 3 b373 12) [])
              refine gob (fun _ k => XS.iload X383.here hx rfl (hb hby at_86) rfl k) ?_
              show gO (tF T383 m 88 (la7 p0 p1 p2 p3 p4 3 b373 12) [(.int 3)])
              refine gob (fun _ k => XS.iconst X383.here hx rfl (hb hby at_88) k) ?_
              show gO (tF T383 m 89 (la7 p0 p1 p2 p3 p4 3 b373 12) [(.int 2), (.int 3)])
              refine gob (fun _ k => XS.icmpNo X383.here hx rfl (hb hby at_89) rfl (tlt (by decide : (2 : Int32) < (3 : Int32))).2.2.2 k) ?_
              show gO (tF T383 m 92 (la7 p0 p1 p2 p3 p4 3 b373 12) [])
              refine gob (fun _ k => XS.iloadN X383.here hx rfl (hb hby at_92) rfl k) ?_
              show gO (tF T383 m 93 (la7 p0 p1 p2 p3 p4 3 b373 12) [(.int p2)])
              by_cases hc93_495 : (0 : Int32) < p2
              · skip
                refine gob (fun _ k => XS.ifNo X383.here hx rfl (hb hby at_93) rfl ((if0 _ _).trans (tlt hc93_495).2.2.2) k) ?_
                show gO (tF T383 m 96 (la7 p0 p1 p2 p3 p4 3 b373 12) [])
                refine gob (fun _ k => XS.iinc X383.here hx rfl (hb hby at_96) rfl (l' := (la7 p0 p1 p2 p3 p4 3 b373 14)) rfl k) ?_
                show gO (tF T383 m 99 (la7 p0 p1 p2 p3 p4 3 b373 14) [])
                refine gob (fun _ k => XS.iload X383.here hx rfl (hb hby at_99) rfl k) ?_
                show gO (tF T383 m 101 (la7 p0 p1 p2 p3 p4 3 b373 14) [(.int 3)])
                refine gob (fun _ k => XS.iconst X383.here hx rfl (hb hby at_101) k) ?_
                show gO (tF T383 m 102 (la7 p0 p1 p2 p3 p4 3 b373 14) [(.int 3), (.int 3)])
                refine gob (fun _ k => XS.icmpYes X383.here hx rfl (pc0 := 102) (pc' := 112) rfl (hb hby at_102) rfl (flt (by decide : ¬ ((3 : Int32) < (3 : Int32)))).2.2.2 (by decide) (by decide) k) ?_
                show gO (tF T383 m 112 (la7 p0 p1 p2 p3 p4 3 b373 14) [])
                refine seg (14 : Int32) ?_
                intro T496 lc496 h496 b496_1 b496_2 k496_1 k496_2 X496 e496 N496 z496 V496 V496_1 V496_2
                show gO (tF T496 m 282 (la8 p0 p1 p2 p3 p4 3 b373 14 b496_1 b496_2) [])
                refine gob (fun _ k => XS.aload X496.here hx rfl (hb hby at_282) rfl rfl k) ?_
                show gO (tF T496 m 284 (la8 p0 p1 p2 p3 p4 3 b373 14 b496_1 b496_2) [(.ref b373)])
                obtain ⟨_, _, ⟨T497, L497, k497, n497⟩, -, X497, ⟨Lc497, hQ497, l497, y497, z497⟩, st497⟩ := Jvm.LawKit.callS X496 hx (y := (⟨"com/example/coevolution/coevolution/measure/Measures", "averagePrecision", "([I)D"⟩ : MethodName)) hown (mvT hZ (hW hw 2 rfl)) (mvT hZ (hW hw 3 rfl)) (mvT hZ (hW hw 4 rfl)) (mvT hZ (hW hw 5 rfl)) (by decide) (backOf (W := 0) (rmap3 l Z a0 hw [] b373 k373 p0 p1 p2 h496 n0 z496 V496) hZ (hW hw 5 rfl) (hW hw 4 rfl) (by decide) (by decide)) (g := (mkF m 284 (la8 p0 p1 p2 p3 p4 3 b373 14 b496_1 b496_2) [(.ref b373)])) rfl (by rw [hml]; rfl) (argsL := [(.ref b373)]) (rest := []) (lenOf pd_0 rfl) rfl (by show 2 * 0 + _ ≤ _; exact Nat.le_of_eq rfl) (hb hby at_284) (fun _ _ => ⟨rfl, e496, (by decide : 3 + 0 ≤ _), (by decide : 35 + 0 ≤ _)⟩)
                dsimp only [Pt.U, Pt.locs, Pt.cells, Pt.slots] at X497 l497 y497 z497 st497 hQ497
                replace X497 := castX X497 (y497.trans (rfl : _ = 3)) (z497.trans (rfl : _ = 35))
                obtain ⟨r497, rfl, hr497, Nq497, e497⟩ := hQ497
                have N497 : Fr n0 L497 := l497 ▸ Fr.app N496 Nq497
                refine gob st497 ?_
                show gO (tF T497 m 287 (la8 p0 p1 p2 p3 p4 3 b373 14 b496_1 b496_2) [(.double r497)])
                have hlr497 : r497 = (4607182418800017408 : UInt64) := by simpa [hc67_493, hc80_494, hc93_495] using hr497
                subst hlr497
                show gO (tF T497 m 287 (la8 p0 p1 p2 p3 p4 3 b373 14 b496_1 b496_2) [(.double (4607182418800017408 : UInt64))])
                refine gob (fun _ k => XS.dstore X497.here hx rfl (hb hby at_287) rfl (l' := (la10 p0 p1 p2 p3 p4 3 b373 14 b496_1 b496_2 (4607182418800017408 : UInt64))) rfl k) ?_
                show gO (tF T497 m 289 (la10 p0 p1 p2 p3 p4 3 b373 14 b496_1 b496_2 (4607182418800017408 : UInt64)) [])
                refine gob (fun _ k => XS.iload X497.here hx rfl (hb hby at_289) rfl k) ?_
                show gO (tF T497 m 291 (la10 p0 p1 p2 p3 p4 3 b373 14 b496_1 b496_2 (4607182418800017408 : UInt64)) [(.int 14)])
                refine gob (fun _ k => XS.ifYes X497.here hx rfl (pc0 := 291) (pc' := 307) rfl (hb hby at_291) rfl ((if0 _ _).trans (feq (by decide : ¬ ((14 : Int32) = (0 : Int32)))).2) (by decide) (by decide) k) ?_
                show gO (tF T497 m 307 (la10 p0 p1 p2 p3 p4 3 b373 14 b496_1 b496_2 (4607182418800017408 : UInt64)) [])
                refine gob (fun _ k => XS.dload X497.here hx rfl (hb hby at_307) rfl k) ?_
                show gO (tF T497 m 309 (la10 p0 p1 p2 p3 p4 3 b373 14 b496_1 b496_2 (4607182418800017408 : UInt64)) [(.double (4607182418800017408 : UInt64))])
                refine gob (fun _ k => XS.aload X497.here hx rfl (hb hby at_309) rfl rfl k) ?_
                show gO (tF T497 m 311 (la10 p0 p1 p2 p3 p4 3 b373 14 b496_1 b496_2 (4607182418800017408 : UInt64)) [(.ref b496_2), (.double (4607182418800017408 : UInt64))])
                refine gob (fun _ k => XS.iload X497.here hx rfl (hb hby at_311) rfl k) ?_
                show gO (tF T497 m 313 (la10 p0 p1 p2 p3 p4 3 b373 14 b496_1 b496_2 (4607182418800017408 : UInt64)) [(.int 14), (.ref b496_2), (.double (4607182418800017408 : UInt64))])
                obtain ⟨cl498, Ar498, aq498, S498, N498, H498, G498⟩ := id V496_2
                have hin498 : ¬ ((14 : Int32) < 0 ∨ cl498.slots.size ≤ ((14 : Int32)).toNatClampNeg) := inb_of S498 ⟨by decide, by decide⟩
                refine gob (X497.iaload hx (j := (14 : Int32)) (v := (.int 1)) (by rw [e497]; exact Ar498.1) (State.isArrayOf_alike hZ.alike Ar498.2.1) Ar498.2.2 hin498 (Has.at H498 hin498 rfl) (g := (mkF m 313 (la10 p0 p1 p2 p3 p4 3 b373 14 b496_1 b496_2 (4607182418800017408 : UInt64)) [(.int 14), (.ref b496_2), (.double (4607182418800017408 : UInt64))])) rfl rfl (hb hby at_313)) ?_
                show gO (tF T497 m 314 (la10 p0 p1 p2 p3 p4 3 b373 14 b496_1 b496_2 (4607182418800017408 : UInt64)) [(.int 1), (.double (4607182418800017408 : UInt64))])
                refine gob (fun _ k => XS.i2dS X497.here hx rfl (hb hby at_314) rfl (v := (4607182418800017408 : UInt64)) (by decide +kernel) k) ?_
                show gO (tF T497 m 315 (la10 p0 p1 p2 p3 p4 3 b373 14 b496_1 b496_2 (4607182418800017408 : UInt64)) [(.double (4607182418800017408 : UInt64)), (.double (4607182418800017408 : UInt64))])
                refine gob (fun _ k => XS.dmulS X497.here hx rfl (hb hby at_315) rfl (v := (4607182418800017408 : UInt64)) (by unfold Jvm.Free.Fl.NoNaN64; decide +kernel) (by decide +kernel) k) ?_
                show gO (tF T497 m 316 (la10 p0 p1 p2 p3 p4 3 b373 14 b496_1 b496_2 (4607182418800017408 : UInt64)) [(.double (4607182418800017408 : UInt64))])
                refine gob (fun _ k => XS.aload X497.here hx rfl (hb hby at_316) rfl rfl k) ?_
                show gO (tF T497 m 318 (la10 p0 p1 p2 p3 p4 3 b373 14 b496_1 b496_2 (4607182418800017408 : UInt64)) [(.ref b496_1), (.double (4607182418800017408 : UInt64))])
                refine gob (fun _ k => XS.iload X497.here hx rfl (hb hby at_318) rfl k) ?_
                show gO (tF T497 m 320 (la10 p0 p1 p2 p3 p4 3 b373 14 b496_1 b496_2 (4607182418800017408 : UInt64)) [(.int 14), (.ref b496_1), (.double (4607182418800017408 : UInt64))])
                obtain ⟨cl499, Ar499, aq499, S499, N499, H499, G499⟩ := id V496_1
                have hin499 : ¬ ((14 : Int32) < 0 ∨ cl499.slots.size ≤ ((14 : Int32)).toNatClampNeg) := inb_of S499 ⟨by decide, by decide⟩
                refine gob (X497.iaload hx (j := (14 : Int32)) (v := (.int 1)) (by rw [e497]; exact Ar499.1) (State.isArrayOf_alike hZ.alike Ar499.2.1) Ar499.2.2 hin499 (Has.at H499 hin499 rfl) (g := (mkF m 320 (la10 p0 p1 p2 p3 p4 3 b373 14 b496_1 b496_2 (4607182418800017408 : UInt64)) [(.int 14), (.ref b496_1), (.double (4607182418800017408 : UInt64))])) rfl rfl (hb hby at_320)) ?_
                show gO (tF T497 m 321 (la10 p0 p1 p2 p3 p4 3 b373 14 b496_1 b496_2 (4607182418800017408 : UInt64)) [(.int 1), (.double (4607182418800017408 : UInt64))])
                refine gob (fun _ k => XS.i2dS X497.here hx rfl (hb hby at_321) rfl (v := (4607182418800017408 : UInt64)) (by decide +kernel) k) ?_
                show gO (tF T497 m 322 (la10 p0 p1 p2 p3 p4 3 b373 14 b496_1 b496_2 (4607182418800017408 : UInt64)) [(.double (4607182418800017408 : UInt64)), (.double (4607182418800017408 : UInt64))])
                refine gob (fun _ k => XS.dsubS X497.here hx rfl (hb hby at_322) rfl (v := (0 : UInt64)) (by unfold Jvm.Free.Fl.NoNaN64; decide +kernel) (by decide +kernel) k) ?_
                show gO (tF T497 m 323 (la10 p0 p1 p2 p3 p4 3 b373 14 b496_1 b496_2 (4607182418800017408 : UInt64)) [(.double (0 : UInt64))])
                refine gob (fun _ k => XS.dstore X497.here hx rfl (hb hby at_323) rfl (l' := (la11 p0 p1 p2 p3 p4 3 b373 14 b496_1 b496_2 (4607182418800017408 : UInt64) (0 : UInt64))) rfl k) ?_
                show gO (tF T497 m 325 (la11 p0 p1 p2 p3 p4 3 b373 14 b496_1 b496_2 (4607182418800017408 : UInt64) (0 : UInt64)) [])
                refine gob (fun _ k => XS.dload X497.here hx rfl (hb hby at_325) rfl k) ?_
                show gO (tF T497 m 327 (la11 p0 p1 p2 p3 p4 3 b373 14 b496_1 b496_2 (4607182418800017408 : UInt64) (0 : UInt64)) [(.double (0 : UInt64))])
                refine gob (X497.ldc2DoubleC hx hown (mvT hZ (hW hw 6 rfl)) (g := (mkF m 327 (la11 p0 p1 p2 p3 p4 3 b373 14 b496_1 b496_2 (4607182418800017408 : UInt64) (0 : UInt64)) [(.double (0 : UInt64))])) rfl (hb hby at_327)) ?_
                show gO (tF T497 m 330 (la11 p0 p1 p2 p3 p4 3 b373 14 b496_1 b496_2 (4607182418800017408 : UInt64) (0 : UInt64)) [(.double (4472406533629990549 : UInt64)), (.double (0 : UInt64))])
                refine gob (fun _ k => XS.dcmpS X497.here hx rfl (hb hby at_330) rfl (v := (-1 : Int32)) (by decide +kernel) k) ?_
                show gO (tF T497 m 331 (la11 p0 p1 p2 p3 p4 3 b373 14 b496_1 b496_2 (4607182418800017408 : UInt64) (0 : UInt64)) [(.int (-1))])
                refine gob (fun _ k => XS.ifNo X497.here hx rfl (hb hby at_331) rfl ((if0 _ _).trans (tlt (by decide : (-1 : Int32) < (0 : Int32))).2.1) k) ?_
                show gO (tF T497 m 334 (la11 p0 p1 p2 p3 p4 3 b373 14 b496_1 b496_2 (4607182418800017408 : UInt64) (0 : UInt64)) [])
                refine gob (fun _ k => XS.dload X497.here hx rfl (hb hby at_334) rfl k) ?_
                show gO (tF T497 m 336 (la11 p0 p1 p2 p3 p4 3 b373 14 b496_1 b496_2 (4607182418800017408 : UInt64) (0 : UInt64)) [(.double (0 : UInt64))])
                refine gob (X497.ldc2DoubleC hx hown (mvT hZ (hW hw 7 rfl)) (g := (mkF m 336 (la11 p0 p1 p2 p3 p4 3 b373 14 b496_1 b496_2 (4607182418800017408 : UInt64) (0 : UInt64)) [(.double (0 : UInt64))])) rfl (hb hby at_336)) ?_
                show gO (tF T497 m 339 (la11 p0 p1 p2 p3 p4 3 b373 14 b496_1 b496_2 (4607182418800017408 : UInt64) (0 : UInt64)) [(.double (13695778570484766357 : UInt64)), (.double (0 : UInt64))])
                refine gob (fun _ k => XS.dcmpS X497.here hx rfl (hb hby at_339) rfl (v := (1 : Int32)) (by decide +kernel) k) ?_
                show gO (tF T497 m 340 (la11 p0 p1 p2 p3 p4 3 b373 14 b496_1 b496_2 (4607182418800017408 : UInt64) (0 : UInt64)) [(.int 1)])
                refine gob (fun _ k => XS.ifNo X497.here hx rfl (hb hby at_340) rfl ((if0 _ _).trans (tlt (by decide : (0 : Int32) < (1 : Int32))).2.2.2) k) ?_
                show gO (tF T497 m 343 (la11 p0 p1 p2 p3 p4 3 b373 14 b496_1 b496_2 (4607182418800017408 : UInt64) (0 : UInt64)) [])
                refine gob (fun _ k => XS.iconst X497.here hx rfl (hb hby at_343) k) ?_
                show gO (tF T497 m 344 (la11 p0 p1 p2 p3 p4 3 b373 14 b496_1 b496_2 (4607182418800017408 : UInt64) (0 : UInt64)) [(.int 1)])
                refine gob (fun _ k => XS.goto X497.here hx rfl (pc0 := 344) (pc' := 348) rfl (hb hby at_344) (by decide) (by decide) k) ?_
                show gO (tF T497 m 348 (la11 p0 p1 p2 p3 p4 3 b373 14 b496_1 b496_2 (4607182418800017408 : UInt64) (0 : UInt64)) [(.int 1)])
                refine goZ X497 hx hlk (t := .boolean) Bd.returns (by simp) (hb hby at_348) (z' := (1 : Int32)) rfl ?_ (by decide) (by decide)
                show Q0 Z p0 p1 p2 p3 p4 h0 n0 (some (.int (1 : Int32))) T497.heap _
                exact ⟨rfl, N497⟩
              · skip
                refine gob (fun _ k => XS.ifYes X383.here hx rfl (pc0 := 93) (pc' := 99) rfl (hb hby at_93) rfl ((if0 _ _).trans (flt hc93_495).2.2.2) (by decide) (by decide) k) ?_
                show gO (tF T383 m 99 (la7 p0 p1 p2 p3 p4 3 b373 12) [])
                refine gob (fun _ k => XS.iload X383.here hx rfl (hb hby at_99) rfl k) ?_
                show gO (tF T383 m 101 (la7 p0 p1 p2 p3 p4 3 b373 12) [(.int 3)])
                refine gob (fun _ k => XS.iconst X383.here hx rfl (hb hby at_101) k) ?_
                show gO (tF T383 m 102 (la7 p0 p1 p2 p3 p4 3 b373 12) [(.int 3), (.int 3)])
                refine gob (fun _ k => XS.icmpYes X383.here hx rfl (pc0 := 102) (pc' := 112) rfl (hb hby at_102) rfl (flt (by decide : ¬ ((3 : Int32) < (3 : Int32)))).2.2.2 (by decide) (by decide) k) ?_
                show gO (tF T383 m 112 (la7 p0 p1 p2 p3 p4 3 b373 12) [])
                refine seg (12 : Int32) ?_
                intro T500 lc500 h500 b500_1 b500_2 k500_1 k500_2 X500 e500 N500 z500 V500 V500_1 V500_2
                show gO (tF T500 m 282 (la8 p0 p1 p2 p3 p4 3 b373 12 b500_1 b500_2) [])
                refine gob (fun _ k => XS.aload X500.here hx rfl (hb hby at_282) rfl rfl k) ?_
                show gO (tF T500 m 284 (la8 p0 p1 p2 p3 p4 3 b373 12 b500_1 b500_2) [(.ref b373)])
                obtain ⟨_, _, ⟨T501, L501, k501, n501⟩, -, X501, ⟨Lc501, hQ501, l501, y501, z501⟩, st501⟩ := Jvm.LawKit.callS X500 hx (y := (⟨"com/example/coevolution/coevolution/measure/Measures", "averagePrecision", "([I)D"⟩ : MethodName)) hown (mvT hZ (hW hw 2 rfl)) (mvT hZ (hW hw 3 rfl)) (mvT hZ (hW hw 4 rfl)) (mvT hZ (hW hw 5 rfl)) (by decide) (backOf (W := 0) (rmap3 l Z a0 hw [] b373 k373 p0 p1 p2 h500 n0 z500 V500) hZ (hW hw 5 rfl) (hW hw 4 rfl) (by decide) (by decide)) (g := (mkF m 284 (la8 p0 p1 p2 p3 p4 3 b373 12 b500_1 b500_2) [(.ref b373)])) rfl (by rw [hml]; rfl) (argsL := [(.ref b373)]) (rest := []) (lenOf pd_0 rfl) rfl (by show 2 * 0 + _ ≤ _; exact Nat.le_of_eq rfl) (hb hby at_284) (fun _ _ => ⟨rfl, e500, (by decide : 3 + 0 ≤ _), (by decide : 35 + 0 ≤ _)⟩)
                dsimp only [Pt.U, Pt.locs, Pt.cells, Pt.slots] at X501 l501 y501 z501 st501 hQ501
                replace X501 := castX X501 (y501.trans (rfl : _ = 3)) (z501.trans (rfl : _ = 35))
                obtain ⟨r501, rfl, hr501, Nq501, e501⟩ := hQ501
                have N501 : Fr n0 L501 := l501 ▸ Fr.app N500 Nq501
                refine gob st501 ?_
                show gO (tF T501 m 287 (la8 p0 p1 p2 p3 p4 3 b373 12 b500_1 b500_2) [(.double r501)])
                have hlr501 : r501 = (4607182418800017408 : UInt64) := by simpa [hc67_493, hc80_494, hc93_495] using hr501
                subst hlr501
                show gO (tF T501 m 287 (la8 p0 p1 p2 p3 p4 3 b373 12 b500_1 b500_2) [(.double (4607182418800017408 : UInt64))])
                refine gob (fun _ k => XS.dstore X501.here hx rfl (hb hby at_287) rfl (l' := (la10 p0 p1 p2 p3 p4 3 b373 12 b500_1 b500_2 (4607182418800017408 : UInt64))) rfl k) ?_
                show gO (tF T501 m 289 (la10 p0 p1 p2 p3 p4 3 b373 12 b500_1 b500_2 (4607182418800017408 : UInt64)) [])
                refine gob (fun _ k => XS.iload X501.here hx rfl (hb hby at_289) rfl k) ?_
                show gO (tF T501 m 291 (la10 p0 p1 p2 p3 p4 3 b373 12 b500_1 b500_2 (4607182418800017408 : UInt64)) [(.int 12)])
                refine gob (fun _ k => XS.ifYes X501.here hx rfl (pc0 := 291) (pc' := 307) rfl (hb hby at_291) rfl ((if0 _ _).trans (feq (by decide : ¬ ((12 : Int32) = (0 : Int32)))).2) (by decide) (by decide) k) ?_
                show gO (tF T501 m 307 (la10 p0 p1 p2 p3 p4 3 b373 12 b500_1 b500_2 (4607182418800017408 : UInt64)) [])
                refine gob (fun _ k => XS.dload X501.here hx rfl (hb hby at_307) rfl k) ?_
                show gO (tF T501 m 309 (la10 p0 p1 p2 p3 p4 3 b373 12 b500_1 b500_2 (4607182418800017408 : UInt64)) [(.double (4607182418800017408 : UInt64))])
                refine gob (fun _ k => XS.aload X501.here hx rfl (hb hby at_309) rfl rfl k) ?_
                show gO (tF T501 m 311 (la10 p0 p1 p2 p3 p4 3 b373 12 b500_1 b500_2 (4607182418800017408 : UInt64)) [(.ref b500_2), (.double (4607182418800017408 : UInt64))])
                refine gob (fun _ k => XS.iload X501.here hx rfl (hb hby at_311) rfl k) ?_
                show gO (tF T501 m 313 (la10 p0 p1 p2 p3 p4 3 b373 12 b500_1 b500_2 (4607182418800017408 : UInt64)) [(.int 12), (.ref b500_2), (.double (4607182418800017408 : UInt64))])
                obtain ⟨cl502, Ar502, aq502, S502, N502, H502, G502⟩ := id V500_2
                have hin502 : ¬ ((12 : Int32) < 0 ∨ cl502.slots.size ≤ ((12 : Int32)).toNatClampNeg) := inb_of S502 ⟨by decide, by decide⟩
                refine gob (X501.iaload hx (j := (12 : Int32)) (v := (.int 1)) (by rw [e501]; exact Ar502.1) (State.isArrayOf_alike hZ.alike Ar502.2.1) Ar502.2.2 hin502 (Has.at H502 hin502 rfl) (g := (mkF m 313 (la10 p0 p1 p2 p3 p4 3 b373 12 b500_1 b500_2 (4607182418800017408 : UInt64)) [(.int 12), (.ref b500_2), (.double (4607182418800017408 : UInt64))])) rfl rfl (hb hby at_313)) ?_
                show gO (tF T501 m 314 (la10 p0 p1 p2 p3 p4 3 b373 12 b500_1 b500_2 (4607182418800017408 : UInt64)) [(.int 1), (.double (4607182418800017408 : UInt64))])
                refine gob (fun _ k => XS.i2dS X501.here hx rfl (hb hby at_314) rfl (v := (4607182418800017408 : UInt64)) (by decide +kernel) k) ?_
                show gO (tF T501 m 315 (la10 p0 p1 p2 p3 p4 3 b373 12 b500_1 b500_2 (4607182418800017408 : UInt64)) [(.double (4607182418800017408 : UInt64)), (.double (4607182418800017408 : UInt64))])
                refine gob (fun _ k => XS.dmulS X501.here hx rfl (hb hby at_315) rfl (v := (4607182418800017408 : UInt64)) (by unfold Jvm.Free.Fl.NoNaN64; decide +kernel) (by decide +kernel) k) ?_
                show gO (tF T501 m 316 (la10 p0 p1 p2 p3 p4 3 b373 12 b500_1 b500_2 (4607182418800017408 : UInt64)) [(.double (4607182418800017408 : UInt64))])
                refine gob (fun _ k => XS.aload X501.here hx rfl (hb hby at_316) rfl rfl k) ?_
                show gO (tF T501 m 318 (la10 p0 p1 p2 p3 p4 3 b373 12 b500_1 b500_2 (4607182418800017408 : UInt64)) [(.ref b500_1), (.double (4607182418800017408 : UInt64))])
                refine gob (fun _ k => XS.iload X501.here hx rfl (hb hby at_318) rfl k) ?_
                show gO (tF T501 m 320 (la10 p0 p1 p2 p3 p4 3 b373 12 b500_1 b500_2 (4607182418800017408 : UInt64)) [(.int 12), (.ref b500_1), (.double (4607182418800017408 : UInt64))])
                obtain ⟨cl503, Ar503, aq503, S503, N503, H503, G503⟩ := id V500_1
                have hin503 : ¬ ((12 : Int32) < 0 ∨ cl503.slots.size ≤ ((12 : Int32)).toNatClampNeg) := inb_of S503 ⟨by decide, by decide⟩
                refine gob (X501.iaload hx (j := (12 : Int32)) (v := (.int 1)) (by rw [e501]; exact Ar503.1) (State.isArrayOf_alike hZ.alike Ar503.2.1) Ar503.2.2 hin503 (Has.at H503 hin503 rfl) (g := (mkF m 320 (la10 p0 p1 p2 p3 p4 3 b373 12 b500_1 b500_2 (4607182418800017408 : UInt64)) [(.int 12), (.ref b500_1), (.double (4607182418800017408 : UInt64))])) rfl rfl (hb hby at_320)) ?_
                show gO (tF T501 m 321 (la10 p0 p1 p2 p3 p4 3 b373 12 b500_1 b500_2 (4607182418800017408 : UInt64)) [(.int 1), (.double (4607182418800017408 : UInt64))])
                refine gob (fun _ k => XS.i2dS X501.here hx rfl (hb hby at_321) rfl (v := (4607182418800017408 : UInt64)) (by decide +kernel) k) ?_
                show gO (tF T501 m 322 (la10 p0 p1 p2 p3 p4 3 b373 12 b500_1 b500_2 (4607182418800017408 : UInt64)) [(.double (4607182418800017408 : UInt64)), (.double (4607182418800017408 : UInt64))])
                refine gob (fun _ k => XS.dsubS X501.here hx rfl (hb hby at_322) rfl (v := (0 : UInt64)) (by unfold Jvm.Free.Fl.NoNaN64; decide +kernel) (by decide +kernel) k) ?_
                show gO (tF T501 m 323 (la10 p0 p1 p2 p3 p4 3 b373 12 b500_1 b500_2 (4607182418800017408 : UInt64)) [(.double (0 : UInt64))])
                refine gob (fun _ k => XS.dstore X501.here hx rfl (hb hby at_323) rfl (l' := (la11 p0 p1 p2 p3 p4 3 b373 12 b500_1 b500_2 (4607182418800017408 : UInt64) (0 : UInt64))) rfl k) ?_
                show gO (tF T501 m 325 (la11 p0 p1 p2 p3 p4 3 b373 12 b500_1 b500_2 (4607182418800017408 : UInt64) (0 : UInt64)) [])
                refine gob (fun _ k => XS.dload X501.here hx rfl (hb hby at_325) rfl k) ?_
                show gO (tF T501 m 327 (la11 p0 p1 p2 p3 p4 3 b373 12 b500_1 b500_2 (4607182418800017408 : UInt64) (0 : UInt64)) [(.double (0 : UInt64))])
                refine gob (X501.ldc2DoubleC hx hown (mvT hZ (hW hw 6 rfl)) (g := (mkF m 327 (la11 p0 p1 p2 p3 p4 3 b373 12 b500_1 b500_2 (4607182418800017408 : UInt64) (0 : UInt64)) [(.double (0 : UInt64))])) rfl (hb hby at_327)) ?_
                show gO (tF T501 m 330 (la11 p0 p1 p2 p3 p4 3 b373 12 b500_1 b500_2 (4607182418800017408 : UInt64) (0 : UInt64)) [(.double (4472406533629990549 : UInt64)), (.double (0 : UInt64))])
                refine gob (fun _ k => XS.dcmpS X501.here hx rfl (hb hby at_330) rfl (v := (-1 : Int32)) (by decide +kernel) k) ?_
                show gO (tF T501 m 331 (la11 p0 p1 p2 p3 p4 3 b373 12 b500_1 b500_2 (4607182418800017408 : UInt64) (0 : UInt64)) [(.int (-1))])
                refine gob (fun _ k => XS.ifNo X501.here hx rfl (hb hby at_331) rfl ((if0 _ _).trans (tlt (by decide : (-1 : Int32) < (0 : Int32))).2.1) k) ?_
                show gO (tF T501 m 334 (la11 p0 p1 p2 p3 p4 3 b373 12 b500_1 b500_2 (4607182418800017408 : UInt64) (0 : UInt64)) [])
                refine gob (fun _ k => XS.dload X501.here hx rfl (hb hby at_334) rfl k) ?_
                show gO (tF T501 m 336 (la11 p0 p1 p2 p3 p4 3 b373 12 b500_1 b500_2 (4607182418800017408 : UInt64) (0 : UInt64)) [(.double (0 : UInt64))])
                refine gob (X501.ldc2DoubleC hx hown (mvT hZ (hW hw 7 rfl)) (g := (mkF m 336 (la11 p0 p1 p2 p3 p4 3 b373 12 b500_1 b500_2 (4607182418800017408 : UInt64) (0 : UInt64)) [(.double (0 : UInt64))])) rfl (hb hby at_336)) ?_
                show gO (tF T501 m 339 (la11 p0 p1 p2 p3 p4 3 b373 12 b500_1 b500_2 (4607182418800017408 : UInt64) (0 : UInt64)) [(.double (13695778570484766357 : UInt64)), (.double (0 : UInt64))])
                refine gob (fun _ k => XS.dcmpS X501.here hx rfl (hb hby at_339) rfl (v := (1 : Int32)) (by decide +kernel) k) ?_
                show gO (tF T501 m 340 (la11 p0 p1 p2 p3 p4 3 b373 12 b500_1 b500_2 (4607182418800017408 : UInt64) (0 : UInt64)) [(.int 1)])
                refine gob (fun _ k => XS.ifNo X501.here hx rfl (hb hby at_340) rfl ((if0 _ _).trans (tlt (by decide : (0 : Int32) < (1 : Int32))).2.2.2) k) ?_
                show gO (tF T501 m 343 (la11 p0 p1 p2 p3 p4 3 b373 12 b500_1 b500_2 (4607182418800017408 : UInt64) (0 : UInt64)) [])
                refine gob (fun _ k => XS.iconst X501.here hx rfl (hb hby at_343) k) ?_
                show gO (tF T501 m 344 (la11 p0 p1 p2 p3 p4 3 b373 12 b500_1 b500_2 (4607182418800017408 : UInt64) (0 : UInt64)) [(.int 1)])
                refine gob (fun _ k => XS.goto X501.here hx rfl (pc0 := 344) (pc' := 348) rfl (hb hby at_344) (by decide) (by decide) k) ?_
                show gO (tF T501 m 348 (la11 p0 p1 p2 p3 p4 3 b373 12 b500_1 b500_2 (4607182418800017408 : UInt64) (0 : UInt64)) [(.int 1)])
                refine goZ X501 hx hlk (t := .boolean) Bd.returns (by simp) (hb hby at_348) (z' := (1 : Int32)) rfl ?_ (by decide) (by decide)
                show Q0 Z p0 p1 p2 p3 p4 h0 n0 (some (.int (1 : Int32))) T501.heap _
                exact ⟨rfl, N501⟩
            · skip
              refine gob (fun _ k => XS.ifYes X383.here hx rfl (pc0 := 80) (pc' := 86) rfl (hb hby at_80) rfl ((if0 _ _).trans (flt hc80_494).2.2.2) (by decide) (by decide) k) ?_
              show gO (tF T383 m 86 (la7 p0 p1 p2 p3 p4 3 b373 8) [])
              refine gob (fun _ k => XS.iload X383.here hx rfl (hb hby at_86) rfl k) ?_
              show gO (tF T383 m 88 (la7 p0 p1 p2 p3 p4 3 b373 8) [(.int 3)])
              refine gob (fun _ k => XS.iconst X383.here hx rfl (hb hby at_88) k) ?_
              show gO (tF T383 m 89 (la7 p0 p1 p2 p3 p4 3 b373 8) [(.int 2), (.int 3)])
              refine gob (fun _ k => XS.icmpNo X383.here hx rfl (hb hby at_89) rfl (tlt (by decide : (2 : Int32) < (3 : Int32))).2.2.2 k) ?_
              show gO (tF T383 m 92 (la7 p0 p1 p2 p3 p4 3 b373 8) [])
              refine gob (fun _ k => XS.iloadN X383.here hx rfl (hb hby at_92) rfl k) ?_
              show gO (tF T383 m 93 (la7 p0 p1 p2 p3 p4 3 b373 8) [(.int p2)])
              by_cases hc93_504 : (0 : Int32) < p2
              · skip
                refine gob (fun _ k => XS.ifNo X383.here hx rfl (hb hby at_93) rfl ((if0 _ _).trans (tlt hc93_504).2.2.2) k) ?_
                show gO (tF T383 m 96 (la7 p0 p1 p2 p3 p4 3 b373 8) [])
                refine gob (fun _ k => XS.iinc X383.here hx rfl (hb hby at_96) rfl (l' := (la7 p0 p1 p2 p3 p4 3 b373 10)) rfl k) ?_
                show gO (tF T383 m 99 (la7 p0 p1 p2 p3 p4 3 b373 10) [])
                refine gob (fun _ k => XS.iload X383.here hx rfl (hb hby at_99) rfl k) ?_
                show gO (tF T383 m 101 (la7 p0 p1 p2 p3 p4 3 b373 10) [(.int 3)])
                refine gob (fun _ k => XS.iconst X383.here hx rfl (hb hby at_101) k) ?_
                show gO (tF T383 m 102 (la7 p0 p1 p2 p3 p4 3 b373 10) [(.int 3), (.int 3)])
                refine gob (fun _ k => XS.icmpYes X383.here hx rfl (pc0 := 102) (pc' := 112) rfl (hb hby at_102) rfl (flt (by decide : ¬ ((3 : Int32) < (3 : Int32)))).2.2.2 (by decide) (by decide) k) ?_
                show gO (tF T383 m 112 (la7 p0 p1 p2 p3 p4 3 b373 10) [])
                refine seg (10 : Int32) ?_
                intro T505 lc505 h505 b505_1 b505_2 k505_1 k505_2 X505 e505 N505 z505 V505 V505_1 V505_2
                show gO (tF T505 m 282 (la8 p0 p1 p2 p3 p4 3 b373 10 b505_1 b505_2) [])
                refine gob (fun _ k => XS.aload X505.here hx rfl (hb hby at_282) rfl rfl k) ?_
                show gO (tF T505 m 284 (la8 p0 p1 p2 p3 p4 3 b373 10 b505_1 b505_2) [(.ref b373)])
                obtain ⟨_, _, ⟨T506, L506, k506, n506⟩, -, X506, ⟨Lc506, hQ506, l506, y506, z506⟩, st506⟩ := Jvm.LawKit.callS X505 hx (y := (⟨"com/example/coevolution/coevolution/measure/Measures", "averagePrecision", "([I)D"⟩ : MethodName)) hown (mvT hZ (hW hw 2 rfl)) (mvT hZ (hW hw 3 rfl)) (mvT hZ (hW hw 4 rfl)) (mvT hZ (hW hw 5 rfl)) (by decide) (backOf (W := 0) (rmap3 l Z a0 hw [] b373 k373 p0 p1 p2 h505 n0 z505 V505) hZ (hW hw 5 rfl) (hW hw 4 rfl) (by decide) (by decide)) (g := (mkF m 284 (la8 p0 p1 p2 p3 p4 3 b373 10 b505_1 b505_2) [(.ref b373)])) rfl (by rw [hml]; rfl) (argsL := [(.ref b373)]) (rest := []) (lenOf pd_0 rfl) rfl (by show 2 * 0 + _ ≤ _; exact Nat.le_of_eq rfl) (hb hby at_284) (fun _ _ => ⟨rfl, e505, (by decide : 3 + 0 ≤ _), (by decide : 35 + 0 ≤ _)⟩)
                dsimp only [Pt.U, Pt.locs, Pt.cells, Pt.slots] at X506 l506 y506 z506 st506 hQ506
                replace X506 := castX X506 (y506.trans (rfl : _ = 3)) (z506.trans (rfl : _ = 35))
                obtain ⟨r506, rfl, hr506, Nq506, e506⟩ := hQ506
                have N506 : Fr n0 L506 := l506 ▸ Fr.app N505 Nq506
                refine gob st506 ?_
                show gO (tF T506 m 287 (la8 p0 p1 p2 p3 p4 3 b373 10 b505_1 b505_2) [(.double r506)])
                have hlr506 : r506 = (4605681218924227242 : UInt64) := by simpa [hc67_493, hc80_494, hc93_504] using hr506
                subst hlr506
                show gO (tF T506 m 287 (la8 p0 p1 p2 p3 p4 3 b373 10 b505_1 b505_2) [(.double (4605681218924227242 : UInt64))])
                refine gob (fun _ k => XS.dstore X506.here hx rfl (hb hby at_287) rfl (l' := (la10 p0 p1 p2 p3 p4 3 b373 10 b505_1 b505_2 (4605681218924227242 : UInt64))) rfl k) ?_
                show gO (tF T506 m 289 (la10 p0 p1 p2 p3 p4 3 b373 10 b505_1 b505_2 (4605681218924227242 : UInt64)) [])
                refine gob (fun _ k => XS.iload X506.here hx rfl (hb hby at_289) rfl k) ?_
                show gO (tF T506 m 291 (la10 p0 p1 p2 p3 p4 3 b373 10 b505_1 b505_2 (4605681218924227242 : UInt64)) [(.int 10)])
                refine gob (fun _ k => XS.ifYes X506.here hx rfl (pc0 := 291) (pc' := 307) rfl (hb hby at_291) rfl ((if0 _ _).trans (feq (by decide : ¬ ((10 : Int32) = (0 : Int32)))).2) (by decide) (by decide) k) ?_
                show gO (tF T506 m 307 (la10 p0 p1 p2 p3 p4 3 b373 10 b505_1 b505_2 (4605681218924227242 : UInt64)) [])
                refine gob (fun _ k => XS.dload X506.here hx rfl (hb hby at_307) rfl k) ?_
                show gO (tF T506 m 309 (la10 p0 p1 p2 p3 p4 3 b373 10 b505_1 b505_2 (4605681218924227242 : UInt64)) [(.double (4605681218924227242 : UInt64))])
                refine gob (fun _ k => XS.aload X506.here hx rfl (hb hby at_309) rfl rfl k) ?_
                show gO (tF T506 m 311 (la10 p0 p1 p2 p3 p4 3 b373 10 b505_1 b505_2 (4605681218924227242 : UInt64)) [(.ref b505_2), (.double (4605681218924227242 : UInt64))])
                refine gob (fun _ k => XS.iload X506.here hx rfl (hb hby at_311) rfl k) ?_
                show gO (tF T506 m 313 (la10 p0 p1 p2 p3 p4 3 b373 10 b505_1 b505_2 (4605681218924227242 : UInt64)) [(.int 10), (.ref b505_2), (.double (4605681218924227242 : UInt64))])
                obtain ⟨cl507, Ar507, aq507, S507, N507, H507, G507⟩ := id V505_2
                have hin507 : ¬ ((10 : Int32) < 0 ∨ cl507.slots.size ≤ ((10 : Int32)).toNatClampNeg) := inb_of S507 ⟨by decide, by decide⟩
                refine gob (X506.iaload hx (j := (10 : Int32)) (v := (.int 6)) (by rw [e506]; exact Ar507.1) (State.isArrayOf_alike hZ.alike Ar507.2.1) Ar507.2.2 hin507 (Has.at H507 hin507 rfl) (g := (mkF m 313 (la10 p0 p1 p2 p3 p4 3 b373 10 b505_1 b505_2 (4605681218924227242 : UInt64)) [(.int 10), (.ref b505_2), (.double (4605681218924227242 : UInt64))])) rfl rfl (hb hby at_313)) ?_
                show gO (tF T506 m 314 (la10 p0 p1 p2 p3 p4 3 b373 10 b505_1 b505_2 (4605681218924227242 : UInt64)) [(.int 6), (.double (4605681218924227242 : UInt64))])
                refine gob (fun _ k => XS.i2dS X506.here hx rfl (hb hby at_314) rfl (v := (4618441417868443648 : UInt64)) (by decide +kernel) k) ?_
                show gO (tF T506 m 315 (la10 p0 p1 p2 p3 p4 3 b373 10 b505_1 b505_2 (4605681218924227242 : UInt64)) [(.double (4618441417868443648 : UInt64)), (.double (4605681218924227242 : UInt64))])
                refine gob (fun _ k => XS.dmulS X506.here hx rfl (hb hby at_315) rfl (v := (4617315517961601024 : UInt64)) (by unfold Jvm.Free.Fl.NoNaN64; decide +kernel) (by decide +kernel) k) ?_
                show gO (tF T506 m 316 (la10 p0 p1 p2 p3 p4 3 b373 10 b505_1 b505_2 (4605681218924227242 : UInt64)) [(.double (4617315517961601024 : UInt64))])
                refine gob (fun _ k => XS.aload X506.here hx rfl (hb hby at_316) rfl rfl k) ?_
                show gO (tF T506 m 318 (la10 p0 p1 p2 p3 p4 3 b373 10 b505_1 b505_2 (4605681218924227242 : UInt64)) [(.ref b505_1), (.double (4617315517961601024 : UInt64))])
                refine gob (fun _ k => XS.iload X506.here hx rfl (hb hby at_318) rfl k) ?_
                show gO (tF T506 m 320 (la10 p0 p1 p2 p3 p4 3 b373 10 b505_1 b505_2 (4605681218924227242 : UInt64)) [(.int 10), (.ref b505_1), (.double (4617315517961601024 : UInt64))])
                obtain ⟨cl508, Ar508, aq508, S508, N508, H508, G508⟩ := id V505_1
                have hin508 : ¬ ((10 : Int32) < 0 ∨ cl508.slots.size ≤ ((10 : Int32)).toNatClampNeg) := inb_of S508 ⟨by decide, by decide⟩
                refine gob (X506.iaload hx (j := (10 : Int32)) (v := (.int 5)) (by rw [e506]; exact Ar508.1) (State.isArrayOf_alike hZ.alike Ar508.2.1) Ar508.2.2 hin508 (Has.at H508 hin508 rfl) (g := (mkF m 320 (la10 p0 p1 p2 p3 p4 3 b373 10 b505_1 b505_2 (4605681218924227242 : UInt64)) [(.int 10), (.ref b505_1), (.double (4617315517961601024 : UInt64))])) rfl rfl (hb hby at_320)) ?_
                show gO (tF T506 m 321 (la10 p0 p1 p2 p3 p4 3 b373 10 b505_1 b505_2 (4605681218924227242 : UInt64)) [(.int 5), (.double (4617315517961601024 : UInt64))])
                refine gob (fun _ k => XS.i2dS X506.here hx rfl (hb hby at_321) rfl (v := (4617315517961601024 : UInt64)) (by decide +kernel) k) ?_
                show gO (tF T506 m 322 (la10 p0 p1 p2 p3 p4 3 b373 10 b505_1 b505_2 (4605681218924227242 : UInt64)) [(.double (4617315517961601024 : UInt64)), (.double (4617315517961601024 : UInt64))])
                refine gob (fun _ k => XS.dsubS X506.here hx rfl (hb hby at_322) rfl (v := (0 : UInt64)) (by unfold Jvm.Free.Fl.NoNaN64; decide +kernel) (by decide +kernel) k) ?_
                show gO (tF T506 m 323 (la10 p0 p1 p2 p3 p4 3 b373 10 b505_1 b505_2 (4605681218924227242 : UInt64)) [(.double (0 : UInt64))])
                refine gob (fun _ k => XS.dstore X506.here hx rfl (hb hby at_323) rfl (l' := (la11 p0 p1 p2 p3 p4 3 b373 10 b505_1 b505_2 (4605681218924227242 : UInt64) (0 : UInt64))) rfl k) ?_
                show gO (tF T506 m 325 (la11 p0 p1 p2 p3 p4 3 b373 10 b505_1 b505_2 (4605681218924227242 : UInt64) (0 : UInt64)) [])
                refine gob (fun _ k => XS.dload X506.here hx rfl (hb hby at_325) rfl k) ?_
                show gO (tF T506 m 327 (la11 p0 p1 p2 p3 p4 3 b373 10 b505_1 b505_2 (4605681218924227242 : UInt64) (0 : UInt64)) [(.double (0 : UInt64))])
                refine gob (X506.ldc2DoubleC hx hown (mvT hZ (hW hw 6 rfl)) (g := (mkF m 327 (la11 p0 p1 p2 p3 p4 3 b373 10 b505_1 b505_2 (4605681218924227242 : UInt64) (0 : UInt64)) [(.double (0 : UInt64))])) rfl (hb hby at_327)) ?_
                show gO (tF T506 m 330 (la11 p0 p1 p2 p3 p4 3 b373 10 b505_1 b505_2 (4605681218924227242 : UInt64) (0 : UInt64)) [(.double (4472406533629990549 : UInt64)), (.double (0 : UInt64))])
                refine gob (fun _ k => XS.dcmpS X506.here hx rfl (hb hby at_330) rfl (v := (-1 : Int32)) (by decide +kernel) k) ?_
                show gO (tF T506 m 331 (la11 p0 p1 p2 p3 p4 3 b373 10 b505_1 b505_2 (4605681218924227242 : UInt64) (0 : UInt64)) [(.int (-1))])
                refine gob (fun _ k => XS.ifNo X506.here hx rfl (hb hby at_331) rfl ((if0 _ _).trans (tlt (by decide : (-1 : Int32) < (0 : Int32))).2.1) k) ?_
                show gO (tF T506 m 334 (la11 p0 p1 p2 p3 p4 3 b373 10 b505_1 b505_2 (4605681218924227242 : UInt64) (0 : UInt64)) [])
                refine gob (fun _ k => XS.dload X506.here hx rfl (hb hby at_334) rfl k) ?_
                show gO (tF T506 m 336 (la11 p0 p1 p2 p3 p4 3 b373 10 b505_1 b505_2 (4605681218924227242 : UInt64) (0 : UInt64)) [(.double (0 : UInt64))])
                refine gob (X506.ldc2DoubleC hx hown (mvT hZ (hW hw 7 rfl)) (g := (mkF m 336 (la11 p0 p1 p2 p3 p4 3 b373 10 b505_1 b505_2 (4605681218924227242 : UInt64) (0 : UInt64)) [(.double (0 : UInt64))])) rfl (hb hby at_336)) ?_
                show gO (tF T506 m 339 (la11 p0 p1 p2 p3 p4 3 b373 10 b505_1 b505_2 (4605681218924227242 : UInt64) (0 : UInt64)) [(.double (13695778570484766357 : UInt64)), (.double (0 : UInt64))])
                refine gob (fun _ k => XS.dcmpS X506.here hx rfl (hb hby at_339) rfl (v := (1 : Int32)) (by decide +kernel) k) ?_
                show gO (tF T506 m 340 (la11 p0 p1 p2 p3 p4 3 b373 10 b505_1 b505_2 (4605681218924227242 : UInt64) (0 : UInt64)) [(.int 1)])
                refine gob (fun _ k => XS.ifNo X506.here hx rfl (hb hby at_340) rfl ((if0 _ _).trans (tlt (by decide : (0 : Int32) < (1 : Int32))).2.2.2) k) ?_
                show gO (tF T506 m 343 (la11 p0 p1 p2 p3 p4 3 b373 10 b505_1 b505_2 (4605681218924227242 : UInt64) (0 : UInt64)) [])
                refine gob (fun _ k => XS.iconst X506.here hx rfl (hb hby at_343) k) ?_
                show gO (tF T506 m 344 (la11 p0 p1 p2 p3 p4 3 b373 10 b505_1 b505_2 (4605681218924227242 : UInt64) (0 : UInt64)) [(.int 1)])
                refine gob (fun _ k => XS.goto X506.here hx rfl (pc0 := 344) (pc' := 348) rfl (hb hby at_344) (by decide) (by decide) k) ?_
                show gO (tF T506 m 348 (la11 p0 p1 p2 p3 p4 3 b373 10 b505_1 b505_2 (4605681218924227242 : UInt64) (0 : UInt64)) [(.int 1)])
                refine goZ X506 hx hlk (t := .boolean) Bd.returns (by simp) (hb hby at_348) (z' := (1 : Int32)) rfl ?_ (by decide) (by decide)
                show Q0 Z p0 p1 p2 p3 p4 h0 n0 (some (.int (1 : Int32))) T506.heap _
                exact ⟨rfl, N506⟩
              · skip
                refine gob (fun _ k => XS.ifYes X383.here hx rfl (pc0 := 93) (pc' := 99) rfl (hb hby at_93) rfl ((if0 _ _).trans (flt hc93_504).2.2.2) (by decide) (by decide) k) ?_
                show gO (tF T383 m 99 (la7 p0 p1 p2 p3 p4 3 b373 8) [])
                refine gob (fun _ k => XS.iload X383.here hx rfl (hb hby at_99) rfl k) ?_
                show gO (tF T383 m 101 (la7 p0 p1 p2 p3 p4 3 b373 8) [(.int 3)])
                refine gob (fun _ k => XS.iconst X383.here hx rfl (hb hby at_101) k) ?_
                show gO (tF T383 m 102 (la7 p0 p1 p2 p3 p4 3 b373 8) [(.int 3), (.int 3)])
                refine gob (fun _ k => XS.icmpYes X383.here hx rfl (pc0 := 102) (pc' := 112) rfl (hb hby at_102) rfl (flt (by decide : ¬ ((3 : Int32) < (3 : Int32)))).2.2.2 (by decide) (by decide) k) ?_
                show gO (tF T383 m 112 (la7 p0 p1 p2 p3 p4 3 b373 8) [])
                refine seg (8 : Int32) ?_
                intro T509 lc509 h509 b509_1 b509_2 k509_1 k509_2 X509 e509 N509 z509 V509 V509_1 V509_2
                show gO (tF T509 m 282 (la8 p0 p1 p2 p3 p4 3 b373 8 b509_1 b509_2) [])
                refine gob (fun _ k => XS.aload X509.here hx rfl (hb hby at_282) rfl rfl k) ?_
                show gO (tF T509 m 284 (la8 p0 p1 p2 p3 p4 3 b373 8 b509_1 b509_2) [(.ref b373)])
                obtain ⟨_, _, ⟨T510, L510, k510, n510⟩, -, X510, ⟨Lc510, hQ510, l510, y510, z510⟩, st510⟩ := Jvm.LawKit.callS X509 hx (y := (⟨"com/example/coevolution/coevolution/measure/Measures", "averagePrecision", "([I)D"⟩ : MethodName)) hown (mvT hZ (hW hw 2 rfl)) (mvT hZ (hW hw 3 rfl)) (mvT hZ (hW hw 4 rfl)) (mvT hZ (hW hw 5 rfl)) (by decide) (backOf (W := 0) (rmap3 l Z a0 hw [] b373 k373 p0 p1 p2 h509 n0 z509 V509) hZ (hW hw 5 rfl) (hW hw 4 rfl) (by decide) (by decide)) (g := (mkF m 284 (la8 p0 p1 p2 p3 p4 3 b373 8 b509_1 b509_2) [(.ref b373)])) rfl (by rw [hml]; rfl) (argsL := [(.ref b373)]) (rest := []) (lenOf pd_0 rfl) rfl (by show 2 * 0 + _ ≤ _; exact Nat.le_of_eq rfl) (hb hby at_284) (fun _ _ => ⟨rfl, e509, (by decide : 3 + 0 ≤ _), (by decide : 35 + 0 ≤ _)⟩)
                dsimp only [Pt.U, Pt.locs, Pt.cells, Pt.slots] at X510 l510 y510 z510 st510 hQ510
                replace X510 := castX X510 (y510.trans (rfl : _ = 3)) (z510.trans (rfl : _ = 35))
                obtain ⟨r510, rfl, hr510, Nq510, e510⟩ := hQ510
                have N510 : Fr n0 L510 := l510 ▸ Fr.app N509 Nq510
                refine gob st510 ?_
                show gO (tF T510 m 287 (la8 p0 p1 p2 p3 p4 3 b373 8 b509_1 b509_2) [(.double r510)])
                have hlr510 : r510 = (4607182418800017408 : UInt64) := by simpa [hc67_493, hc80_494, hc93_504] using hr510
                subst hlr510
                show gO (tF T510 m 287 (la8 p0 p1 p2 p3 p4 3 b373 8 b509_1 b509_2) [(.double (4607182418800017408 : UInt64))])
                refine gob (fun _ k => XS.dstore X510.here hx rfl (hb hby at_287) rfl (l' := (la10 p0 p1 p2 p3 p4 3 b373 8 b509_1 b509_2 (4607182418800017408 : UInt64))) rfl k) ?_
                show gO (tF T510 m 289 (la10 p0 p1 p2 p3 p4 3 b373 8 b509_1 b509_2 (4607182418800017408 : UInt64)) [])
                refine gob (fun _ k => XS.iload X510.here hx rfl (hb hby at_289) rfl k) ?_
                show gO (tF T510 m 291 (la10 p0 p1 p2 p3 p4 3 b373 8 b509_1 b509_2 (4607182418800017408 : UInt64)) [(.int 8)])
                refine gob (fun _ k => XS.ifYes X510.here hx rfl (pc0 := 291) (pc' := 307) rfl (hb hby at_291) rfl ((if0 _ _).trans (feq (by decide : ¬ ((8 : Int32) = (0 : Int32)))).2) (by decide) (by decide) k) ?_
                show gO (tF T510 m 307 (la10 p0 p1 p2 p3 p4 3 b373 8 b509_1 b509_2 (4607182418800017408 : UInt64)) [])
                refine gob (fun _ k => XS.dload X510.here hx rfl (hb hby at_307) rfl k) ?_
                show gO (tF T510 m 309 (la10 p0 p1 p2 p3 p4 3 b373 8 b509_1 b509_2 (4607182418800017408 : UInt64)) [(.double (4607182418800017408 : UInt64))])
                refine gob (fun _ k => XS.aload X510.here hx rfl (hb hby at_309) rfl rfl k) ?_
                show gO (tF T510 m 311 (la10 p0 p1 p2 p3 p4 3 b373 8 b509_1 b509_2 (4607182418800017408 : UInt64)) [(.ref b509_2), (.double (4607182418800017408 : UInt64))])
                refine gob (fun _ k => XS.iload X510.here hx rfl (hb hby at_311) rfl k) ?_
                show gO (tF T510 m 313 (la10 p0 p1 p2 p3 p4 3 b373 8 b509_1 b509_2 (4607182418800017408 : UInt64)) [(.int 8), (.ref b509_2), (.double (4607182418800017408 : UInt64))])
                obtain ⟨cl511, Ar511, aq511, S511, N511, H511, G511⟩ := id V509_2
                have hin511 : ¬ ((8 : Int32) < 0 ∨ cl511.slots.size ≤ ((8 : Int32)).toNatClampNeg) := inb_of S511 ⟨by decide, by decide⟩
                refine gob (X510.iaload hx (j := (8 : Int32)) (v := (.int 1)) (by rw [e510]; exact Ar511.1) (State.isArrayOf_alike hZ.alike Ar511.2.1) Ar511.2.2 hin511 (Has.at H511 hin511 rfl) (g := (mkF m 313 (la10 p0 p1 p2 p3 p4 3 b373 8 b509_1 b509_2 (4607182418800017408 : UInt64)) [(.int 8), (.ref b509_2), (.double (4607182418800017408 : UInt64))])) rfl rfl (hb hby at_313)) ?_
                show gO (tF T510 m 314 (la10 p0 p1 p2 p3 p4 3 b373 8 b509_1 b509_2 (4607182418800017408 : UInt64)) [(.int 1), (.double (4607182418800017408 : UInt64))])
                refine gob (fun _ k => XS.i2dS X510.here hx rfl (hb hby at_314) rfl (v := (4607182418800017408 : UInt64)) (by decide +kernel) k) ?_
                show gO (tF T510 m 315 (la10 p0 p1 p2 p3 p4 3 b373 8 b509_1 b509_2 (4607182418800017408 : UInt64)) [(.double (4607182418800017408 : UInt64)), (.double (4607182418800017408 : UInt64))])
                refine gob (fun _ k => XS.dmulS X510.here hx rfl (hb hby at_315) rfl (v := (4607182418800017408 : UInt64)) (by unfold Jvm.Free.Fl.NoNaN64; decide +kernel) (by decide +kernel) k) ?_
                show gO (tF T510 m 316 (la10 p0 p1 p2 p3 p4 3 b373 8 b509_1 b509_2 (4607182418800017408 : UInt64)) [(.double (4607182418800017408 : UInt64))])
                refine gob (fun _ k => XS.aload X510.here hx rfl (hb hby at_316) rfl rfl k) ?_
                show gO (tF T510 m 318 (la10 p0 p1 p2 p3 p4 3 b373 8 b509_1 b509_2 (4607182418800017408 : UInt64)) [(.ref b509_1), (.double (4607182418800017408 : UInt64))])
                refine gob (fun _ k => XS.iload X510.here hx rfl (hb hby at_318) rfl k) ?_
                show gO (tF T510 m 320 (la10 p0 p1 p2 p3 p4 3 b373 8 b509_1 b509_2 (4607182418800017408 : UInt64)) [(.int 8), (.ref b509_1), (.double (4607182418800017408 : UInt64))])
                obtain ⟨cl512, Ar512, aq512, S512, N512, H512, G512⟩ := id V509_1
                have hin512 : ¬ ((8 : Int32) < 0 ∨ cl512.slots.size ≤ ((8 : Int32)).toNatClampNeg) := inb_of S512 ⟨by decide, by decide⟩
                refine gob (X510.iaload hx (j := (8 : Int32)) (v := (.int 1)) (by rw [e510]; exact Ar512.1) (State.isArrayOf_alike hZ.alike Ar512.2.1) Ar512.2.2 hin512 (Has.at H512 hin512 rfl) (g := (mkF m 320 (la10 p0 p1 p2 p3 p4 3 b373 8 b509_1 b509_2 (4607182418800017408 : UInt64)) [(.int 8), (.ref b509_1), (.double (4607182418800017408 : UInt64))])) rfl rfl (hb hby at_320)) ?_
                show gO (tF T510 m 321 (la10 p0 p1 p2 p3 p4 3 b373 8 b509_1 b509_2 (4607182418800017408 : UInt64)) [(.int 1), (.double (4607182418800017408 : UInt64))])
                refine gob (fun _ k => XS.i2dS X510.here hx rfl (hb hby at_321) rfl (v := (4607182418800017408 : UInt64)) (by decide +kernel) k) ?_
                show gO (tF T510 m 322 (la10 p0 p1 p2 p3 p4 3 b373 8 b509_1 b509_2 (4607182418800017408 : UInt64)) [(.double (4607182418800017408 : UInt64)), (.double (4607182418800017408 : UInt64))])
                refine gob (fun _ k => XS.dsubS X510.here hx rfl (hb hby at_322) rfl (v := (0 : UInt64)) (by unfold Jvm.Free.Fl.NoNaN64; decide +kernel) (by decide +kernel) k) ?_
                show gO (tF T510 m 323 (la10 p0 p1 p2 p3 p4 3 b373 8 b509_1 b509_2 (4607182418800017408 : UInt64)) [(.double (0 : UInt64))])
                refine gob (fun _ k => XS.dstore X510.here hx rfl (hb hby at_323) rfl (l' := (la11 p0 p1 p2 p3 p4 3 b373 8 b509_1 b509_2 (4607182418800017408 : UInt64) (0 : UInt64))) rfl k) ?_
                show gO (tF T510 m 325 (la11 p0 p1 p2 p3 p4 3 b373 8 b509_1 b509_2 (4607182418800017408 : UInt64) (0 : UInt64)) [])
                refine gob (fun _ k => XS.dload X510.here hx rfl (hb hby at_325) rfl k) ?_
                show gO (tF T510 m 327 (la11 p0 p1 p2 p3 p4 3 b373 8 b509_1 b509_2 (4607182418800017408 : UInt64) (0 : UInt64)) [(.double (0 : UInt64))])
                refine gob (X510.ldc2DoubleC hx hown (mvT hZ (hW hw 6 rfl)) (g := (mkF m 327 (la11 p0 p1 p2 p3 p4 3 b373 8 b509_1 b509_2 (4607182418800017408 : UInt64) (0 : UInt64)) [(.double (0 : UInt64))])) rfl (hb hby at_327)) ?_
                show gO (tF T510 m 330 (la11 p0 p1 p2 p3 p4 3 b373 8 b509_1 b509_2 (4607182418800017408 : UInt64) (0 : UInt64)) [(.double (4472406533629990549 : UInt64)), (.double (0 : UInt64))])
                refine gob (fun _ k => XS.dcmpS X510.here hx rfl (hb hby at_330) rfl (v := (-1 : Int32)) (by decide +kernel) k) ?_
                show gO (tF T510 m 331 (la11 p0 p1 p2 p3 p4 3 b373 8 b509_1 b509_2 (4607182418800017408 : UInt64) (0 : UInt64)) [(.int (-1))])
                refine gob (fun _ k => XS.ifNo X510.here hx rfl (hb hby at_331) rfl ((if0 _ _).trans (tlt (by decide : (-1 : Int32) < (0 : Int32))).2.1) k) ?_
                show gO (tF T510 m 334 (la11 p0 p1 p2 p3 p4 3 b373 8 b509_1 b509_2 (4607182418800017408 : UInt64) (0 : UInt64)) [])
                refine gob (fun _ k => XS.dload X510.here hx rfl (hb hby at_334) rfl k) ?_
                show gO (tF T510 m 336 (la11 p0 p1 p2 p3 p4 3 b373 8 b509_1 b509_2 (4607182418800017408 : UInt64) (0 : UInt64)) [(.double (0 : UInt64))])
                refine gob (X510.ldc2DoubleC hx hown (mvT hZ (hW hw 7 rfl)) (g := (mkF m 336 (la11 p0 p1 p2 p3 p4 3 b373 8 b509_1 b509_2 (4607182418800017408 : UInt64) (0 : UInt64)) [(.double (0 : UInt64))])) rfl (hb hby at_336)) ?_
                show gO (tF T510 m 339 (la11 p0 p1 p2 p3 p4 3 b373 8 b509_1 b509_2 (4607182418800017408 : UInt64) (0 : UInt64)) [(.double (13695778570484766357 : UInt64)), (.double (0 : UInt64))])
                refine gob (fun _ k => XS.dcmpS X510.here hx rfl (hb hby at_339) rfl (v := (1 : Int32)) (by decide +kernel) k) ?_
                show gO (tF T510 m 340 (la11 p0 p1 p2 p3 p4 3 b373 8 b509_1 b509_2 (4607182418800017408 : UInt64) (0 : UInt64)) [(.int 1)])
                refine gob (fun _ k => XS.ifNo X510.here hx rfl (hb hby at_340) rfl ((if0 _ _).trans (tlt (by decide : (0 : Int32) < (1 : Int32))).2.2.2) k) ?_
                show gO (tF T510 m 343 (la11 p0 p1 p2 p3 p4 3 b373 8 b509_1 b509_2 (4607182418800017408 : UInt64) (0 : UInt64)) [])
                refine gob (fun _ k => XS.iconst X510.here hx rfl (hb hby at_343) k) ?_
                show gO (tF T510 m 344 (la11 p0 p1 p2 p3 p4 3 b373 8 b509_1 b509_2 (4607182418800017408 : UInt64) (0 : UInt64)) [(.int 1)])
                refine gob (fun _ k => XS.goto X510.here hx rfl (pc0 := 344) (pc' := 348) rfl (hb hby at_344) (by decide) (by decide) k) ?_
                show gO (tF T510 m 348 (la11 p0 p1 p2 p3 p4 3 b373 8 b509_1 b509_2 (4607182418800017408 : UInt64) (0 : UInt64)) [(.int 1)])
                refine goZ X510 hx hlk (t := .boolean) Bd.returns (by simp) (hb hby at_348) (z' := (1 : Int32)) rfl ?_ (by decide) (by decide)
                show Q0 Z p0 p1 p2 p3 p4 h0 n0 (some (.int (1 : Int32))) T510.heap _
                exact ⟨rfl, N510⟩
          · skip
            refine gob (fun _ k => XS.ifYes X383.here hx rfl (pc0 := 67) (pc' := 73) rfl (hb hby at_67) rfl ((if0 _ _).trans (flt hc67_493).2.2.2) (by decide) (by decide) k) ?_
            show gO (tF T383 m 73 (la7 p0 p1 p2 p3 p4 3 b373 0) [])
            refine gob (fun _ k => XS.iload X383.here hx rfl (hb hby at_73) rfl k) ?_
            show gO (tF T383 m 75 (la7 p0 p1 p2 p3 p4 3 b373 0) [(.int 3)])
            refine gob (fun _ k => XS.iconst X383.here hx rfl (hb hby at_75) k) ?_
            show gO (tF T383 m 76 (la7 p0 p1 p2 p3 p4 3 b373 0) [(.int 1), (.int 3)])
            refine gob (fun _ k => XS.icmpNo X383.here hx rfl (hb hby at_76) rfl (tlt (by decide : (1 : Int32) < (3 : Int32))).2.2.2 k) ?_
            show gO (tF T383 m 79 (la7 p0 p1 p2 p3 p4 3 b373 0) [])
            refine gob (fun _ k => XS.iloadN X383.here hx rfl (hb hby at_79) rfl k) ?_
            show gO (tF T383 m 80 (la7 p0 p1 p2 p3 p4 3 b373 0) [(.int p1)])
            by_cases hc80_513 : (0 : Int32) < p1
            · skip
              refine gob (fun _ k => XS.ifNo X383.here hx rfl (hb hby at_80) rfl ((if0 _ _).trans (tlt hc80_513).2.2.2) k) ?_
              show gO (tF T383 m 83 (la7 p0 p1 p2 p3 p4 3 b373 0) [])
              refine gob (fun _ k => XS.iinc X383.here hx rfl (hb hby at_83) rfl (l' := (la7 p0 p1 p2 p3 p4 3 b373 4)) rfl k) ?_
              show gO (tF T383 m 86 (la7 p0 p1 p2 p3 p4 3 b373 4) [])
              refine gob (fun _ k => XS.iload X383.here hx rfl (hb hby at_86) rfl k) ?_
              show gO (tF T383 m 88 (la7 p0 p1 p2 p3 p4 3 b373 4) [(.int 3)])
              refine gob (fun _ k => XS.iconst X383.here hx rfl (hb hby at_88) k) ?_
              show gO (tF T383 m 89 (la7 p0 p1 p2 p3 p4 3 b373 4) [(.int 2), (.int 3)])
              refine gob (fun _ k => XS.icmpNo X383.here hx rfl (hb hby at_89) rfl (tlt (by decide : (2 : Int32) < (3 : Int32))).2.2.2 k) ?_
              show gO (tF T383 m 92 (la7 p0 p1 p2 p3 p4 3 b373 4) [])
              refine gob (fun _ k => XS.iloadN X383.here hx rfl (hb hby at_92) rfl k) ?_
              show gO (tF T383 m 93 (la7 p0 p1 p2 p3 p4 3 b373 4) [(.int p2)])
              by_cases hc93_514 : (0 : Int32) < p2
              · skip
                refine gob (fun _ k => XS.ifNo X383.here hx rfl (hb hby at_93) rfl ((if0 _ _).trans (tlt hc93_514).2.2.2) k) ?_
                show gO (tF T383 m 96 (la7 p0 p1 p2 p3 p4 3 b373 4) [])
                refine gob (fun _ k => XS.iinc X383.here hx rfl (hb hby at_96) rfl (l' := (la7 p0 p1 p2 p3 p4 3 b373 6)) rfl k) ?_
                show gO (tF T383 m 99 (la7 p0 p1 p2 p3 p4 3 b373 6) [])
                refine gob (fun _ k => XS.iload X383.here hx rfl (hb hby at_99) rfl k) ?_
                show gO (tF T383 m 101 (la7 p0 p1 p2 p3 p4 3 b373 6) [(.int 3)])
                refine gob (fun _ k => XS.iconst X383.here hx rfl (hb hby at_101) k) ?_
                show gO (tF T383 m 102 (la7 p0 p1 p2 p3 p4 3 b373 6) [(.int 3), (.int 3)])
                refine gob (fun _ k => XS.icmpYes X383.here hx rfl (pc0 := 102) (pc' := 112) rfl (hb hby at_102) rfl (flt (by decide : ¬ ((3 : Int32) < (3 : Int32)))).2.2.2 (by decide) (by decide) k) ?_
                show gO (tF T383 m 112 (la7 p0 p1 p2 p3 p4 3 b373 6) [])
                refine seg (6 : Int32) ?_
                intro T515 lc515 h515 b515_1 b515_2 k515_1 k515_2 X515 e515 N515 z515 V515 V515_1 V515_2
                show gO (tF T515 m 282 (la8 p0 p1 p2 p3 p4 3 b373 6 b515_1 b515_2) [])
                refine gob (fun _ k => XS.aload X515.here hx rfl (hb hby at_282) rfl rfl k) ?_
                show gO (tF T515 m 284 (la8 p0 p1 p2 p3 p4 3 b373 6 b515_1 b515_2) [(.ref b373)])
                obtain ⟨_, _, ⟨T516, L516, k516, n516⟩, -, X516, ⟨Lc516, hQ516, l516, y516, z516⟩, st516⟩ := Jvm.LawKit.callS X515 hx (y := (⟨"com/example/coevolution/coevolution/measure/Measures", "averagePrecision", "([I)D"⟩ : MethodName)) hown (mvT hZ (hW hw 2 rfl)) (mvT hZ (hW hw 3 rfl)) (mvT hZ (hW hw 4 rfl)) (mvT hZ (hW hw 5 rfl)) (by decide) (backOf (W := 0) (rmap3 l Z a0 hw [] b373 k373 p0 p1 p2 h515 n0 z515 V515) hZ (hW hw 5 rfl) (hW hw 4 rfl) (by decide) (by decide)) (g := (mkF m 284 (la8 p0 p1 p2 p3 p4 3 b373 6 b515_1 b515_2) [(.ref b373)])) rfl (by rw [hml]; rfl) (argsL := [(.ref b373)]) (rest := []) (lenOf pd_0 rfl) rfl (by show 2 * 0 + _ ≤ _; exact Nat.le_of_eq rfl) (hb hby at_284) (fun _ _ => ⟨rfl, e515, (by decide : 3 + 0 ≤ _), (by decide : 35 + 0 ≤ _)⟩)
                dsimp only [Pt.U, Pt.locs, Pt.cells, Pt.slots] at X516 l516 y516 z516 st516 hQ516
                replace X516 := castX X516 (y516.trans (rfl : _ = 3)) (z516.trans (rfl : _ = 35))
                obtain ⟨r516, rfl, hr516, Nq516, e516⟩ := hQ516
                have N516 : Fr n0 L516 := l516 ▸ Fr.app N515 Nq516
                refine gob st516 ?_
                show gO (tF T516 m 287 (la8 p0 p1 p2 p3 p4 3 b373 6 b515_1 b515_2) [(.double r516)])
                have hlr516 : r516 = (4603429419110541994 : UInt64) := by simpa [hc67_493, hc80_513, hc93_514] using hr516
                subst hlr516
                show gO (tF T516 m 287 (la8 p0 p1 p2 p3 p4 3 b373 6 b515_1 b515_2) [(.double (4603429419110541994 : UInt64))])
                refine gob (fun _ k => XS.dstore X516.here hx rfl (hb hby at_287) rfl (l' := (la10 p0 p1 p2 p3 p4 3 b373 6 b515_1 b515_2 (4603429419110541994 : UInt64))) rfl k) ?_
                show gO (tF T516 m 289 (la10 p0 p1 p2 p3 p4 3 b373 6 b515_1 b515_2 (4603429419110541994 : UInt64)) [])
                refine gob (fun _ k => XS.iload X516.here hx rfl (hb hby at_289) rfl k) ?_
                show gO (tF T516 m 291 (la10 p0 p1 p2 p3 p4 3 b373 6 b515_1 b515_2 (4603429419110541994 : UInt64)) [(.int 6)])
                refine gob (fun _ k => XS.ifYes X516.here hx rfl (pc0 := 291) (pc' := 307) rfl (hb hby at_291) rfl ((if0 _ _).trans (feq (by decide : ¬ ((6 : Int32) = (0 : Int32)))).2) (by decide) (by decide) k) ?_
                show gO (tF T516 m 307 (la10 p0 p1 p2 p3 p4 3 b373 6 b515_1 b515_2 (4603429419110541994 : UInt64)) [])
                refine gob (fun _ k => XS.dload X516.here hx rfl (hb hby at_307) rfl k) ?_
                show gO (tF T516 m 309 (la10 p0 p1 p2 p3 p4 3 b373 6 b515_1 b515_2 (4603429419110541994 : UInt64)) [(.double (4603429419110541994 : UInt64))])
                refine gob (fun _ k => XS.aload X516.here hx rfl (hb hby at_309) rfl rfl k) ?_
                show gO (tF T516 m 311 (la10 p0 p1 p2 p3 p4 3 b373 6 b515_1 b515_2 (4603429419110541994 : UInt64)) [(.ref b515_2), (.double (4603429419110541994 : UInt64))])
                refine gob (fun _ k => XS.iload X516.here hx rfl (hb hby at_311) rfl k) ?_
                show gO (tF T516 m 313 (la10 p0 p1 p2 p3 p4 3 b373 6 b515_1 b515_2 (4603429419110541994 : UInt64)) [(.int 6), (.ref b515_2), (.double (4603429419110541994 : UInt64))])
                obtain ⟨cl517, Ar517, aq517, S517, N517, H517, G517⟩ := id V515_2
                have hin517 : ¬ ((6 : Int32) < 0 ∨ cl517.slots.size ≤ ((6 : Int32)).toNatClampNeg) := inb_of S517 ⟨by decide, by decide⟩
                refine gob (X516.iaload hx (j := (6 : Int32)) (v := (.int 12)) (by rw [e516]; exact Ar517.1) (State.isArrayOf_alike hZ.alike Ar517.2.1) Ar517.2.2 hin517 (Has.at H517 hin517 rfl) (g := (mkF m 313 (la10 p0 p1 p2 p3 p4 3 b373 6 b515_1 b515_2 (4603429419110541994 : UInt64)) [(.int 6), (.ref b515_2), (.double (4603429419110541994 : UInt64))])) rfl rfl (hb hby at_313)) ?_
                show gO (tF T516 m 314 (la10 p0 p1 p2 p3 p4 3 b373 6 b515_1 b515_2 (4603429419110541994 : UInt64)) [(.int 12), (.double (4603429419110541994 : UInt64))])
                refine gob (fun _ k => XS.i2dS X516.here hx rfl (hb hby at_314) rfl (v := (4622945017495814144 : UInt64)) (by decide +kernel) k) ?_
                show gO (tF T516 m 315 (la10 p0 p1 p2 p3 p4 3 b373 6 b515_1 b515_2 (4603429419110541994 : UInt64)) [(.double (4622945017495814144 : UInt64)), (.double (4603429419110541994 : UInt64))])
                refine gob (fun _ k => XS.dmulS X516.here hx rfl (hb hby at_315) rfl (v := (4619567317775286271 : UInt64)) (by unfold Jvm.Free.Fl.NoNaN64; decide +kernel) (by decide +kernel) k) ?_
                show gO (tF T516 m 316 (la10 p0 p1 p2 p3 p4 3 b373 6 b515_1 b515_2 (4603429419110541994 : UInt64)) [(.double (4619567317775286271 : UInt64))])
                refine gob (fun _ k => XS.aload X516.here hx rfl (hb hby at_316) rfl rfl k) ?_
                show gO (tF T516 m 318 (la10 p0 p1 p2 p3 p4 3 b373 6 b515_1 b515_2 (4603429419110541994 : UInt64)) [(.ref b515_1), (.double (4619567317775286271 : UInt64))])
                refine gob (fun _ k => XS.iload X516.here hx rfl (hb hby at_318) rfl k) ?_
                show gO (tF T516 m 320 (la10 p0 p1 p2 p3 p4 3 b373 6 b515_1 b515_2 (4603429419110541994 : UInt64)) [(.int 6), (.ref b515_1), (.double (4619567317775286271 : UInt64))])
                obtain ⟨cl518, Ar518, aq518, S518, N518, H518, G518⟩ := id V515_1
                have hin518 : ¬ ((6 : Int32) < 0 ∨ cl518.slots.size ≤ ((6 : Int32)).toNatClampNeg) := inb_of S518 ⟨by decide, by decide⟩
                refine gob (X516.iaload hx (j := (6 : Int32)) (v := (.int 7)) (by rw [e516]; exact Ar518.1) (State.isArrayOf_alike hZ.alike Ar518.2.1) Ar518.2.2 hin518 (Has.at H518 hin518 rfl) (g := (mkF m 320 (la10 p0 p1 p2 p3 p4 3 b373 6 b515_1 b515_2 (4603429419110541994 : UInt64)) [(.int 6), (.ref b515_1), (.double (4619567317775286271 : UInt64))])) rfl rfl (hb hby at_320)) ?_
                show gO (tF T516 m 321 (la10 p0 p1 p2 p3 p4 3 b373 6 b515_1 b515_2 (4603429419110541994 : UInt64)) [(.int 7), (.double (4619567317775286271 : UInt64))])
                refine gob (fun _ k => XS.i2dS X516.here hx rfl (hb hby at_321) rfl (v := (4619567317775286272 : UInt64)) (by decide +kernel) k) ?_
                show gO (tF T516 m 322 (la10 p0 p1 p2 p3 p4 3 b373 6 b515_1 b515_2 (4603429419110541994 : UInt64)) [(.double (4619567317775286272 : UInt64)), (.double (4619567317775286271 : UInt64))])
                refine gob (fun _ k => XS.dsubS X516.here hx rfl (hb hby at_322) rfl (v := (13605374474286268416 : UInt64)) (by unfold Jvm.Free.Fl.NoNaN64; decide +kernel) (by decide +kernel) k) ?_
                show gO (tF T516 m 323 (la10 p0 p1 p2 p3 p4 3 b373 6 b515_1 b515_2 (4603429419110541994 : UInt64)) [(.double (13605374474286268416 : UInt64))])
                refine gob (fun _ k => XS.dstore X516.here hx rfl (hb hby at_323) rfl (l' := (la11 p0 p1 p2 p3 p4 3 b373 6 b515_1 b515_2 (4603429419110541994 : UInt64) (13605374474286268416 : UInt64))) rfl k) ?_
                show gO (tF T516 m 325 (la11 p0 p1 p2 p3 p4 3 b373 6 b515_1 b515_2 (4603429419110541994 : UInt64) (13605374474286268416 : UInt64)) [])
                refine gob (fun _ k => XS.dload X516.here hx rfl (hb hby at_325) rfl k) ?_
                show gO (tF T516 m 327 (la11 p0 p1 p2 p3 p4 3 b373 6 b515_1 b515_2 (4603429419110541994 : UInt64) (13605374474286268416 : UInt64)) [(.double (13605374474286268416 : UInt64))])
                refine gob (X516.ldc2DoubleC hx hown (mvT hZ (hW hw 6 rfl)) (g := (mkF m 327 (la11 p0 p1 p2 p3 p4 3 b373 6 b515_1 b515_2 (4603429419110541994 : UInt64) (13605374474286268416 : UInt64)) [(.double (13605374474286268416 : UInt64))])) rfl (hb hby at_327)) ?_
                show gO (tF T516 m 330 (la11 p0 p1 p2 p3 p4 3 b373 6 b515_1 b515_2 (4603429419110541994 : UInt64) (13605374474286268416 : UInt64)) [(.double (4472406533629990549 : UInt64)), (.double (13605374474286268416 : UInt64))])
                refine gob (fun _ k => XS.dcmpS X516.here hx rfl (hb hby at_330) rfl (v := (-1 : Int32)) (by decide +kernel) k) ?_
                show gO (tF T516 m 331 (la11 p0 p1 p2 p3 p4 3 b373 6 b515_1 b515_2 (4603429419110541994 : UInt64) (13605374474286268416 : UInt64)) [(.int (-1))])
                refine gob (fun _ k => XS.ifNo X516.here hx rfl (hb hby at_331) rfl ((if0 _ _).trans (tlt (by decide : (-1 : Int32) < (0 : Int32))).2.1) k) ?_
                show gO (tF T516 m 334 (la11 p0 p1 p2 p3 p4 3 b373 6 b515_1 b515_2 (4603429419110541994 : UInt64) (13605374474286268416 : UInt64)) [])
                refine gob (fun _ k => XS.dload X516.here hx rfl (hb hby at_334) rfl k) ?_
                show gO (tF T516 m 336 (la11 p0 p1 p2 p3 p4 3 b373 6 b515_1 b515_2 (4603429419110541994 : UInt64) (13605374474286268416 : UInt64)) [(.double (13605374474286268416 : UInt64))])
                refine gob (X516.ldc2DoubleC hx hown (mvT hZ (hW hw 7 rfl)) (g := (mkF m 336 (la11 p0 p1 p2 p3 p4 3 b373 6 b515_1 b515_2 (4603429419110541994 : UInt64) (13605374474286268416 : UInt64)) [(.double (13605374474286268416 : UInt64))])) rfl (hb hby at_336)) ?_
                show gO (tF T516 m 339 (la11 p0 p1 p2 p3 p4 3 b373 6 b515_1 b515_2 (4603429419110541994 : UInt64) (13605374474286268416 : UInt64)) [(.double (13695778570484766357 : UInt64)), (.double (13605374474286268416 : UInt64))])
                refine gob (fun _ k => XS.dcmpS X516.here hx rfl (hb hby at_339) rfl (v := (1 : Int32)) (by decide +kernel) k) ?_
                show gO (tF T516 m 340 (la11 p0 p1 p2 p3 p4 3 b373 6 b515_1 b515_2 (4603429419110541994 : UInt64) (13605374474286268416 : UInt64)) [(.int 1)])
                refine gob (fun _ k => XS.ifNo X516.here hx rfl (hb hby at_340) rfl ((if0 _ _).trans (tlt (by decide : (0 : Int32) < (1 : Int32))).2.2.2) k) ?_
                show gO (tF T516 m 343 (la11 p0 p1 p2 p3 p4 3 b373 6 b515_1 b515_2 (4603429419110541994 : UInt64) (13605374474286268416 : UInt64)) [])
                refine gob (fun _ k => XS.iconst X516.here hx rfl (hb hby at_343) k) ?_
                show gO (tF T516 m 344 (la11 p0 p1 p2 p3 p4 3 b373 6 b515_1 b515_2 (4603429419110541994 : UInt64) (13605374474286268416 : UInt64)) [(.int 1)])
                refine gob (fun _ k => XS.goto X516.here hx rfl (pc0 := 344) (pc' := 348) rfl (hb hby at_344) (by decide) (by decide) k) ?_
                show gO (tF T516 m 348 (la11 p0 p1 p2 p3 p4 3 b373 6 b515_1 b515_2 (4603429419110541994 : UInt64) (13605374474286268416 : UInt64)) [(.int 1)])
                refine goZ X516 hx hlk (t := .boolean) Bd.returns (by simp) (hb hby at_348) (z' := (1 : Int32)) rfl ?_ (by decide) (by decide)
                show Q0 Z p0 p1 p2 p3 p4 h0 n0 (some (.int (1 : Int32))) T516.heap _
                exact ⟨rfl, N516⟩
              · skip
                refine gob (fun _ k => XS.ifYes X383.here hx rfl (pc0 := 93) (pc' := 99) rfl (hb hby at_93) rfl ((if0 _ _).trans (flt hc93_514).2.2.2) (by decide) (by decide) k) ?_
                show gO (tF T383 m 99 (la7 p0 p1 p2 p3 p4 3 b373 4) [])
                refine gob (fun _ k => XS.iload X383.here hx rfl (hb hby at_99) rfl k) ?_
                show gO (tF T383 m 101 (la7 p0 p1 p2 p3 p4 3 b373 4) [(.int 3)])
                refine gob (fun _ k => XS.iconst X383.here hx rfl (hb hby at_101) k) ?_
                show gO (tF T383 m 102 (la7 p0 p1 p2 p3 p4 3 b373 4) [(.int 3), (.int 3)])
                refine gob (fun _ k => XS.icmpYes X383.here hx rfl (pc0 := 102) (pc' := 112) rfl (hb hby at_102) rfl (flt (by decide : ¬ ((3 : Int32) < (3 : Int32)))).2.2.2 (by decide) (by decide) k) ?_
                show gO (tF T383 m 112 (la7 p0 p1 p2 p3 p4 3 b373 4) [])
                refine seg (4 : Int32) ?_
                intro T519 lc519 h519 b519_1 b519_2 k519_1 k519_2 X519 e519 N519 z519 V519 V519_1 V519_2
                show gO (tF T519 m 282 (la8 p0 p1 p2 p3 p4 3 b373 4 b519_1 b519_2) [])
                refine gob (fun _ k => XS.aload X519.here hx rfl (hb hby at_282) rfl rfl k) ?_
                show gO (tF T519 m 284 (la8 p0 p1 p2 p3 p4 3 b373 4 b519_1 b519_2) [(.ref b373)])
                obtain ⟨_, _, ⟨T520, L520, k520, n520⟩, -, X520, ⟨Lc520, hQ520, l520, y520, z520⟩, st520⟩ := Jvm.LawKit.callS X519 hx (y := (⟨"com/example/coevolution/coevolution/measure/Measures", "averagePrecision", "([I)D"⟩ : MethodName)) hown (mvT hZ (hW hw 2 rfl)) (mvT hZ (hW hw 3 rfl)) (mvT hZ (hW hw 4 rfl)) (mvT hZ (hW hw 5 rfl)) (by decide) (backOf (W := 0) (rmap3 l Z a0 hw [] b373 k373 p0 p1 p2 h519 n0 z519 V519) hZ (hW hw 5 rfl) (hW hw 4 rfl) (by decide) (by decide)) (g := (mkF m 284 (la8 p0 p1 p2 p3 p4 3 b373 4 b519_1 b519_2) [(.ref b373)])) rfl (by rw [hml]; rfl) (argsL := [(.ref b373)]) (rest := []) (lenOf pd_0 rfl) rfl (by show 2 * 0 + _ ≤ _; exact Nat.le_of_eq rfl) (hb hby at_284) (fun _ _ => ⟨rfl, e519, (by decide : 3 + 0 ≤ _), (by decide : 35 + 0 ≤ _)⟩)
                dsimp only [Pt.U, Pt.locs, Pt.cells, Pt.slots] at X520 l520 y520 z520 st520 hQ520
                replace X520 := castX X520 (y520.trans (rfl : _ = 3)) (z520.trans (rfl : _ = 35))
                obtain ⟨r520, rfl, hr520, Nq520, e520⟩ := hQ520
                have N520 : Fr n0 L520 := l520 ▸ Fr.app N519 Nq520
                refine gob st520 ?_
                show gO (tF T520 m 287 (la8 p0 p1 p2 p3 p4 3 b373 4 b519_1 b519_2) [(.double r520)])
                have hlr520 : r520 = (4602678819172646912 : UInt64) := by simpa [hc67_493, hc80_513, hc93_514] using hr520
                subst hlr520
                show gO (tF T520 m 287 (la8 p0 p1 p2 p3 p4 3 b373 4 b519_1 b519_2) [(.double (4602678819172646912 : UInt64))])
                refine gob (fun _ k => XS.dstore X520.here hx rfl (hb hby at_287) rfl (l' := (la10 p0 p1 p2 p3 p4 3 b373 4 b519_1 b519_2 (4602678819172646912 : UInt64))) rfl k) ?_
                show gO (tF T520 m 289 (la10 p0 p1 p2 p3 p4 3 b373 4 b519_1 b519_2 (4602678819172646912 : UInt64)) [])
                refine gob (fun _ k => XS.iload X520.here hx rfl (hb hby at_289) rfl k) ?_
                show gO (tF T520 m 291 (la10 p0 p1 p2 p3 p4 3 b373 4 b519_1 b519_2 (4602678819172646912 : UInt64)) [(.int 4)])
                refine gob (fun _ k => XS.ifYes X520.here hx rfl (pc0 := 291) (pc' := 307) rfl (hb hby at_291) rfl ((if0 _ _).trans (feq (by decide : ¬ ((4 : Int32) = (0 : Int32)))).2) (by decide) (by decide) k) ?_
                show gO (tF T520 m 307 (la10 p0 p1 p2 p3 p4 3 b373 4 b519_1 b519_2 (4602678819172646912 : UInt64)) [])
                refine gob (fun _ k => XS.dload X520.here hx rfl (hb hby at_307) rfl k) ?_
                show gO (tF T520 m 309 (la10 p0 p1 p2 p3 p4 3 b373 4 b519_1 b519_2 (4602678819172646912 : UInt64)) [(.double (4602678819172646912 : UInt64))])
                refine gob (fun _ k => XS.aload X520.here hx rfl (hb hby at_309) rfl rfl k) ?_
                show gO (tF T520 m 311 (la10 p0 p1 p2 p3 p4 3 b373 4 b519_1 b519_2 (4602678819172646912 : UInt64)) [(.ref b519_2), (.double (4602678819172646912 : UInt64))])
                refine gob (fun _ k => XS.iload X520.here hx rfl (hb hby at_311) rfl k) ?_
                show gO (tF T520 m 313 (la10 p0 p1 p2 p3 p4 3 b373 4 b519_1 b519_2 (4602678819172646912 : UInt64)) [(.int 4), (.ref b519_2), (.double (4602678819172646912 : UInt64))])
                obtain ⟨cl521, Ar521, aq521, S521, N521, H521, G521⟩ := id V519_2
                have hin521 : ¬ ((4 : Int32) < 0 ∨ cl521.slots.size ≤ ((4 : Int32)).toNatClampNeg) := inb_of S521 ⟨by decide, by decide⟩
                refine gob (X520.iaload hx (j := (4 : Int32)) (v := (.int 2)) (by rw [e520]; exact Ar521.1) (State.isArrayOf_alike hZ.alike Ar521.2.1) Ar521.2.2 hin521 (Has.at H521 hin521 rfl) (g := (mkF m 313 (la10 p0 p1 p2 p3 p4 3 b373 4 b519_1 b519_2 (4602678819172646912 : UInt64)) [(.int 4), (.ref b519_2), (.double (4602678819172646912 : UInt64))])) rfl rfl (hb hby at_313)) ?_
                show gO (tF T520 m 314 (la10 p0 p1 p2 p3 p4 3 b373 4 b519_1 b519_2 (4602678819172646912 : UInt64)) [(.int 2), (.double (4602678819172646912 : UInt64))])
                refine gob (fun _ k => XS.i2dS X520.here hx rfl (hb hby at_314) rfl (v := (4611686018427387904 : UInt64)) (by decide +kernel) k) ?_
                show gO (tF T520 m 315 (la10 p0 p1 p2 p3 p4 3 b373 4 b519_1 b519_2 (4602678819172646912 : UInt64)) [(.double (4611686018427387904 : UInt64)), (.double (4602678819172646912 : UInt64))])
                refine gob (fun _ k => XS.dmulS X520.here hx rfl (hb hby at_315) rfl (v := (4607182418800017408 : UInt64)) (by unfold Jvm.Free.Fl.NoNaN64; decide +kernel) (by decide +kernel) k) ?_
                show gO (tF T520 m 316 (la10 p0 p1 p2 p3 p4 3 b373 4 b519_1 b519_2 (4602678819172646912 : UInt64)) [(.double (4607182418800017408 : UInt64))])
                refine gob (fun _ k => XS.aload X520.here hx rfl (hb hby at_316) rfl rfl k) ?_
                show gO (tF T520 m 318 (la10 p0 p1 p2 p3 p4 3 b373 4 b519_1 b519_2 (4602678819172646912 : UInt64)) [(.ref b519_1), (.double (4607182418800017408 : UInt64))])
                refine gob (fun _ k => XS.iload X520.here hx rfl (hb hby at_318) rfl k) ?_
                show gO (tF T520 m 320 (la10 p0 p1 p2 p3 p4 3 b373 4 b519_1 b519_2 (4602678819172646912 : UInt64)) [(.int 4), (.ref b519_1), (.double (4607182418800017408 : UInt64))])
                obtain ⟨cl522, Ar522, aq522, S522, N522, H522, G522⟩ := id V519_1
                have hin522 : ¬ ((4 : Int32) < 0 ∨ cl522.slots.size ≤ ((4 : Int32)).toNatClampNeg) := inb_of S522 ⟨by decide, by decide⟩
                refine gob (X520.iaload hx (j := (4 : Int32)) (v := (.int 1)) (by rw [e520]; exact Ar522.1) (State.isArrayOf_alike hZ.alike Ar522.2.1) Ar522.2.2 hin522 (Has.at H522 hin522 rfl) (g := (mkF m 320 (la10 p0 p1 p2 p3 p4 3 b373 4 b519_1 b519_2 (4602678819172646912 : UInt64)) [(.int 4), (.ref b519_1), (.double (4607182418800017408 : UInt64))])) rfl rfl (hb hby at_320)) ?_
                show gO (tF T520 m 321 (la10 p0 p1 p2 p3 p4 3 b373 4 b519_1 b519_2 (4602678819172646912 : UInt64)) [(.int 1), (.double (4607182418800017408 : UInt64))])
                refine gob (fun _ k => XS.i2dS X520.here hx rfl (hb hby at_321) rfl (v := (4607182418800017408 : UInt64)) (by decide +kernel) k) ?_
                show gO (tF T520 m 322 (la10 p0 p1 p2 p3 p4 3 b373 4 b519_1 b519_2 (4602678819172646912 : UInt64)) [(.double (4607182418800017408 : UInt64)), (.double (4607182418800017408 : UInt64))])
                refine gob (fun _ k => XS.dsubS X520.here hx rfl (hb hby at_322) rfl (v := (0 : UInt64)) (by unfold Jvm.Free.Fl.NoNaN64; decide +kernel) (by decide +kernel) k) ?_
                show gO (tF T520 m 323 (la10 p0 p1 p2 p3 p4 3 b373 4 b519_1 b519_2 (4602678819172646912 : UInt64)) [(.double (0 : UInt64))])
                refine gob (fun _ k => XS.dstore X520.here hx rfl (hb hby at_323) rfl (l' := (la11 p0 p1 p2 p3 p4 3 b373 4 b519_1 b519_2 (4602678819172646912 : UInt64) (0 : UInt64))) rfl k) ?_
                show gO (tF T520 m 325 (la11 p0 p1 p2 p3 p4 3 b373 4 b519_1 b519_2 (4602678819172646912 : UInt64) (0 : UInt64)) [])
                refine gob (fun _ k => XS.dload X520.here hx rfl (hb hby at_325) rfl k) ?_
                show gO (tF T520 m 327 (la11 p0 p1 p2 p3 p4 3 b373 4 b519_1 b519_2 (4602678819172646912 : UInt64) (0 : UInt64)) [(.double (0 : UInt64))])
                refine gob (X520.ldc2DoubleC hx hown (mvT hZ (hW hw 6 rfl)) (g := (mkF m 327 (la11 p0 p1 p2 p3 p4 3 b373 4 b519_1 b519_2 (4602678819172646912 : UInt64) (0 : UInt64)) [(.double (0 : UInt64))])) rfl (hb hby at_327)) ?_
                show gO (tF T520 m 330 (la11 p0 p1 p2 p3 p4 3 b373 4 b519_1 b519_2 (4602678819172646912 : UInt64) (0 : UInt64)) [(.double (4472406533629990549 : UInt64)), (.double (0 : UInt64))])
                refine gob (fun _ k => XS.dcmpS X520.here hx rfl (hb hby at_330) rfl (v := (-1 : Int32)) (by decide +kernel) k) ?_
                show gO (tF T520 m 331 (la11 p0 p1 p2 p3 p4 3 b373 4 b519_1 b519_2 (4602678819172646912 : UInt64) (0 : UInt64)) [(.int (-1))])
                refine gob (fun _ k => XS.ifNo X520.here hx rfl (hb hby at_331) rfl ((if0 _ _).trans (tlt (by decide : (-1 : Int32) < (0 : Int32))).2.1) k) ?_
                show gO (tF T520 m 334 (la11 p0 p1 p2 p3 p4 3 b373 4 b519_1 b519_2 (4602678819172646912 : UInt64) (0 : UInt64)) [])
                refine gob (fun _ k => XS.dload X520.here hx rfl (hb hby at_334) rfl k) ?_
                show gO (tF T520 m 336 (la11 p0 p1 p2 p3 p4 3 b373 4 b519_1 b519_2 (4602678819172646912 : UInt64) (0 : UInt64)) [(.double (0 : UInt64))])
                refine gob (X520.ldc2DoubleC hx hown (mvT hZ (hW hw 7 rfl)) (g := (mkF m 336 (la11 p0 p1 p2 p3 p4 3 b373 4 b519_1 b519_2 (4602678819172646912 : UInt64) (0 : UInt64)) [(.double (0 : UInt64))])) rfl (hb hby at_336)) ?_
                show gO (tF T520 m 339 (la11 p0 p1 p2 p3 p4 3 b373 4 b519_1 b519_2 (4602678819172646912 : UInt64) (0 : UInt64)) [(.double (13695778570484766357 : UInt64)), (.double (0 : UInt64))])
                refine gob (fun _ k => XS.dcmpS X520.here hx rfl (hb hby at_339) rfl (v := (1 : Int32)) (by decide +kernel) k) ?_
                show gO (tF T520 m 340 (la11 p0 p1 p2 p3 p4 3 b373 4 b519_1 b519_2 (4602678819172646912 : UInt64) (0 : UInt64)) [(.int 1)])
                refine gob (fun _ k => XS.ifNo X520.here hx rfl (hb hby at_340) rfl ((if0 _ _).trans (tlt (by decide : (0 : Int32) < (1 : Int32))).2.2.2) k) ?_
                show gO (tF T520 m 343 (la11 p0 p1 p2 p3 p4 3 b373 4 b519_1 b519_2 (4602678819172646912 : UInt64) (0 : UInt64)) [])
                refine gob (fun _ k => XS.iconst X520.here hx rfl (hb hby at_343) k) ?_
                show gO (tF T520 m 344 (la11 p0 p1 p2 p3 p4 3 b373 4 b519_1 b519_2 (4602678819172646912 : UInt64) (0 : UInt64)) [(.int 1)])
                refine gob (fun _ k => XS.goto X520.here hx rfl (pc0 := 344) (pc' := 348) rfl (hb hby at_344) (by decide) (by decide) k) ?_
                show gO (tF T520 m 348 (la11 p0 p1 p2 p3 p4 3 b373 4 b519_1 b519_2 (4602678819172646912 : UInt64) (0 : UInt64)) [(.int 1)])
                refine goZ X520 hx hlk (t := .boolean) Bd.returns (by simp) (hb hby at_348) (z' := (1 : Int32)) rfl ?_ (by decide) (by decide)
                show Q0 Z p0 p1 p2 p3 p4 h0 n0 (some (.int (1 : Int32))) T520.heap _
                exact ⟨rfl, N520⟩
            · skip
              refine gob (fun _ k => XS.ifYes X383.here hx rfl (pc0 := 80) (pc' := 86) rfl (hb hby at_80) rfl ((if0 _ _).trans (flt hc80_513).2.2.2) (by decide) (by decide) k) ?_
              show gO (tF T383 m 86 (la7 p0 p1 p2 p3 p4 3 b373 0) [])
              refine gob (fun _ k => XS.iload X383.here hx rfl (hb hby at_86) rfl k) ?_
              show gO (tF T383 m 88 (la7 p0 p1 p2 p3 p4 3 b373 0) [(.int 3)])
              refine gob (fun _ k => XS.iconst X383.here hx rfl (hb hby at_88) k) ?_
              show gO (tF T383 m 89 (la7 p0 p1 p2 p3 p4 3 b373 0) [(.int 2), (.int 3)])
              refine gob (fun _ k => XS.icmpNo X383.here hx rfl (hb hby at_89) rfl (tlt (by decide : (2 : Int32) < (3 : Int32))).2.2.2 k) ?_
              show gO (tF T383 m 92 (la7 p0 p1 p2 p3 p4 3 b373 0) [])
              refine gob (fun _ k => XS.iloadN X383.here hx rfl (hb hby at_92) rfl k) ?_
              show gO (tF T383 m 93 (la7 p0 p1 p2 p3 p4 3 b373 0) [(.int p2)])
              by_cases hc93_523 : (0 : Int32) < p2
              · skip
                refine gob (fun _ k => XS.ifNo X383.here hx rfl (hb hby at_93) rfl ((if0 _ _).trans (tlt hc93_523).2.2.2) k) ?_
                show gO (tF T383 m 96 (la7 p0 p1 p2 p3 p4 3 b373 0) [])
                refine gob (fun _ k => XS.iinc X383.here hx rfl (hb hby at_96) rfl (l' := (la7 p0 p1 p2 p3 p4 3 b373 2)) rfl k) ?_
                show gO (tF T383 m 99 (la7 p0 p1 p2 p3 p4 3 b373 2) [])
                refine gob (fun _ k => XS.iload X383.here hx rfl (hb hby at_99) rfl k) ?_
                show gO (tF T383 m 101 (la7 p0 p1 p2 p3 p4 3 b373 2) [(.int 3)])
                refine gob (fun _ k => XS.iconst X383.here hx rfl (hb hby at_101) k) ?_
                show gO (tF T383 m 102 (la7 p0 p1 p2 p3 p4 3 b373 2) [(.int 3), (.int 3)])
                refine gob (fun _ k => XS.icmpYes X383.here hx rfl (pc0 := 102) (pc' := 112) rfl (hb hby at_102) rfl (flt (by decide : ¬ ((3 : Int32) < (3 : Int32)))).2.2.2 (by decide) (by decide) k) ?_
                show gO (tF T383 m 112 (la7 p0 p1 p2 p3 p4 3 b373 2) [])
                refine seg (2 : Int32) ?_
                intro T524 lc524 h524 b524_1 b524_2 k524_1 k524_2 X524 e524 N524 z524 V524 V524_1 V524_2
                show gO (tF T524 m 282 (la8 p0 p1 p2 p3 p4 3 b373 2 b524_1 b524_2) [])
                refine gob (fun _ k => XS.aload X524.here hx rfl (hb hby at_282) rfl rfl k) ?_
                show gO (tF T524 m 284 (la8 p0 p1 p2 p3 p4 3 b373 2 b524_1 b524_2) [(.ref b373)])
                obtain ⟨_, _, ⟨T525, L525, k525, n525⟩, -, X525, ⟨Lc525, hQ525, l525, y525, z525⟩, st525⟩ := Jvm.LawKit.callS X524 hx (y := (⟨"com/example/coevolution/coevolution/measure/Measures", "averagePrecision", "([I)D"⟩ : MethodName)) hown (mvT hZ (hW hw 2 rfl)) (mvT hZ (hW hw 3 rfl)) (mvT hZ (hW hw 4 rfl)) (mvT hZ (hW hw 5 rfl)) (by decide) (backOf (W := 0) (rmap3 l Z a0 hw [] b373 k373 p0 p1 p2 h524 n0 z524 V524) hZ (hW hw 5 rfl) (hW hw 4 rfl) (by decide) (by decide)) (g := (mkF m 284 (la8 p0 p1 p2 p3 p4 3 b373 2 b524_1 b524_2) [(.ref b373)])) rfl (by rw [hml]; rfl) (argsL := [(.ref b373)]) (rest := []) (lenOf pd_0 rfl) rfl (by show 2 * 0 + _ ≤ _; exact Nat.le_of_eq rfl) (hb hby at_284) (fun _ _ => ⟨rfl, e524, (by decide : 3 + 0 ≤ _), (by decide : 35 + 0 ≤ _)⟩)
                dsimp only [Pt.U, Pt.locs, Pt.cells, Pt.slots] at X525 l525 y525 z525 st525 hQ525
                replace X525 := castX X525 (y525.trans (rfl : _ = 3)) (z525.trans (rfl : _ = 35))
                obtain ⟨r525, rfl, hr525, Nq525, e525⟩ := hQ525
                have N525 : Fr n0 L525 := l525 ▸ Fr.app N524 Nq525
                refine gob st525 ?_
                show gO (tF T525 m 287 (la8 p0 p1 p2 p3 p4 3 b373 2 b524_1 b524_2) [(.double r525)])
                have hlr525 : r525 = (4599676419421066581 : UInt64) := by simpa [hc67_493, hc80_513, hc93_523] using hr525
                subst hlr525
                show gO (tF T525 m 287 (la8 p0 p1 p2 p3 p4 3 b373 2 b524_1 b524_2) [(.double (4599676419421066581 : UInt64))])
                refine gob (fun _ k => XS.dstore X525.here hx rfl (hb hby at_287) rfl (l' := (la10 p0 p1 p2 p3 p4 3 b373 2 b524_1 b524_2 (4599676419421066581 : UInt64))) rfl k) ?_
                show gO (tF T525 m 289 (la10 p0 p1 p2 p3 p4 3 b373 2 b524_1 b524_2 (4599676419421066581 : UInt64)) [])
                refine gob (fun _ k => XS.iload X525.here hx rfl (hb hby at_289) rfl k) ?_
                show gO (tF T525 m 291 (la10 p0 p1 p2 p3 p4 3 b373 2 b524_1 b524_2 (4599676419421066581 : UInt64)) [(.int 2)])
                refine gob (fun _ k => XS.ifYes X525.here hx rfl (pc0 := 291) (pc' := 307) rfl (hb hby at_291) rfl ((if0 _ _).trans (feq (by decide : ¬ ((2 : Int32) = (0 : Int32)))).2) (by decide) (by decide) k) ?_
                show gO (tF T525 m 307 (la10 p0 p1 p2 p3 p4 3 b373 2 b524_1 b524_2 (4599676419421066581 : UInt64)) [])
                refine gob (fun _ k => XS.dload X525.here hx rfl (hb hby at_307) rfl k) ?_
                show gO (tF T525 m 309 (la10 p0 p1 p2 p3 p4 3 b373 2 b524_1 b524_2 (4599676419421066581 : UInt64)) [(.double (4599676419421066581 : UInt64))])
                refine gob (fun _ k => XS.aload X525.here hx rfl (hb hby at_309) rfl rfl k) ?_
                show gO (tF T525 m 311 (la10 p0 p1 p2 p3 p4 3 b373 2 b524_1 b524_2 (4599676419421066581 : UInt64)) [(.ref b524_2), (.double (4599676419421066581 : UInt64))])
                refine gob (fun _ k => XS.iload X525.here hx rfl (hb hby at_311) rfl k) ?_
                show gO (tF T525 m 313 (la10 p0 p1 p2 p3 p4 3 b373 2 b524_1 b524_2 (4599676419421066581 : UInt64)) [(.int 2), (.ref b524_2), (.double (4599676419421066581 : UInt64))])
                obtain ⟨cl526, Ar526, aq526, S526, N526, H526, G526⟩ := id V524_2
                have hin526 : ¬ ((2 : Int32) < 0 ∨ cl526.slots.size ≤ ((2 : Int32)).toNatClampNeg) := inb_of S526 ⟨by decide, by decide⟩
                refine gob (X525.iaload hx (j := (2 : Int32)) (v := (.int 3)) (by rw [e525]; exact Ar526.1) (State.isArrayOf_alike hZ.alike Ar526.2.1) Ar526.2.2 hin526 (Has.at H526 hin526 rfl) (g := (mkF m 313 (la10 p0 p1 p2 p3 p4 3 b373 2 b524_1 b524_2 (4599676419421066581 : UInt64)) [(.int 2), (.ref b524_2), (.double (4599676419421066581 : UInt64))])) rfl rfl (hb hby at_313)) ?_
                show gO (tF T525 m 314 (la10 p0 p1 p2 p3 p4 3 b373 2 b524_1 b524_2 (4599676419421066581 : UInt64)) [(.int 3), (.double (4599676419421066581 : UInt64))])
                refine gob (fun _ k => XS.i2dS X525.here hx rfl (hb hby at_314) rfl (v := (4613937818241073152 : UInt64)) (by decide +kernel) k) ?_
                show gO (tF T525 m 315 (la10 p0 p1 p2 p3 p4 3 b373 2 b524_1 b524_2 (4599676419421066581 : UInt64)) [(.double (4613937818241073152 : UInt64)), (.double (4599676419421066581 : UInt64))])
                refine gob (fun _ k => XS.dmulS X525.here hx rfl (hb hby at_315) rfl (v := (4607182418800017408 : UInt64)) (by unfold Jvm.Free.Fl.NoNaN64; decide +kernel) (by decide +kernel) k) ?_
                show gO (tF T525 m 316 (la10 p0 p1 p2 p3 p4 3 b373 2 b524_1 b524_2 (4599676419421066581 : UInt64)) [(.double (4607182418800017408 : UInt64))])
                refine gob (fun _ k => XS.aload X525.here hx rfl (hb hby at_316) rfl rfl k) ?_
                show gO (tF T525 m 318 (la10 p0 p1 p2 p3 p4 3 b373 2 b524_1 b524_2 (4599676419421066581 : UInt64)) [(.ref b524_1), (.double (4607182418800017408 : UInt64))])
                refine gob (fun _ k => XS.iload X525.here hx rfl (hb hby at_318) rfl k) ?_
                show gO (tF T525 m 320 (la10 p0 p1 p2 p3 p4 3 b373 2 b524_1 b524_2 (4599676419421066581 : UInt64)) [(.int 2), (.ref b524_1), (.double (4607182418800017408 : UInt64))])
                obtain ⟨cl527, Ar527, aq527, S527, N527, H527, G527⟩ := id V524_1
                have hin527 : ¬ ((2 : Int32) < 0 ∨ cl527.slots.size ≤ ((2 : Int32)).toNatClampNeg) := inb_of S527 ⟨by decide, by decide⟩
                refine gob (X525.iaload hx (j := (2 : Int32)) (v := (.int 1)) (by rw [e525]; exact Ar527.1) (State.isArrayOf_alike hZ.alike Ar527.2.1) Ar527.2.2 hin527 (Has.at H527 hin527 rfl) (g := (mkF m 320 (la10 p0 p1 p2 p3 p4 3 b373 2 b524_1 b524_2 (4599676419421066581 : UInt64)) [(.int 2), (.ref b524_1), (.double (4607182418800017408 : UInt64))])) rfl rfl (hb hby at_320)) ?_
                show gO (tF T525 m 321 (la10 p0 p1 p2 p3 p4 3 b373 2 b524_1 b524_2 (4599676419421066581 : UInt64)) [(.int 1), (.double (4607182418800017408 : UInt64))])
                refine gob (fun _ k => XS.i2dS X525.here hx rfl (hb hby at_321) rfl (v := (4607182418800017408 : UInt64)) (by decide +kernel) k) ?_
                show gO (tF T525 m 322 (la10 p0 p1 p2 p3 p4 3 b373 2 b524_1 b524_2 (4599676419421066581 : UInt64)) [(.double (4607182418800017408 : UInt64)), (.double (4607182418800017408 : UInt64))])
                refine gob (fun _ k => XS.dsubS X525.here hx rfl (hb hby at_322) rfl (v := (0 : UInt64)) (by unfold Jvm.Free.Fl.NoNaN64; decide +kernel) (by decide +kernel) k) ?_
                show gO (tF T525 m 323 (la10 p0 p1 p2 p3 p4 3 b373 2 b524_1 b524_2 (4599676419421066581 : UInt64)) [(.double (0 : UInt64))])
                refine gob (fun _ k => XS.dstore X525.here hx rfl (hb hby at_323) rfl (l' := (la11 p0 p1 p2 p3 p4 3 b373 2 b524_1 b524_2 (4599676419421066581 : UInt64) (0 : UInt64))) rfl k) ?_
                show gO (tF T525 m 325 (la11 p0 p1 p2 p3 p4 3 b373 2 b524_1 b524_2 (4599676419421066581 : UInt64) (0 : UInt64)) [])
                refine gob (fun _ k => XS.dload X525.here hx rfl (hb hby at_325) rfl k) ?_
                show gO (tF T525 m 327 (la11 p0 p1 p2 p3 p4 3 b373 2 b524_1 b524_2 (4599676419421066581 : UInt64) (0 : UInt64)) [(.double (0 : UInt64))])
                refine gob (X525.ldc2DoubleC hx hown (mvT hZ (hW hw 6 rfl)) (g := (mkF m 327 (la11 p0 p1 p2 p3 p4 3 b373 2 b524_1 b524_2 (4599676419421066581 : UInt64) (0 : UInt64)) [(.double (0 : UInt64))])) rfl (hb hby at_327)) ?_
                show gO (tF T525 m 330 (la11 p0 p1 p2 p3 p4 3 b373 2 b524_1 b524_2 (4599676419421066581 : UInt64) (0 : UInt64)) [(.double (4472406533629990549 : UInt64)), (.double (0 : UInt64))])
                refine gob (fun _ k => XS.dcmpS X525.here hx rfl (hb hby at_330) rfl (v := (-1 : Int32)) (by decide +kernel) k) ?_
                show gO (tF T525 m 331 (la11 p0 p1 p2 p3 p4 3 b373 2 b524_1 b524_2 (4599676419421066581 : UInt64) (0 : UInt64)) [(.int (-1))])
                refine gob (fun _ k => XS.ifNo X525.here hx rfl (hb hby at_331) rfl ((if0 _ _).trans (tlt (by decide : (-1 : Int32) < (0 : Int32))).2.1) k) ?_
                show gO (tF T525 m 334 (la11 p0 p1 p2 p3 p4 3 b373 2 b524_1 b524_2 (4599676419421066581 : UInt64) (0 : UInt64)) [])
                refine gob (fun _ k => XS.dload X525.here hx rfl (hb hby at_334) rfl k) ?_
                show gO (tF T525 m 336 (la11 p0 p1 p2 p3 p4 3 b373 2 b524_1 b524_2 (4599676419421066581 : UInt64) (0 : UInt64)) [(.double (0 : UInt64))])
                refine gob (X525.ldc2DoubleC hx hown (mvT hZ (hW hw 7 rfl)) (g := (mkF m 336 (la11 p0 p1 p2 p3 p4 3 b373 2 b524_1 b524_2 (4599676419421066581 : UInt64) (0 : UInt64)) [(.double (0 : UInt64))])) rfl (hb hby at_336)) ?_
                show gO (tF T525 m 339 (la11 p0 p1 p2 p3 p4 3 b373 2 b524_1 b524_2 (4599676419421066581 : UInt64) (0 : UInt64)) [(.double (13695778570484766357 : UInt64)), (.double (0 : UInt64))])
                refine gob (fun _ k => XS.dcmpS X525.here hx rfl (hb hby at_339) rfl (v := (1 : Int32)) (by decide +kernel) k) ?_
                show gO (tF T525 m 340 (la11 p0 p1 p2 p3 p4 3 b373 2 b524_1 b524_2 (4599676419421066581 : UInt64) (0 : UInt64)) [(.int 1)])
                refine gob (fun _ k => XS.ifNo X525.here hx rfl (hb hby at_340) rfl ((if0 _ _).trans (tlt (by decide : (0 : Int32) < (1 : Int32))).2.2.2) k) ?_
                show gO (tF T525 m 343 (la11 p0 p1 p2 p3 p4 3 b373 2 b524_1 b524_2 (4599676419421066581 : UInt64) (0 : UInt64)) [])
                refine gob (fun _ k => XS.iconst X525.here hx rfl (hb hby at_343) k) ?_
                show gO (tF T525 m 344 (la11 p0 p1 p2 p3 p4 3 b373 2 b524_1 b524_2 (4599676419421066581 : UInt64) (0 : UInt64)) [(.int 1)])
                refine gob (fun _ k => XS.goto X525.here hx rfl (pc0 := 344) (pc' := 348) rfl (hb hby at_344) (by decide) (by decide) k) ?_
                show gO (tF T525 m 348 (la11 p0 p1 p2 p3 p4 3 b373 2 b524_1 b524_2 (4599676419421066581 : UInt64) (0 : UInt64)) [(.int 1)])
                refine goZ X525 hx hlk (t := .boolean) Bd.returns (by simp) (hb hby at_348) (z' := (1 : Int32)) rfl ?_ (by decide) (by decide)
                show Q0 Z p0 p1 p2 p3 p4 h0 n0 (some (.int (1 : Int32))) T525.heap _
                exact ⟨rfl, N525⟩
              · skip
                refine gob (fun _ k => XS.ifYes X383.here hx rfl (pc0 := 93) (pc' := 99) rfl (hb hby at_93) rfl ((if0 _ _).trans (flt hc93_523).2.2.2) (by decide) (by decide) k) ?_
                show gO (tF T383 m 99 (la7 p0 p1 p2 p3 p4 3 b373 0) [])
                refine gob (fun _ k => XS.iload X383.here hx rfl (hb hby at_99) rfl k) ?_
                show gO (tF T383 m 101 (la7 p0 p1 p2 p3 p4 3 b373 0) [(.int 3)])
                refine gob (fun _ k => XS.iconst X383.here hx rfl (hb hby at_101) k) ?_
                show gO (tF T383 m 102 (la7 p0 p1 p2 p3 p4 3 b373 0) [(.int 3), (.int 3)])
                refine gob (fun _ k => XS.icmpYes X383.here hx rfl (pc0 := 102) (pc' := 112) rfl (hb hby at_102) rfl (flt (by decide : ¬ ((3 : Int32) < (3 : Int32)))).2.2.2 (by decide) (by decide) k) ?_
                show gO (tF T383 m 112 (la7 p0 p1 p2 p3 p4 3 b373 0) [])
                refine seg (0 : Int32) ?_
                intro T528 lc528 h528 b528_1 b528_2 k528_1 k528_2 X528 e528 N528 z528 V528 V528_1 V528_2
                show gO (tF T528 m 282 (la8 p0 p1 p2 p3 p4 3 b373 0 b528_1 b528_2) [])
                refine gob (fun _ k => XS.aload X528.here hx rfl (hb hby at_282) rfl rfl k) ?_
                show gO (tF T528 m 284 (la8 p0 p1 p2 p3 p4 3 b373 0 b528_1 b528_2) [(.ref b373)])
                obtain ⟨_, _, ⟨T529, L529, k529, n529⟩, -, X529, ⟨Lc529, hQ529, l529, y529, z529⟩, st529⟩ := Jvm.LawKit.callS X528 hx (y := (⟨"com/example/coevolution/coevolution/measure/Measures", "averagePrecision", "([I)D"⟩ : MethodName)) hown (mvT hZ (hW hw 2 rfl)) (mvT hZ (hW hw 3 rfl)) (mvT hZ (hW hw 4 rfl)) (mvT hZ (hW hw 5 rfl)) (by decide) (backOf (W := 0) (rmap3 l Z a0 hw [] b373 k373 p0 p1 p2 h528 n0 z528 V528) hZ (hW hw 5 rfl) (hW hw 4 rfl) (by decide) (by decide)) (g := (mkF m 284 (la8 p0 p1 p2 p3 p4 3 b373 0 b528_1 b528_2) [(.ref b373)])) rfl (by rw [hml]; rfl) (argsL := [(.ref b373)]) (rest := []) (lenOf pd_0 rfl) rfl (by show 2 * 0 + _ ≤ _; exact Nat.le_of_eq rfl) (hb hby at_284) (fun _ _ => ⟨rfl, e528, (by decide : 3 + 0 ≤ _), (by decide : 35 + 0 ≤ _)⟩)
                dsimp only [Pt.U, Pt.locs, Pt.cells, Pt.slots] at X529 l529 y529 z529 st529 hQ529
                replace X529 := castX X529 (y529.trans (rfl : _ = 3)) (z529.trans (rfl : _ = 35))
                obtain ⟨r529, rfl, hr529, Nq529, e529⟩ := hQ529
                have N529 : Fr n0 L529 := l529 ▸ Fr.app N528 Nq529
                refine gob st529 ?_
                show gO (tF T529 m 287 (la8 p0 p1 p2 p3 p4 3 b373 0 b528_1 b528_2) [(.double r529)])
                have hlr529 : r529 = (0 : UInt64) := by simpa [hc67_493, hc80_513, hc93_523] using hr529
                subst hlr529
                show gO (tF T529 m 287 (la8 p0 p1 p2 p3 p4 3 b373 0 b528_1 b528_2) [(.double (0 : UInt64))])
                refine gob (fun _ k => XS.dstore X529.here hx rfl (hb hby at_287) rfl (l' := (la10 p0 p1 p2 p3 p4 3 b373 0 b528_1 b528_2 (0 : UInt64))) rfl k) ?_
                show gO (tF T529 m 289 (la10 p0 p1 p2 p3 p4 3 b373 0 b528_1 b528_2 (0 : UInt64)) [])
                refine gob (fun _ k => XS.iload X529.here hx rfl (hb hby at_289) rfl k) ?_
                show gO (tF T529 m 291 (la10 p0 p1 p2 p3 p4 3 b373 0 b528_1 b528_2 (0 : UInt64)) [(.int 0)])
                refine gob (fun _ k => XS.ifNo X529.here hx rfl (hb hby at_291) rfl ((if0 _ _).trans (teq (by decide : (0 : Int32) = (0 : Int32))).2) k) ?_
                show gO (tF T529 m 294 (la10 p0 p1 p2 p3 p4 3 b373 0 b528_1 b528_2 (0 : UInt64)) [])
                refine gob (fun _ k => XS.dload X529.here hx rfl (hb hby at_294) rfl k) ?_
                show gO (tF T529 m 296 (la10 p0 p1 p2 p3 p4 3 b373 0 b528_1 b528_2 (0 : UInt64)) [(.double (0 : UInt64))])
                refine gob (fun _ k => XS.dconst0 X529.here hx rfl (hb hby at_296) (v := (0 : UInt64)) (by decide +kernel) k) ?_
                show gO (tF T529 m 297 (la10 p0 p1 p2 p3 p4 3 b373 0 b528_1 b528_2 (0 : UInt64)) [(.double (0 : UInt64)), (.double (0 : UInt64))])
                refine gob (fun _ k => XS.dcmpS X529.here hx rfl (hb hby at_297) rfl (v := (0 : Int32)) (by decide +kernel) k) ?_
                show gO (tF T529 m 298 (la10 p0 p1 p2 p3 p4 3 b373 0 b528_1 b528_2 (0 : UInt64)) [(.int 0)])
                refine gob (fun _ k => XS.ifNo X529.here hx rfl (hb hby at_298) rfl ((if0 _ _).trans (teq (by decide : (0 : Int32) = (0 : Int32))).2) k) ?_
                show gO (tF T529 m 301 (la10 p0 p1 p2 p3 p4 3 b373 0 b528_1 b528_2 (0 : UInt64)) [])
                refine gob (fun _ k => XS.iconst X529.here hx rfl (hb hby at_301) k) ?_
                show gO (tF T529 m 302 (la10 p0 p1 p2 p3 p4 3 b373 0 b528_1 b528_2 (0 : UInt64)) [(.int 1)])
                refine gob (fun _ k => XS.goto X529.here hx rfl (pc0 := 302) (pc' := 306) rfl (hb hby at_302) (by decide) (by decide) k) ?_
                show gO (tF T529 m 306 (la10 p0 p1 p2 p3 p4 3 b373 0 b528_1 b528_2 (0 : UInt64)) [(.int 1)])
                refine goZ X529 hx hlk (t := .boolean) Bd.returns (by simp) (hb hby at_306) (z' := (1 : Int32)) rfl ?_ (by decide) (by decide)
                show Q0 Z p0 p1 p2 p3 p4 h0 n0 (some (.int (1 : Int32))) T529.heap _
                exact ⟨rfl, N529⟩
        · skip
          have h4_530 : n_ = (4 : Int32) := (la_0_9_531 p4 n_ hn_ hn1 hn115 hn237 hn372)
          subst h4_530
          show gO (tF s₁ m 9 (la5 p0 p1 p2 p3 p4 4) [])
          refine gob (fun _ k => XS.iload X0.here hx rfl (hb hby at_9) rfl k) ?_
          show gO (tF s₁ m 11 (la5 p0 p1 p2 p3 p4 4) [(.int 4)])
          obtain ⟨T532, h532, k532, X532, e532, E532, A532, st532⟩ := newP X0 hx hZ (hW hw 1 rfl) e0 (g := (mkF m 11 (la5 p0 p1 p2 p3 p4 4) [(.int 4)])) rfl (hb hby at_11) rfl (by decide) (cap := 4) (by decide) (by decide) (by decide) (by decide)
          obtain ⟨b532, g532⟩ : ∃ z, z = h0.size := ⟨_, rfl⟩
          rw [← g532] at A532 st532
          have g533 : n0 ≤ b532 := Nat.le_trans Z0 (Nat.le_of_eq g532.symm)
          have z534 : n0 ≤ h532.size := Nat.le_trans Z0 E532.1
          have V532 : Arv Z h532 b532 k532 .int (4 : Int32) [(.int 0), (.int 0), (.int 0), (.int 0)] (.int 0) := (Arv.new A532 (by decide)).pad (pad_rep [] (.int 0) 4)
          refine gob st532 ?_
          replace X532 := castX X532 (rfl : _ = 1) (rfl : _ = 4)
          show gO (tF T532 m 13 (la5 p0 p1 p2 p3 p4 4) [(.ref b532)])
          refine gob (fun _ k => XS.astore X532.here hx rfl (hb hby at_13) rfl rfl (l' := (la6 p0 p1 p2 p3 p4 4 b532)) rfl k) ?_
          show gO (tF T532 m 15 (la6 p0 p1 p2 p3 p4 4 b532) [])
          refine gob (fun _ k => XS.iload X532.here hx rfl (hb hby at_15) rfl k) ?_
          show gO (tF T532 m 17 (la6 p0 p1 p2 p3 p4 4 b532) [(.int 4)])
          refine gob (fun _ k => XS.ifNo X532.here hx rfl (hb hby at_17) rfl ((if0 _ _).trans (tlt (by decide : (0 : Int32) < (4 : Int32))).2.2.2) k) ?_
          show gO (tF T532 m 20 (la6 p0 p1 p2 p3 p4 4 b532) [])
          refine gob (fun _ k => XS.aload X532.here hx rfl (hb hby at_20) rfl rfl k) ?_
          show gO (tF T532 m 22 (la6 p0 p1 p2 p3 p4 4 b532) [(.ref b532)])
          refine gob (fun _ k => XS.iconst X532.here hx rfl (hb hby at_22) k) ?_
          show gO (tF T532 m 23 (la6 p0 p1 p2 p3 p4 4 b532) [(.int 0), (.ref b532)])
          refine gob (fun _ k => XS.iloadN X532.here hx rfl (hb hby at_23) rfl k) ?_
          show gO (tF T532 m 24 (la6 p0 p1 p2 p3 p4 4 b532) [(.int p0), (.int 0), (.ref b532)])
          obtain ⟨cl535, Ar535, aq535, S535, N535, H535, G535⟩ := id V532
          have hin535 : ¬ ((0 : Int32) < 0 ∨ cl535.slots.size ≤ ((0 : Int32)).toNatClampNeg) := inb_of S535 ⟨by decide, by decide⟩
          obtain ⟨T536, h536, X536, e536, W536, st536⟩ := stI X532 hx hZ e532 Ar535 (j := (0 : Int32)) hin535 (g := (mkF m 24 (la6 p0 p1 p2 p3 p4 4 b532) [(.int p0), (.int 0), (.ref b532)])) rfl rfl (hb hby at_24)
          refine gob st536 ?_
          have z537 : n0 ≤ h536.size := Nat.le_trans z534 (Keep.of_wr W536).1
          have N536 := Fr.snoc X536 N0 g533
          have V536 : Arv Z h536 b532 k532 .int (4 : Int32) [(.int p0), (.int 0), (.int 0), (.int 0)] (.int 0) := Arv.set Ar535 aq535 S535 N535 H535 G535 rfl W536 0 rfl (Nat.le_of_ble_eq_true rfl)
          show gO (tF T536 m 25 (la6 p0 p1 p2 p3 p4 4 b532) [])
          refine gob (fun _ k => XS.iload X536.here hx rfl (hb hby at_25) rfl k) ?_
          show gO (tF T536 m 27 (la6 p0 p1 p2 p3 p4 4 b532) [(.int 4)])
          refine gob (fun _ k => XS.iconst X536.here hx rfl (hb hby at_27) k) ?_
          show gO (tF T536 m 28 (la6 p0 p1 p2 p3 p4 4 b532) [(.int 1), (.int 4)])
          refine gob (fun _ k => XS.icmpNo X536.here hx rfl (hb hby at_28) rfl (tlt (by decide : (1 : Int32) < (4 : Int32))).2.2.2 k) ?_
          show gO (tF T536 m 31 (la6 p0 p1 p2 p3 p4 4 b532) [])
          refine gob (fun _ k => XS.aload X536.here hx rfl (hb hby at_31) rfl rfl k) ?_
          show gO (tF T536 m 33 (la6 p0 p1 p2 p3 p4 4 b532) [(.ref b532)])
          refine gob (fun _ k => XS.iconst X536.here hx rfl (hb hby at_33) k) ?_
          show gO (tF T536 m 34 (la6 p0 p1 p2 p3 p4 4 b532) [(.int 1), (.ref b532)])
          refine gob (fun _ k => XS.iloadN X536.here hx rfl (hb hby at_34) rfl k) ?_
          show gO (tF T536 m 35 (la6 p0 p1 p2 p3 p4 4 b532) [(.int p1), (.int 1), (.ref b532)])
          obtain ⟨cl538, Ar538, aq538, S538, N538, H538, G538⟩ := id V536
          have hin538 : ¬ ((1 : Int32) < 0 ∨ cl538.slots.size ≤ ((1 : Int32)).toNatClampNeg) := inb_of S538 ⟨by decide, by decide⟩
          obtain ⟨T539, h539, X539, e539, W539, st539⟩ := stI X536 hx hZ e536 Ar538 (j := (1 : Int32)) hin538 (g := (mkF m 35 (la6 p0 p1 p2 p3 p4 4 b532) [(.int p1), (.int 1), (.ref b532)])) rfl rfl (hb hby at_35)
          refine gob st539 ?_
          have z540 : n0 ≤ h539.size := Nat.le_trans z537 (Keep.of_wr W539).1
          have N539 := Fr.snoc X539 N536 g533
          have V539 : Arv Z h539 b532 k532 .int (4 : Int32) [(.int p0), (.int p1), (.int 0), (.int 0)] (.int 0) := Arv.set Ar538 aq538 S538 N538 H538 G538 rfl W539 1 rfl (Nat.le_of_ble_eq_true rfl)
          show gO (tF T539 m 36 (la6 p0 p1 p2 p3 p4 4 b532) [])
          refine gob (fun _ k => XS.iload X539.here hx rfl (hb hby at_36) rfl k) ?_
          show gO (tF T539 m 38 (la6 p0 p1 p2 p3 p4 4 b532) [(.int 4)])
          refine gob (fun _ k => XS.iconst X539.here hx rfl (hb hby at_38) k) ?_
          show gO (tF T539 m 39 (la6 p0 p1 p2 p3 p4 4 b532) [(.int 2), (.int 4)])
          refine gob (fun _ k => XS.icmpNo X539.here hx rfl (hb hby at_39) rfl (tlt (by decide : (2 : Int32) < (4 : Int32))).2.2.2 k) ?_
          show gO (tF T539 m 42 (la6 p0 p1 p2 p3 p4 4 b532) [])
          refine gob (fun _ k => XS.aload X539.here hx rfl (hb hby at_42) rfl rfl k) ?_
          show gO (tF T539 m 44 (la6 p0 p1 p2 p3 p4 4 b532) [(.ref b532)])
          refine gob (fun _ k => XS.iconst X539.here hx rfl (hb hby at_44) k) ?_
          show gO (tF T539 m 45 (la6 p0 p1 p2 p3 p4 4 b532) [(.int 2), (.ref b532)])
          refine gob (fun _ k => XS.iloadN X539.here hx rfl (hb hby at_45) rfl k) ?_
          show gO (tF T539 m 46 (la6 p0 p1 p2 p3 p4 4 b532) [(.int p2), (.int 2), (.ref b532)])
          obtain ⟨cl541, Ar541, aq541, S541, N541, H541, G541⟩ := id V539
          have hin541 : ¬ ((2 : Int32) < 0 ∨ cl541.slots.size ≤ ((2 : Int32)).toNatClampNeg) := inb_of S541 ⟨by decide, by decide⟩
          obtain ⟨T542, h542, X542, e542, W542, st542⟩ := stI X539 hx hZ e539 Ar541 (j := (2 : Int32)) hin541 (g := (mkF m 46 (la6 p0 p1 p2 p3 p4 4 b532) [(.int p2), (.int 2), (.ref b532)])) rfl rfl (hb hby at_46)
          refine gob st542 ?_
          have z543 : n0 ≤ h542.size := Nat.le_trans z540 (Keep.of_wr W542).1
          have N542 := Fr.snoc X542 N539 g533
          have V542 : Arv Z h542 b532 k532 .int (4 : Int32) [(.int p0), (.int p1), (.int p2), (.int 0)] (.int 0) := Arv.set Ar541 aq541 S541 N541 H541 G541 rfl W542 2 rfl (Nat.le_of_ble_eq_true rfl)
          show gO (tF T542 m 47 (la6 p0 p1 p2 p3 p4 4 b532) [])
          refine gob (fun _ k => XS.iload X542.here hx rfl (hb hby at_47) rfl k) ?_
          show gO (tF T542 m 49 (la6 p0 p1 p2 p3 p4 4 b532) [(.int 4)])
          refine gob (fun _ k => XS.iconst X542.here hx rfl (hb hby at_49) k) ?_
          show gO (tF T542 m 50 (la6 p0 p1 p2 p3 p4 4 b532) [(.int 3), (.int 4)])
          refine gob (fun _ k => XS.icmpNo X542.here hx rfl (hb hby at_50) rfl (tlt (by decide : (3 : Int32) < (4 : Int32))).2.2.2 k) ?_
          show gO (tF T542 m 53 (la6 p0 p1 p2 p3 p4 4 b532) [])
          refine gob (fun _ k => XS.aload X542.here hx rfl (hb hby at_53) rfl rfl k) ?_
          show gO (tF T542 m 55 (la6 p0 p1 p2 p3 p4 4 b532) [(.ref b532)])
          refine gob (fun _ k => XS.iconst X542.here hx rfl (hb hby at_55) k) ?_
          show gO (tF T542 m 56 (la6 p0 p1 p2 p3 p4 4 b532) [(.int 3), (.ref b532)])
          refine gob (fun _ k => XS.iloadN X542.here hx rfl (hb hby at_56) rfl k) ?_
          show gO (tF T542 m 57 (la6 p0 p1 p2 p3 p4 4 b532) [(.int p3), (.int 3), (.ref b532)])
          obtain ⟨cl544, Ar544, aq544, S544, N544, H544, G544⟩ := id V542
          have hin544 : ¬ ((3 : Int32) < 0 ∨ cl544.slots.size ≤ ((3 : Int32)).toNatClampNeg) := inb_of S544 ⟨by decide, by decide⟩
          obtain ⟨T545, h545, X545, e545, W545, st545⟩ := stI X542 hx hZ e542 Ar544 (j := (3 : Int32)) hin544 (g := (mkF m 57 (la6 p0 p1 p2 p3 p4 4 b532) [(.int p3), (.int 3), (.ref b532)])) rfl rfl (hb hby at_57)
          refine gob st545 ?_
          have z546 : n0 ≤ h545.size := Nat.le_trans z543 (Keep.of_wr W545).1
          have N545 := Fr.snoc X545 N542 g533
          have V545 : Arv Z h545 b532 k532 .int (4 : Int32) [(.int p0), (.int p1), (.int p2), (.int p3)] (.int 0) := Arv.set Ar544 aq544 S544 N544 H544 G544 rfl W545 3 rfl (Nat.le_of_ble_eq_true rfl)
          show gO (tF T545 m 58 (la6 p0 p1 p2 p3 p4 4 b532) [])
          refine gob (fun _ k => XS.iconst X545.here hx rfl (hb hby at_58) k) ?_
          show gO (tF T545 m 59 (la6 p0 p1 p2 p3 p4 4 b532) [(.int 0)])
          refine gob (fun _ k => XS.istore X545.here hx rfl (hb hby at_59) rfl (l' := (la7 p0 p1 p2 p3 p4 4 b532 0)) rfl k) ?_
          show gO (tF T545 m 61 (la7 p0 p1 p2 p3 p4 4 b532 0) [])
          have seg : ∀ (key_ : Int32), (∀ (T_ : State) (lc_ : List Loc) (h_ : Heap) (b1_ b2_ : Addr) (k1_ k2_ : ClassId), Stand p l e room_1 s m #[(.int p0), (.int p1), (.int p2), (.int p3), (.int p4)] below meth c T_ lc_ 3 36 → T_.heap = h_ → Fr n0 lc_ → n0 ≤ h_.size → Arv Z h_ b532 k532 .int (4 : Int32) [(.int p0), (.int p1), (.int p2), (.int p3)] (.int 0) → Arv Z h_ b1_ k1_ .int (16 : Int32) [(.int 0), (.int 1), (.int 1), (.int 5), (.int 1), (.int 1), (.int 7), (.int 23), (.int 1), (.int 3), (.int 5), (.int 29), (.int 1), (.int 11), (.int 1), (.int 1)] (.int 0) → Arv Z h_ b2_ k2_ .int (16 : Int32) [(.int 1), (.int 4), (.int 3), (.int 12), (.int 2), (.int 2), (.int 12), (.int 36), (.int 1), (.int 4), (.int 6), (.int 36), (.int 1), (.int 12), (.int 1), (.int 1)] (.int 0) → Go p e below s (Q0 Z p0 p1 p2 p3 p4 h0 n0) 16 192 (T_.setTop (mkF m 282 (la8 p0 p1 p2 p3 p4 4 b532 key_ b1_ b2_) []))) → Go p e below s (Q0 Z p0 p1 p2 p3 p4 h0 n0) 16 192 (T545.setTop (mkF m 112 (la7 p0 p1 p2 p3 p4 4 b532 key_) [])) := by
            intro key_ kont
            show gO (tF T545 m 112 (la7 p0 p1 p2 p3 p4 4 b532 key_) [])
            refine gob (fun _ k => XS.bipush X545.here hx rfl (hb hby at_112) k) ?_
            show gO (tF T545 m 114 (la7 p0 p1 p2 p3 p4 4 b532 key_) [(.int 16)])
            obtain ⟨T547, h547, k547, X547, e547, E547, A547, st547⟩ := newP X545 hx hZ (hW hw 1 rfl) e545 (g := (mkF m 114 (la7 p0 p1 p2 p3 p4 4 b532 key_) [(.int 16)])) rfl (hb hby at_114) rfl (by decide) (cap := 16) (by decide) (by decide) (by decide) (by decide)
            obtain ⟨b547, g547⟩ : ∃ z, z = h545.size := ⟨_, rfl⟩
            rw [← g547] at A547 st547
            have n548 : b532 ≠ b547 := Nat.ne_of_lt (Nat.lt_of_lt_of_le V545.lt (Nat.le_of_eq g547.symm))
            have g549 : n0 ≤ b547 := Nat.le_trans z546 (Nat.le_of_eq g547.symm)
            have z550 : n0 ≤ h547.size := Nat.le_trans z546 E547.1
            have V547 : Arv Z h547 b547 k547 .int (16 : Int32) [(.int 0), (.int 0), (.int 0), (.int 0), (.int 0), (.int 0), (.int 0), (.int 0), (.int 0), (.int 0), (.int 0), (.int 0), (.int 0), (.int 0), (.int 0), (.int 0)] (.int 0) := (Arv.new A547 (by decide)).pad (pad_rep [] (.int 0) 16)
            refine gob st547 ?_
            replace X547 := castX X547 (rfl : _ = 2) (rfl : _ = 20)
            show gO (tF T547 m 116 (la7 p0 p1 p2 p3 p4 4 b532 key_) [(.ref b547)])
            refine gob (fun _ k => XS.dup X547.here hx rfl (hb hby at_116) rfl rfl k) ?_
            show gO (tF T547 m 117 (la7 p0 p1 p2 p3 p4 4 b532 key_) [(.ref b547), (.ref b547)])
            refine gob (fun _ k => XS.iconst X547.here hx rfl (hb hby at_117) k) ?_
            show gO (tF T547 m 118 (la7 p0 p1 p2 p3 p4 4 b532 key_) [(.int 0), (.ref b547), (.ref b547)])
            refine gob (fun _ k => XS.iconst X547.here hx rfl (hb hby at_118) k) ?_
            show gO (tF T547 m 119 (la7 p0 p1 p2 p3 p4 4 b532 key_) [(.int 0), (.int 0), (.ref b547), (.ref b547)])
            obtain ⟨cl551, Ar551, aq551, S551, N551, H551, G551⟩ := id V547
            have hin551 : ¬ ((0 : Int32) < 0 ∨ cl551.slots.size ≤ ((0 : Int32)).toNatClampNeg) := inb_of S551 ⟨by decide, by decide⟩
            obtain ⟨T552, h552, X552, e552, W552, st552⟩ := stI X547 hx hZ e547 Ar551 (j := (0 : Int32)) hin551 (g := (mkF m 119 (la7 p0 p1 p2 p3 p4 4 b532 key_) [(.int 0), (.int 0), (.ref b547), (.ref b547)])) rfl rfl (hb hby at_119)
            refine gob st552 ?_
            have z553 : n0 ≤ h552.size := Nat.le_trans z550 (Keep.of_wr W552).1
            have N552 := Fr.snoc X552 N545 g549
            have V552 : Arv Z h552 b547 k547 .int (16 : Int32) [(.int 0), (.int 0), (.int 0), (.int 0), (.int 0), (.int 0), (.int 0), (.int 0), (.int 0), (.int 0), (.int 0), (.int 0), (.int 0), (.int 0), (.int 0), (.int 0)] (.int 0) := Arv.set Ar551 aq551 S551 N551 H551 G551 rfl W552 0 rfl (Nat.le_of_ble_eq_true rfl)
            show gO (tF T552 m 120 (la7 p0 p1 p2 p3 p4 4 b532 key_) [(.ref b547)])
            refine gob (fun _ k => XS.dup X552.here hx rfl (hb hby at_120) rfl rfl k) ?_
            show gO (tF T552 m 121 (la7 p0 p1 p2 p3 p4 4 b532 key_) [(.ref b547), (.ref b547)])
            refine gob (fun _ k => XS.iconst X552.here hx rfl (hb hby at_121) k) ?_
            show gO (tF T552 m 122 (la7 p0 p1 p2 p3 p4 4 b532 key_) [(.int 1), (.ref b547), (.ref b547)])
            refine gob (fun _ k => XS.iconst X552.here hx rfl (hb hby at_122) k) ?_
            show gO (tF T552 m 123 (la7 p0 p1 p2 p3 p4 4 b532 key_) [(.int 1), (.int 1), (.ref b547), (.ref b547)])
            obtain ⟨cl554, Ar554, aq554, S554, N554, H554, G554⟩ := id V552
            have hin554 : ¬ ((1 : Int32) < 0 ∨ cl554.slots.size ≤ ((1 : Int32)).toNatClampNeg) := inb_of S554 ⟨by decide, by decide⟩
            obtain ⟨T555, h555, X555, e555, W555, st555⟩ := stI X552 hx hZ e552 Ar554 (j := (1 : Int32)) hin554 (g := (mkF m 123 (la7 p0 p1 p2 p3 p4 4 b532 key_) [(.int 1), (.int 1), (.ref b547), (.ref b547)])) rfl rfl (hb hby at_123)
            refine gob st555 ?_
            have z556 : n0 ≤ h555.size := Nat.le_trans z553 (Keep.of_wr W555).1
            have N555 := Fr.snoc X555 N552 g549
            have V555 : Arv Z h555 b547 k547 .int (16 : Int32) [(.int 0), (.int 1), (.int 0), (.int 0), (.int 0), (.int 0), (.int 0), (.int 0), (.int 0), (.int 0), (.int 0), (.int 0), (.int 0), (.int 0), (.int 0), (.int 0)] (.int 0) := Arv.set Ar554 aq554 S554 N554 H554 G554 rfl W555 1 rfl (Nat.le_of_ble_eq_true rfl)
            show gO (tF T555 m 124 (la7 p0 p1 p2 p3 p4 4 b532 key_) [(.ref b547)])
            refine gob (fun _ k => XS.dup X555.here hx rfl (hb hby at_124) rfl rfl k) ?_
            show gO (tF T555 m 125 (la7 p0 p1 p2 p3 p4 4 b532 key_) [(.ref b547), (.ref b547)])
            refine gob (fun _ k => XS.iconst X555.here hx rfl (hb hby at_125) k) ?_
            show gO (tF T555 m 126 (la7 p0 p1 p2 p3 p4 4 b532 key_) [(.int 2), (.ref b547), (.ref b547)])
            refine gob (fun _ k => XS.iconst X555.here hx rfl (hb hby at_126) k) ?_
            show gO (tF T555 m 127 (la7 p0 p1 p2 p3 p4 4 b532 key_) [(.int 1), (.int 2), (.ref b547), (.ref b547)])
            obtain ⟨cl557, Ar557, aq557, S557, N557, H557, G557⟩ := id V555
            have hin557 : ¬ ((2 : Int32) < 0 ∨ cl557.slots.size ≤ ((2 : Int32)).toNatClampNeg) := inb_of S557 ⟨by decide, by decide⟩
            obtain ⟨T558, h558, X558, e558, W558, st558⟩ := stI X555 hx hZ e555 Ar557 (j := (2 : Int32)) hin557 (g := (mkF m 127 (la7 p0 p1 p2 p3 p4 4 b532 key_) [(.int 1), (.int 2), (.ref b547), (.ref b547)])) rfl rfl (hb hby at_127)
            refine gob st558 ?_
            have z559 : n0 ≤ h558.size := Nat.le_trans z556 (Keep.of_wr W558).1
            have N558 := Fr.snoc X558 N555 g549
            have V558 : Arv Z h558 b547 k547 .int (16 : Int32) [(.int 0), (.int 1), (.int 1), (.int 0), (.int 0), (.int 0), (.int 0), (.int 0), (.int 0), (.int 0), (.int 0), (.int 0), (.int 0), (.int 0), (.int 0), (.int 0)] (.int 0) := Arv.set Ar557 aq557 S557 N557 H557 G557 rfl W558 2 rfl (Nat.le_of_ble_eq_true rfl)
            show gO (tF T558 m 128 (la7 p0 p1 p2 p3 p4 4 b532 key_) [(.ref b547)])
            refine gob (fun _ k => XS.dup X558.here hx rfl (hb hby at_128) rfl rfl k) ?_
            show gO (tF T558 m 129 (la7 p0 p1 p2 p3 p4 4 b532 key_) [(.ref b547), (.ref b547)])
            refine gob (fun _ k => XS.iconst X558.here hx rfl (hb hby at_129) k) ?_
            show gO (tF T558 m 130 (la7 p0 p1 p2 p3 p4 4 b532 key_) [(.int 3), (.ref b547), (.ref b547)])
            refine gob (fun _ k => XS.iconst X558.here hx rfl (hb hby at_130) k) ?_
            show gO (tF T558 m 131 (la7 p0 p1 p2 p3 p4 4 b532 key_) [(.int 5), (.int 3), (.ref b547), (.ref b547)])
            obtain ⟨cl560, Ar560, aq560, S560, N560, H560, G560⟩ := id V558
            have hin560 : ¬ ((3 : Int32) < 0 ∨ cl560.slots.size ≤ ((3 : Int32)).toNatClampNeg) := inb_of S560 ⟨by decide, by decide⟩
            obtain ⟨T561, h561, X561, e561, W561, st561⟩ := stI X558 hx hZ e558 Ar560 (j := (3 : Int32)) hin560 (g := (mkF m 131 (la7 p0 p1 p2 p3 p4 4 b532 key_) [(.int 5), (.int 3), (.ref b547), (.ref b547)])) rfl rfl (hb hby at_131)
            refine gob st561 ?_
            have z562 : n0 ≤ h561.size := Nat.le_trans z559 (Keep.of_wr W561).1
            have N561 := Fr.snoc X561 N558 g549
            have V561 : Arv Z h561 b547 k547 .int (16 : Int32) [(.int 0), (.int 1), (.int 1), (.int 5), (.int 0), (.int 0), (.int 0), (.int 0), (.int 0), (.int 0), (.int 0), (.int 0), (.int 0), (.int 0), (.int 0), (.int 0)] (.int 0) := Arv.set Ar560 aq560 S560 N560 H560 G560 rfl W561 3 rfl (Nat.le_of_ble_eq_true rfl)
            show gO (tF T561 m 132 (la7 p0 p1 p2 p3 p4 4 b532 key_) [(.ref b547)])
            refine gob (fun _ k => XS.dup X561.here hx rfl (hb hby at_132) rfl rfl k) ?_
            show gO (tF T561 m 133 (la7 p0 p1 p2 p3 p4 4 b532 key_) [(.ref b547), (.ref b547)])
            refine gob (fun _ k => XS.iconst X561.here hx rfl (hb hby at_133) k) ?_
            show gO (tF T561 m 134 (la7 p0 p1 p2 p3 p4 4 b532 key_) [(.int 4), (.ref b547), (.ref b547)])
            refine gob (fun _ k => XS.iconst X561.here hx rfl (hb hby at_134) k) ?_
            show gO (tF T561 m 135 (la7 p0 p1 p2 p3 p4 4 b532 key_) [(.int 1), (.int 4), (.ref b547), (.ref b547)])
            obtain ⟨cl563, Ar563, aq563, S563, N563, H563, G563⟩ := id V561
            have hin563 : ¬ ((4 : Int32) < 0 ∨ cl563.slots.size ≤ ((4 : Int32)).toNatClampNeg) := inb_of S563 ⟨by decide, by decide⟩
            obtain ⟨T564, h564, X564, e564, W564, st564⟩ := stI X561 hx hZ e561 Ar563 (j := (4 : Int32)) hin563 (g := (mkF m 135 (la7 p0 p1 p2 p3 p4 4 b532 key_) [(.int 1), (.int 4), (.ref b547), (.ref b547)])) rfl rfl (hb hby at_135)
            refine gob st564 ?_
            have z565 : n0 ≤ h564.size := Nat.le_trans z562 (Keep.of_wr W564).1
            have N564 := Fr.snoc X564 N561 g549
            have V564 : Arv Z h564 b547 k547 .int (16 : Int32) [(.int 0), (.int 1), (.int 1), (.int 5), (.int 1), (.int 0), (.int 0), (.int 0), (.int 0), (.int 0), (.int 0), (.int 0), (.int 0), (.int 0), (.int 0), (.int 0)] (.int 0) := Arv.set Ar563 aq563 S563 N563 H563 G563 rfl W564 4 rfl (Nat.le_of_ble_eq_true rfl)
            show gO (tF T564 m 136 (la7 p0 p1 p2 p3 p4 4 b532 key_) [(.ref b547)])
            refine gob (fun _ k => XS.dup X564.here hx rfl (hb hby at_136) rfl rfl k) ?_
            show gO (tF T564 m 137 (la7 p0 p1 p2 p3 p4 4 b532 key_) [(.ref b547), (.ref b547)])
            refine gob (fun _ k => XS.iconst X564.here hx rfl (hb hby at_137) k) ?_
            show gO (tF T564 m 138 (la7 p0 p1 p2 p3 p4 4 b532 key_) [(.int 5), (.ref b547), (.ref b547)])
            refine gob (fun _ k => XS.iconst X564.here hx rfl (hb hby at_138) k) ?_
            show gO (tF T564 m 139 (la7 p0 p1 p2 p3 p4 4 b532 key_) [(.int 1), (.int 5), (.ref b547), (.ref b547)])
            obtain ⟨cl566, Ar566, aq566, S566, N566, H566, G566⟩ := id V564
            have hin566 : ¬ ((5 : Int32) < 0 ∨ cl566.slots.size ≤ ((5 : Int32)).toNatClampNeg) := inb_of S566 ⟨by decide, by decide⟩
            obtain ⟨T567, h567, X567, e567, W567, st567⟩ := stI X564 hx hZ e564 Ar566 (j := (5 : Int32)) hin566 (g := (mkF m 139 (la7 p0 p1 p2 p3 p4 4 b532 key_) [(.int 1), (.int 5), (.ref b547), (.ref b547)])) rfl rfl (hb hby at_139)
            refine gob st567 ?_
            have z568 : n0 ≤ h567.size := Nat.le_trans z565 (Keep.of_wr W567).1
            have N567 := Fr.snoc X567 N564 g549
            have V567 : Arv Z h567 b547 k547 .int (16 : Int32) [(.int 0), (.int 1), (.int 1), (.int 5), (.int 1), (.int 1), (.int 0), (.int 0), (.int 0), (.int 0), (.int 0), (.int 0), (.int 0), (.int 0), (.int 0), (.int 0)] (.int 0) := Arv.set Ar566 aq566 S566 N566 H566 G566 rfl W567 5 rfl (Nat.le_of_ble_eq_true rfl)
            show gO (tF T567 m 140 (la7 p0 p1 p2 p3 p4 4 b532 key_) [(.ref b547)])
            refine gob (fun _ k => XS.dup X567.here hx rfl (hb hby at_140) rfl rfl k) ?_
            show gO (tF T567 m 141 (la7 p0 p1 p2 p3 p4 4 b532 key_) [(.ref b547), (.ref b547)])
            refine gob (fun _ k => XS.bipush X567.here hx rfl (hb hby at_141) k) ?_
            show gO (tF T567 m 143 (la7 p0 p1 p2 p3 p4 4 b532 key_) [(.int 6), (.ref b547), (.ref b547)])
            refine gob (fun _ k => XS.bipush X567.here hx rfl (hb hby at_143) k) ?_
            show gO (tF T567 m 145 (la7 p0 p1 p2 p3 p4 4 b532 key_) [(.int 7), (.int 6), (.ref b547), (.ref b547)])
            obtain ⟨cl569, Ar569, aq569, S569, N569, H569, G569⟩ := id V567
            have hin569 : ¬ ((6 : Int32) < 0 ∨ cl569.slots.size ≤ ((6 : Int32)).toNatClampNeg) := inb_of S569 ⟨by decide, by decide⟩
            obtain ⟨T570, h570, X570, e570, W570, st570⟩ := stI X567 hx hZ e567 Ar569 (j := (6 : Int32)) hin569 (g := (mkF m 145 (la7 p0 p1 p2 p3 p4 4 b532 key_) [(.int 7), (.int 6), (.ref b547), (.ref b547)])) rfl rfl (hb hby at_145)
            refine gob st570 ?_
            have z571 : n0 ≤ h570.size := Nat.le_trans z568 (Keep.of_wr W570).1
            have N570 := Fr.snoc X570 N567 g549
            have V570 : Arv Z h570 b547 k547 .int (16 : Int32) [(.int 0), (.int 1), (.int 1), (.int 5), (.int 1), (.int 1), (.int 7), (.int 0), (.int 0), (.int 0), (.int 0), (.int 0), (.int 0), (.int 0), (.int 0), (.int 0)] (.int 0) := Arv.set Ar569 aq569 S569 N569 H569 G569 rfl W570 6 rfl (Nat.le_of_ble_eq_true rfl)
            show gO (tF T570 m 146 (la7 p0 p1 p2 p3 p4 4 b532 key_) [(.ref b547)])
            refine gob (fun _ k => XS.dup X570.here hx rfl (hb hby at_146) rfl rfl k) ?_
            show gO (tF T570 m 147 (la7 p0 p1 p2 p3 p4 4 b532 key_) [(.ref b547), (.ref b547)])
            refine gob (fun _ k => XS.bipush X570.here hx rfl (hb hby at_147) k) ?_
            show gO (tF T570 m 149 (la7 p0 p1 p2 p3 p4 4 b532 key_) [(.int 7), (.ref b547), (.ref b547)])
            refine gob (fun _ k => XS.bipush X570.here hx rfl (hb hby at_149) k) ?_
            show gO (tF T570 m 151 (la7 p0 p1 p2 p3 p4 4 b532 key_) [(.int 23), (.int 7), (.ref b547), (.ref b547)])
            obtain ⟨cl572, Ar572, aq572, S572, N572, H572, G572⟩ := id V570
            have hin572 : ¬ ((7 : Int32) < 0 ∨ cl572.slots.size ≤ ((7 : Int32)).toNatClampNeg) := inb_of S572 ⟨by decide, by decide⟩
            obtain ⟨T573, h573, X573, e573, W573, st573⟩ := stI X570 hx hZ e570 Ar572 (j := (7 : Int32)) hin572 (g := (mkF m 151 (la7 p0 p1 p2 p3 p4 4 b532 key_) [(.int 23), (.int 7), (.ref b547), (.ref b547)])) rfl rfl (hb hby at_151)
            refine gob st573 ?_
            have z574 : n0 ≤ h573.size := Nat.le_trans z571 (Keep.of_wr W573).1
            have N573 := Fr.snoc X573 N570 g549
            have V573 : Arv Z h573 b547 k547 .int (16 : Int32) [(.int 0), (.int 1), (.int 1), (.int 5), (.int 1), (.int 1), (.int 7), (.int 23), (.int 0), (.int 0), (.int 0), (.int 0), (.int 0), (.int 0), (.int 0), (.int 0)] (.int 0) := Arv.set Ar572 aq572 S572 N572 H572 G572 rfl W573 7 rfl (Nat.le_of_ble_eq_true rfl)
            show gO (tF T573 m 152 (la7 p0 p1 p2 p3 p4 4 b532 key_) [(.ref b547)])
            refine gob (fun _ k => XS.dup X573.here hx rfl (hb hby at_152) rfl rfl k) ?_
            show gO (tF T573 m 153 (la7 p0 p1 p2 p3 p4 4 b532 key_) [(.ref b547), (.ref b547)])
            refine gob (fun _ k => XS.bipush X573.here hx rfl (hb hby at_153) k) ?_
            show gO (tF T573 m 155 (la7 p0 p1 p2 p3 p4 4 b532 key_) [(.int 8), (.ref b547), (.ref b547)])
            refine gob (fun _ k => XS.iconst X573.here hx rfl (hb hby at_155) k) ?_
            show gO (tF T573 m 156 (la7 p0 p1 p2 p3 p4 4 b532 key_) [(.int 1), (.int 8), (.ref b547), (.ref b547)])
            obtain ⟨cl575, Ar575, aq575, S575, N575, H575, G575⟩ := id V573
            have hin575 : ¬ ((8 : Int32) < 0 ∨ cl575.slots.size ≤ ((8 : Int32)).toNatClampNeg) := inb_of S575 ⟨by decide, by decide⟩
            obtain ⟨T576, h576, X576, e576, W576, st576⟩ := stI X573 hx hZ e573 Ar575 (j := (8 : Int32)) hin575 (g := (mkF m 156 (la7 p0 p1 p2 p3 p4 4 b532 key_) [(.int 1), (.int 8), (.ref b547), (.ref b547)])) rfl rfl (hb hby at_156)
            refine gob st576 ?_
            have z577 : n0 ≤ h576.size := Nat.le_trans z574 (Keep.of_wr W576).1
            have N576 := Fr.snoc X576 N573 g549
            have V576 : Arv Z h576 b547 k547 .int (16 : Int32) [(.int 0), (.int 1), (.int 1), (.int 5), (.int 1), (.int 1), (.int 7), (.int 23), (.int 1), (.int 0), (.int 0), (.int 0), (.int 0), (.int 0), (.int 0), (.int 0)] (.int 0) := Arv.set Ar575 aq575 S575 N575 H575 G575 rfl W576 8 rfl (Nat.le_of_ble_eq_true rfl)
            show gO (tF T576 m 157 (la7 p0 p1 p2 p3 p4 4 b532 key_) [(.ref b547)])
            refine gob (fun _ k => XS.dup X576.here hx rfl (hb hby at_157) rfl rfl k) ?_
            show gO (tF T576 m 158 (la7 p0 p1 p2 p3 p4 4 b532 key_) [(.ref b547), (.ref b547)])
            refine gob (fun _ k => XS.bipush X576.here hx rfl (hb hby at_158) k) ?_
            show gO (tF T576 m 160 (la7 p0 p1 p2 p3 p4 4 b532 key_) [(.int 9), (.ref b547), (.ref b547)])
            refine gob (fun _ k => XS.iconst X576.here hx rfl (hb hby at_160) k) ?_
            show gO (tF T576 m 161 (la7 p0 p1 p2 p3 p4 4 b532 key_) [(.int 3), (.int 9), (.ref b547), (.ref b547)])
            obtain ⟨cl578, Ar578, aq578, S578, N578, H578, G578⟩ := id V576
            have hin578 : ¬ ((9 : Int32) < 0 ∨ cl578.slots.size ≤ ((9 : Int32)).toNatClampNeg) := inb_of S578 ⟨by decide, by decide⟩
            obtain ⟨T579, h579, X579, e579, W579, st579⟩ := stI X576 hx hZ e576 Ar578 (j := (9 : Int32)) hin578 (g := (mkF m 161 (la7 p0 p1 p2 p3 p4 4 b532 key_) [(.int 3), (.int 9), (.ref b547), (.ref b547)])) rfl rfl (hb hby at_161)
            refine gob st579 ?_
            have z580 : n0 ≤ h579.size := Nat.le_trans z577 (Keep.of_wr W579).1
            have N579 := Fr.snoc X579 N576 g549
            have V579 : Arv Z h579 b547 k547 .int (16 : Int32) [(.int 0), (.int 1), (.int 1), (.int 5), (.int 1), (.int 1), (.int 7), (.int 23), (.int 1), (.int 3), (.int 0), (.int 0), (.int 0), (.int 0), (.int 0), (.int 0)] (.int 0) := Arv.set Ar578 aq578 S578 N578 H578 G578 rfl W579 9 rfl (Nat.le_of_ble_eq_true rfl)
            show gO (tF T579 m 162 (la7 p0 p1 p2 p3 p4 4 b532 key_) [(.ref b547)])
            refine gob (fun _ k => XS.dup X579.here hx rfl (hb hby at_162) rfl rfl k) ?_
            show gO (tF T579 m 163 (la7 p0 p1 p2 p3 p4 4 b532 key_) [(.ref b547), (.ref b547)])
            refine gob (fun _ k => XS.bipush X579.here hx rfl (hb hby at_163) k) ?_
            show gO (tF T579 m 165 (la7 p0 p1 p2 p3 p4 4 b532 key_) [(.int 10), (.ref b547), (.ref b547)])
            refine gob (fun _ k => XS.iconst X579.here hx rfl (hb hby at_165) k) ?_
            show gO (tF T579 m 166 (la7 p0 p1 p2 p3 p4 4 b532 key_) [(.int 5), (.int 10), (.ref b547), (.ref b547)])
            obtain ⟨cl581, Ar581, aq581, S581, N581, H581, G581⟩ := id V579
            have hin581 : ¬ ((10 : Int32) < 0 ∨ cl581.slots.size ≤ ((10 : Int32)).toNatClampNeg) := inb_of S581 ⟨by decide, by decide⟩
            obtain ⟨T582, h582, X582, e582, W582, st582⟩ := stI X579 hx hZ e579 Ar581 (j := (10 : Int32)) hin581 (g := (mkF m 166 (la7 p0 p1 p2 p3 p4 4 b532 key_) [(.int 5), (.int 10), (.ref b547), (.ref b547)])) rfl rfl (hb hby at_166)
            refine gob st582 ?_
            have z583 : n0 ≤ h582.size := Nat.le_trans z580 (Keep.of_wr W582).1
            have N582 := Fr.snoc X582 N579 g549
            have V582 : Arv Z h582 b547 k547 .int (16 : Int32) [(.int 0), (.int 1), (.int 1), (.int 5), (.int 1), (.int 1), (.int 7), (.int 23), (.int 1), (.int 3), (.int 5), (.int 0), (.int 0), (.int 0), (.int 0), (.int 0)] (.int 0) := Arv.set Ar581 aq581 S581 N581 H581 G581 rfl W582 10 rfl (Nat.le_of_ble_eq_true rfl)
            show gO (tF T582 m 167 (la7 p0 p1 p2 p3 p4 4 b532 key_) [(.ref b547)])
            refine gob (fun _ k => XS.dup X582.here hx rfl (hb hby at_167) rfl rfl k) ?_
            show gO (tF T582 m 168 (la7 p0 p1 p2 p3 p4 4 b532 key_) [(.ref b547), (.ref b547)])
            refine gob (fun _ k => XS.bipush X582.here hx rfl (hb hby at_168) k) ?_
            show gO (tF T582 m 170 (la7 p0 p1 p2 p3 p4 4 b532 key_) [(.int 11), (.ref b547), (.ref b547)])
            refine gob (fun _ k => XS.bipush X582.here hx rfl (hb hby at_170) k) ?_
            show gO (tF T582 m 172 (la7 p0 p1 p2 p3 p4 4 b532 key_) [(.int 29), (.int 11), (.ref b547), (.ref b547)])
            obtain ⟨cl584, Ar584, aq584, S584, N584, H584, G584⟩ := id V582
            have hin584 : ¬ ((11 : Int32) < 0 ∨ cl584.slots.size ≤ ((11 : Int32)).toNatClampNeg) := inb_of S584 ⟨by decide, by decide⟩
            obtain ⟨T585, h585, X585, e585, W585, st585⟩ := stI X582 hx hZ e582 Ar584 (j := (11 : Int32)) hin584 (g := (mkF m 172 (la7 p0 p1 p2 p3 p4 4 b532 key_) [(.int 29), (.int 11), (.ref b547), (.ref b547)])) rfl rfl (hb hby at_172)
            refine gob st585 ?_
            have z586 : n0 ≤ h585.size := Nat.le_trans z583 (Keep.of_wr W585).1
            have N585 := Fr.snoc X585 N582 g549
            have V585 : Arv Z h585 b547 k547 .int (16 : Int32) [(.int 0), (.int 1), (.int 1), (.int 5), (.int 1), (.int 1), (.int 7), (.int 23), (.int 1), (.int 3), (.int 5), (.int 29), (.int 0), (.int 0), (.int 0), (.int 0)] (.int 0) := Arv.set Ar584 aq584 S584 N584 H584 G584 rfl W585 11 rfl (Nat.le_of_ble_eq_true rfl)
            show gO (tF T585 m 173 (la7 p0 p1 p2 p3 p4 4 b532 key_) [(.ref b547)])
            refine gob (fun _ k => XS.dup X585.here hx rfl (hb hby at_173) rfl rfl k) ?_
            show gO (tF T585 m 174 (la7 p0 p1 p2 p3 p4 4 b532 key_) [(.ref b547), (.ref b547)])
            refine gob (fun _ k => XS.bipush X585.here hx rfl (hb hby at_174) k) ?_
            show gO (tF T585 m 176 (la7 p0 p1 p2 p3 p4 4 b532 key_) [(.int 12), (.ref b547), (.ref b547)])
            refine gob (fun _ k => XS.iconst X585.here hx rfl (hb hby at_176) k) ?_
            show gO (tF T585 m 177 (la7 p0 p1 p2 p3 p4 4 b532 key_) [(.int 1), (.int 12), (.ref b547), (.ref b547)])
            obtain ⟨cl587, Ar587, aq587, S587, N587, H587, G587⟩ := id V585
            have hin587 : ¬ ((12 : Int32) < 0 ∨ cl587.slots.size ≤ ((12 : Int32)).toNatClampNeg) := inb_of S587 ⟨by decide, by decide⟩
            obtain ⟨T588, h588, X588, e588, W588, st588⟩ := stI X585 hx hZ e585 Ar587 (j := (12 : Int32)) hin587 (g := (mkF m 177 (la7 p0 p1 p2 p3 p4 4 b532 key_) [(.int 1), (.int 12), (.ref b547), (.ref b547)])) rfl rfl (hb hby at_177)
            refine gob st588 ?_
            have z589 : n0 ≤ h588.size := Nat.le_trans z586 (Keep.of_wr W588).1
            have N588 := Fr.snoc X588 N585 g549
            have V588 : Arv Z h588 b547 k547 .int (16 : Int32) [(.int 0), (.int 1), (.int 1), (.int 5), (.int 1), (.int 1), (.int 7), (.int 23), (.int 1), (.int 3), (.int 5), (.int 29), (.int 1), (.int 0), (.int 0), (.int 0)] (.int 0) := Arv.set Ar587 aq587 S587 N587 H587 G587 rfl W588 12 rfl (Nat.le_of_ble_eq_true rfl)
            show gO (tF T588 m 178 (la7 p0 p1 p2 p3 p4 4 b532 key_) [(.ref b547)])
            refine gob (fun _ k => XS.dup X588.here hx rfl (hb hby at_178) rfl rfl k) ?_
            show gO (tF T588 m 179 (la7 p0 p1 p2 p3 p4 4 b532 key_) [(.ref b547), (.ref b547)])
            refine gob (fun _ k => XS.bipush X588.here hx rfl (hb hby at_179) k) ?_
            show gO (tF T588 m 181 (la7 p0 p1 p2 p3 p4 4 b532 key_) [(.int 13), (.ref b547), (.ref b547)])
            refine gob (fun _ k => XS.bipush X588.here hx rfl (hb hby at_181) k) ?_
            show gO (tF T588 m 183 (la7 p0 p1 p2 p3 p4 4 b532 key_) [(.int 11), (.int 13), (.ref b547), (.ref b547)])
            obtain ⟨cl590, Ar590, aq590, S590, N590, H590, G590⟩ := id V588
            have hin590 : ¬ ((13 : Int32) < 0 ∨ cl590.slots.size ≤ ((13 : Int32)).toNatClampNeg) := inb_of S590 ⟨by decide, by decide⟩
            obtain ⟨T591, h591, X591, e591, W591, st591⟩ := stI X588 hx hZ e588 Ar590 (j := (13 : Int32)) hin590 (g := (mkF m 183 (la7 p0 p1 p2 p3 p4 4 b532 key_) [(.int 11), (.int 13), (.ref b547), (.ref b547)])) rfl rfl (hb hby at_183)
            refine gob st591 ?_
            have z592 : n0 ≤ h591.size := Nat.le_trans z589 (Keep.of_wr W591).1
            have N591 := Fr.snoc X591 N588 g549
            have V591 : Arv Z h591 b547 k547 .int (16 : Int32) [(.int 0), (.int 1), (.int 1), (.int 5), (.int 1), (.int 1), (.int 7), (.int 23), (.int 1), (.int 3), (.int 5), (.int 29), (.int 1), (.int 11), (.int 0), (.int 0)] (.int 0) := Arv.set Ar590 aq590 S590 N590 H590 G590 rfl W591 13 rfl (Nat.le_of_ble_eq_true rfl)
            show gO (tF T591 m 184 (la7 p0 p1 p2 p3 p4 4 b532 key_) [(.ref b547)])
            refine gob (fun _ k => XS.dup X591.here hx rfl (hb hby at_184) rfl rfl k) ?_
            show gO (tF T591 m 185 (la7 p0 p1 p2 p3 p4 4 b532 key_) [(.ref b547), (.ref b547)])
            refine gob (fun _ k => XS.bipush X591.here hx rfl (hb hby at_185) k) ?_
            show gO (tF T591 m 187 (la7 p0 p1 p2 p3 p4 4 b532 key_) [(.int 14), (.ref b547), (.ref b547)])
            refine gob (fun _ k => XS.iconst X591.here hx rfl (hb hby at_187) k) ?_
            show gO (tF T591 m 188 (la7 p0 p1 p2 p3 p4 4 b532 key_) [(.int 1), (.int 14), (.ref b547), (.ref b547)])
            obtain ⟨cl593, Ar593, aq593, S593, N593, H593, G593⟩ := id V591
            have hin593 : ¬ ((14 : Int32) < 0 ∨ cl593.slots.size ≤ ((14 : Int32)).toNatClampNeg) := inb_of S593 ⟨by decide, by decide⟩
            obtain ⟨T594, h594, X594, e594, W594, st594⟩ := stI X591 hx hZ e591 Ar593 (j := (14 : Int32)) hin593 (g := (mkF m 188 (la7 p0 p1 p2 p3 p4 4 b532 key_) [(.int 1), (.int 14), (.ref b547), (.ref b547)])) rfl rfl (hb hby at_188)
            refine gob st594 ?_
            have z595 : n0 ≤ h594.size := Nat.le_trans z592 (Keep.of_wr W594).1
            have N594 := Fr.snoc X594 N591 g549
            have V594 : Arv Z h594 b547 k547 .int (16 : Int32) [(.int 0), (.int 1), (.int 1), (.int 5), (.int 1), (.int 1), (.int 7), (.int 23), (.int 1), (.int 3), (.int 5), (.int 29), (.int 1), (.int 11), (.int 1), (.int 0)] (.int 0) := Arv.set Ar593 aq593 S593 N593 H593 G593 rfl W594 14 rfl (Nat.le_of_ble_eq_true rfl)
            show gO (tF T594 m 189 (la7 p0 p1 p2 p3 p4 4 b532 key_) [(.ref b547)])
            refine gob (fun _ k => XS.dup X594.here hx rfl (hb hby at_189) rfl rfl k) ?_
            show gO (tF T594 m 190 (la7 p0 p1 p2 p3 p4 4 b532 key_) [(.ref b547), (.ref b547)])
            refine gob (fun _ k => XS.bipush X594.here hx rfl (hb hby at_190) k) ?_
            show gO (tF T594 m 192 (la7 p0 p1 p2 p3 p4 4 b532 key_) [(.int 15), (.ref b547), (.ref b547)])
            refine gob (fun _ k => XS.iconst X594.here hx rfl (hb hby at_192) k) ?_
            show gO (tF T594 m 193 (la7 p0 p1 p2 p3 p4 4 b532 key_) [(.int 1), (.int 15), (.ref b547), (.ref b547)])
            obtain ⟨cl596, Ar596, aq596, S596, N596, H596, G596⟩ := id V594
            have hin596 : ¬ ((15 : Int32) < 0 ∨ cl596.slots.size ≤ ((15 : Int32)).toNatClampNeg) := inb_of S596 ⟨by decide, by decide⟩
            obtain ⟨T597, h597, X597, e597, W597, st597⟩ := stI X594 hx hZ e594 Ar596 (j := (15 : Int32)) hin596 (g := (mkF m 193 (la7 p0 p1 p2 p3 p4 4 b532 key_) [(.int 1), (.int 15), (.ref b547), (.ref b547)])) rfl rfl (hb hby at_193)
            refine gob st597 ?_
            have z598 : n0 ≤ h597.size := Nat.le_trans z595 (Keep.of_wr W597).1
            have N597 := Fr.snoc X597 N594 g549
            have V597 : Arv Z h597 b547 k547 .int (16 : Int32) [(.int 0), (.int 1), (.int 1), (.int 5), (.int 1), (.int 1), (.int 7), (.int 23), (.int 1), (.int 3), (.int 5), (.int 29), (.int 1), (.int 11), (.int 1), (.int 1)] (.int 0) := Arv.set Ar596 aq596 S596 N596 H596 G596 rfl W597 15 rfl (Nat.le_of_ble_eq_true rfl)
            show gO (tF T597 m 194 (la7 p0 p1 p2 p3 p4 4 b532 key_) [(.ref b547)])
            refine gob (fun _ k => XS.astore X597.here hx rfl (hb hby at_194) rfl rfl (l' := (la9 p0 p1 p2 p3 p4 4 b532 key_ b547)) rfl k) ?_
            show gO (tF T597 m 196 (la9 p0 p1 p2 p3 p4 4 b532 key_ b547) [])
            refine gob (fun _ k => XS.bipush X597.here hx rfl (hb hby at_196) k) ?_
            show gO (tF T597 m 198 (la9 p0 p1 p2 p3 p4 4 b532 key_ b547) [(.int 16)])
            obtain ⟨T599, h599, k599, X599, e599, E599, A599, st599⟩ := newP X597 hx hZ (hW hw 1 rfl) e597 (g := (mkF m 198 (la9 p0 p1 p2 p3 p4 4 b532 key_ b547) [(.int 16)])) rfl (hb hby at_198) rfl (by decide) (cap := 16) (by decide) (by decide) (by decide) (by decide)
            obtain ⟨b599, g599⟩ : ∃ z, z = h597.size := ⟨_, rfl⟩
            rw [← g599] at A599 st599
            have c600 := (((((((((((((((((V545.ext E547).other W552 n548).other W555 n548).other W558 n548).other W561 n548).other W564 n548).other W567 n548).other W570 n548).other W573 n548).other W576 n548).other W579 n548).other W582 n548).other W585 n548).other W588 n548).other W591 n548).other W594 n548).other W597 n548)
            have n601 : b532 ≠ b599 := Nat.ne_of_lt (Nat.lt_of_lt_of_le c600.lt (Nat.le_of_eq g599.symm))
            have n602 : b547 ≠ b599 := Nat.ne_of_lt (Nat.lt_of_lt_of_le V597.lt (Nat.le_of_eq g599.symm))
            have g603 : n0 ≤ b599 := Nat.le_trans z598 (Nat.le_of_eq g599.symm)
            have z604 : n0 ≤ h599.size := Nat.le_trans z598 E599.1
            have V599 : Arv Z h599 b599 k599 .int (16 : Int32) [(.int 0), (.int 0), (.int 0), (.int 0), (.int 0), (.int 0), (.int 0), (.int 0), (.int 0), (.int 0), (.int 0), (.int 0), (.int 0), (.int 0), (.int 0), (.int 0)] (.int 0) := (Arv.new A599 (by decide)).pad (pad_rep [] (.int 0) 16)
            refine gob st599 ?_
            replace X599 := castX X599 (rfl : _ = 3) (rfl : _ = 36)
            show gO (tF T599 m 200 (la9 p0 p1 p2 p3 p4 4 b532 key_ b547) [(.ref b599)])
            refine gob (fun _ k => XS.dup X599.here hx rfl (hb hby at_200) rfl rfl k) ?_
            show gO (tF T599 m 201 (la9 p0 p1 p2 p3 p4 4 b532 key_ b547) [(.ref b599), (.ref b599)])
            refine gob (fun _ k => XS.iconst X599.here hx rfl (hb hby at_201) k) ?_
            show gO (tF T599 m 202 (la9 p0 p1 p2 p3 p4 4 b532 key_ b547) [(.int 0), (.ref b599), (.ref b599)])
            refine gob (fun _ k => XS.iconst X599.here hx rfl (hb hby at_202) k) ?_
            show gO (tF T599 m 203 (la9 p0 p1 p2 p3 p4 4 b532 key_ b547) [(.int 1), (.int 0), (.ref b599), (.ref b599)])
            obtain ⟨cl605, Ar605, aq605, S605, N605, H605, G605⟩ := id V599
            have hin605 : ¬ ((0 : Int32) < 0 ∨ cl605.slots.size ≤ ((0 : Int32)).toNatClampNeg) := inb_of S605 ⟨by decide, by decide⟩
            obtain ⟨T606, h606, X606, e606, W606, st606⟩ := stI X599 hx hZ e599 Ar605 (j := (0 : Int32)) hin605 (g := (mkF m 203 (la9 p0 p1 p2 p3 p4 4 b532 key_ b547) [(.int 1), (.int 0), (.ref b599), (.ref b599)])) rfl rfl (hb hby at_203)
            refine gob st606 ?_
            have z607 : n0 ≤ h606.size := Nat.le_trans z604 (Keep.of_wr W606).1
            have N606 := Fr.snoc X606 N597 g603
            have V606 : Arv Z h606 b599 k599 .int (16 : Int32) [(.int 1), (.int 0), (.int 0), (.int 0), (.int 0), (.int 0), (.int 0), (.int 0), (.int 0), (.int 0), (.int 0), (.int 0), (.int 0), (.int 0), (.int 0), (.int 0)] (.int 0) := Arv.set Ar605 aq605 S605 N605 H605 G605 rfl W606 0 rfl (Nat.le_of_ble_eq_true rfl)
            show gO (tF T606 m 204 (la9 p0 p1 p2 p3 p4 4 b532 key_ b547) [(.ref b599)])
            refine gob (fun _ k => XS.dup X606.here hx rfl (hb hby at_204) rfl rfl k) ?_
            show gO (tF T606 m 205 (la9 p0 p1 p2 p3 p4 4 b532 key_ b547) [(.ref b599), (.ref b599)])
            refine gob (fun _ k => XS.iconst X606.here hx rfl (hb hby at_205) k) ?_
            show gO (tF T606 m 206 (la9 p0 p1 p2 p3 p4 4 b532 key_ b547) [(.int 1), (.ref b599), (.ref b599)])
            refine gob (fun _ k => XS.iconst X606.here hx rfl (hb hby at_206) k) ?_
            show gO (tF T606 m 207 (la9 p0 p1 p2 p3 p4 4 b532 key_ b547) [(.int 4), (.int 1), (.ref b599), (.ref b599)])
            obtain ⟨cl608, Ar608, aq608, S608, N608, H608, G608⟩ := id V606
            have hin608 : ¬ ((1 : Int32) < 0 ∨ cl608.slots.size ≤ ((1 : Int32)).toNatClampNeg) := inb_of S608 ⟨by decide, by decide⟩
            obtain ⟨T609, h609, X609, e609, W609, st609⟩ := stI X606 hx hZ e606 Ar608 (j := (1 : Int32)) hin608 (g := (mkF m 207 (la9 p0 p1 p2 p3 p4 4 b532 key_ b547) [(.int 4), (.int 1), (.ref b599), (.ref b599)])) rfl rfl (hb hby at_207)
            refine gob st609 ?_
            have z610 : n0 ≤ h609.size := Nat.le_trans z607 (Keep.of_wr W609).1
            have N609 := Fr.snoc X609 N606 g603
            have V609 : Arv Z h609 b599 k599 .int (16 : Int32) [(.int 1), (.int 4), (.int 0), (.int 0), (.int 0), (.int 0), (.int 0), (.int 0), (.int 0), (.int 0), (.int 0), (.int 0), (.int 0), (.int 0), (.int 0), (.int 0)] (.int 0) := Arv.set Ar608 aq608 S608 N608 H608 G608 rfl W609 1 rfl (Nat.le_of_ble_eq_true rfl)
            show gO (tF T609 m 208 (la9 p0 p1 p2 p3 p4 4 b532 key_ b547) [(.ref b599)])
            refine gob (fun _ k => XS.dup X609.here hx rfl (hb hby at_208) rfl rfl k) ?_
            show gO (tF T609 m 209 (la9 p0 p1 p2 p3 p4 4 b532 key_ b547) [(.ref b599), (.ref b599)])
            refine gob (fun _ k => XS.iconst X609.here hx rfl (hb hby at_209) k) ?_
            show gO (tF T609 m 210 (la9 p0 p1 p2 p3 p4 4 b532 key_ b547) [(.int 2), (.ref b599), (.ref b599)])
            refine gob (fun _ k => XS.iconst X609.here hx rfl (hb hby at_210) k) ?_
            show gO (tF T609 m 211 (la9 p0 p1 p2 p3 p4 4 b532 key_ b547) [(.int 3), (.int 2), (.ref b599), (.ref b599)])
            obtain ⟨cl611, Ar611, aq611, S611, N611, H611, G611⟩ := id V609
            have hin611 : ¬ ((2 : Int32) < 0 ∨ cl611.slots.size ≤ ((2 : Int32)).toNatClampNeg) := inb_of S611 ⟨by decide, by decide⟩
            obtain ⟨T612, h612, X612, e612, W612, st612⟩ := stI X609 hx hZ e609 Ar611 (j := (2 : Int32)) hin611 (g := (mkF m 211 (la9 p0 p1 p2 p3 p4 4 b532 key_ b547) [(.int 3), (.int 2), (.ref b599), (.ref b599)])) rfl rfl (hb hby at_211)
            refine gob st612 ?_
            have z613 : n0 ≤ h612.size := Nat.le_trans z610 (Keep.of_wr W612).1
            have N612 := Fr.snoc X612 N609 g603
            have V612 : Arv Z h612 b599 k599 .int (16 : Int32) [(.int 1), (.int 4), (.int 3), (.int 0), (.int 0), (.int 0), (.int 0), (.int 0), (.int 0), (.int 0), (.int 0), (.int 0), (.int 0), (.int 0), (.int 0), (.int 0)] (.int 0) := Arv.set Ar611 aq611 S611 N611 H611 G611 rfl W612 2 rfl (Nat.le_of_ble_eq_true rfl)
            show gO (tF T612 m 212 (la9 p0 p1 p2 p3 p4 4 b532 key_ b547) [(.ref b599)])
            refine gob (fun _ k => XS.dup X612.here hx rfl (hb hby at_212) rfl rfl k) ?_
            show gO (tF T612 m 213 (la9 p0 p1 p2 p3 p4 4 b532 key_ b547) [(.ref b599), (.ref b599)])
            refine gob (fun _ k => XS.iconst X612.here hx rfl (hb hby at_213) k) ?_
            show gO (tF T612 m 214 (la9 p0 p1 p2 p3 p4 4 b532 key_ b547) [(.int 3), (.ref b599), (.ref b599)])
            refine gob (fun _ k => XS.bipush X612.here hx rfl (hb hby at_214) k) ?_
            show gO (tF T612 m 216 (la9 p0 p1 p2 p3 p4 4 b532 key_ b547) [(.int 12), (.int 3), (.ref b599), (.ref b599)])
            obtain ⟨cl614, Ar614, aq614, S614, N614, H614, G614⟩ := id V612
            have hin614 : ¬ ((3 : Int32) < 0 ∨ cl614.slots.size ≤ ((3 : Int32)).toNatClampNeg) := inb_of S614 ⟨by decide, by decide⟩
            obtain ⟨T615, h615, X615, e615, W615, st615⟩ := stI X612 hx hZ e612 Ar614 (j := (3 : Int32)) hin614 (g := (mkF m 216 (la9 p0 p1 p2 p3 p4 4 b532 key_ b547) [(.int 12), (.int 3), (.ref b599), (.ref b599)])) rfl rfl (hb hby at_216)
            refine gob st615 ?_
            have z616 : n0 ≤ h615.size := Nat.le_trans z613 (Keep.of_wr W615).1
            have N615 := Fr.snoc X615 N612 g603
            have V615 : Arv Z h615 b599 k599 .int (16 : Int32) [(.int 1), (.int 4), (.int 3), (.int 12), (.int 0), (.int 0), (.int 0), (.int 0), (.int 0), (.int 0), (.int 0), (.int 0), (.int 0), (.int 0), (.int 0), (.int 0)] (.int 0) := Arv.set Ar614 aq614 S614 N614 H614 G614 rfl W615 3 rfl (Nat.le_of_ble_eq_true rfl)
            show gO (tF T615 m 217 (la9 p0 p1 p2 p3 p4 4 b532 key_ b547) [(.ref b599)])
            refine gob (fun _ k => XS.dup X615.here hx rfl (hb hby at_217) rfl rfl k) ?_
            show gO (tF T615 m 218 (la9 p0 p1 p2 p3 p4 4 b532 key_ b547) [(.ref b599), (.ref b599)])
            refine gob (fun _ k => XS.iconst X615.here hx rfl (hb hby at_218) k) ?_
            show gO (tF T615 m 219 (la9 p0 p1 p2 p3 p4 4 b532 key_ b547) [(.int 4), (.ref b599), (.ref b599)])
            refine gob (fun _ k => XS.iconst X615.here hx rfl (hb hby at_219) k) ?_
            show gO (tF T615 m 220 (la9 p0 p1 p2 p3 p4 4 b532 key_ b547) [(.int 2), (.int 4), (.ref b599), (.ref b599)])
            obtain ⟨cl617, Ar617, aq617, S617, N617, H617, G617⟩ := id V615
            have hin617 : ¬ ((4 : Int32) < 0 ∨ cl617.slots.size ≤ ((4 : Int32)).toNatClampNeg) := inb_of S617 ⟨by decide, by decide⟩
            obtain ⟨T618, h618, X618, e618, W618, st618⟩ := stI X615 hx hZ e615 Ar617 (j := (4 : Int32)) hin617 (g := (mkF m 220 (la9 p0 p1 p2 p3 p4 4 b532 key_ b547) [(.int 2), (.int 4), (.ref b599), (.ref b599)])) rfl rfl (hb hby at_220)
            refine gob st618 ?_
            have z619 : n0 ≤ h618.size := Nat.le_trans z616 (Keep.of_wr W618).1
            have N618 := Fr.snoc X618 N615 g603
            have V618 : Arv Z h618 b599 k599 .int (16 : Int32) [(.int 1), (.int 4), (.int 3), (.int 12), (.int 2), (.int 0), (.int 0), (.int 0), (.int 0), (.int 0), (.int 0), (.int 0), (.int 0), (.int 0), (.int 0), (.int 0)] (.int 0) := Arv.set Ar617 aq617 S617 N617 H617 G617 rfl W618 4 rfl (Nat.le_of_ble_eq_true rfl)
            show gO (tF T618 m 221 (la9 p0 p1 p2 p3 p4 4 b532 key_ b547) [(.ref b599)])
            refine gob (fun _ k => XS.dup X618.here hx rfl (hb hby at_221) rfl rfl k) ?_
            show gO (tF T618 m 222 (la9 p0 p1 p2 p3 p4 4 b532 key_ b547) [(.ref b599), (.ref b599)])
            refine gob (fun _ k => XS.iconst X618.here hx rfl (hb hby at_222) k) ?_
            show gO (tF T618 m 223 (la9 p0 p1 p2 p3 p4 4 b532 key_ b547) [(.int 5), (.ref b599), (.ref b599)])
            refine gob (fun _ k => XS.iconst X618.here hx rfl (hb hby at_223) k) ?_
            show gO (tF T618 m 224 (la9 p0 p1 p2 p3 p4 4 b532 key_ b547) [(.int 2), (.int 5), (.ref b599), (.ref b599)])
            obtain ⟨cl620, Ar620, aq620, S620, N620, H620, G620⟩ := id V618
            have hin620 : ¬ ((5 : Int32) < 0 ∨ cl620.slots.size ≤ ((5 : Int32)).toNatClampNeg) := inb_of S620 ⟨by decide, by decide⟩
            obtain ⟨T621, h621, X621, e621, W621, st621⟩ := stI X618 hx hZ e618 Ar620 (j := (5 : Int32)) hin620 (g := (mkF m 224 (la9 p0 p1 p2 p3 p4 4 b532 key_ b547) [(.int 2), (.int 5), (.ref b599), (.ref b599)])) rfl rfl (hb hby at_224)
            refine gob st621 ?_
            have z622 : n0 ≤ h621.size := Nat.le_trans z619 (Keep.of_wr W621).1
            have N621 := Fr.snoc X621 N618 g603
            have V621 : Arv Z h621 b599 k599 .int (16 : Int32) [(.int 1), (.int 4), (.int 3), (.int 12), (.int 2), (.int 2), (.int 0), (.int 0), (.int 0), (.int 0), (.int 0), (.int 0), (.int 0), (.int 0), (.int 0), (.int 0)] (.int 0) := Arv.set Ar620 aq620 S620 N620 H620 G620 rfl W621 5 rfl (Nat.le_of_ble_eq_true rfl)
            show gO (tF T621 m 225 (la9 p0 p1 p2 p3 p4 4 b532 key_ b547) [(.ref b599)])
            refine gob (fun _ k => XS.dup X621.here hx rfl (hb hby at_225) rfl rfl k) ?_
            show gO (tF T621 m 226 (la9 p0 p1 p2 p3 p4 4 b532 key_ b547) [(.ref b599), (.ref b599)])
            refine gob (fun _ k => XS.bipush X621.here hx rfl (hb hby at_226) k) ?_
            show gO (tF T621 m 228 (la9 p0 p1 p2 p3 p4 4 b532 key_ b547) [(.int 6), (.ref b599), (.ref b599)])
            refine gob (fun _ k => XS.bipush X621.here hx rfl (hb hby at_228) k) ?_
            show gO (tF T621 m 230 (la9 p0 p1 p2 p3 p4 4 b532 key_ b547) [(.int 12), (.int 6), (.ref b599), (.ref b599)])
            obtain ⟨cl623, Ar623, aq623, S623, N623, H623, G623⟩ := id V621
            have hin623 : ¬ ((6 : Int32) < 0 ∨ cl623.slots.size ≤ ((6 : Int32)).toNatClampNeg) := inb_of S623 ⟨by decide, by decide⟩
            obtain ⟨T624, h624, X624, e624, W624, st624⟩ := stI X621 hx hZ e621 Ar623 (j := (6 : Int32)) hin623 (g := (mkF m 230 (la9 p0 p1 p2 p3 p4 4 b532 key_ b547) [(.int 12), (.int 6), (.ref b599), (.ref b599)])) rfl rfl (hb hby at_230)
            refine gob st624 ?_
            have z625 : n0 ≤ h624.size := Nat.le_trans z622 (Keep.of_wr W624).1
            have N624 := Fr.snoc X624 N621 g603
            have V624 : Arv Z h624 b599 k599 .int (16 : Int32) [(.int 1), (.int 4), (.int 3), (.int 12), (.int 2), (.int 2), (.int 12), (.int 0), (.int 0), (.int 0), (.int 0), (.int 0), (.int 0), (.int 0), (.int 0), (.int 0)] (.int 0) := Arv.set Ar623 aq623 S623 N623 H623 G623 rfl W624 6 rfl (Nat.le_of_ble_eq_true rfl)
            show gO (tF T624 m 231 (la9 p0 p1 p2 p3 p4 4 b532 key_ b547) [(.ref b599)])
            refine gob (fun _ k => XS.dup X624.here hx rfl (hb hby at_231) rfl rfl k) ?_
            show gO (tF T624 m 232 (la9 p0 p1 p2 p3 p4 4 b532 key_ b547) [(.ref b599), (.ref b599)])
            refine gob (fun _ k => XS.bipush X624.here hx rfl (hb hby at_232) k) ?_
            show gO (tF T624 m 234 (la9 p0 p1 p2 p3 p4 4 b532 key_ b547) [(.int 7), (.ref b599), (.ref b599)])
            refine gob (fun _ k => XS.bipush X624.here hx rfl (hb hby at_234) k) ?_
            show gO (tF T624 m 236 (la9 p0 p1 p2 p3 p4 4 b532 key_ b547) [(.int 36), (.int 7), (.ref b599), (.ref b599)])
            obtain ⟨cl626, Ar626, aq626, S626, N626, H626, G626⟩ := id V624
            have hin626 : ¬ ((7 : Int32) < 0 ∨ cl626.slots.size ≤ ((7 : Int32)).toNatClampNeg) := inb_of S626 ⟨by decide, by decide⟩
            obtain ⟨T627, h627, X627, e627, W627, st627⟩ := stI X624 hx hZ e624 Ar626 (j := (7 : Int32)) hin626 (g := (mkF m 236 (la9 p0 p1 p2 p3 p4 4 b532 key_ b547) [(.int 36), (.int 7), (.ref b599), (.ref b599)])) rfl rfl (hb hby at_236)
            refine gob st627 ?_
            have z628 : n0 ≤ h627.size := Nat.le_trans z625 (Keep.of_wr W627).1
            have N627 := Fr.snoc X627 N624 g603
            have V627 : Arv Z h627 b599 k599 .int (16 : Int32) [(.int 1), (.int 4), (.int 3), (.int 12), (.int 2), (.int 2), (.int 12), (.int 36), (.int 0), (.int 0), (.int 0), (.int 0), (.int 0), (.int 0), (.int 0), (.int 0)] (.int 0) := Arv.set Ar626 aq626 S626 N626 H626 G626 rfl W627 7 rfl (Nat.le_of_ble_eq_true rfl)
            show gO (tF T627 m 237 (la9 p0 p1 p2 p3 p4 4 b532 key_ b547) [(.ref b599)])
            refine gob (fun _ k => XS.dup X627.here hx rfl (hb hby at_237) rfl rfl k) ?_
            show gO (tF T627 m 238 (la9 p0 p1 p2 p3 p4 4 b532 key_ b547) [(.ref b599), (.ref b599)])
            refine gob (fun _ k => XS.bipush X627.here hx rfl (hb hby at_238) k) ?_
            show gO (tF T627 m 240 (la9 p0 p1 p2 p3 p4 4 b532 key_ b547) [(.int 8), (.ref b599), (.ref b599)])
            refine gob (fun _ k => XS.iconst X627.here hx rfl (hb hby at_240) k) ?_
            show gO (tF T627 m 241 (la9 p0 p1 p2 p3 p4 4 b532 key_ b547) [(.int 1), (.int 8), (.ref b599), (.ref b599)])
            obtain ⟨cl629, Ar629, aq629, S629, N629, H629, G629⟩ := id V627
            have hin629 : ¬ ((8 : Int32) < 0 ∨ cl629.slots.size ≤ ((8 : Int32)).toNatClampNeg) := inb_of S629 ⟨by decide, by decide⟩
            obtain ⟨T630, h630, X630, e630, W630, st630⟩ := stI X627 hx hZ e627 Ar629 (j := (8 : Int32)) hin629 (g := (mkF m 241 (la9 p0 p1 p2 p3 p4 4 b532 key_ b547) [(.int 1), (.int 8), (.ref b599), (.ref b599)])) rfl rfl (hb hby at_241)
            refine gob st630 ?_
            have z631 : n0 ≤ h630.size := Nat.le_trans z628 (Keep.of_wr W630).1
            have N630 := Fr.snoc X630 N627 g603
            have V630 : Arv Z h630 b599 k599 .int (16 : Int32) [(.int 1), (.int 4), (.int 3), (.int 12), (.int 2), (.int 2), (.int 12), (.int 36), (.int 1), (.int 0), (.int 0), (.int 0), (.int 0), (.int 0), (.int 0), (.int 0)] (.int 0) := Arv.set Ar629 aq629 S629 N629 H629 G629 rfl W630 8 rfl (Nat.le_of_ble_eq_true rfl)
            show gO (tF T630 m 242 (la9 p0 p1 p2 p3 p4 4 b532 key_ b547) [(.ref b599)])
            refine gob (fun _ k => XS.dup X630.here hx rfl (hb hby at_242) rfl rfl k) ?_
            show gO (tF T630 m 243 (la9 p0 p1 p2 p3 p4 4 b532 key_ b547) [(.ref b599), (.ref b599)])
            refine gob (fun _ k => XS.bipush X630.here hx rfl (hb hby at_243) k) ?_
            show gO (tF T630 m 245 (la9 p0 p1 p2 p3 p4 4 b532 key_ b547) [(.int 9), (.ref b599), (.ref b599)])
            refine gob (fun _ k => XS.iconst X630.here hx rfl (hb hby at_245) k) ?_
            show gO (tF T630 m 246 (la9 p0 p1 p2 p3 p4 4 b532 key_ b547) [(.int 4), (.int 9), (.ref b599), (.ref b599)])
            obtain ⟨cl632, Ar632, aq632, S632, N632, H632, G632⟩ := id V630
            have hin632 : ¬ ((9 : Int32) < 0 ∨ cl632.slots.size ≤ ((9 : Int32)).toNatClampNeg) := inb_of S632 ⟨by decide, by decide⟩
            obtain ⟨T633, h633, X633, e633, W633, st633⟩ := stI X630 hx hZ e630 Ar632 (j := (9 : Int32)) hin632 (g := (mkF m 246 (la9 p0 p1 p2 p3 p4 4 b532 key_ b547) [(.int 4), (.int 9), (.ref b599), (.ref b599)])) rfl rfl (hb hby at_246)
            refine gob st633 ?_
            have z634 : n0 ≤ h633.size := Nat.le_trans z631 (Keep.of_wr W633).1
            have N633 := Fr.snoc X633 N630 g603
            have V633 : Arv Z h633 b599 k599 .int (16 : Int32) [(.int 1), (.int 4), (.int 3), (.int 12), (.int 2), (.int 2), (.int 12), (.int 36), (.int 1), (.int 4), (.int 0), (.int 0), (.int 0), (.int 0), (.int 0), (.int 0)] (.int 0) := Arv.set Ar632 aq632 S632 N632 H632 G632 rfl W633 9 rfl (Nat.le_of_ble_eq_true rfl)
            show gO (tF T633 m 247 (la9 p0 p1 p2 p3 p4 4 b532 key_ b547) [(.ref b599)])
            refine gob (fun _ k => XS.dup X633.here hx rfl (hb hby at_247) rfl rfl k) ?_
            show gO (tF T633 m 248 (la9 p0 p1 p2 p3 p4 4 b532 key_ b547) [(.ref b599), (.ref b599)])
            refine gob (fun _ k => XS.bipush X633.here hx rfl (hb hby at_248) k) ?_
            show gO (tF T633 m 250 (la9 p0 p1 p2 p3 p4 4 b532 key_ b547) [(.int 10), (.ref b599), (.ref b599)])
            refine gob (fun _ k => XS.bipush X633.here hx rfl (hb hby at_250) k) ?_
            show gO (tF T633 m 252 (la9 p0 p1 p2 p3 p4 4 b532 key_ b547) [(.int 6), (.int 10), (.ref b599), (.ref b599)])
            obtain ⟨cl635, Ar635, aq635, S635, N635, H635, G635⟩ := id V633
            have hin635 : ¬ ((10 : Int32) < 0 ∨ cl635.slots.size ≤ ((10 : Int32)).toNatClampNeg) := inb_of S635 ⟨by decide, by decide⟩
            obtain ⟨T636, h636, X636, e636, W636, st636⟩ := stI X633 hx hZ e633 Ar635 (j := (10 : Int32)) hin635 (g := (mkF m 252 (la9 p0 p1 p2 p3 p4 4 b532 key_ b547) [(.int 6), (.int 10), (.ref b599), (.ref b599)])) rfl rfl (hb hby at_252)
            refine gob st636 ?_
            have z637 : n0 ≤ h636.size := Nat.le_trans z634 (Keep.of_wr W636).1
            have N636 := Fr.snoc X636 N633 g603
            have V636 : Arv Z h636 b599 k599 .int (16 : Int32) [(.int 1), (.int 4), (.int 3), (.int 12), (.int 2), (.int 2), (.int 12), (.int 36), (.int 1), (.int 4), (.int 6), (.int 0), (.int 0), (.int 0), (.int 0), (.int 0)] (.int 0) := Arv.set Ar635 aq635 S635 N635 H635 G635 rfl W636 10 rfl (Nat.le_of_ble_eq_true rfl)
            show gO (tF T636 m 253 (la9 p0 p1 p2 p3 p4 4 b532 key_ b547) [(.ref b599)])
            refine gob (fun _ k => XS.dup X636.here hx rfl (hb hby at_253) rfl rfl k) ?_
            show gO (tF T636 m 254 (la9 p0 p1 p2 p3 p4 4 b532 key_ b547) [(.ref b599), (.ref b599)])
            refine gob (fun _ k => XS.bipush X636.here hx rfl (hb hby at_254) k) ?_
            show gO (tF T636 m 256 (la9 p0 p1 p2 p3 p4 4 b532 key_ b547) [(.int 11), (.ref b599), (.ref b599)])
            refine gob (fun _ k => XS.bipush X636.here hx rfl (hb hby at_256) k) ?_
            show gO (tF T636 m 258 (la9 p0 p1 p2 p3 p4 4 b532 key_ b547) [(.int 36), (.int 11), (.ref b599), (.ref b599)])
            obtain ⟨cl638, Ar638, aq638, S638, N638, H638, G638⟩ := id V636
            have hin638 : ¬ ((11 : Int32) < 0 ∨ cl638.slots.size ≤ ((11 : Int32)).toNatClampNeg) := inb_of S638 ⟨by decide, by decide⟩
            obtain ⟨T639, h639, X639, e639, W639, st639⟩ := stI X636 hx hZ e636 Ar638 (j := (11 : Int32)) hin638 (g := (mkF m 258 (la9 p0 p1 p2 p3 p4 4 b532 key_ b547) [(.int 36), (.int 11), (.ref b599), (.ref b599)])) rfl rfl (hb hby at_258)
            refine gob st639 ?_
            have z640 : n0 ≤ h639.size := Nat.le_trans z637 (Keep.of_wr W639).1
            have N639 := Fr.snoc X639 N636 g603
            have V639 : Arv Z h639 b599 k599 .int (16 : Int32) [(.int 1), (.int 4), (.int 3), (.int 12), (.int 2), (.int 2), (.int 12), (.int 36), (.int 1), (.int 4), (.int 6), (.int 36), (.int 0), (.int 0), (.int 0), (.int 0)] (.int 0) := Arv.set Ar638 aq638 S638 N638 H638 G638 rfl W639 11 rfl (Nat.le_of_ble_eq_true rfl)
            show gO (tF T639 m 259 (la9 p0 p1 p2 p3 p4 4 b532 key_ b547) [(.ref b599)])
            refine gob (fun _ k => XS.dup X639.here hx rfl (hb hby at_259) rfl rfl k) ?_
            show gO (tF T639 m 260 (la9 p0 p1 p2 p3 p4 4 b532 key_ b547) [(.ref b599), (.ref b599)])
            refine gob (fun _ k => XS.bipush X639.here hx rfl (hb hby at_260) k) ?_
            show gO (tF T639 m 262 (la9 p0 p1 p2 p3 p4 4 b532 key_ b547) [(.int 12), (.ref b599), (.ref b599)])
            refine gob (fun _ k => XS.iconst X639.here hx rfl (hb hby at_262) k) ?_
            show gO (tF T639 m 263 (la9 p0 p1 p2 p3 p4 4 b532 key_ b547) [(.int 1), (.int 12), (.ref b599), (.ref b599)])
            obtain ⟨cl641, Ar641, aq641, S641, N641, H641, G641⟩ := id V639
            have hin641 : ¬ ((12 : Int32) < 0 ∨ cl641.slots.size ≤ ((12 : Int32)).toNatClampNeg) := inb_of S641 ⟨by decide, by decide⟩
            obtain ⟨T642, h642, X642, e642, W642, st642⟩ := stI X639 hx hZ e639 Ar641 (j := (12 : Int32)) hin641 (g := (mkF m 263 (la9 p0 p1 p2 p3 p4 4 b532 key_ b547) [(.int 1), (.int 12), (.ref b599), (.ref b599)])) rfl rfl (hb hby at_263)
            refine gob st642 ?_
            have z643 : n0 ≤ h642.size := Nat.le_trans z640 (Keep.of_wr W642).1
            have N642 := Fr.snoc X642 N639 g603
            have V642 : Arv Z h642 b599 k599 .int (16 : Int32) [(.int 1), (.int 4), (.int 3), (.int 12), (.int 2), (.int 2), (.int 12), (.int 36), (.int 1), (.int 4), (.int 6), (.int 36), (.int 1), (.int 0), (.int 0), (.int 0)] (.int 0) := Arv.set Ar641 aq641 S641 N641 H641 G641 rfl W642 12 rfl (Nat.le_of_ble_eq_true rfl)
            show gO (tF T642 m 264 (la9 p0 p1 p2 p3 p4 4 b532 key_ b547) [(.ref b599)])
            refine gob (fun _ k => XS.dup X642.here hx rfl (hb hby at_264) rfl rfl k) ?_
            show gO (tF T642 m 265 (la9 p0 p1 p2 p3 p4 4 b532 key_ b547) [(.ref b599), (.ref b599)])
            refine gob (fun _ k => XS.bipush X642.here hx rfl (hb hby at_265) k) ?_
            show gO (tF T642 m 267 (la9 p0 p1 p2 p3 p4 4 b532 key_ b547) [(.int 13), (.ref b599), (.ref b599)])
            refine gob (fun _ k => XS.bipush X642.here hx rfl (hb hby at_267) k) ?_
            show gO (tF T642 m 269 (la9 p0 p1 p2 p3 p4 4 b532 key_ b547) [(.int 12), (.int 13), (.ref b599), (.ref b599)])
            obtain ⟨cl644, Ar644, aq644, S644, N644, H644, G644⟩ := id V642
            have hin644 : ¬ ((13 : Int32) < 0 ∨ cl644.slots.size ≤ ((13 : Int32)).toNatClampNeg) := inb_of S644 ⟨by decide, by decide⟩
            obtain ⟨T645, h645, X645, e645, W645, st645⟩ := stI X642 hx hZ e642 Ar644 (j := (13 : Int32)) hin644 (g := (mkF m 269 (la9 p0 p1 p2 p3 p4 4 b532 key_ b547) [(.int 12), (.int 13), (.ref b599), (.ref b599)])) rfl rfl (hb hby at_269)
            refine gob st645 ?_
            have z646 : n0 ≤ h645.size := Nat.le_trans z643 (Keep.of_wr W645).1
            have N645 := Fr.snoc X645 N642 g603
            have V645 : Arv Z h645 b599 k599 .int (16 : Int32) [(.int 1), (.int 4), (.int 3), (.int 12), (.int 2), (.int 2), (.int 12), (.int 36), (.int 1), (.int 4), (.int 6), (.int 36), (.int 1), (.int 12), (.int 0), (.int 0)] (.int 0) := Arv.set Ar644 aq644 S644 N644 H644 G644 rfl W645 13 rfl (Nat.le_of_ble_eq_true rfl)
            show gO (tF T645 m 270 (la9 p0 p1 p2 p3 p4 4 b532 key_ b547) [(.ref b599)])
            refine gob (fun _ k => XS.dup X645.here hx rfl (hb hby at_270) rfl rfl k) ?_
            show gO (tF T645 m 271 (la9 p0 p1 p2 p3 p4 4 b532 key_ b547) [(.ref b599), (.ref b599)])
            refine gob (fun _ k => XS.bipush X645.here hx rfl (hb hby at_271) k) ?_
            show gO (tF T645 m 273 (la9 p0 p1 p2 p3 p4 4 b532 key_ b547) [(.int 14), (.ref b599), (.ref b599)])
            refine gob (fun _ k => XS.iconst X645.here hx rfl (hb hby at_273) k) ?_
            show gO (tF T645 m 274 (la9 p0 p1 p2 p3 p4 4 b532 key_ b547) [(.int 1), (.int 14), (.ref b599), (.ref b599)])
            obtain ⟨cl647, Ar647, aq647, S647, N647, H647, G647⟩ := id V645
            have hin647 : ¬ ((14 : Int32) < 0 ∨ cl647.slots.size ≤ ((14 : Int32)).toNatClampNeg) := inb_of S647 ⟨by decide, by decide⟩
            obtain ⟨T648, h648, X648, e648, W648, st648⟩ := stI X645 hx hZ e645 Ar647 (j := (14 : Int32)) hin647 (g := (mkF m 274 (la9 p0 p1 p2 p3 p4 4 b532 key_ b547) [(.int 1), (.int 14), (.ref b599), (.ref b599)])) rfl rfl (hb hby at_274)
            refine gob st648 ?_
            have z649 : n0 ≤ h648.size := Nat.le_trans z646 (Keep.of_wr W648).1
            have N648 := Fr.snoc X648 N645 g603
            have V648 : Arv Z h648 b599 k599 .int (16 : Int32) [(.int 1), (.int 4), (.int 3), (.int 12), (.int 2), (.int 2), (.int 12), (.int 36), (.int 1), (.int 4), (.int 6), (.int 36), (.int 1), (.int 12), (.int 1), (.int 0)] (.int 0) := Arv.set Ar647 aq647 S647 N647 H647 G647 rfl W648 14 rfl (Nat.le_of_ble_eq_true rfl)
            show gO (tF T648 m 275 (la9 p0 p1 p2 p3 p4 4 b532 key_ b547) [(.ref b599)])
            refine gob (fun _ k => XS.dup X648.here hx rfl (hb hby at_275) rfl rfl k) ?_
            show gO (tF T648 m 276 (la9 p0 p1 p2 p3 p4 4 b532 key_ b547) [(.ref b599), (.ref b599)])
            refine gob (fun _ k => XS.bipush X648.here hx rfl (hb hby at_276) k) ?_
            show gO (tF T648 m 278 (la9 p0 p1 p2 p3 p4 4 b532 key_ b547) [(.int 15), (.ref b599), (.ref b599)])
            refine gob (fun _ k => XS.iconst X648.here hx rfl (hb hby at_278) k) ?_
            show gO (tF T648 m 279 (la9 p0 p1 p2 p3 p4 4 b532 key_ b547) [(.int 1), (.int 15), (.ref b599), (.ref b599)])
            obtain ⟨cl650, Ar650, aq650, S650, N650, H650, G650⟩ := id V648
            have hin650 : ¬ ((15 : Int32) < 0 ∨ cl650.slots.size ≤ ((15 : Int32)).toNatClampNeg) := inb_of S650 ⟨by decide, by decide⟩
            obtain ⟨T651, h651, X651, e651, W651, st651⟩ := stI X648 hx hZ e648 Ar650 (j := (15 : Int32)) hin650 (g := (mkF m 279 (la9 p0 p1 p2 p3 p4 4 b532 key_ b547) [(.int 1), (.int 15), (.ref b599), (.ref b599)])) rfl rfl (hb hby at_279)
            refine gob st651 ?_
            have z652 : n0 ≤ h651.size := Nat.le_trans z649 (Keep.of_wr W651).1
            have N651 := Fr.snoc X651 N648 g603
            have V651 : Arv Z h651 b599 k599 .int (16 : Int32) [(.int 1), (.int 4), (.int 3), (.int 12), (.int 2), (.int 2), (.int 12), (.int 36), (.int 1), (.int 4), (.int 6), (.int 36), (.int 1), (.int 12), (.int 1), (.int 1)] (.int 0) := Arv.set Ar650 aq650 S650 N650 H650 G650 rfl W651 15 rfl (Nat.le_of_ble_eq_true rfl)
            show gO (tF T651 m 280 (la9 p0 p1 p2 p3 p4 4 b532 key_ b547) [(.ref b599)])
            refine gob (fun _ k => XS.astore X651.here hx rfl (hb hby at_280) rfl rfl (l' := (la8 p0 p1 p2 p3 p4 4 b532 key_ b547 b599)) rfl k) ?_
            show gO (tF T651 m 282 (la8 p0 p1 p2 p3 p4 4 b532 key_ b547 b599) [])
            have c653 := (((((((((((((((((c600.ext E599).other W606 n601).other W609 n601).other W612 n601).other W615 n601).other W618 n601).other W621 n601).other W624 n601).other W627 n601).other W630 n601).other W633 n601).other W636 n601).other W639 n601).other W642 n601).other W645 n601).other W648 n601).other W651 n601)
            have c654 := (((((((((((((((((V597.ext E599).other W606 n602).other W609 n602).other W612 n602).other W615 n602).other W618 n602).other W621 n602).other W624 n602).other W627 n602).other W630 n602).other W633 n602).other W636 n602).other W639 n602).other W642 n602).other W645 n602).other W648 n602).other W651 n602)
            exact kont _ _ _ _ _ _ _ X651 e651 N651 z652 c653 c654 V651
          refine gob (fun _ k => XS.iload X545.here hx rfl (hb hby at_61) rfl k) ?_
          show gO (tF T545 m 63 (la7 p0 p1 p2 p3 p4 4 b532 0) [(.int 4)])
          refine gob (fun _ k => XS.ifNo X545.here hx rfl (hb hby at_63) rfl ((if0 _ _).trans (tlt (by decide : (0 : Int32) < (4 : Int32))).2.2.2) k) ?_
          show gO (tF T545 m 66 (la7 p0 p1 p2 p3 p4 4 b532 0) [])
          refine gob (fun _ k => XS.iloadN X545.here hx rfl (hb hby at_66) rfl k) ?_
          show gO (tF T545 m 67 (la7 p0 p1 p2 p3 p4 4 b532 0) [(.int p0)])
          by_cases hc67_655 : (0 : Int32) < p0
          · skip
            refine gob (fun _ k => XS.ifNo X545.here hx rfl (hb hby at_67) rfl ((if0 _ _).trans (tlt hc67_655).2.2.2) k) ?_
            show gO (tF T545 m 70 (la7 p0 p1 p2 p3 p4 4 b532 0) [])
            refine gob (fun _ k => XS.iinc X545.here hx rfl (hb hby at_70) rfl (l' := (la7 p0 p1 p2 p3 p4 4 b532 8)) rfl k) ?_
            show gO (tF T545 m 73 (la7 p0 p1 p2 p3 p4 4 b532 8) [])
            refine gob (fun _ k => XS.iload X545.here hx rfl (hb hby at_73) rfl k) ?_
            show gO (tF T545 m 75 (la7 p0 p1 p2 p3 p4 4 b532 8) [(.int 4)])
            refine gob (fun _ k => XS.iconst X545.here hx rfl (hb hby at_75) k) ?_
            show gO (tF T545 m 76 (la7 p0 p1 p2 p3 p4 4 b532 8) [(.int 1), (.int 4)])
            refine gob (fun _ k => XS.icmpNo X545.here hx rfl (hb hby at_76) rfl (tlt (by decide : (1 : Int32) < (4 : Int32))).2.2.2 k) ?_
            show gO (tF T545 m 79 (la7 p0 p1 p2 p3 p4 4 b532 8) [])
            refine gob (fun _ k => XS.iloadN X545.here hx rfl (hb hby at_79) rfl k) ?_
            show gO (tF T545 m 80 (la7 p0 p1 p2 p3 p4 4 b532 8) [(.int p1)])
            by_cases hc80_656 : (0 : Int32) < p1
            · skip
              refine gob (fun _ k => XS.ifNo X545.here hx rfl (hb hby at_80) rfl ((if0 _ _).trans (tlt hc80_656).2.2.2) k) ?_
              show gO (tF T545 m 83 (la7 p0 p1 p2 p3 p4 4 b532 8) [])
              refine gob (fun _ k => XS.iinc X545.here hx rfl (hb hby at_83) rfl (l' := (la7 p0 p1 p2 p3 p4 4 b532 12)) rfl k) ?_
              show gO (tF T545 m 86 (la7 p0 p1 p2 p3 p4 4 b532 12) [])
              refine gob (fun _ k => XS.iload X545.here hx rfl (hb hby at_86) rfl k) ?_
              show gO (tF T545 m 88 (la7 p0 p1 p2 p3 p4 4 b532 12) [(.int 4)])
              refine gob (fun _ k => XS.iconst X545.here hx rfl (hb hby at_88) k) ?_
              show gO (tF T545 m 89 (la7 p0 p1 p2 p3 p4 4 b532 12) [(.int 2), (.int 4)])
              refine gob (fun _ k => XS.icmpNo X545.here hx rfl (hb hby at_89) rfl (tlt (by decide : (2 : Int32) < (4 : Int32))).2.2.2 k) ?_
              show gO (tF T545 m 92 (la7 p0 p1 p2 p3 p4 4 b532 12) [])
              refine gob (fun _ k => XS.iloadN X545.here hx rfl (hb hby at_92) rfl k) ?_
              show gO (tF T545 m 93 (la7 p0 p1 p2 p3 p4 4 b532 12) [(.int p2)])
              by_cases hc93_657 : (0 : Int32) < p2
              · skip
                refine gob (fun _ k => XS.ifNo X545.here hx rfl (hb hby at_93) rfl ((if0 _ _).trans (tlt hc93_657).2.2.2) k) ?_
                show gO (tF T545 m 96 (la7 p0 p1 p2 p3 p4 4 b532 12) [])
                refine gob (fun _ k => XS.iinc X545.here hx rfl (hb hby at_96) rfl (l' := (la7 p0 p1 p2 p3 p4 4 b532 14)) rfl k) ?_
                show gO (tF T545 m 99 (la7 p0 p1 p2 p3 p4 4 b532 14) [])
                refine gob (fun _ k => XS.iload X545.here hx rfl (hb hby at_99) rfl k) ?_
                show gO (tF T545 m 101 (la7 p0 p1 p2 p3 p4 4 b532 14) [(.int 4)])
                refine gob (fun _ k => XS.iconst X545.here hx rfl (hb hby at_101) k) ?_
                show gO (tF T545 m 102 (la7 p0 p1 p2 p3 p4 4 b532 14) [(.int 3), (.int 4)])
                refine gob (fun _ k => XS.icmpNo X545.here hx rfl (hb hby at_102) rfl (tlt (by decide : (3 : Int32) < (4 : Int32))).2.2.2 k) ?_
                show gO (tF T545 m 105 (la7 p0 p1 p2 p3 p4 4 b532 14) [])
                refine gob (fun _ k => XS.iloadN X545.here hx rfl (hb hby at_105) rfl k) ?_
                show gO (tF T545 m 106 (la7 p0 p1 p2 p3 p4 4 b532 14) [(.int p3)])
                by_cases hc106_658 : (0 : Int32) < p3
                · skip
                  refine gob (fun _ k => XS.ifNo X545.here hx rfl (hb hby at_106) rfl ((if0 _ _).trans (tlt hc106_658).2.2.2) k) ?_
                  show gO (tF T545 m 109 (la7 p0 p1 p2 p3 p4 4 b532 14) [])
                  refine gob (fun _ k => XS.iinc X545.here hx rfl (hb hby at_109) rfl (l' := (la7 p0 p1 p2 p3 p4 4 b532 15)) rfl k) ?_
                  show gO (tF T545 m 112 (la7 p0 p1 p2 p3 p4 4 b532 15) [])
                  refine seg (15 : Int32) ?_
                  intro T659 lc659 h659 b659_1 b659_2 k659_1 k659_2 X659 e659 N659 z659 V659 V659_1 V659_2
                  show gO (tF T659 m 282 (la8 p0 p1 p2 p3 p4 4 b532 15 b659_1 b659_2) [])
                  refine gob (fun _ k => XS.aload X659.here hx rfl (hb hby at_282) rfl rfl k) ?_
                  show gO (tF T659 m 284 (la8 p0 p1 p2 p3 p4 4 b532 15 b659_1 b659_2) [(.ref b532)])
                  obtain ⟨_, _, ⟨T660, L660, k660, n660⟩, -, X660, ⟨Lc660, hQ660, l660, y660, z660⟩, st660⟩ := Jvm.LawKit.callS X659 hx (y := (⟨"com/example/coevolution/coevolution/measure/Measures", "averagePrecision", "([I)D"⟩ : MethodName)) hown (mvT hZ (hW hw 2 rfl)) (mvT hZ (hW hw 3 rfl)) (mvT hZ (hW hw 4 rfl)) (mvT hZ (hW hw 5 rfl)) (by decide) (backOf (W := 0) (rmap4 l Z a0 hw [] b532 k532 p0 p1 p2 p3 h659 n0 z659 V659) hZ (hW hw 5 rfl) (hW hw 4 rfl) (by decide) (by decide)) (g := (mkF m 284 (la8 p0 p1 p2 p3 p4 4 b532 15 b659_1 b659_2) [(.ref b532)])) rfl (by rw [hml]; rfl) (argsL := [(.ref b532)]) (rest := []) (lenOf pd_0 rfl) rfl (by show 2 * 0 + _ ≤ _; exact Nat.le_of_eq rfl) (hb hby at_284) (fun _ _ => ⟨rfl, e659, (by decide : 3 + 0 ≤ _), (by decide : 36 + 0 ≤ _)⟩)
                  dsimp only [Pt.U, Pt.locs, Pt.cells, Pt.slots] at X660 l660 y660 z660 st660 hQ660
                  replace X660 := castX X660 (y660.trans (rfl : _ = 3)) (z660.trans (rfl : _ = 36))
                  obtain ⟨r660, rfl, hr660, Nq660, e660⟩ := hQ660
                  have N660 : Fr n0 L660 := l660 ▸ Fr.app N659 Nq660
                  refine gob st660 ?_
                  show gO (tF T660 m 287 (la8 p0 p1 p2 p3 p4 4 b532 15 b659_1 b659_2) [(.double r660)])
                  have hlr660 : r660 = (4607182418800017408 : UInt64) := by simpa [hc67_655, hc80_656, hc93_657, hc106_658] using hr660
                  subst hlr660
                  show gO (tF T660 m 287 (la8 p0 p1 p2 p3 p4 4 b532 15 b659_1 b659_2) [(.double (4607182418800017408 : UInt64))])
                  refine gob (fun _ k => XS.dstore X660.here hx rfl (hb hby at_287) rfl (l' := (la10 p0 p1 p2 p3 p4 4 b532 15 b659_1 b659_2 (4607182418800017408 : UInt64))) rfl k) ?_
                  show gO (tF T660 m 289 (la10 p0 p1 p2 p3 p4 4 b532 15 b659_1 b659_2 (4607182418800017408 : UInt64)) [])
                  refine gob (fun _ k => XS.iload X660.here hx rfl (hb hby at_289) rfl k) ?_
                  show gO (tF T660 m 291 (la10 p0 p1 p2 p3 p4 4 b532 15 b659_1 b659_2 (4607182418800017408 : UInt64)) [(.int 15)])
                  refine gob (fun _ k => XS.ifYes X660.here hx rfl (pc0 := 291) (pc' := 307) rfl (hb hby at_291) rfl ((if0 _ _).trans (feq (by decide : ¬ ((15 : Int32) = (0 : Int32)))).2) (by decide) (by decide) k) ?_
                  show gO (tF T660 m 307 (la10 p0 p1 p2 p3 p4 4 b532 15 b659_1 b659_2 (4607182418800017408 : UInt64)) [])
                  refine gob (fun _ k => XS.dload X660.here hx rfl (hb hby at_307) rfl k) ?_
                  show gO (tF T660 m 309 (la10 p0 p1 p2 p3 p4 4 b532 15 b659_1 b659_2 (4607182418800017408 : UInt64)) [(.double (4607182418800017408 : UInt64))])
                  refine gob (fun _ k => XS.aload X660.here hx rfl (hb hby at_309) rfl rfl k) ?_
                  show gO (tF T660 m 311 (la10 p0 p1 p2 p3 p4 4 b532 15 b659_1 b659_2 (4607182418800017408 : UInt64)) [(.ref b659_2), (.double (4607182418800017408 : UInt64))])
                  refine gob (fun _ k => XS.iload X660.here hx rfl (hb hby at_311) rfl k) ?_
                  show gO (tF T660 m 313 (la10 p0 p1 p2 p3 p4 4 b532 15 b659_1 b659_2 (4607182418800017408 : UInt64)) [(.int 15), (.ref b659_2), (.double (4607182418800017408 : UInt64))])
                  obtain ⟨cl661, Ar661, aq661, S661, N661, H661, G661⟩ := id V659_2
                  have hin661 : ¬ ((15 : Int32) < 0 ∨ cl661.slots.size ≤ ((15 : Int32)).toNatClampNeg) := inb_of S661 ⟨by decide, by decide⟩
                  refine gob (X660.iaload hx (j := (15 : Int32)) (v := (.int 1)) (by rw [e660]; exact Ar661.1) (State.isArrayOf_alike hZ.alike Ar661.2.1) Ar661.2.2 hin661 (Has.at H661 hin661 rfl) (g := (mkF m 313 (la10 p0 p1 p2 p3 p4 4 b532 15 b659_1 b659_2 (4607182418800017408 : UInt64)) [(.int 15), (.ref b659_2), (.double (4607182418800017408 : UInt64))])) rfl rfl (hb hby at_313)) ?_
                  show gO (tF T660 m 314 (la10 p0 p1 p2 p3 p4 4 b532 15 b659_1 b659_2 (4607182418800017408 : UInt64)) [(.int 1), (.double (4607182418800017408 : UInt64))])
                  refine gob (fun _ k => XS.i2dS X660.here hx rfl (hb hby at_314) rfl (v := (4607182418800017408 : UInt64)) (by decide +kernel) k) ?_
                  show gO (tF T660 m 315 (la10 p0 p1 p2 p3 p4 4 b532 15 b659_1 b659_2 (4607182418800017408 : UInt64)) [(.double (4607182418800017408 : UInt64)), (.double (4607182418800017408 : UInt64))])
                  refine gob (fun _ k => XS.dmulS X660.here hx rfl (hb hby at_315) rfl (v := (4607182418800017408 : UInt64)) (by unfold Jvm.Free.Fl.NoNaN64; decide +kernel) (by decide +kernel) k) ?_
                  show gO (tF T660 m 316 (la10 p0 p1 p2 p3 p4 4 b532 15 b659_1 b659_2 (4607182418800017408 : UInt64)) [(.double (4607182418800017408 : UInt64))])
                  refine gob (fun _ k => XS.aload X660.here hx rfl (hb hby at_316) rfl rfl k) ?_
                  show gO (tF T660 m 318 (la10 p0 p1 p2 p3 p4 4 b532 15 b659_1 b659_2 (4607182418800017408 : UInt64)) [(.ref b659_1), (.double (4607182418800017408 : UInt64))])
                  refine gob (fun _ k => XS.iload X660.here hx rfl (hb hby at_318) rfl k) ?_
                  show gO (tF T660 m 320 (la10 p0 p1 p2 p3 p4 4 b532 15 b659_1 b659_2 (4607182418800017408 : UInt64)) [(.int 15), (.ref b659_1), (.double (4607182418800017408 : UInt64))])
                  obtain ⟨cl662, Ar662, aq662, S662, N662, H662, G662⟩ := id V659_1
                  have hin662 : ¬ ((15 : Int32) < 0 ∨ cl662.slots.size ≤ ((15 : Int32)).toNatClampNeg) := inb_of S662 ⟨by decide, by decide⟩
                  refine gob (X660.iaload hx (j := (15 : Int32)) (v := (.int 1)) (by rw [e660]; exact Ar662.1) (State.isArrayOf_alike hZ.alike Ar662.2.1) Ar662.2.2 hin662 (Has.at H662 hin662 rfl) (g := (mkF m 320 (la10 p0 p1 p2 p3 p4 4 b532 15 b659_1 b659_2 (4607182418800017408 : UInt64)) [(.int 15), (.ref b659_1), (.double (4607182418800017408 : UInt64))])) rfl rfl (hb hby at_320)) ?_
                  show gO (tF T660 m 321 (la10 p0 p1 p2 p3 p4 4 b532 15 b659_1 b659_2 (4607182418800017408 : UInt64)) [(.int 1), (.double (4607182418800017408 : UInt64))])
                  refine gob (fun _ k => XS.i2dS X660.here hx rfl (hb hby at_321) rfl (v := (4607182418800017408 : UInt64)) (by decide +kernel) k) ?_
                  show gO (tF T660 m 322 (la10 p0 p1 p2 p3 p4 4 b532 15 b659_1 b659_2 (4607182418800017408 : UInt64)) [(.double (4607182418800017408 : UInt64)), (.double (4607182418800017408 : UInt64))])
                  refine gob (fun _ k => XS.dsubS X660.here hx rfl (hb hby at_322) rfl (v := (0 : UInt64)) (by unfold Jvm.Free.Fl.NoNaN64; decide +kernel) (by decide +kernel) k) ?_
                  show gO (tF T660 m 323 (la10 p0 p1 p2 p3 p4 4 b532 15 b659_1 b659_2 (4607182418800017408 : UInt64)) [(.double (0 : UInt64))])
                  refine gob (fun _ k => XS.dstore X660.here hx rfl (hb hby at_323) rfl (l' := (la11 p0 p1 p2 p3 p4 4 b532 15 b659_1 b659_2 (4607182418800017408 : UInt64) (0 : UInt64))) rfl k) ?_
                  show gO (tF T660 m 325 (la11 p0 p1 p2 p3 p4 4 b532 15 b659_1 b659_2 (4607182418800017408 : UInt64) (0 : UInt64)) [])
                  refine gob (fun _ k => XS.dload X660.here hx rfl (hb hby at_325) rfl k) ?_
                  show gO (tF T660 m 327 (la11 p0 p1 p2 p3 p4 4 b532 15 b659_1 b659_2 (4607182418800017408 : UInt64) (0 : UInt64)) [(.double (0 : UInt64))])
                  refine gob (X660.ldc2DoubleC hx hown (mvT hZ (hW hw 6 rfl)) (g := (mkF m 327 (la11 p0 p1 p2 p3 p4 4 b532 15 b659_1 b659_2 (4607182418800017408 : UInt64) (0 : UInt64)) [(.double (0 : UInt64))])) rfl (hb hby at_327)) ?_
                  show gO (tF T660 m 330 (la11 p0 p1 p2 p3 p4 4 b532 15 b659_1 b659_2 (4607182418800017408 : UInt64) (0 : UInt64)) [(.double (4472406533629990549 : UInt64)), (.double (0 : UInt64))])
                  refine gob (fun _ k => XS.dcmpS X660.here hx rfl (hb hby at_330) rfl (v := (-1 : Int32)) (by decide +kernel) k) ?_
                  show gO (tF T660 m 331 (la11 p0 p1 p2 p3 p4 4 b532 15 b659_1 b659_2 (4607182418800017408 : UInt64) (0 : UInt64)) [(.int (-1))])
                  refine gob (fun _ k => XS.ifNo X660.here hx rfl (hb hby at_331) rfl ((if0 _ _).trans (tlt (by decide : (-1 : Int32) < (0 : Int32))).2.1) k) ?_
                  show gO (tF T660 m 334 (la11 p0 p1 p2 p3 p4 4 b532 15 b659_1 b659_2 (4607182418800017408 : UInt64) (0 : UInt64)) [])
                  refine gob (fun _ k => XS.dload X660.here hx rfl (hb hby at_334) rfl k) ?_
                  show gO (tF T660 m 336 (la11 p0 p1 p2 p3 p4 4 b532 15 b659_1 b659_2 (4607182418800017408 : UInt64) (0 : UInt64)) [(.double (0 : UInt64))])
                  refine gob (X660.ldc2DoubleC hx hown (mvT hZ (hW hw 7 rfl)) (g := (mkF m 336 (la11 p0 p1 p2 p3 p4 4 b532 15 b659_1 b659_2 (4607182418800017408 : UInt64) (0 : UInt64)) [(.double (0 : UInt64))])) rfl (hb hby at_336)) ?_
                  show gO (tF T660 m 339 (la11 p0 p1 p2 p3 p4 4 b532 15 b659_1 b659_2 (4607182418800017408 : UInt64) (0 : UInt64)) [(.double (13695778570484766357 : UInt64)), (.double (0 : UInt64))])
                  refine gob (fun _ k => XS.dcmpS X660.here hx rfl (hb hby at_339) rfl (v := (1 : Int32)) (by decide +kernel) k) ?_
                  show gO (tF T660 m 340 (la11 p0 p1 p2 p3 p4 4 b532 15 b659_1 b659_2 (4607182418800017408 : UInt64) (0 : UInt64)) [(.int 1)])
                  refine gob (fun _ k => XS.ifNo X660.here hx rfl (hb hby at_340) rfl ((if0 _ _).trans (tlt (by decide : (0 : Int32) < (1 : Int32))).2.2.2) k) ?_
                  show gO (tF T660 m 343 (la11 p0 p1 p2 p3 p4 4 b532 15 b659_1 b659_2 (4607182418800017408 : UInt64) (0 : UInt64)) [])
                  refine gob (fun _ k => XS.iconst X660.here hx rfl (hb hby at_343) k) ?_
                  show gO (tF T660 m 344 (la11 p0 p1 p2 p3 p4 4 b532 15 b659_1 b659_2 (4607182418800017408 : UInt64) (0 : UInt64)) [(.int 1)])
                  refine gob (fun _ k => XS.goto X660.here hx rfl (pc0 := 344) (pc' := 348) rfl (hb hby at_344) (by decide) (by decide) k) ?_
                  show gO (tF T660 m 348 (la11 p0 p1 p2 p3 p4 4 b532 15 b659_1 b659_2 (4607182418800017408 : UInt64) (0 : UInt64)) [(.int 1)])
                  refine goZ X660 hx hlk (t := .boolean) Bd.returns (by simp) (hb hby at_348) (z' := (1 : Int32)) rfl ?_ (by decide) (by decide)
                  show Q0 Z p0 p1 p2 p3 p4 h0 n0 (some (.int (1 : Int32))) T660.heap _
                  exact ⟨rfl, N660⟩
                · skip
                  refine gob (fun _ k => XS.ifYes X545.here hx rfl (pc0 := 106) (pc' := 112) rfl (hb hby at_106) rfl ((if0 _ _).trans (flt hc106_658).2.2.2) (by decide) (by decide) k) ?_
                  show gO (tF T545 m 112 (la7 p0 p1 p2 p3 p4 4 b532 14) [])
                  refine seg (14 : Int32) ?_
                  intro T663 lc663 h663 b663_1 b663_2 k663_1 k663_2 X663 e663 N663 z663 V663 V663_1 V663_2
                  show gO (tF T663 m 282 (la8 p0 p1 p2 p3 p4 4 b532 14 b663_1 b663_2) [])
                  refine gob (fun _ k => XS.aload X663.here hx rfl (hb hby at_282) rfl rfl k) ?_
                  show gO (tF T663 m 284 (la8 p0 p1 p2 p3 p4 4 b532 14 b663_1 b663_2) [(.ref b532)])
                  obtain ⟨_, _, ⟨T664, L664, k664, n664⟩, -, X664, ⟨Lc664, hQ664, l664, y664, z664⟩, st664⟩ := Jvm.LawKit.callS X663 hx (y := (⟨"com/example/coevolution/coevolution/measure/Measures", "averagePrecision", "([I)D"⟩ : MethodName)) hown (mvT hZ (hW hw 2 rfl)) (mvT hZ (hW hw 3 rfl)) (mvT hZ (hW hw 4 rfl)) (mvT hZ (hW hw 5 rfl)) (by decide) (backOf (W := 0) (rmap4 l Z a0 hw [] b532 k532 p0 p1 p2 p3 h663 n0 z663 V663) hZ (hW hw 5 rfl) (hW hw 4 rfl) (by decide) (by decide)) (g := (mkF m 284 (la8 p0 p1 p2 p3 p4 4 b532 14 b663_1 b663_2) [(.ref b532)])) rfl (by rw [hml]; rfl) (argsL := [(.ref b532)]) (rest := []) (lenOf pd_0 rfl) rfl (by show 2 * 0 + _ ≤ _; exact Nat.le_of_eq rfl) (hb hby at_284) (fun _ _ => ⟨rfl, e663, (by decide : 3 + 0 ≤ _), (by decide : 36 + 0 ≤ _)⟩)
                  dsimp only [Pt.U, Pt.locs, Pt.cells, Pt.slots] at X664 l664 y664 z664 st664 hQ664
                  replace X664 := castX X664 (y664.trans (rfl : _ = 3)) (z664.trans (rfl : _ = 36))
                  obtain ⟨r664, rfl, hr664, Nq664, e664⟩ := hQ664
                  have N664 : Fr n0 L664 := l664 ▸ Fr.app N663 Nq664
                  refine gob st664 ?_
                  show gO (tF T664 m 287 (la8 p0 p1 p2 p3 p4 4 b532 14 b663_1 b663_2) [(.double r664)])
                  have hlr664 : r664 = (4607182418800017408 : UInt64) := by simpa [hc67_655, hc80_656, hc93_657, hc106_658] using hr664
                  subst hlr664
                  show gO (tF T664 m 287 (la8 p0 p1 p2 p3 p4 4 b532 14 b663_1 b663_2) [(.double (4607182418800017408 : UInt64))])
                  refine gob (fun _ k => XS.dstore X664.here hx rfl (hb hby at_287) rfl (l' := (la10 p0 p1 p2 p3 p4 4 b532 14 b663_1 b663_2 (4607182418800017408 : UInt64))) rfl k) ?_
                  show gO (tF T664 m 289 (la10 p0 p1 p2 p3 p4 4 b532 14 b663_1 b663_2 (4607182418800017408 : UInt64)) [])
                  refine gob (fun _ k => XS.iload X664.here hx rfl (hb hby at_289) rfl k) ?_
                  show gO (tF T664 m 291 (la10 p0 p1 p2 p3 p4 4 b532 14 b663_1 b663_2 (4607182418800017408 : UInt64)) [(.int 14)])
                  refine gob (fun _ k => XS.ifYes X664.here hx rfl (pc0 := 291) (pc' := 307) rfl (hb hby at_291) rfl ((if0 _ _).trans (feq (by decide : ¬ ((14 : Int32) = (0 : Int32)))).2) (by decide) (by decide) k) ?_
                  show gO (tF T664 m 307 (la10 p0 p1 p2 p3 p4 4 b532 14 b663_1 b663_2 (4607182418800017408 : UInt64)) [])
                  refine gob (fun _ k => XS.dload X664.here hx rfl (hb hby at_307) rfl k) ?_
                  show gO (tF T664 m 309 (la10 p0 p1 p2 p3 p4 4 b532 14 b663_1 b663_2 (4607182418800017408 : UInt64)) [(.double (4607182418800017408 : UInt64))])
                  refine gob (fun _ k => XS.aload X664.here hx rfl (hb hby at_309) rfl rfl k) ?_
                  show gO (tF T664 m 311 (la10 p0 p1 p2 p3 p4 4 b532 14 b663_1 b663_2 (4607182418800017408 : UInt64)) [(.ref b663_2), (.double (4607182418800017408 : UInt64))])
                  refine gob (fun _ k => XS.iload X664.here hx rfl (hb hby at_311) rfl k) ?_
                  show gO (tF T664 m 313 (la10 p0 p1 p2 p3 p4 4 b532 14 b663_1 b663_2 (4607182418800017408 : UInt64)) [(.int 14), (.ref b663_2), (.double (4607182418800017408 : UInt64))])
                  obtain ⟨cl665, Ar665, aq665, S665, N665, H665, G665⟩ := id V663_2
                  have hin665 : ¬ ((14 : Int32) < 0 ∨ cl665.slots.size ≤ ((14 : Int32)).toNatClampNeg) := inb_of S665 ⟨by decide, by decide⟩
                  refine gob (X664.iaload hx (j := (14 : Int32)) (v := (.int 1)) (by rw [e664]; exact Ar665.1) (State.isArrayOf_alike hZ.alike Ar665.2.1) Ar665.2.2 hin665 (Has.at H665 hin665 rfl) (g := (mkF m 313 (la10 p0 p1 p2 p3 p4 4 b532 14 b663_1 b663_2 (4607182418800017408 : UInt64)) [(.int 14), (.ref b663_2), (.double (4607182418800017408 : UInt64))])) rfl rfl (hb hby at_313)) ?_
                  show gO (tF T664 m 314 (la10 p0 p1 p2 p3 p4 4 b532 14 b663_1 b663_2 (4607182418800017408 : UInt64)) [(.int 1), (.double (4607182418800017408 : UInt64))])
                  refine gob (fun _ k => XS.i2dS X664.here hx rfl (hb hby at_314) rfl (v := (4607182418800017408 : UInt64)) (by decide +kernel) k) ?_
                  show gO (tF T664 m 315 (la10 p0 p1 p2 p3 p4 4 b532 14 b663_1 b663_2 (4607182418800017408 : UInt64)) [(.double (4607182418800017408 : UInt64)), (.double (4607182418800017408 : UInt64))])
                  refine gob (fun _ k => XS.dmulS X664.here hx rfl (hb hby at_315) rfl (v := (4607182418800017408 : UInt64)) (by unfold Jvm.Free.Fl.NoNaN64; decide +kernel) (by decide +kernel) k) ?_
                  show gO (tF T664 m 316 (la10 p0 p1 p2 p3 p4 4 b532 14 b663_1 b663_2 (4607182418800017408 : UInt64)) [(.double (4607182418800017408 : UInt64))])
                  refine gob (fun _ k => XS.aload X664.here hx rfl (hb hby at_316) rfl rfl k) ?_
                  show gO (tF T664 m 318 (la10 p0 p1 p2 p3 p4 4 b532 14 b663_1 b663_2 (4607182418800017408 : UInt64)) [(.ref b663_1), (.double (4607182418800017408 : UInt64))])
                  refine gob (fun _ k => XS.iload X664.here hx rfl (hb hby at_318) rfl k) ?_
                  show gO (tF T664 m 320 (la10 p0 p1 p2 p3 p4 4 b532 14 b663_1 b663_2 (4607182418800017408 : UInt64)) [(.int 14), (.ref b663_1), (.double (4607182418800017408 : UInt64))])
                  obtain ⟨cl666, Ar666, aq666, S666, N666, H666, G666⟩ := id V663_1
                  have hin666 : ¬ ((14 : Int32) < 0 ∨ cl666.slots.size ≤ ((14 : Int32)).toNatClampNeg) := inb_of S666 ⟨by decide, by decide⟩
                  refine gob (X664.iaload hx (j := (14 : Int32)) (v := (.int 1)) (by rw [e664]; exact Ar666.1) (State.isArrayOf_alike hZ.alike Ar666.2.1) Ar666.2.2 hin666 (Has.at H666 hin666 rfl) (g := (mkF m 320 (la10 p0 p1 p2 p3 p4 4 b532 14 b663_1 b663_2 (4607182418800017408 : UInt64)) [(.int 14), (.ref b663_1), (.double (4607182418800017408 : UInt64))])) rfl rfl (hb hby at_320)) ?_
                  show gO (tF T664 m 321 (la10 p0 p1 p2 p3 p4 4 b532 14 b663_1 b663_2 (4607182418800017408 : UInt64)) [(.int 1), (.double (4607182418800017408 : UInt64))])
                  refine gob (fun _ k => XS.i2dS X664.here hx rfl (hb hby at_321) rfl (v := (4607182418800017408 : UInt64)) (by decide +kernel) k) ?_
                  show gO (tF T664 m 322 (la10 p0 p1 p2 p3 p4 4 b532 14 b663_1 b663_2 (4607182418800017408 : UInt64)) [(.double (4607182418800017408 : UInt64)), (.double (4607182418800017408 : UInt64))])
                  refine gob (fun _ k => XS.dsubS X664.here hx rfl (hb hby at_322) rfl (v := (0 : UInt64)) (by unfold Jvm.Free.Fl.NoNaN64; decide +kernel) (by decide +kernel) k) ?_
                  show gO (tF T664 m 323 (la10 p0 p1 p2 p3 p4 4 b532 14 b663_1 b663_2 (4607182418800017408 : UInt64)) [(.double (0 : UInt64))])
                  refine gob (fun _ k => XS.dstore X664.here hx rfl (hb hby at_323) rfl (l' := (la11 p0 p1 p2 p3 p4 4 b532 14 b663_1 b663_2 (4607182418800017408 : UInt64) (0 : UInt64))) rfl k) ?_
                  show gO (tF T664 m 325 (la11 p0 p1 p2 p3 p4 4 b532 14 b663_1 b663_2 (4607182418800017408 : UInt64) (0 : UInt64)) [])
                  refine gob (fun _ k => XS.dload X664.here hx rfl (hb hby at_325) rfl k) ?_
                  show gO (tF T664 m 327 (la11 p0 p1 p2 p3 p4 4 b532 14 b663_1 b663_2 (4607182418800017408 : UInt64) (0 : UInt64)) [(.double (0 : UInt64))])
                  refine gob (X664.ldc2DoubleC hx hown (mvT hZ (hW hw 6 rfl)) (g := (mkF m 327 (la11 p0 p1 p2 p3 p4 4 b532 14 b663_1 b663_2 (4607182418800017408 : UInt64) (0 : UInt64)) [(.double (0 : UInt64))])) rfl (hb hby at_327)) ?_
                  show gO (tF T664 m 330 (la11 p0 p1 p2 p3 p4 4 b532 14 b663_1 b663_2 (4607182418800017408 : UInt64) (0 : UInt64)) [(.double (4472406533629990549 : UInt64)), (.double (0 : UInt64))])
                  refine gob (fun _ k => XS.dcmpS X664.here hx rfl (hb hby at_330) rfl (v := (-1 : Int32)) (by decide +kernel) k) ?_
                  show gO (tF T664 m 331 (la11 p0 p1 p2 p3 p4 4 b532 14 b663_1 b663_2 (4607182418800017408 : UInt64) (0 : UInt64)) [(.int (-1))])
                  refine gob (fun _ k => XS.ifNo X664.here hx rfl (hb hby at_331) rfl ((if0 _ _).trans (tlt (by decide : (-1 : Int32) < (0 : Int32))).2.1) k) ?_
                  show gO (tF T664 m 334 (la11 p0 p1 p2 p3 p4 4 b532 14 b663_1 b663_2 (4607182418800017408 : UInt64) (0 : UInt64)) [])
                  refine gob (fun _ k => XS.dload X664.here hx rfl (hb hby at_334) rfl k) ?_
                  show gO (tF T664 m 336 (la11 p0 p1 p2 p3 p4 4 b532 14 b663_1 b663_2 (4607182418800017408 : UInt64) (0 : UInt64)) [(.double (0 : UInt64))])
                  refine gob (X664.ldc2DoubleC hx hown (mvT hZ (hW hw 7 rfl)) (g := (mkF m 336 (la11 p0 p1 p2 p3 p4 4 b532 14 b663_1 b663_2 (4607182418800017408 : UInt64) (0 : UInt64)) [(.double (0 : UInt64))])) rfl (hb hby at_336)) ?_
                  show gO (tF T664 m 339 (la11 p0 p1 p2 p3 p4 4 b532 14 b663_1 b663_2 (4607182418800017408 : UInt64) (0 : UInt64)) [(.double (13695778570484766357 : UInt64)), (.double (0 : UInt64))])
                  refine gob (fun _ k => XS.dcmpS X664.here hx rfl (hb hby at_339) rfl (v := (1 : Int32)) (by decide +kernel) k) ?_
                  show gO (tF T664 m 340 (la11 p0 p1 p2 p3 p4 4 b532 14 b663_1 b663_2 (4607182418800017408 : UInt64) (0 : UInt64)) [(.int 1)])
                  refine gob (fun _ k => XS.ifNo X664.here hx rfl (hb hby at_340) rfl ((if0 _ _).trans (tlt (by decide : (0 : Int32) < (1 : Int32))).2.2.2) k) ?_
                  show gO (tF T664 m 343 (la11 p0 p1 p2 p3 p4 4 b532 14 b663_1 b663_2 (4607182418800017408 : UInt64) (0 : UInt64)) [])
                  refine gob (fun _ k => XS.iconst X664.here hx rfl (hb hby at_343) k) ?_
                  show gO (tF T664 m 344 (la11 p0 p1 p2 p3 p4 4 b532 14 b663_1 b663_2 (4607182418800017408 : UInt64) (0 : UInt64)) [(.int 1)])
                  refine gob (fun _ k => XS.goto X664.here hx rfl (pc0 := 344) (pc' := 348) rfl (hb hby at_344) (by decide) (by decide) k) ?_
                  show gO (tF T664 m 348 (la11 p0 p1 p2 p3 p4 4 b532 14 b663_1 b663_2 (4607182418800017408 : UInt64) (0 : UInt64)) [(.int 1)])
                  refine goZ X664 hx hlk (t := .boolean) Bd.returns (by simp) (hb hby at_348) (z' := (1 : Int32)) rfl ?_ (by decide) (by decide)
                  show Q0 Z p0 p1 p2 p3 p4 h0 n0 (some (.int (1 : Int32))) T664.heap _
                  exact ⟨rfl, N664⟩
              · skip
                refine gob (fun _ k => XS.ifYes X545.here hx rfl (pc0 := 93) (pc' := 99) rfl (hb hby at_93) rfl ((if0 _ _).trans (flt hc93_657).2.2.2) (by decide) (by decide) k) ?_
                show gO (tF T545 m 99 (la7 p0 p1 p2 p3 p4 4 b532 12) [])
                refine gob (fun _ k => XS.iload X545.here hx rfl (hb hby at_99) rfl k) ?_
                show gO (tF T545 m 101 (la7 p0 p1 p2 p3 p4 4 b532 12) [(.int 4)])
                refine gob (fun _ k => XS.iconst X545.here hx rfl (hb hby at_101) k) ?_
                show gO (tF T545 m 102 (la7 p0 p1 p2 p3 p4 4 b532 12) [(.int 3), (.int 4)])
                refine gob (fun _ k => XS.icmpNo X545.here hx rfl (hb hby at_102) rfl (tlt (by decide : (3 : Int32) < (4 : Int32))).2.2.2 k) ?_
                show gO (tF T545 m 105 (la7 p0 p1 p2 p3 p4 4 b532 12) [])
                refine gob (fun _ k => XS.iloadN X545.here hx rfl (hb hby at_105) rfl k) ?_
                show gO (tF T545 m 106 (la7 p0 p1 p2 p3 p4 4 b532 12) [(.int p3)])
                by_cases hc106_667 : (0 : Int32) < p3
                · skip
                  refine gob (fun _ k => XS.ifNo X545.here hx rfl (hb hby at_106) rfl ((if0 _ _).trans (tlt hc106_667).2.2.2) k) ?_
                  show gO (tF T545 m 109 (la7 p0 p1 p2 p3 p4 4 b532 12) [])
                  refine gob (fun _ k => XS.iinc X545.here hx rfl (hb hby at_109) rfl (l' := (la7 p0 p1 p2 p3 p4 4 b532 13)) rfl k) ?_
                  show gO (tF T545 m 112 (la7 p0 p1 p2 p3 p4 4 b532 13) [])
                  refine seg (13 : Int32) ?_
                  intro T668 lc668 h668 b668_1 b668_2 k668_1 k668_2 X668 e668 N668 z668 V668 V668_1 V668_2
                  show gO (tF T668 m 282 (la8 p0 p1 p2 p3 p4 4 b532 13 b668_1 b668_2) [])
                  refine gob (fun _ k => XS.aload X668.here hx rfl (hb hby at_282) rfl rfl k) ?_
                  show gO (tF T668 m 284 (la8 p0 p1 p2 p3 p4 4 b532 13 b668_1 b668_2) [(.ref b532)])
                  obtain ⟨_, _, ⟨T669, L669, k669, n669⟩, -, X669, ⟨Lc669, hQ669, l669, y669, z669⟩, st669⟩ := Jvm.LawKit.callS X668 hx (y := (⟨"com/example/coevolution/coevolution/measure/Measures", "averagePrecision", "([I)D"⟩ : MethodName)) hown (mvT hZ (hW hw 2 rfl)) (mvT hZ (hW hw 3 rfl)) (mvT hZ (hW hw 4 rfl)) (mvT hZ (hW hw 5 rfl)) (by decide) (backOf (W := 0) (rmap4 l Z a0 hw [] b532 k532 p0 p1 p2 p3 h668 n0 z668 V668) hZ (hW hw 5 rfl) (hW hw 4 rfl) (by decide) (by decide)) (g := (mkF m 284 (la8 p0 p1 p2 p3 p4 4 b532 13 b668_1 b668_2) [(.ref b532)])) rfl (by rw [hml]; rfl) (argsL := [(.ref b532)]) (rest := []) (lenOf pd_0 rfl) rfl (by show 2 * 0 + _ ≤ _; exact Nat.le_of_eq rfl) (hb hby at_284) (fun _ _ => ⟨rfl, e668, (by decide : 3 + 0 ≤ _), (by decide : 36 + 0 ≤ _)⟩)
                  dsimp only [Pt.U, Pt.locs, Pt.cells, Pt.slots] at X669 l669 y669 z669 st669 hQ669
                  replace X669 := castX X669 (y669.trans (rfl : _ = 3)) (z669.trans (rfl : _ = 36))
                  obtain ⟨r669, rfl, hr669, Nq669, e669⟩ := hQ669
                  have N669 : Fr n0 L669 := l669 ▸ Fr.app N668 Nq669
                  refine gob st669 ?_
                  show gO (tF T669 m 287 (la8 p0 p1 p2 p3 p4 4 b532 13 b668_1 b668_2) [(.double r669)])
                  have hlr669 : r669 = (4606431818862122325 : UInt64) := by simpa [hc67_655, hc80_656, hc93_657, hc106_667] using hr669
                  subst hlr669
                  show gO (tF T669 m 287 (la8 p0 p1 p2 p3 p4 4 b532 13 b668_1 b668_2) [(.double (4606431818862122325 : UInt64))])
                  refine gob (fun _ k => XS.dstore X669.here hx rfl (hb hby at_287) rfl (l' := (la10 p0 p1 p2 p3 p4 4 b532 13 b668_1 b668_2 (4606431818862122325 : UInt64))) rfl k) ?_
                  show gO (tF T669 m 289 (la10 p0 p1 p2 p3 p4 4 b532 13 b668_1 b668_2 (4606431818862122325 : UInt64)) [])
                  refine gob (fun _ k => XS.iload X669.here hx rfl (hb hby at_289) rfl k) ?_
                  show gO (tF T669 m 291 (la10 p0 p1 p2 p3 p4 4 b532 13 b668_1 b668_2 (4606431818862122325 : UInt64)) [(.int 13)])
                  refine gob (fun _ k => XS.ifYes X669.here hx rfl (pc0 := 291) (pc' := 307) rfl (hb hby at_291) rfl ((if0 _ _).trans (feq (by decide : ¬ ((13 : Int32) = (0 : Int32)))).2) (by decide) (by decide) k) ?_
                  show gO (tF T669 m 307 (la10 p0 p1 p2 p3 p4 4 b532 13 b668_1 b668_2 (4606431818862122325 : UInt64)) [])
                  refine gob (fun _ k => XS.dload X669.here hx rfl (hb hby at_307) rfl k) ?_
                  show gO (tF T669 m 309 (la10 p0 p1 p2 p3 p4 4 b532 13 b668_1 b668_2 (4606431818862122325 : UInt64)) [(.double (4606431818862122325 : UInt64))])
                  refine gob (fun _ k => XS.aload X669.here hx rfl (hb hby at_309) rfl rfl k) ?_
                  show gO (tF T669 m 311 (la10 p0 p1 p2 p3 p4 4 b532 13 b668_1 b668_2 (4606431818862122325 : UInt64)) [(.ref b668_2), (.double (4606431818862122325 : UInt64))])
                  refine gob (fun _ k => XS.iload X669.here hx rfl (hb hby at_311) rfl k) ?_
                  show gO (tF T669 m 313 (la10 p0 p1 p2 p3 p4 4 b532 13 b668_1 b668_2 (4606431818862122325 : UInt64)) [(.int 13), (.ref b668_2), (.double (4606431818862122325 : UInt64))])
                  obtain ⟨cl670, Ar670, aq670, S670, N670, H670, G670⟩ := id V668_2
                  have hin670 : ¬ ((13 : Int32) < 0 ∨ cl670.slots.size ≤ ((13 : Int32)).toNatClampNeg) := inb_of S670 ⟨by decide, by decide⟩
                  refine gob (X669.iaload hx (j := (13 : Int32)) (v := (.int 12)) (by rw [e669]; exact Ar670.1) (State.isArrayOf_alike hZ.alike Ar670.2.1) Ar670.2.2 hin670 (Has.at H670 hin670 rfl) (g := (mkF m 313 (la10 p0 p1 p2 p3 p4 4 b532 13 b668_1 b668_2 (4606431818862122325 : UInt64)) [(.int 13), (.ref b668_2), (.double (4606431818862122325 : UInt64))])) rfl rfl (hb hby at_313)) ?_
                  show gO (tF T669 m 314 (la10 p0 p1 p2 p3 p4 4 b532 13 b668_1 b668_2 (4606431818862122325 : UInt64)) [(.int 12), (.double (4606431818862122325 : UInt64))])
                  refine gob (fun _ k => XS.i2dS X669.here hx rfl (hb hby at_314) rfl (v := (4622945017495814144 : UInt64)) (by decide +kernel) k) ?_
                  show gO (tF T669 m 315 (la10 p0 p1 p2 p3 p4 4 b532 13 b668_1 b668_2 (4606431818862122325 : UInt64)) [(.double (4622945017495814144 : UInt64)), (.double (4606431818862122325 : UInt64))])
                  refine gob (fun _ k => XS.dmulS X669.here hx rfl (hb hby at_315) rfl (v := (4622382067542392832 : UInt64)) (by unfold Jvm.Free.Fl.NoNaN64; decide +kernel) (by decide +kernel) k) ?_
                  show gO (tF T669 m 316 (la10 p0 p1 p2 p3 p4 4 b532 13 b668_1 b668_2 (4606431818862122325 : UInt64)) [(.double (4622382067542392832 : UInt64))])
                  refine gob (fun _ k => XS.aload X669.here hx rfl (hb hby at_316) rfl rfl k) ?_
                  show gO (tF T669 m 318 (la10 p0 p1 p2 p3 p4 4 b532 13 b668_1 b668_2 (4606431818862122325 : UInt64)) [(.ref b668_1), (.double (4622382067542392832 : UInt64))])
                  refine gob (fun _ k => XS.iload X669.here hx rfl (hb hby at_318) rfl k) ?_
                  show gO (tF T669 m 320 (la10 p0 p1 p2 p3 p4 4 b532 13 b668_1 b668_2 (4606431818862122325 : UInt64)) [(.int 13), (.ref b668_1), (.double (4622382067542392832 : UInt64))])
                  obtain ⟨cl671, Ar671, aq671, S671, N671, H671, G671⟩ := id V668_1
                  have hin671 : ¬ ((13 : Int32) < 0 ∨ cl671.slots.size ≤ ((13 : Int32)).toNatClampNeg) := inb_of S671 ⟨by decide, by decide⟩
                  refine gob (X669.iaload hx (j := (13 : Int32)) (v := (.int 11)) (by rw [e669]; exact Ar671.1) (State.isArrayOf_alike hZ.alike Ar671.2.1) Ar671.2.2 hin671 (Has.at H671 hin671 rfl) (g := (mkF m 320 (la10 p0 p1 p2 p3 p4 4 b532 13 b668_1 b668_2 (4606431818862122325 : UInt64)) [(.int 13), (.ref b668_1), (.double (4622382067542392832 : UInt64))])) rfl rfl (hb hby at_320)) ?_
                  show gO (tF T669 m 321 (la10 p0 p1 p2 p3 p4 4 b532 13 b668_1 b668_2 (4606431818862122325 : UInt64)) [(.int 11), (.double (4622382067542392832 : UInt64))])
                  refine gob (fun _ k => XS.i2dS X669.here hx rfl (hb hby at_321) rfl (v := (4622382067542392832 : UInt64)) (by decide +kernel) k) ?_
                  show gO (tF T669 m 322 (la10 p0 p1 p2 p3 p4 4 b532 13 b668_1 b668_2 (4606431818862122325 : UInt64)) [(.double (4622382067542392832 : UInt64)), (.double (4622382067542392832 : UInt64))])
                  refine gob (fun _ k => XS.dsubS X669.here hx rfl (hb hby at_322) rfl (v := (0 : UInt64)) (by unfold Jvm.Free.Fl.NoNaN64; decide +kernel) (by decide +kernel) k) ?_
                  show gO (tF T669 m 323 (la10 p0 p1 p2 p3 p4 4 b532 13 b668_1 b668_2 (4606431818862122325 : UInt64)) [(.double (0 : UInt64))])
                  refine gob (fun _ k => XS.dstore X669.here hx rfl (hb hby at_323) rfl (l' := (la11 p0 p1 p2 p3 p4 4 b532 13 b668_1 b668_2 (4606431818862122325 : UInt64) (0 : UInt64))) rfl k) ?_
                  show gO (tF T669 m 325 (la11 p0 p1 p2 p3 p4 4 b532 13 b668_1 b668_2 (4606431818862122325 : UInt64) (0 : UInt64)) [])
                  refine gob (fun _ k => XS.dload X669.here hx rfl (hb hby at_325) rfl k) ?_
                  show gO (tF T669 m 327 (la11 p0 p1 p2 p3 p4 4 b532 13 b668_1 b668_2 (4606431818862122325 : UInt64) (0 : UInt64)) [(.double (0 : UInt64))])
                  refine gob (X669.ldc2DoubleC hx hown (mvT hZ (hW hw 6 rfl)) (g := (mkF m 327 (la11 p0 p1 p2 p3 p4 4 b532 13 b668_1 b668_2 (4606431818862122325 : UInt64) (0 : UInt64)) [(.double (0 : UInt64))])) rfl (hb hby at_327)) ?_
                  show gO (tF T669 m 330 (la11 p0 p1 p2 p3 p4 4 b532 13 b668_1 b668_2 (4606431818862122325 : UInt64) (0 : UInt64)) [(.double (4472406533629990549 : UInt64)), (.double (0 : UInt64))])
                  refine gob (fun _ k => XS.dcmpS X669.here hx rfl (hb hby at_330) rfl (v := (-1 : Int32)) (by decide +kernel) k) ?_
                  show gO (tF T669 m 331 (la11 p0 p1 p2 p3 p4 4 b532 13 b668_1 b668_2 (4606431818862122325 : UInt64) (0 : UInt64)) [(.int (-1))])
                  refine gob (fun _ k => XS.ifNo X669.here hx rfl (hb hby at_331) rfl ((if0 _ _).trans (tlt (by decide : (-1 : Int32) < (0 : Int32))).2.1) k) ?_
                  show gO (tF T669 m 334 (la11 p0 p1 p2 p3 p4 4 b532 13 b668_1 b668_2 (4606431818862122325 : UInt64) (0 : UInt64)) [])
                  refine gob (fun _ k => XS.dload X669.here hx rfl (hb hby at_334) rfl k) ?_
                  show gO (tF T669 m 336 (la11 p0 p1 p2 p3 p4 4 b532 13 b668_1 b668_2 (4606431818862122325 : UInt64) (0 : UInt64)) [(.double (0 : UInt64))])
                  refine gob (X669.ldc2DoubleC hx hown (mvT hZ (hW hw 7 rfl)) (g := (mkF m 336 (la11 p0 p1 p2 p3 p4 4 b532 13 b668_1 b668_2 (4606431818862122325 : UInt64) (0 : UInt64)) [(.double (0 : UInt64))])) rfl (hb hby at_336)) ?_
                  show gO (tF T669 m 339 (la11 p0 p1 p2 p3 p4 4 b532 13 b668_1 b668_2 (4606431818862122325 : UInt64) (0 : UInt64)) [(.double (13695778570484766357 : UInt64)), (.double (0 : UInt64))])
                  refine gob (fun _ k => XS.dcmpS X669.here hx rfl (hb hby at_339) rfl (v := (1 : Int32)) (by decide +kernel) k) ?_
                  show gO (tF T669 m 340 (la11 p0 p1 p2 p3 p4 4 b532 13 b668_1 b668_2 (4606431818862122325 : UInt64) (0 : UInt64)) [(.int 1)])
                  refine gob (fun _ k => XS.ifNo X669.here hx rfl (hb hby at_340) rfl ((if0 _ _).trans (tlt (by decide : (0 : Int32) < (1 : Int32))).2.2.2) k) ?_
                  show gO (tF T669 m 343 (la11 p0 p1 p2 p3 p4 4 b532 13 b668_1 b668_2 (4606431818862122325 : UInt64) (0 : UInt64)) [])
                  refine gob (fun _ k => XS.iconst X669.here hx rfl (hb hby at_343) k) ?_
                  show gO (tF T669 m 344 (la11 p0 p1 p2 p3 p4 4 b532 13 b668_1 b668_2 (4606431818862122325 : UInt64) (0 : UInt64)) [(.int 1)])
                  refine gob (fun _ k => XS.goto X669.here hx rfl (pc0 := 344) (pc' := 348) rfl (hb hby at_344) (by decide) (by decide) k) ?_
                  show gO (tF T669 m 348 (la11 p0 p1 p2 p3 p4 4 b532 13 b668_1 b668_2 (4606431818862122325 : UInt64) (0 : UInt64)) [(.int 1)])
                  refine goZ X669 hx hlk (t := .boolean) Bd.returns (by simp) (hb hby at_348) (z' := (1 : Int32)) rfl ?_ (by decide) (by decide)
                  show Q0 Z p0 p1 p2 p3 p4 h0 n0 (some (.int (1 : Int32))) T669.heap _
                  exact ⟨rfl, N669⟩
                · skip
                  refine gob (fun _ k => XS.ifYes X545.here hx rfl (pc0 := 106) (pc' := 112) rfl (hb hby at_106) rfl ((if0 _ _).trans (flt hc106_667).2.2.2) (by decide) (by decide) k) ?_
                  show gO (tF T545 m 112 (la7 p0 p1 p2 p3 p4 4 b532 12) [])
                  refine seg (12 : Int32) ?_
                  intro T672 lc672 h672 b672_1 b672_2 k672_1 k672_2 X672 e672 N672 z672 V672 V672_1 V672_2
                  show gO (tF T672 m 282 (la8 p0 p1 p2 p3 p4 4 b532 12 b672_1 b672_2) [])
                  refine gob (fun _ k => XS.aload X672.here hx rfl (hb hby at_282) rfl rfl k) ?_
                  show gO (tF T672 m 284 (la8 p0 p1 p2 p3 p4 4 b532 12 b672_1 b672_2) [(.ref b532)])
                  obtain ⟨_, _, ⟨T673, L673, k673, n673⟩, -, X673, ⟨Lc673, hQ673, l673, y673, z673⟩, st673⟩ := Jvm.LawKit.callS X672 hx (y := (⟨"com/example/coevolution/coevolution/measure/Measures", "averagePrecision", "([I)D"⟩ : MethodName)) hown (mvT hZ (hW hw 2 rfl)) (mvT hZ (hW hw 3 rfl)) (mvT hZ (hW hw 4 rfl)) (mvT hZ (hW hw 5 rfl)) (by decide) (backOf (W := 0) (rmap4 l Z a0 hw [] b532 k532 p0 p1 p2 p3 h672 n0 z672 V672) hZ (hW hw 5 rfl) (hW hw 4 rfl) (by decide) (by decide)) (g := (mkF m 284 (la8 p0 p1 p2 p3 p4 4 b532 12 b672_1 b672_2) [(.ref b532)])) rfl (by rw [hml]; rfl) (argsL := [(.ref b532)]) (rest := []) (lenOf pd_0 rfl) rfl (by show 2 * 0 + _ ≤ _; exact Nat.le_of_eq rfl) (hb hby at_284) (fun _ _ => ⟨rfl, e672, (by decide : 3 + 0 ≤ _), (by decide : 36 + 0 ≤ _)⟩)
                  dsimp only [Pt.U, Pt.locs, Pt.cells, Pt.slots] at X673 l673 y673 z673 st673 hQ673
                  replace X673 := castX X673 (y673.trans (rfl : _ = 3)) (z673.trans (rfl : _ = 36))
                  obtain ⟨r673, rfl, hr673, Nq673, e673⟩ := hQ673
                  have N673 : Fr n0 L673 := l673 ▸ Fr.app N672 Nq673
                  refine gob st673 ?_
                  show gO (tF T673 m 287 (la8 p0 p1 p2 p3 p4 4 b532 12 b672_1 b672_2) [(.double r673)])
                  have hlr673 : r673 = (4607182418800017408 : UInt64) := by simpa [hc67_655, hc80_656, hc93_657, hc106_667] using hr673
                  subst hlr673
                  show gO (tF T673 m 287 (la8 p0 p1 p2 p3 p4 4 b532 12 b672_1 b672_2) [(.double (4607182418800017408 : UInt64))])
                  refine gob (fun _ k => XS.dstore X673.here hx rfl (hb hby at_287) rfl (l' := (la10 p0 p1 p2 p3 p4 4 b532 12 b672_1 b672_2 (4607182418800017408 : UInt64))) rfl k) ?_
                  show gO (tF T673 m 289 (la10 p0 p1 p2 p3 p4 4 b532 12 b672_1 b672_2 (4607182418800017408 : UInt64)) [])
                  refine gob (fun _ k => XS.iload X673.here hx rfl (hb hby at_289) rfl k) ?_
                  show gO (tF T673 m 291 (la10 p0 p1 p2 p3 p4 4 b532 12 b672_1 b672_2 (4607182418800017408 : UInt64)) [(.int 12)])
                  refine gob (fun _ k => XS.ifYes X673.here hx rfl (pc0 := 291) (pc' := 307) rfl (hb hby at_291) rfl ((if0 _ _).trans (feq (by decide : ¬ ((12 : Int32) = (0 : Int32)))).2) (by decide) (by decide) k) ?_
                  show gO (tF T673 m 307 (la10 p0 p1 p2 p3 p4 4 b532 12 b672_1 b672_2 (4607182418800017408 : UInt64)) [])
                  refine gob (fun _ k => XS.dload X673.here hx rfl (hb hby at_307) rfl k) ?_
                  show gO (tF T673 m 309 (la10 p0 p1 p2 p3 p4 4 b532 12 b672_1 b672_2 (4607182418800017408 : UInt64)) [(.double (4607182418800017408 : UInt64))])
                  refine gob (fun _ k => XS.aload X673.here hx rfl (hb hby at_309) rfl rfl k) ?_
                  show gO (tF T673 m 311 (la10 p0 p1 p2 p3 p4 4 b532 12 b672_1 b672_2 (4607182418800017408 : UInt64)) [(.ref b672_2), (.double (4607182418800017408 : UInt64))])
                  refine gob (fun _ k => XS.iload X673.here hx rfl (hb hby at_311) rfl k) ?_
                  show gO (tF T673 m 313 (la10 p0 p1 p2 p3 p4 4 b532 12 b672_1 b672_2 (4607182418800017408 : UInt64)) [(.int 12), (.ref b672_2), (.double (4607182418800017408 : UInt64))])
                  obtain ⟨cl674, Ar674, aq674, S674, N674, H674, G674⟩ := id V672_2
                  have hin674 : ¬ ((12 : Int32) < 0 ∨ cl674.slots.size ≤ ((12 : Int32)).toNatClampNeg) := inb_of S674 ⟨by decide, by decide⟩
                  refine gob (X673.iaload hx (j := (12 : Int32)) (v := (.int 1)) (by rw [e673]; exact Ar674.1) (State.isArrayOf_alike hZ.alike Ar674.2.1) Ar674.2.2 hin674 (Has.at H674 hin674 rfl) (g := (mkF m 313 (la10 p0 p1 p2 p3 p4 4 b532 12 b672_1 b672_2 (4607182418800017408 : UInt64)) [(.int 12), (.ref b672_2), (.double (4607182418800017408 : UInt64))])) rfl rfl (hb hby at_313)) ?_
                  show gO (tF T673 m 314 (la10 p0 p1 p2 p3 p4 4 b532 12 b672_1 b672_2 (4607182418800017408 : UInt64)) [(.int 1), (.double (4607182418800017408 : UInt64))])
                  refine gob (fun _ k => XS.i2dS X673.here hx rfl (hb hby at_314) rfl (v := (4607182418800017408 : UInt64)) (by decide +kernel) k) ?_
                  show gO (tF T673 m 315 (la10 p0 p1 p2 p3 p4 4 b532 12 b672_1 b672_2 (4607182418800017408 : UInt64)) [(.double (4607182418800017408 : UInt64)), (.double (4607182418800017408 : UInt64))])
                  refine gob (fun _ k => XS.dmulS X673.here hx rfl (hb hby at_315) rfl (v := (4607182418800017408 : UInt64)) (by unfold Jvm.Free.Fl.NoNaN64; decide +kernel) (by decide +kernel) k) ?_
                  show gO (tF T673 m 316 (la10 p0 p1 p2 p3 p4 4 b532 12 b672_1 b672_2 (4607182418800017408 : UInt64)) [(.double (4607182418800017408 : UInt64))])
                  refine gob (fun _ k => XS.aload X673.here hx rfl (hb hby at_316) rfl rfl k) ?_
                  show gO (tF T673 m 318 (la10 p0 p1 p2 p3 p4 4 b532 12 b672_1 b672_2 (4607182418800017408 : UInt64)) [(.ref b672_1), (.double (4607182418800017408 : UInt64))])
                  refine gob (fun _ k => XS.iload X673.here hx rfl (hb hby at_318) rfl k) ?_
                  show gO (tF T673 m 320 (la10 p0 p1 p2 p3 p4 4 b532 12 b672_1 b672_2 (4607182418800017408 : UInt64)) [(.int 12), (.ref b672_1), (.double (4607182418800017408 : UInt64))])
                  obtain ⟨cl675, Ar675, aq675, S675, N675, H675, G675⟩ := id V672_1
                  have hin675 : ¬ ((12 : Int32) < 0 ∨ cl675.slots.size ≤ ((12 : Int32)).toNatClampNeg) := inb_of S675 ⟨by decide, by decide⟩
                  refine gob (X673.iaload hx (j := (12 : Int32)) (v := (.int 1)) (by rw [e673]; exact Ar675.1) (State.isArrayOf_alike hZ.alike Ar675.2.1) Ar675.2.2 hin675 (Has.at H675 hin675 rfl) (g := (mkF m 320 (la10 p0 p1 p2 p3 p4 4 b532 12 b672_1 b672_2 (4607182418800017408 : UInt64)) [(.int 12), (.ref b672_1), (.double (4607182418800017408 : UInt64))])) rfl rfl (hb hby at_320)) ?_
                  show gO (tF T673 m 321 (la10 p0 p1 p2 p3 p4 4 b532 12 b672_1 b672_2 (4607182418800017408 : UInt64)) [(.int 1), (.double (4607182418800017408 : UInt64))])
                  refine gob (fun _ k => XS.i2dS X673.here hx rfl (hb hby at_321) rfl (v := (4607182418800017408 : UInt64)) (by decide +kernel) k) ?_
                  show gO (tF T673 m 322 (la10 p0 p1 p2 p3 p4 4 b532 12 b672_1 b672_2 (4607182418800017408 : UInt64)) [(.double (4607182418800017408 : UInt64)), (.double (4607182418800017408 : UInt64))])
                  refine gob (fun _ k => XS.dsubS X673.here hx rfl (hb hby at_322) rfl (v := (0 : UInt64)) (by unfold Jvm.Free.Fl.NoNaN64; decide +kernel) (by decide +kernel) k) ?_
                  show gO (tF T673 m 323 (la10 p0 p1 p2 p3 p4 4 b532 12 b672_1 b672_2 (4607182418800017408 : UInt64)) [(.double (0 : UInt64))])
                  refine gob (fun _ k => XS.dstore X673.here hx rfl (hb hby at_323) rfl (l' := (la11 p0 p1 p2 p3 p4 4 b532 12 b672_1 b672_2 (4607182418800017408 : UInt64) (0 : UInt64))) rfl k) ?_
                  show gO (tF T673 m 325 (la11 p0 p1 p2 p3 p4 4 b532 12 b672_1 b672_2 (4607182418800017408 : UInt64) (0 : UInt64)) [])
                  refine gob (fun _ k => XS.dload X673.here hx rfl (hb hby at_325) rfl k) ?_
                  show gO (tF T673 m 327 (la11 p0 p1 p2 p3 p4 4 b532 12 b672_1 b672_2 (4607182418800017408 : UInt64) (0 : UInt64)) [(.double (0 : UInt64))])
                  refine gob (X673.ldc2DoubleC hx hown (mvT hZ (hW hw 6 rfl)) (g := (mkF m 327 (la11 p0 p1 p2 p3 p4 4 b532 12 b672_1 b672_2 (4607182418800017408 : UInt64) (0 : UInt64)) [(.double (0 : UInt64))])) rfl (hb hby at_327)) ?_
                  show gO (tF T673 m 330 (la11 p0 p1 p2 p3 p4 4 b532 12 b672_1 b672_2 (4607182418800017408 : UInt64) (0 : UInt64)) [(.double (4472406533629990549 : UInt64)), (.double (0 : UInt64))])
                  refine gob (fun _ k => XS.dcmpS X673.here hx rfl (hb hby at_330) rfl (v := (-1 : Int32)) (by decide +kernel) k) ?_
                  show gO (tF T673 m 331 (la11 p0 p1 p2 p3 p4 4 b532 12 b672_1 b672_2 (4607182418800017408 : UInt64) (0 : UInt64)) [(.int (-1))])
                  refine gob (fun _ k => XS.ifNo X673.here hx rfl (hb hby at_331) rfl ((if0 _ _).trans (tlt (by decide : (-1 : Int32) < (0 : Int32))).2.1) k) ?_
                  show gO (tF T673 m 334 (la11 p0 p1 p2 p3 p4 4 b532 12 b672_1 b672_2 (4607182418800017408 : UInt64) (0 : UInt64)) [])
                  refine gob (fun _ k => XS.dload X673.here hx rfl (hb hby at_334) rfl k) ?_
                  show gO (tF T673 m 336 (la11 p0 p1 p2 p3 p4 4 b532 12 b672_1 b672_2 (4607182418800017408 : UInt64) (0 : UInt64)) [(.double (0 : UInt64))])
                  refine gob (X673.ldc2DoubleC hx hown (mvT hZ (hW hw 7 rfl)) (g := (mkF m 336 (la11 p0 p1 p2 p3 p4 4 b532 12 b672_1 b672_2 (4607182418800017408 : UInt64) (0 : UInt64)) [(.double (0 : UInt64))])) rfl (hb hby at_336)) ?_
                  show gO (tF T673 m 339 (la11 p0 p1 p2 p3 p4 4 b532 12 b672_1 b672_2 (4607182418800017408 : UInt64) (0 : UInt64)) [(.double (13695778570484766357 : UInt64)), (.double (0 : UInt64))])
                  refine gob (fun _ k => XS.dcmpS X673.here hx rfl (hb hby at_339) rfl (v := (1 : Int32)) (by decide +kernel) k) ?_
                  show gO (tF T673 m 340 (la11 p0 p1 p2 p3 p4 4 b532 12 b672_1 b672_2 (4607182418800017408 : UInt64) (0 : UInt64)) [(.int 1)])
                  refine gob (fun _ k => XS.ifNo X673.here hx rfl (hb hby at_340) rfl ((if0 _ _).trans (tlt (by decide : (0 : Int32) < (1 : Int32))).2.2.2) k) ?_
                  show gO (tF T673 m 343 (la11 p0 p1 p2 p3 p4 4 b532 12 b672_1 b672_2 (4607182418800017408 : UInt64) (0 : UInt64)) [])
                  refine gob (fun _ k => XS.iconst X673.here hx rfl (hb hby at_343) k) ?_
                  show gO (tF T673 m 344 (la11 p0 p1 p2 p3 p4 4 b532 12 b672_1 b672_2 (4607182418800017408 : UInt64) (0 : UInt64)) [(.int 1)])
                  refine gob (fun _ k => XS.goto X673.here hx rfl (pc0 := 344) (pc' := 348) rfl (hb hby at_344) (by decide) (by decide) k) ?_
                  show gO (tF T673 m 348 (la11 p0 p1 p2 p3 p4 4 b532 12 b672_1 b672_2 (4607182418800017408 : UInt64) (0 : UInt64)) [(.int 1)])
                  refine goZ X673 hx hlk (t := .boolean) Bd.returns (by simp) (hb hby at_348) (z' := (1 : Int32)) rfl ?_ (by decide) (by decide)
                  show Q0 Z p0 p1 p2 p3 p4 h0 n0 (some (.int (1 : Int32))) T673.heap _
                  exact ⟨rfl, N673⟩
            · skip
              refine gob (fun _ k => XS.ifYes X545.here hx rfl (pc0 := 80) (pc' := 86) rfl (hb hby at_80) rfl ((if0 _ _).trans (flt hc80_656).2.2.2) (by decide) (by decide) k) ?_
              show gO (tF T545 m 86 (la7 p0 p1 p2 p3 p4 4 b532 8) [])
              refine gob (fun _ k => XS.iload X545.here hx rfl (hb hby at_86) rfl k) ?_
              show gO (tF T545 m 88 (la7 p0 p1 p2 p3 p4 4 b532 8) [(.int 4)])
              refine gob (fun _ k => XS.iconst X545.here hx rfl (hb hby at_88) k) ?_
              show gO (tF T545 m 89 (la7 p0 p1 p2 p3 p4 4 b532 8) [(.int 2), (.int 4)])
              refine gob (fun _ k => XS.icmpNo X545.here hx rfl (hb hby at_89) rfl (tlt (by decide : (2 : Int32) < (4 : Int32))).2.2.2 k) ?_
              show gO (tF T545 m 92 (la7 p0 p1 p2 p3 p4 4 b532 8) [])
              refine gob (fun _ k => XS.iloadN X545.here hx rfl (hb hby at_92) rfl k) ?_
              show gO (tF T545 m 93 (la7 p0 p1 p2 p3 p4 4 b532 8) [(.int p2)])
              by_cases hc93_676 : (0 : Int32) < p2
              · skip
                refine gob (fun _ k => XS.ifNo X545.here hx rfl (hb hby at_93) rfl ((if0 _ _).trans (tlt hc93_676).2.2.2) k) ?_
                show gO (tF T545 m 96 (la7 p0 p1 p2 p3 p4 4 b532 8) [])
                refine gob (fun _ k => XS.iinc X545.here hx rfl (hb hby at_96) rfl (l' := (la7 p0 p1 p2 p3 p4 4 b532 10)) rfl k) ?_
                show gO (tF T545 m 99 (la7 p0 p1 p2 p3 p4 4 b532 10) [])
                refine gob (fun _ k => XS.iload X545.here hx rfl (hb hby at_99) rfl k) ?_
                show gO (tF T545 m 101 (la7 p0 p1 p2 p3 p4 4 b532 10) [(.int 4)])
                refine gob (fun _ k => XS.iconst X545.here hx rfl (hb hby at_101) k) ?_
                show gO (tF T545 m 102 (la7 p0 p1 p2 p3 p4 4 b532 10) [(.int 3), (.int 4)])
                refine gob (fun _ k => XS.icmpNo X545.here hx rfl (hb hby at_102) rfl (tlt (by decide : (3 : Int32) < (4 : Int32))).2.2.2 k) ?_
                show gO (tF T545 m 105 (la7 p0 p1 p2 p3 p4 4 b532 10) [])
                refine gob (fun _ k => XS.iloadN X545.here hx rfl (hb hby at_105) rfl k) ?_
                show gO (tF T545 m 106 (la7 p0 p1 p2 p3 p4 4 b532 10) [(.int p3)])
                by_cases hc106_677 : (0 : Int32) < p3
                · skip
                  refine gob (fun _ k => XS.ifNo X545.here hx rfl (hb hby at_106) rfl ((if0 _ _).trans (tlt hc106_677).2.2.2) k) ?_
                  show gO (tF T545 m 109 (la7 p0 p1 p2 p3 p4 4 b532 10) [])
                  refine gob (fun _ k => XS.iinc X545.here hx rfl (hb hby at_109) rfl (l' := (la7 p0 p1 p2 p3 p4 4 b532 11)) rfl k) ?_
                  show gO (tF T545 m 112 (la7 p0 p1 p2 p3 p4 4 b532 11) [])
                  refine seg (11 : Int32) ?_
                  intro T678 lc678 h678 b678_1 b678_2 k678_1 k678_2 X678 e678 N678 z678 V678 V678_1 V678_2
                  show gO (tF T678 m 282 (la8 p0 p1 p2 p3 p4 4 b532 11 b678_1 b678_2) [])
                  refine gob (fun _ k => XS.aload X678.here hx rfl (hb hby at_282) rfl rfl k) ?_
                  show gO (tF T678 m 284 (la8 p0 p1 p2 p3 p4 4 b532 11 b678_1 b678_2) [(.ref b532)])
                  obtain ⟨_, _, ⟨T679, L679, k679, n679⟩, -, X679, ⟨Lc679, hQ679, l679, y679, z679⟩, st679⟩ := Jvm.LawKit.callS X678 hx (y := (⟨"com/example/coevolution/coevolution/measure/Measures", "averagePrecision", "([I)D"⟩ : MethodName)) hown (mvT hZ (hW hw 2 rfl)) (mvT hZ (hW hw 3 rfl)) (mvT hZ (hW hw 4 rfl)) (mvT hZ (hW hw 5 rfl)) (by decide) (backOf (W := 0) (rmap4 l Z a0 hw [] b532 k532 p0 p1 p2 p3 h678 n0 z678 V678) hZ (hW hw 5 rfl) (hW hw 4 rfl) (by decide) (by decide)) (g := (mkF m 284 (la8 p0 p1 p2 p3 p4 4 b532 11 b678_1 b678_2) [(.ref b532)])) rfl (by rw [hml]; rfl) (argsL := [(.ref b532)]) (rest := []) (lenOf pd_0 rfl) rfl (by show 2 * 0 + _ ≤ _; exact Nat.le_of_eq rfl) (hb hby at_284) (fun _ _ => ⟨rfl, e678, (by decide : 3 + 0 ≤ _), (by decide : 36 + 0 ≤ _)⟩)
                  dsimp only [Pt.U, Pt.locs, Pt.cells, Pt.slots] at X679 l679 y679 z679 st679 hQ679
                  replace X679 := castX X679 (y679.trans (rfl : _ = 3)) (z679.trans (rfl : _ = 36))
                  obtain ⟨r679, rfl, hr679, Nq679, e679⟩ := hQ679
                  have N679 : Fr n0 L679 := l679 ▸ Fr.app N678 Nq679
                  refine gob st679 ?_
                  show gO (tF T679 m 287 (la8 p0 p1 p2 p3 p4 4 b532 11 b678_1 b678_2) [(.double r679)])
                  have hlr679 : r679 = (4605431018944928881 : UInt64) := by simpa [hc67_655, hc80_656, hc93_676, hc106_677] using hr679
                  subst hlr679
                  show gO (tF T679 m 287 (la8 p0 p1 p2 p3 p4 4 b532 11 b678_1 b678_2) [(.double (4605431018944928881 : UInt64))])
                  refine gob (fun _ k => XS.dstore X679.here hx rfl (hb hby at_287) rfl (l' := (la10 p0 p1 p2 p3 p4 4 b532 11 b678_1 b678_2 (4605431018944928881 : UInt64))) rfl k) ?_
                  show gO (tF T679 m 289 (la10 p0 p1 p2 p3 p4 4 b532 11 b678_1 b678_2 (4605431018944928881 : UInt64)) [])
                  refine gob (fun _ k => XS.iload X679.here hx rfl (hb hby at_289) rfl k) ?_
                  show gO (tF T679 m 291 (la10 p0 p1 p2 p3 p4 4 b532 11 b678_1 b678_2 (4605431018944928881 : UInt64)) [(.int 11)])
                  refine gob (fun _ k => XS.ifYes X679.here hx rfl (pc0 := 291) (pc' := 307) rfl (hb hby at_291) rfl ((if0 _ _).trans (feq (by decide : ¬ ((11 : Int32) = (0 : Int32)))).2) (by decide) (by decide) k) ?_
                  show gO (tF T679 m 307 (la10 p0 p1 p2 p3 p4 4 b532 11 b678_1 b678_2 (4605431018944928881 : UInt64)) [])
                  refine gob (fun _ k => XS.dload X679.here hx rfl (hb hby at_307) rfl k) ?_
                  show gO (tF T679 m 309 (la10 p0 p1 p2 p3 p4 4 b532 11 b678_1 b678_2 (4605431018944928881 : UInt64)) [(.double (4605431018944928881 : UInt64))])
                  refine gob (fun _ k => XS.aload X679.here hx rfl (hb hby at_309) rfl rfl k) ?_
                  show gO (tF T679 m 311 (la10 p0 p1 p2 p3 p4 4 b532 11 b678_1 b678_2 (4605431018944928881 : UInt64)) [(.ref b678_2), (.double (4605431018944928881 : UInt64))])
                  refine gob (fun _ k => XS.iload X679.here hx rfl (hb hby at_311) rfl k) ?_
                  show gO (tF T679 m 313 (la10 p0 p1 p2 p3 p4 4 b532 11 b678_1 b678_2 (4605431018944928881 : UInt64)) [(.int 11), (.ref b678_2), (.double (4605431018944928881 : UInt64))])
                  obtain ⟨cl680, Ar680, aq680, S680, N680, H680, G680⟩ := id V678_2
                  have hin680 : ¬ ((11 : Int32) < 0 ∨ cl680.slots.size ≤ ((11 : Int32)).toNatClampNeg) := inb_of S680 ⟨by decide, by decide⟩
                  refine gob (X679.iaload hx (j := (11 : Int32)) (v := (.int 36)) (by rw [e679]; exact Ar680.1) (State.isArrayOf_alike hZ.alike Ar680.2.1) Ar680.2.2 hin680 (Has.at H680 hin680 rfl) (g := (mkF m 313 (la10 p0 p1 p2 p3 p4 4 b532 11 b678_1 b678_2 (4605431018944928881 : UInt64)) [(.int 11), (.ref b678_2), (.double (4605431018944928881 : UInt64))])) rfl rfl (hb hby at_313)) ?_
                  show gO (tF T679 m 314 (la10 p0 p1 p2 p3 p4 4 b532 11 b678_1 b678_2 (4605431018944928881 : UInt64)) [(.int 36), (.double (4605431018944928881 : UInt64))])
                  refine gob (fun _ k => XS.i2dS X679.here hx rfl (hb hby at_314) rfl (v := (4630263366890291200 : UInt64)) (by decide +kernel) k) ?_
                  show gO (tF T679 m 315 (la10 p0 p1 p2 p3 p4 4 b532 11 b678_1 b678_2 (4605431018944928881 : UInt64)) [(.double (4630263366890291200 : UInt64)), (.double (4605431018944928881 : UInt64))])
                  refine gob (fun _ k => XS.dmulS X679.here hx rfl (hb hby at_315) rfl (v := (4628855992006737919 : UInt64)) (by unfold Jvm.Free.Fl.NoNaN64; decide +kernel) (by decide +kernel) k) ?_
                  show gO (tF T679 m 316 (la10 p0 p1 p2 p3 p4 4 b532 11 b678_1 b678_2 (4605431018944928881 : UInt64)) [(.double (4628855992006737919 : UInt64))])
                  refine gob (fun _ k => XS.aload X679.here hx rfl (hb hby at_316) rfl rfl k) ?_
                  show gO (tF T679 m 318 (la10 p0 p1 p2 p3 p4 4 b532 11 b678_1 b678_2 (4605431018944928881 : UInt64)) [(.ref b678_1), (.double (4628855992006737919 : UInt64))])
                  refine gob (fun _ k => XS.iload X679.here hx rfl (hb hby at_318) rfl k) ?_
                  show gO (tF T679 m 320 (la10 p0 p1 p2 p3 p4 4 b532 11 b678_1 b678_2 (4605431018944928881 : UInt64)) [(.int 11), (.ref b678_1), (.double (4628855992006737919 : UInt64))])
                  obtain ⟨cl681, Ar681, aq681, S681, N681, H681, G681⟩ := id V678_1
                  have hin681 : ¬ ((11 : Int32) < 0 ∨ cl681.slots.size ≤ ((11 : Int32)).toNatClampNeg) := inb_of S681 ⟨by decide, by decide⟩
                  refine gob (X679.iaload hx (j := (11 : Int32)) (v := (.int 29)) (by rw [e679]; exact Ar681.1) (State.isArrayOf_alike hZ.alike Ar681.2.1) Ar681.2.2 hin681 (Has.at H681 hin681 rfl) (g := (mkF m 320 (la10 p0 p1 p2 p3 p4 4 b532 11 b678_1 b678_2 (4605431018944928881 : UInt64)) [(.int 11), (.ref b678_1), (.double (4628855992006737919 : UInt64))])) rfl rfl (hb hby at_320)) ?_
                  show gO (tF T679 m 321 (la10 p0 p1 p2 p3 p4 4 b532 11 b678_1 b678_2 (4605431018944928881 : UInt64)) [(.int 29), (.double (4628855992006737919 : UInt64))])
                  refine gob (fun _ k => XS.i2dS X679.here hx rfl (hb hby at_321) rfl (v := (4628855992006737920 : UInt64)) (by decide +kernel) k) ?_
                  show gO (tF T679 m 322 (la10 p0 p1 p2 p3 p4 4 b532 11 b678_1 b678_2 (4605431018944928881 : UInt64)) [(.double (4628855992006737920 : UInt64)), (.double (4628855992006737919 : UInt64))])
                  refine gob (fun _ k => XS.dsubS X679.here hx rfl (hb hby at_322) rfl (v := (13614381673541009408 : UInt64)) (by unfold Jvm.Free.Fl.NoNaN64; decide +kernel) (by decide +kernel) k) ?_
                  show gO (tF T679 m 323 (la10 p0 p1 p2 p3 p4 4 b532 11 b678_1 b678_2 (4605431018944928881 : UInt64)) [(.double (13614381673541009408 : UInt64))])
                  refine gob (fun _ k => XS.dstore X679.here hx rfl (hb hby at_323) rfl (l' := (la11 p0 p1 p2 p3 p4 4 b532 11 b678_1 b678_2 (4605431018944928881 : UInt64) (13614381673541009408 : UInt64))) rfl k) ?_
                  show gO (tF T679 m 325 (la11 p0 p1 p2 p3 p4 4 b532 11 b678_1 b678_2 (4605431018944928881 : UInt64) (13614381673541009408 : UInt64)) [])
                  refine gob (fun _ k => XS.dload X679.here hx rfl (hb hby at_325) rfl k) ?_
                  show gO (tF T679 m 327 (la11 p0 p1 p2 p3 p4 4 b532 11 b678_1 b678_2 (4605431018944928881 : UInt64) (13614381673541009408 : UInt64)) [(.double (13614381673541009408 : UInt64))])
                  refine gob (X679.ldc2DoubleC hx hown (mvT hZ (hW hw 6 rfl)) (g := (mkF m 327 (la11 p0 p1 p2 p3 p4 4 b532 11 b678_1 b678_2 (4605431018944928881 : UInt64) (13614381673541009408 : UInt64)) [(.double (13614381673541009408 : UInt64))])) rfl (hb hby at_327)) ?_
                  show gO (tF T679 m 330 (la11 p0 p1 p2 p3 p4 4 b532 11 b678_1 b678_2 (4605431018944928881 : UInt64) (13614381673541009408 : UInt64)) [(.double (4472406533629990549 : UInt64)), (.double (13614381673541009408 : UInt64))])
                  refine gob (fun _ k => XS.dcmpS X679.here hx rfl (hb hby at_330) rfl (v := (-1 : Int32)) (by decide +kernel) k) ?_
                  show gO (tF T679 m 331 (la11 p0 p1 p2 p3 p4 4 b532 11 b678_1 b678_2 (4605431018944928881 : UInt64) (13614381673541009408 : UInt64)) [(.int (-1))])
                  refine gob (fun _ k => XS.ifNo X679.here hx rfl (hb hby at_331) rfl ((if0 _ _).trans (tlt (by decide : (-1 : Int32) < (0 : Int32))).2.1) k) ?_
                  show gO (tF T679 m 334 (la11 p0 p1 p2 p3 p4 4 b532 11 b678_1 b678_2 (4605431018944928881 : UInt64) (13614381673541009408 : UInt64)) [])
                  refine gob (fun _ k => XS.dload X679.here hx rfl (hb hby at_334) rfl k) ?_
                  show gO (tF T679 m 336 (la11 p0 p1 p2 p3 p4 4 b532 11 b678_1 b678_2 (4605431018944928881 : UInt64) (13614381673541009408 : UInt64)) [(.double (13614381673541009408 : UInt64))])
                  refine gob (X679.ldc2DoubleC hx hown (mvT hZ (hW hw 7 rfl)) (g := (mkF m 336 (la11 p0 p1 p2 p3 p4 4 b532 11 b678_1 b678_2 (4605431018944928881 : UInt64) (13614381673541009408 : UInt64)) [(.double (13614381673541009408 : UInt64))])) rfl (hb hby at_336)) ?_
                  show gO (tF T679 m 339 (la11 p0 p1 p2 p3 p4 4 b532 11 b678_1 b678_2 (4605431018944928881 : UInt64) (13614381673541009408 : UInt64)) [(.double (13695778570484766357 : UInt64)), (.double (13614381673541009408 : UInt64))])
                  refine gob (fun _ k => XS.dcmpS X679.here hx rfl (hb hby at_339) rfl (v := (1 : Int32)) (by decide +kernel) k) ?_
                  show gO (tF T679 m 340 (la11 p0 p1 p2 p3 p4 4 b532 11 b678_1 b678_2 (4605431018944928881 : UInt64) (13614381673541009408 : UInt64)) [(.int 1)])
                  refine gob (fun _ k => XS.ifNo X679.here hx rfl (hb hby at_340) rfl ((if0 _ _).trans (tlt (by decide : (0 : Int32) < (1 : Int32))).2.2.2) k) ?_
                  show gO (tF T679 m 343 (la11 p0 p1 p2 p3 p4 4 b532 11 b678_1 b678_2 (4605431018944928881 : UInt64) (13614381673541009408 : UInt64)) [])
                  refine gob (fun _ k => XS.iconst X679.here hx rfl (hb hby at_343) k) ?_
                  show gO (tF T679 m 344 (la11 p0 p1 p2 p3 p4 4 b532 11 b678_1 b678_2 (4605431018944928881 : UInt64) (13614381673541009408 : UInt64)) [(.int 1)])
                  refine gob (fun _ k => XS.goto X679.here hx rfl (pc0 := 344) (pc' := 348) rfl (hb hby at_344) (by decide) (by decide) k) ?_
                  show gO (tF T679 m 348 (la11 p0 p1 p2 p3 p4 4 b532 11 b678_1 b678_2 (4605431018944928881 : UInt64) (13614381673541009408 : UInt64)) [(.int 1)])
                  refine goZ X679 hx hlk (t := .boolean) Bd.returns (by simp) (hb hby at_348) (z' := (1 : Int32)) rfl ?_ (by decide) (by decide)
                  show Q0 Z p0 p1 p2 p3 p4 h0 n0 (some (.int (1 : Int32))) T679.heap _
                  exact ⟨rfl, N679⟩
                · skip
                  refine gob (fun _ k => XS.ifYes X545.here hx rfl (pc0 := 106) (pc' := 112) rfl (hb hby at_106) rfl ((if0 _ _).trans (flt hc106_677).2.2.2) (by decide) (by decide) k) ?_
                  show gO (tF T545 m 112 (la7 p0 p1 p2 p3 p4 4 b532 10) [])
                  refine seg (10 : Int32) ?_
                  intro T682 lc682 h682 b682_1 b682_2 k682_1 k682_2 X682 e682 N682 z682 V682 V682_1 V682_2
                  show gO (tF T682 m 282 (la8 p0 p1 p2 p3 p4 4 b532 10 b682_1 b682_2) [])
                  refine gob (fun _ k => XS.aload X682.here hx rfl (hb hby at_282) rfl rfl k) ?_
                  show gO (tF T682 m 284 (la8 p0 p1 p2 p3 p4 4 b532 10 b682_1 b682_2) [(.ref b532)])
                  obtain ⟨_, _, ⟨T683, L683, k683, n683⟩, -, X683, ⟨Lc683, hQ683, l683, y683, z683⟩, st683⟩ := Jvm.LawKit.callS X682 hx (y := (⟨"com/example/coevolution/coevolution/measure/Measures", "averagePrecision", "([I)D"⟩ : MethodName)) hown (mvT hZ (hW hw 2 rfl)) (mvT hZ (hW hw 3 rfl)) (mvT hZ (hW hw 4 rfl)) (mvT hZ (hW hw 5 rfl)) (by decide) (backOf (W := 0) (rmap4 l Z a0 hw [] b532 k532 p0 p1 p2 p3 h682 n0 z682 V682) hZ (hW hw 5 rfl) (hW hw 4 rfl) (by decide) (by decide)) (g := (mkF m 284 (la8 p0 p1 p2 p3 p4 4 b532 10 b682_1 b682_2) [(.ref b532)])) rfl (by rw [hml]; rfl) (argsL := [(.ref b532)]) (rest := []) (lenOf pd_0 rfl) rfl (by show 2 * 0 + _ ≤ _; exact Nat.le_of_eq rfl) (hb hby at_284) (fun _ _ => ⟨rfl, e682, (by decide : 3 + 0 ≤ _), (by decide : 36 + 0 ≤ _)⟩)
                  dsimp only [Pt.U, Pt.locs, Pt.cells, Pt.slots] at X683 l683 y683 z683 st683 hQ683
                  replace X683 := castX X683 (y683.trans (rfl : _ = 3)) (z683.trans (rfl : _ = 36))
                  obtain ⟨r683, rfl, hr683, Nq683, e683⟩ := hQ683
                  have N683 : Fr n0 L683 := l683 ▸ Fr.app N682 Nq683
                  refine gob st683 ?_
                  show gO (tF T683 m 287 (la8 p0 p1 p2 p3 p4 4 b532 10 b682_1 b682_2) [(.double r683)])
                  have hlr683 : r683 = (4605681218924227242 : UInt64) := by simpa [hc67_655, hc80_656, hc93_676, hc106_677] using hr683
                  subst hlr683
                  show gO (tF T683 m 287 (la8 p0 p1 p2 p3 p4 4 b532 10 b682_1 b682_2) [(.double (4605681218924227242 : UInt64))])
                  refine gob (fun _ k => XS.dstore X683.here hx rfl (hb hby at_287) rfl (l' := (la10 p0 p1 p2 p3 p4 4 b532 10 b682_1 b682_2 (4605681218924227242 : UInt64))) rfl k) ?_
                  show gO (tF T683 m 289 (la10 p0 p1 p2 p3 p4 4 b532 10 b682_1 b682_2 (4605681218924227242 : UInt64)) [])
                  refine gob (fun _ k => XS.iload X683.here hx rfl (hb hby at_289) rfl k) ?_
                  show gO (tF T683 m 291 (la10 p0 p1 p2 p3 p4 4 b532 10 b682_1 b682_2 (4605681218924227242 : UInt64)) [(.int 10)])
                  refine gob (fun _ k => XS.ifYes X683.here hx rfl (pc0 := 291) (pc' := 307) rfl (hb hby at_291) rfl ((if0 _ _).trans (feq (by decide : ¬ ((10 : Int32) = (0 : Int32)))).2) (by decide) (by decide) k) ?_
                  show gO (tF T683 m 307 (la10 p0 p1 p2 p3 p4 4 b532 10 b682_1 b682_2 (4605681218924227242 : UInt64)) [])
                  refine gob (fun _ k => XS.dload X683.here hx rfl (hb hby at_307) rfl k) ?_
                  show gO (tF T683 m 309 (la10 p0 p1 p2 p3 p4 4 b532 10 b682_1 b682_2 (4605681218924227242 : UInt64)) [(.double (4605681218924227242 : UInt64))])
                  refine gob (fun _ k => XS.aload X683.here hx rfl (hb hby at_309) rfl rfl k) ?_
                  show gO (tF T683 m 311 (la10 p0 p1 p2 p3 p4 4 b532 10 b682_1 b682_2 (4605681218924227242 : UInt64)) [(.ref b682_2), (.double (4605681218924227242 : UInt64))])
                  refine gob (fun _ k => XS.iload X683.here hx rfl (hb hby at_311) rfl k) ?_
                  show gO (tF T683 m 313 (la10 p0 p1 p2 p3 p4 4 b532 10 b682_1 b682_2 (4605681218924227242 : UInt64)) [(.int 10), (.ref b682_2), (.double (4605681218924227242 : UInt64))])
                  obtain ⟨cl684, Ar684, aq684, S684, N684, H684, G684⟩ := id V682_2
                  have hin684 : ¬ ((10 : Int32) < 0 ∨ cl684.slots.size ≤ ((10 : Int32)).toNatClampNeg) := inb_of S684 ⟨by decide, by decide⟩
                  refine gob (X683.iaload hx (j := (10 : Int32)) (v := (.int 6)) (by rw [e683]; exact Ar684.1) (State.isArrayOf_alike hZ.alike Ar684.2.1) Ar684.2.2 hin684 (Has.at H684 hin684 rfl) (g := (mkF m 313 (la10 p0 p1 p2 p3 p4 4 b532 10 b682_1 b682_2 (4605681218924227242 : UInt64)) [(.int 10), (.ref b682_2), (.double (4605681218924227242 : UInt64))])) rfl rfl (hb hby at_313)) ?_
                  show gO (tF T683 m 314 (la10 p0 p1 p2 p3 p4 4 b532 10 b682_1 b682_2 (4605681218924227242 : UInt64)) [(.int 6), (.double (4605681218924227242 : UInt64))])
                  refine gob (fun _ k => XS.i2dS X683.here hx rfl (hb hby at_314) rfl (v := (4618441417868443648 : UInt64)) (by decide +kernel) k) ?_
                  show gO (tF T683 m 315 (la10 p0 p1 p2 p3 p4 4 b532 10 b682_1 b682_2 (4605681218924227242 : UInt64)) [(.double (4618441417868443648 : UInt64)), (.double (4605681218924227242 : UInt64))])
                  refine gob (fun _ k => XS.dmulS X683.here hx rfl (hb hby at_315) rfl (v := (4617315517961601024 : UInt64)) (by unfold Jvm.Free.Fl.NoNaN64; decide +kernel) (by decide +kernel) k) ?_
                  show gO (tF T683 m 316 (la10 p0 p1 p2 p3 p4 4 b532 10 b682_1 b682_2 (4605681218924227242 : UInt64)) [(.double (4617315517961601024 : UInt64))])
                  refine gob (fun _ k => XS.aload X683.here hx rfl (hb hby at_316) rfl rfl k) ?_
                  show gO (tF T683 m 318 (la10 p0 p1 p2 p3 p4 4 b532 10 b682_1 b682_2 (4605681218924227242 : UInt64)) [(.ref b682_1), (.double (4617315517961601024 : UInt64))])
                  refine gob (fun _ k => XS.iload X683.here hx rfl (hb hby at_318) rfl k) ?_
                  show gO (tF T683 m 320 (la10 p0 p1 p2 p3 p4 4 b532 10 b682_1 b682_2 (4605681218924227242 : UInt64)) [(.int 10), (.ref b682_1), (.double (4617315517961601024 : UInt64))])
                  obtain ⟨cl685, Ar685, aq685, S685, N685, H685, G685⟩ := id V682_1
                  have hin685 : ¬ ((10 : Int32) < 0 ∨ cl685.slots.size ≤ ((10 : Int32)).toNatClampNeg) := inb_of S685 ⟨by decide, by decide⟩
                  refine gob (X683.iaload hx (j := (10 : Int32)) (v := (.int 5)) (by rw [e683]; exact Ar685.1) (State.isArrayOf_alike hZ.alike Ar685.2.1) Ar685.2.2 hin685 (Has.at H685 hin685 rfl) (g := (mkF m 320 (la10 p0 p1 p2 p3 p4 4 b532 10 b682_1 b682_2 (4605681218924227242 : UInt64)) [(.int 10), (.ref b682_1), (.double (4617315517961601024 : UInt64))])) rfl rfl (hb hby at_320)) ?_
                  show gO (tF T683 m 321 (la10 p0 p1 p2 p3 p4 4 b532 10 b682_1 b682_2 (4605681218924227242 : UInt64)) [(.int 5), (.double (4617315517961601024 : UInt64))])
                  refine gob (fun _ k => XS.i2dS X683.here hx rfl (hb hby at_321) rfl (v := (4617315517961601024 : UInt64)) (by decide +kernel) k) ?_
                  show gO (tF T683 m 322 (la10 p0 p1 p2 p3 p4 4 b532 10 b682_1 b682_2 (4605681218924227242 : UInt64)) [(.double (4617315517961601024 : UInt64)), (.double (4617315517961601024 : UInt64))])
                  refine gob (fun _ k => XS.dsubS X683.here hx rfl (hb hby at_322) rfl (v := (0 : UInt64)) (by unfold Jvm.Free.Fl.NoNaN64; decide +kernel) (by decide +kernel) k) ?_
                  show gO (tF T683 m 323 (la10 p0 p1 p2 p3 p4 4 b532 10 b682_1 b682_2 (4605681218924227242 : UInt64)) [(.double (0 : UInt64))])
                  refine gob (fun _ k => XS.dstore X683.here hx rfl (hb hby at_323) rfl (l' := (la11 p0 p1 p2 p3 p4 4 b532 10 b682_1 b682_2 (4605681218924227242 : UInt64) (0 : UInt64))) rfl k) ?_
                  show gO (tF T683 m 325 (la11 p0 p1 p2 p3 p4 4 b532 10 b682_1 b682_2 (4605681218924227242 : UInt64) (0 : UInt64)) [])
                  refine gob (fun _ k => XS.dload X683.here hx rfl (hb hby at_325) rfl k) ?_
                  show gO (tF T683 m 327 (la11 p0 p1 p2 p3 p4 4 b532 10 b682_1 b682_2 (4605681218924227242 : UInt64) (0 : UInt64)) [(.double (0 : UInt64))])
                  refine gob (X683.ldc2DoubleC hx hown (mvT hZ (hW hw 6 rfl)) (g := (mkF m 327 (la11 p0 p1 p2 p3 p4 4 b532 10 b682_1 b682_2 (4605681218924227242 : UInt64) (0 : UInt64)) [(.double (0 : UInt64))])) rfl (hb hby at_327)) ?_
                  show gO (tF T683 m 330 (la11 p0 p1 p2 p3 p4 4 b532 10 b682_1 b682_2 (4605681218924227242 : UInt64) (0 : UInt64)) [(.double (4472406533629990549 : UInt64)), (.double (0 : UInt64))])
                  refine gob (fun _ k => XS.dcmpS X683.here hx rfl (hb hby at_330) rfl (v := (-1 : Int32)) (by decide +kernel) k) ?_
                  show gO (tF T683 m 331 (la11 p0 p1 p2 p3 p4 4 b532 10 b682_1 b682_2 (4605681218924227242 : UInt64) (0 : UInt64)) [(.int (-1))])
                  refine gob (fun _ k => XS.ifNo X683.here hx rfl (hb hby at_331) rfl ((if0 _ _).trans (tlt (by decide : (-1 : Int32) < (0 : Int32))).2.1) k) ?_
                  show gO (tF T683 m 334 (la11 p0 p1 p2 p3 p4 4 b532 10 b682_1 b682_2 (4605681218924227242 : UInt64) (0 : UInt64)) [])
                  refine gob (fun _ k => XS.dload X683.here hx rfl (hb hby at_334) rfl k) ?_
                  show gO (tF T683 m 336 (la11 p0 p1 p2 p3 p4 4 b532 10 b682_1 b682_2 (4605681218924227242 : UInt64) (0 : UInt64)) [(.double (0 : UInt64))])
                  refine gob (X683.ldc2DoubleC hx hown (mvT hZ (hW hw 7 rfl)) (g := (mkF m 336 (la11 p0 p1 p2 p3 p4 4 b532 10 b682_1 b682_2 (4605681218924227242 : UInt64) (0 : UInt64)) [(.double (0 : UInt64))])) rfl (hb hby at_336)) ?_
                  show gO (tF T683 m 339 (la11 p0 p1 p2 p3 p4 4 b532 10 b682_1 b682_2 (4605681218924227242 : UInt64) (0 : UInt64)) [(.double (13695778570484766357 : UInt64)), (.double (0 : UInt64))])
                  refine gob (fun _ k => XS.dcmpS X683.here hx rfl (hb hby at_339) rfl (v := (1 : Int32)) (by decide +kernel) k) ?_
                  show gO (tF T683 m 340 (la11 p0 p1 p2 p3 p4 4 b532 10 b682_1 b682_2 (4605681218924227242 : UInt64) (0 : UInt64)) [(.int 1)])
                  refine gob (fun _ k => XS.ifNo X683.here hx rfl (hb hby at_340) rfl ((if0 _ _).trans (tlt (by decide : (0 : Int32) < (1 : Int32))).2.2.2) k) ?_
                  show gO (tF T683 m 343 (la11 p0 p1 p2 p3 p4 4 b532 10 b682_1 b682_2 (4605681218924227242 : UInt64) (0 : UInt64)) [])
                  refine gob (fun _ k => XS.iconst X683.here hx rfl (hb hby at_343) k) ?_
                  show gO (tF T683 m 344 (la11 p0 p1 p2 p3 p4 4 b532 10 b682_1 b682_2 (4605681218924227242 : UInt64) (0 : UInt64)) [(.int 1)])
                  refine gob (fun _ k => XS.goto X683.here hx rfl (pc0 := 344) (pc' := 348) rfl (hb hby at_344) (by decide) (by decide) k) ?_
                  show gO (tF T683 m 348 (la11 p0 p1 p2 p3 p4 4 b532 10 b682_1 b682_2 (4605681218924227242 : UInt64) (0 : UInt64)) [(.int 1)])
                  refine goZ X683 hx hlk (t := .boolean) Bd.returns (by simp) (hb hby at_348) (z' := (1 : Int32)) rfl ?_ (by decide) (by decide)
                  show Q0 Z p0 p1 p2 p3 p4 h0 n0 (some (.int (1 : Int32))) T683.heap _
                  exact ⟨rfl, N683⟩
              · skip
                refine gob (fun _ k => XS.ifYes X545.here hx rfl (pc0 := 93) (pc' := 99) rfl (hb hby at_93) rfl ((if0 _ _).trans (flt hc93_676).2.2.2) (by decide) (by decide) k) ?_
                show gO (tF T545 m 99 (la7 p0 p1 p2 p3 p4 4 b532 8) [])
                refine gob (fun _ k => XS.iload X545.here hx rfl (hb hby at_99) rfl k) ?_
                show gO (tF T545 m 101 (la7 p0 p1 p2 p3 p4 4 b532 8) [(.int 4)])
                refine gob (fun _ k => XS.iconst X545.here hx rfl (hb hby at_101) k) ?_
                show gO (tF T545 m 102 (la7 p0 p1 p2 p3 p4 4 b532 8) [(.int 3), (.int 4)])
                refine gob (fun _ k => XS.icmpNo X545.here hx rfl (hb hby at_102) rfl (tlt (by decide : (3 : Int32) < (4 : Int32))).2.2.2 k) ?_
                show gO (tF T545 m 105 (la7 p0 p1 p2 p3 p4 4 b532 8) [])
                refine gob (fun _ k => XS.iloadN X545.here hx rfl (hb hby at_105) rfl k) ?_
                show gO (tF T545 m 106 (la7 p0 p1 p2 p3 p4 4 b532 8) [(.int p3)])
                by_cases hc106_686 : (0 : Int32) < p3
                · skip
                  refine gob (fun _ k => XS.ifNo X545.here hx rfl (hb hby at_106) rfl ((if0 _ _).trans (tlt hc106_686).2.2.2) k) ?_
                  show gO (tF T545 m 109 (la7 p0 p1 p2 p3 p4 4 b532 8) [])
                  refine gob (fun _ k => XS.iinc X545.here hx rfl (hb hby at_109) rfl (l' := (la7 p0 p1 p2 p3 p4 4 b532 9)) rfl k) ?_
                  show gO (tF T545 m 112 (la7 p0 p1 p2 p3 p4 4 b532 9) [])
                  refine seg (9 : Int32) ?_
                  intro T687 lc687 h687 b687_1 b687_2 k687_1 k687_2 X687 e687 N687 z687 V687 V687_1 V687_2
                  show gO (tF T687 m 282 (la8 p0 p1 p2 p3 p4 4 b532 9 b687_1 b687_2) [])
                  refine gob (fun _ k => XS.aload X687.here hx rfl (hb hby at_282) rfl rfl k) ?_
                  show gO (tF T687 m 284 (la8 p0 p1 p2 p3 p4 4 b532 9 b687_1 b687_2) [(.ref b532)])
                  obtain ⟨_, _, ⟨T688, L688, k688, n688⟩, -, X688, ⟨Lc688, hQ688, l688, y688, z688⟩, st688⟩ := Jvm.LawKit.callS X687 hx (y := (⟨"com/example/coevolution/coevolution/measure/Measures", "averagePrecision", "([I)D"⟩ : MethodName)) hown (mvT hZ (hW hw 2 rfl)) (mvT hZ (hW hw 3 rfl)) (mvT hZ (hW hw 4 rfl)) (mvT hZ (hW hw 5 rfl)) (by decide) (backOf (W := 0) (rmap4 l Z a0 hw [] b532 k532 p0 p1 p2 p3 h687 n0 z687 V687) hZ (hW hw 5 rfl) (hW hw 4 rfl) (by decide) (by decide)) (g := (mkF m 284 (la8 p0 p1 p2 p3 p4 4 b532 9 b687_1 b687_2) [(.ref b532)])) rfl (by rw [hml]; rfl) (argsL := [(.ref b532)]) (rest := []) (lenOf pd_0 rfl) rfl (by show 2 * 0 + _ ≤ _; exact Nat.le_of_eq rfl) (hb hby at_284) (fun _ _ => ⟨rfl, e687, (by decide : 3 + 0 ≤ _), (by decide : 36 + 0 ≤ _)⟩)
                  dsimp only [Pt.U, Pt.locs, Pt.cells, Pt.slots] at X688 l688 y688 z688 st688 hQ688
                  replace X688 := castX X688 (y688.trans (rfl : _ = 3)) (z688.trans (rfl : _ = 36))
                  obtain ⟨r688, rfl, hr688, Nq688, e688⟩ := hQ688
                  have N688 : Fr n0 L688 := l688 ▸ Fr.app N687 Nq688
                  refine gob st688 ?_
                  show gO (tF T688 m 287 (la8 p0 p1 p2 p3 p4 4 b532 9 b687_1 b687_2) [(.double r688)])
                  have hlr688 : r688 = (4604930618986332160 : UInt64) := by simpa [hc67_655, hc80_656, hc93_676, hc106_686] using hr688
                  subst hlr688
                  show gO (tF T688 m 287 (la8 p0 p1 p2 p3 p4 4 b532 9 b687_1 b687_2) [(.double (4604930618986332160 : UInt64))])
                  refine gob (fun _ k => XS.dstore X688.here hx rfl (hb hby at_287) rfl (l' := (la10 p0 p1 p2 p3 p4 4 b532 9 b687_1 b687_2 (4604930618986332160 : UInt64))) rfl k) ?_
                  show gO (tF T688 m 289 (la10 p0 p1 p2 p3 p4 4 b532 9 b687_1 b687_2 (4604930618986332160 : UInt64)) [])
                  refine gob (fun _ k => XS.iload X688.here hx rfl (hb hby at_289) rfl k) ?_
                  show gO (tF T688 m 291 (la10 p0 p1 p2 p3 p4 4 b532 9 b687_1 b687_2 (4604930618986332160 : UInt64)) [(.int 9)])
                  refine gob (fun _ k => XS.ifYes X688.here hx rfl (pc0 := 291) (pc' := 307) rfl (hb hby at_291) rfl ((if0 _ _).trans (feq (by decide : ¬ ((9 : Int32) = (0 : Int32)))).2) (by decide) (by decide) k) ?_
                  show gO (tF T688 m 307 (la10 p0 p1 p2 p3 p4 4 b532 9 b687_1 b687_2 (4604930618986332160 : UInt64)) [])
                  refine gob (fun _ k => XS.dload X688.here hx rfl (hb hby at_307) rfl k) ?_
                  show gO (tF T688 m 309 (la10 p0 p1 p2 p3 p4 4 b532 9 b687_1 b687_2 (4604930618986332160 : UInt64)) [(.double (4604930618986332160 : UInt64))])
                  refine gob (fun _ k => XS.aload X688.here hx rfl (hb hby at_309) rfl rfl k) ?_
                  show gO (tF T688 m 311 (la10 p0 p1 p2 p3 p4 4 b532 9 b687_1 b687_2 (4604930618986332160 : UInt64)) [(.ref b687_2), (.double (4604930618986332160 : UInt64))])
                  refine gob (fun _ k => XS.iload X688.here hx rfl (hb hby at_311) rfl k) ?_
                  show gO (tF T688 m 313 (la10 p0 p1 p2 p3 p4 4 b532 9 b687_1 b687_2 (4604930618986332160 : UInt64)) [(.int 9), (.ref b687_2), (.double (4604930618986332160 : UInt64))])
                  obtain ⟨cl689, Ar689, aq689, S689, N689, H689, G689⟩ := id V687_2
                  have hin689 : ¬ ((9 : Int32) < 0 ∨ cl689.slots.size ≤ ((9 : Int32)).toNatClampNeg) := inb_of S689 ⟨by decide, by decide⟩
                  refine gob (X688.iaload hx (j := (9 : Int32)) (v := (.int 4)) (by rw [e688]; exact Ar689.1) (State.isArrayOf_alike hZ.alike Ar689.2.1) Ar689.2.2 hin689 (Has.at H689 hin689 rfl) (g := (mkF m 313 (la10 p0 p1 p2 p3 p4 4 b532 9 b687_1 b687_2 (4604930618986332160 : UInt64)) [(.int 9), (.ref b687_2), (.double (4604930618986332160 : UInt64))])) rfl rfl (hb hby at_313)) ?_
                  show gO (tF T688 m 314 (la10 p0 p1 p2 p3 p4 4 b532 9 b687_1 b687_2 (4604930618986332160 : UInt64)) [(.int 4), (.double (4604930618986332160 : UInt64))])
                  refine gob (fun _ k => XS.i2dS X688.here hx rfl (hb hby at_314) rfl (v := (4616189618054758400 : UInt64)) (by decide +kernel) k) ?_
                  show gO (tF T688 m 315 (la10 p0 p1 p2 p3 p4 4 b532 9 b687_1 b687_2 (4604930618986332160 : UInt64)) [(.double (4616189618054758400 : UInt64)), (.double (4604930618986332160 : UInt64))])
                  refine gob (fun _ k => XS.dmulS X688.here hx rfl (hb hby at_315) rfl (v := (4613937818241073152 : UInt64)) (by unfold Jvm.Free.Fl.NoNaN64; decide +kernel) (by decide +kernel) k) ?_
                  show gO (tF T688 m 316 (la10 p0 p1 p2 p3 p4 4 b532 9 b687_1 b687_2 (4604930618986332160 : UInt64)) [(.double (4613937818241073152 : UInt64))])
                  refine gob (fun _ k => XS.aload X688.here hx rfl (hb hby at_316) rfl rfl k) ?_
                  show gO (tF T688 m 318 (la10 p0 p1 p2 p3 p4 4 b532 9 b687_1 b687_2 (4604930618986332160 : UInt64)) [(.ref b687_1), (.double (4613937818241073152 : UInt64))])
                  refine gob (fun _ k => XS.iload X688.here hx rfl (hb hby at_318) rfl k) ?_
                  show gO (tF T688 m 320 (la10 p0 p1 p2 p3 p4 4 b532 9 b687_1 b687_2 (4604930618986332160 : UInt64)) [(.int 9), (.ref b687_1), (.double (4613937818241073152 : UInt64))])
                  obtain ⟨cl690, Ar690, aq690, S690, N690, H690, G690⟩ := id V687_1
                  have hin690 : ¬ ((9 : Int32) < 0 ∨ cl690.slots.size ≤ ((9 : Int32)).toNatClampNeg) := inb_of S690 ⟨by decide, by decide⟩
                  refine gob (X688.iaload hx (j := (9 : Int32)) (v := (.int 3)) (by rw [e688]; exact Ar690.1) (State.isArrayOf_alike hZ.alike Ar690.2.1) Ar690.2.2 hin690 (Has.at H690 hin690 rfl) (g := (mkF m 320 (la10 p0 p1 p2 p3 p4 4 b532 9 b687_1 b687_2 (4604930618986332160 : UInt64)) [(.int 9), (.ref b687_1), (.double (4613937818241073152 : UInt64))])) rfl rfl (hb hby at_320)) ?_
                  show gO (tF T688 m 321 (la10 p0 p1 p2 p3 p4 4 b532 9 b687_1 b687_2 (4604930618986332160 : UInt64)) [(.int 3), (.double (4613937818241073152 : UInt64))])
                  refine gob (fun _ k => XS.i2dS X688.here hx rfl (hb hby at_321) rfl (v := (4613937818241073152 : UInt64)) (by decide +kernel) k) ?_
                  show gO (tF T688 m 322 (la10 p0 p1 p2 p3 p4 4 b532 9 b687_1 b687_2 (4604930618986332160 : UInt64)) [(.double (4613937818241073152 : UInt64)), (.double (4613937818241073152 : UInt64))])
                  refine gob (fun _ k => XS.dsubS X688.here hx rfl (hb hby at_322) rfl (v := (0 : UInt64)) (by unfold Jvm.Free.Fl.NoNaN64; decide +kernel) (by decide +kernel) k) ?_
                  show gO (tF T688 m 323 (la10 p0 p1 p2 p3 p4 4 b532 9 b687_1 b687_2 (4604930618986332160 : UInt64)) [(.double (0 : UInt64))])
                  refine gob (fun _ k => XS.dstore X688.here hx rfl (hb hby at_323) rfl (l' := (la11 p0 p1 p2 p3 p4 4 b532 9 b687_1 b687_2 (4604930618986332160 : UInt64) (0 : UInt64))) rfl k) ?_
                  show gO (tF T688 m 325 (la11 p0 p1 p2 p3 p4 4 b532 9 b687_1 b687_2 (4604930618986332160 : UInt64) (0 : UInt64)) [])
                  refine gob (fun _ k => XS.dload X688.here hx rfl (hb hby at_325) rfl k) ?_
                  show gO (tF T688 m 327 (la11 p0 p1 p2 p3 p4 4 b532 9 b687_1 b687_2 (4604930618986332160 : UInt64) (0 : UInt64)) [(.double (0 : UInt64))])
                  refine gob (X688.ldc2DoubleC hx hown (mvT hZ (hW hw 6 rfl)) (g := (mkF m 327 (la11 p0 p1 p2 p3 p4 4 b532 9 b687_1 b687_2 (4604930618986332160 : UInt64) (0 : UInt64)) [(.double (0 : UInt64))])) rfl (hb hby at_327)) ?_
                  show gO (tF T688 m 330 (la11 p0 p1 p2 p3 p4 4 b532 9 b687_1 b687_2 (4604930618986332160 : UInt64) (0 : UInt64)) [(.double (4472406533629990549 : UInt64)), (.double (0 : UInt64))])
                  refine gob (fun _ k => XS.dcmpS X688.here hx rfl (hb hby at_330) rfl (v := (-1 : Int32)) (by decide +kernel) k) ?_
                  show gO (tF T688 m 331 (la11 p0 p1 p2 p3 p4 4 b532 9 b687_1 b687_2 (4604930618986332160 : UInt64) (0 : UInt64)) [(.int (-1))])
                  refine gob (fun _ k => XS.ifNo X688.here hx rfl (hb hby at_331) rfl ((if0 _ _).trans (tlt (by decide : (-1 : Int32) < (0 : Int32))).2.1) k) ?_
                  show gO (tF T688 m 334 (la11 p0 p1 p2 p3 p4 4 b532 9 b687_1 b687_2 (4604930618986332160 : UInt64) (0 : UInt64)) [])
                  refine gob (fun _ k => XS.dload X688.here hx rfl (hb hby at_334) rfl k) ?_
                  show gO (tF T688 m 336 (la11 p0 p1 p2 p3 p4 4 b532 9 b687_1 b687_2 (4604930618986332160 : UInt64) (0 : UInt64)) [(.double (0 : UInt64))])
                  refine gob (X688.ldc2DoubleC hx hown (mvT hZ (hW hw 7 rfl)) (g := (mkF m 336 (la11 p0 p1 p2 p3 p4 4 b532 9 b687_1 b687_2 (4604930618986332160 : UInt64) (0 : UInt64)) [(.double (0 : UInt64))])) rfl (hb hby at_336)) ?_
                  show gO (tF T688 m 339 (la11 p0 p1 p2 p3 p4 4 b532 9 b687_1 b687_2 (4604930618986332160 : UInt64) (0 : UInt64)) [(.double (13695778570484766357 : UInt64)), (.double (0 : UInt64))])
                  refine gob (fun _ k => XS.dcmpS X688.here hx rfl (hb hby at_339) rfl (v := (1 : Int32)) (by decide +kernel) k) ?_
                  show gO (tF T688 m 340 (la11 p0 p1 p2 p3 p4 4 b532 9 b687_1 b687_2 (4604930618986332160 : UInt64) (0 : UInt64)) [(.int 1)])
                  refine gob (fun _ k => XS.ifNo X688.here hx rfl (hb hby at_340) rfl ((if0 _ _).trans (tlt (by decide : (0 : Int32) < (1 : Int32))).2.2.2) k) ?_
                  show gO (tF T688 m 343 (la11 p0 p1 p2 p3 p4 4 b532 9 b687_1 b687_2 (4604930618986332160 : UInt64) (0 : UInt64)) [])
                  refine gob (fun _ k => XS.iconst X688.here hx rfl (hb hby at_343) k) ?_
                  show gO (tF T688 m 344 (la11 p0 p1 p2 p3 p4 4 b532 9 b687_1 b687_2 (4604930618986332160 : UInt64) (0 : UInt64)) [(.int 1)])
                  refine gob (fun _ k => XS.goto X688.here hx rfl (pc0 := 344) (pc' := 348) rfl (hb hby at_344) (by decide) (by decide) k) ?_
                  show gO (tF T688 m 348 (la11 p0 p1 p2 p3 p4 4 b532 9 b687_1 b687_2 (4604930618986332160 : UInt64) (0 : UInt64)) [(.int 1)])
                  refine goZ X688 hx hlk (t := .boolean) Bd.returns (by simp) (hb hby at_348) (z' := (1 : Int32)) rfl ?_ (by decide) (by decide)
                  show Q0 Z p0 p1 p2 p3 p4 h0 n0 (some (.int (1 : Int32))) T688.heap _
                  exact ⟨rfl, N688⟩
                · skip
                  refine gob (fun _ k => XS.ifYes X545.here hx rfl (pc0 := 106) (pc' := 112) rfl (hb hby at_106) rfl ((if0 _ _).trans (flt hc106_686).2.2.2) (by decide) (by decide) k) ?_
                  show gO (tF T545 m 112 (la7 p0 p1 p2 p3 p4 4 b532 8) [])
                  refine seg (8 : Int32) ?_
                  intro T691 lc691 h691 b691_1 b691_2 k691_1 k691_2 X691 e691 N691 z691 V691 V691_1 V691_2
                  show gO (tF T691 m 282 (la8 p0 p1 p2 p3 p4 4 b532 8 b691_1 b691_2) [])
                  refine gob (fun _ k => XS.aload X691.here hx rfl (hb hby at_282) rfl rfl k) ?_
                  show gO (tF T691 m 284 (la8 p0 p1 p2 p3 p4 4 b532 8 b691_1 b691_2) [(.ref b532)])
                  obtain ⟨_, _, ⟨T692, L692, k692, n692⟩, -, X692, ⟨Lc692, hQ692, l692, y692, z692⟩, st692⟩ := Jvm.LawKit.callS X691 hx (y := (⟨"com/example/coevolution/coevolution/measure/Measures", "averagePrecision", "([I)D"⟩ : MethodName)) hown (mvT hZ (hW hw 2 rfl)) (mvT hZ (hW hw 3 rfl)) (mvT hZ (hW hw 4 rfl)) (mvT hZ (hW hw 5 rfl)) (by decide) (backOf (W := 0) (rmap4 l Z a0 hw [] b532 k532 p0 p1 p2 p3 h691 n0 z691 V691) hZ (hW hw 5 rfl) (hW hw 4 rfl) (by decide) (by decide)) (g := (mkF m 284 (la8 p0 p1 p2 p3 p4 4 b532 8 b691_1 b691_2) [(.ref b532)])) rfl (by rw [hml]; rfl) (argsL := [(.ref b532)]) (rest := []) (lenOf pd_0 rfl) rfl (by show 2 * 0 + _ ≤ _; exact Nat.le_of_eq rfl) (hb hby at_284) (fun _ _ => ⟨rfl, e691, (by decide : 3 + 0 ≤ _), (by decide : 36 + 0 ≤ _)⟩)
                  dsimp only [Pt.U, Pt.locs, Pt.cells, Pt.slots] at X692 l692 y692 z692 st692 hQ692
                  replace X692 := castX X692 (y692.trans (rfl : _ = 3)) (z692.trans (rfl : _ = 36))
                  obtain ⟨r692, rfl, hr692, Nq692, e692⟩ := hQ692
                  have N692 : Fr n0 L692 := l692 ▸ Fr.app N691 Nq692
                  refine gob st692 ?_
                  show gO (tF T692 m 287 (la8 p0 p1 p2 p3 p4 4 b532 8 b691_1 b691_2) [(.double r692)])
                  have hlr692 : r692 = (4607182418800017408 : UInt64) := by simpa [hc67_655, hc80_656, hc93_676, hc106_686] using hr692
                  subst hlr692
                  show gO (tF T692 m 287 (la8 p0 p1 p2 p3 p4 4 b532 8 b691_1 b691_2) [(.double (4607182418800017408 : UInt64))])
                  refine gob (fun _ k => XS.dstore X692.here hx rfl (hb hby at_287) rfl (l' := (la10 p0 p1 p2 p3 p4 4 b532 8 b691_1 b691_2 (4607182418800017408 : UInt64))) rfl k) ?_
                  show gO (tF T692 m 289 (la10 p0 p1 p2 p3 p4 4 b532 8 b691_1 b691_2 (4607182418800017408 : UInt64)) [])
                  refine gob (fun _ k => XS.iload X692.here hx rfl (hb hby at_289) rfl k) ?_
                  show gO (tF T692 m 291 (la10 p0 p1 p2 p3 p4 4 b532 8 b691_1 b691_2 (4607182418800017408 : UInt64)) [(.int 8)])
                  refine gob (fun _ k => XS.ifYes X692.here hx rfl (pc0 := 291) (pc' := 307) rfl (hb hby at_291) rfl ((if0 _ _).trans (feq (by decide : ¬ ((8 : Int32) = (0 : Int32)))).2) (by decide) (by decide) k) ?_
                  show gO (tF T692 m 307 (la10 p0 p1 p2 p3 p4 4 b532 8 b691_1 b691_2 (4607182418800017408 : UInt64)) [])
                  refine gob (fun _ k => XS.dload X692.here hx rfl (hb hby at_307) rfl k) ?_
                  show gO (tF T692 m 309 (la10 p0 p1 p2 p3 p4 4 b532 8 b691_1 b691_2 (4607182418800017408 : UInt64)) [(.double (4607182418800017408 : UInt64))])
                  refine gob (fun _ k => XS.aload X692.here hx rfl (hb hby at_309) rfl rfl k) ?_
                  show gO (tF T692 m 311 (la10 p0 p1 p2 p3 p4 4 b532 8 b691_1 b691_2 (4607182418800017408 : UInt64)) [(.ref b691_2), (.double (4607182418800017408 : UInt64))])
                  refine gob (fun _ k => XS.iload X692.here hx rfl (hb hby at_311) rfl k) ?_
                  show gO (tF T692 m 313 (la10 p0 p1 p2 p3 p4 4 b532 8 b691_1 b691_2 (4607182418800017408 : UInt64)) [(.int 8), (.ref b691_2), (.double (4607182418800017408 : UInt64))])
                  obtain ⟨cl693, Ar693, aq693, S693, N693, H693, G693⟩ := id V691_2
                  have hin693 : ¬ ((8 : Int32) < 0 ∨ cl693.slots.size ≤ ((8 : Int32)).toNatClampNeg) := inb_of S693 ⟨by decide, by decide⟩
                  refine gob (X692.iaload hx (j := (8 : Int32)) (v := (.int 1)) (by rw [e692]; exact Ar693.1) (State.isArrayOf_alike hZ.alike Ar693.2.1) Ar693.2.2 hin693 (Has.at H693 hin693 rfl) (g := (mkF m 313 (la10 p0 p1 p2 p3 p4 4 b532 8 b691_1 b691_2 (4607182418800017408 : UInt64)) [(.int 8), (.ref b691_2), (.double (4607182418800017408 : UInt64))])) rfl rfl (hb hby at_313)) ?_
                  show gO (tF T692 m 314 (la10 p0 p1 p2 p3 p4 4 b532 8 b691_1 b691_2 (4607182418800017408 : UInt64)) [(.int 1), (.double (4607182418800017408 : UInt64))])
                  refine gob (fun _ k => XS.i2dS X692.here hx rfl (hb hby at_314) rfl (v := (4607182418800017408 : UInt64)) (by decide +kernel) k) ?_
                  show gO (tF T692 m 315 (la10 p0 p1 p2 p3 p4 4 b532 8 b691_1 b691_2 (4607182418800017408 : UInt64)) [(.double (4607182418800017408 : UInt64)), (.double (4607182418800017408 : UInt64))])
                  refine gob (fun _ k => XS.dmulS X692.here hx rfl (hb hby at_315) rfl (v := (4607182418800017408 : UInt64)) (by unfold Jvm.Free.Fl.NoNaN64; decide +kernel) (by decide +kernel) k) ?_
                  show gO (tF T692 m 316 (la10 p0 p1 p2 p3 p4 4 b532 8 b691_1 b691_2 (4607182418800017408 : UInt64)) [(.double (4607182418800017408 : UInt64))])
                  refine gob (fun _ k => XS.aload X692.here hx rfl (hb hby at_316) rfl rfl k) ?_
                  show gO (tF T692 m 318 (la10 p0 p1 p2 p3 p4 4 b532 8 b691_1 b691_2 (4607182418800017408 : UInt64)) [(.ref b691_1), (.double (4607182418800017408 : UInt64))])
                  refine gob (fun _ k => XS.iload X692.here hx rfl (hb hby at_318) rfl k) ?_
                  show gO (tF T692 m 320 (la10 p0 p1 p2 p3 p4 4 b532 8 b691_1 b691_2 (4607182418800017408 : UInt64)) [(.int 8), (.ref b691_1), (.double (4607182418800017408 : UInt64))])
                  obtain ⟨cl694, Ar694, aq694, S694, N694, H694, G694⟩ := id V691_1
                  have hin694 : ¬ ((8 : Int32) < 0 ∨ cl694.slots.size ≤ ((8 : Int32)).toNatClampNeg) := inb_of S694 ⟨by decide, by decide⟩
                  refine gob (X692.iaload hx (j := (8 : Int32)) (v := (.int 1)) (by rw [e692]; exact Ar694.1) (State.isArrayOf_alike hZ.alike Ar694.2.1) Ar694.2.2 hin694 (Has.at H694 hin694 rfl) (g := (mkF m 320 (la10 p0 p1 p2 p3 p4 4 b532 8 b691_1 b691_2 (4607182418800017408 : UInt64)) [(.int 8), (.ref b691_1), (.double (4607182418800017408 : UInt64))])) rfl rfl (hb hby at_320)) ?_
                  show gO (tF T692 m 321 (la10 p0 p1 p2 p3 p4 4 b532 8 b691_1 b691_2 (4607182418800017408 : UInt64)) [(.int 1), (.double (4607182418800017408 : UInt64))])
                  refine gob (fun _ k => XS.i2dS X692.here hx rfl (hb hby at_321) rfl (v := (4607182418800017408 : UInt64)) (by decide +kernel) k) ?_
                  show gO (tF T692 m 322 (la10 p0 p1 p2 p3 p4 4 b532 8 b691_1 b691_2 (4607182418800017408 : UInt64)) [(.double (4607182418800017408 : UInt64)), (.double (4607182418800017408 : UInt64))])
                  refine gob (fun _ k => XS.dsubS X692.here hx rfl (hb hby at_322) rfl (v := (0 : UInt64)) (by unfold Jvm.Free.Fl.NoNaN64; decide +kernel) (by decide +kernel) k) ?_
                  show gO (tF T692 m 323 (la10 p0 p1 p2 p3 p4 4 b532 8 b691_1 b691_2 (4607182418800017408 : UInt64)) [(.double (0 : UInt64))])
                  refine gob (fun _ k => XS.dstore X692.here hx rfl (hb hby at_323) rfl (l' := (la11 p0 p1 p2 p3 p4 4 b532 8 b691_1 b691_2 (4607182418800017408 : UInt64) (0 : UInt64))) rfl k) ?_
                  show gO (tF T692 m 325 (la11 p0 p1 p2 p3 p4 4 b532 8 b691_1 b691_2 (4607182418800017408 : UInt64) (0 : UInt64)) [])
                  refine gob (fun _ k => XS.dload X692.here hx rfl (hb hby at_325) rfl k) ?_
                  show gO (tF T692 m 327 (la11 p0 p1 p2 p3 p4 4 b532 8 b691_1 b691_2 (4607182418800017408 : UInt64) (0 : UInt64)) [(.double (0 : UInt64))])
                  refine gob (X692.ldc2DoubleC hx hown (mvT hZ (hW hw 6 rfl)) (g := (mkF m 327 (la11 p0 p1 p2 p3 p4 4 b532 8 b691_1 b691_2 (4607182418800017408 : UInt64) (0 : UInt64)) [(.double (0 : UInt64))])) rfl (hb hby at_327)) ?_
                  show gO (tF T692 m 330 (la11 p0 p1 p2 p3 p4 4 b532 8 b691_1 b691_2 (4607182418800017408 : UInt64) (0 : UInt64)) [(.double (4472406533629990549 : UInt64)), (.double (0 : UInt64))])
                  refine gob (fun _ k => XS.dcmpS X692.here hx rfl (hb hby at_330) rfl (v := (-1 : Int32)) (by decide +kernel) k) ?_
                  show gO (tF T692 m 331 (la11 p0 p1 p2 p3 p4 4 b532 8 b691_1 b691_2 (4607182418800017408 : UInt64) (0 : UInt64)) [(.int (-1))])
                  refine gob (fun _ k => XS.ifNo X692.here hx rfl (hb hby at_331) rfl ((if0 _ _).trans (tlt (by decide : (-1 : Int32) < (0 : Int32))).2.1) k) ?_
                  show gO (tF T692 m 334 (la11 p0 p1 p2 p3 p4 4 b532 8 b691_1 b691_2 (4607182418800017408 : UInt64) (0 : UInt64)) [])
                  refine gob (fun _ k => XS.dload X692.here hx rfl (hb hby at_334) rfl k) ?_
                  show gO (tF T692 m 336 (la11 p0 p1 p2 p3 p4 4 b532 8 b691_1 b691_2 (4607182418800017408 : UInt64) (0 : UInt64)) [(.double (0 : UInt64))])
                  refine gob (X692.ldc2DoubleC hx hown (mvT hZ (hW hw 7 rfl)) (g := (mkF m 336 (la11 p0 p1 p2 p3 p4 4 b532 8 b691_1 b691_2 (4607182418800017408 : UInt64) (0 : UInt64)) [(.double (0 : UInt64))])) rfl (hb hby at_336)) ?_
                  show gO (tF T692 m 339 (la11 p0 p1 p2 p3 p4 4 b532 8 b691_1 b691_2 (4607182418800017408 : UInt64) (0 : UInt64)) [(.double (13695778570484766357 : UInt64)), (.double (0 : UInt64))])
                  refine gob (fun _ k => XS.dcmpS X692.here hx rfl (hb hby at_339) rfl (v := (1 : Int32)) (by decide +kernel) k) ?_
                  show gO (tF T692 m 340 (la11 p0 p1 p2 p3 p4 4 b532 8 b691_1 b691_2 (4607182418800017408 : UInt64) (0 : UInt64)) [(.int 1)])
                  refine gob (fun _ k => XS.ifNo X692.here hx rfl (hb hby at_340) rfl ((if0 _ _).trans (tlt (by decide : (0 : Int32) < (1 : Int32))).2.2.2) k) ?_
                  show gO (tF T692 m 343 (la11 p0 p1 p2 p3 p4 4 b532 8 b691_1 b691_2 (4607182418800017408 : UInt64) (0 : UInt64)) [])
                  refine gob (fun _ k => XS.iconst X692.here hx rfl (hb hby at_343) k) ?_
                  show gO (tF T692 m 344 (la11 p0 p1 p2 p3 p4 4 b532 8 b691_1 b691_2 (4607182418800017408 : UInt64) (0 : UInt64)) [(.int 1)])
                  refine gob (fun _ k => XS.goto X692.here hx rfl (pc0 := 344) (pc' := 348) rfl (hb hby at_344) (by decide) (by decide) k) ?_
                  show gO (tF T692 m 348 (la11 p0 p1 p2 p3 p4 4 b532 8 b691_1 b691_2 (4607182418800017408 : UInt64) (0 : UInt64)) [(.int 1)])
                  refine goZ X692 hx hlk (t := .boolean) Bd.returns (by simp) (hb hby at_348) (z' := (1 : Int32)) rfl ?_ (by decide) (by decide)
                  show Q0 Z p0 p1 p2 p3 p4 h0 n0 (some (.int (1 : Int32))) T692.heap _
                  exact ⟨rfl, N692⟩
          · skip
            refine gob (fun _ k => XS.ifYes X545.here hx rfl (pc0 := 67) (pc' := 73) rfl (hb hby at_67) rfl ((if0 _ _).trans (flt hc67_655).2.2.2) (by decide) (by decide) k) ?_
            show gO (tF T545 m 73 (la7 p0 p1 p2 p3 p4 4 b532 0) [])
            refine gob (fun _ k => XS.iload X545.here hx rfl (hb hby at_73) rfl k) ?_
            show gO (tF T545 m 75 (la7 p0 p1 p2 p3 p4 4 b532 0) [(.int 4)])
            refine gob (fun _ k => XS.iconst X545.here hx rfl (hb hby at_75) k) ?_
            show gO (tF T545 m 76 (la7 p0 p1 p2 p3 p4 4 b532 0) [(.int 1), (.int 4)])
            refine gob (fun _ k => XS.icmpNo X545.here hx rfl (hb hby at_76) rfl (tlt (by decide : (1 : Int32) < (4 : Int32))).2.2.2 k) ?_
            show gO (tF T545 m 79 (la7 p0 p1 p2 p3 p4 4 b532 0) [])
            refine gob (fun _ k => XS.iloadN X545.here hx rfl (hb hby at_79) rfl k) ?_
            show gO (tF T545 m 80 (la7 p0 p1 p2 p3 p4 4 b532 0) [(.int p1)])
            by_cases hc80_695 : (0 : Int32) < p1
            · skip
              refine gob (fun _ k => XS.ifNo X545.here hx rfl (hb hby at_80) rfl ((if0 _ _).trans (tlt hc80_695).2.2.2) k) ?_
              show gO (tF T545 m 83 (la7 p0 p1 p2 p3 p4 4 b532 0) [])
              refine gob (fun _ k => XS.iinc X545.here hx rfl (hb hby at_83) rfl (l' := (la7 p0 p1 p2 p3 p4 4 b532 4)) rfl k) ?_
              show gO (tF T545 m 86 (la7 p0 p1 p2 p3 p4 4 b532 4) [])
              refine gob (fun _ k => XS.iload X545.here hx rfl (hb hby at_86) rfl k) ?_
              show gO (tF T545 m 88 (la7 p0 p1 p2 p3 p4 4 b532 4) [(.int 4)])
              refine gob (fun _ k => XS.iconst X545.here hx rfl (hb hby at_88) k) ?_
              show gO (tF T545 m 89 (la7 p0 p1 p2 p3 p4 4 b532 4) [(.int 2), (.int 4)])
              refine gob (fun _ k => XS.icmpNo X545.here hx rfl (hb hby at_89) rfl (tlt (by decide : (2 : Int32) < (4 : Int32))).2.2.2 k) ?_
              show gO (tF T545 m 92 (la7 p0 p1 p2 p3 p4 4 b532 4) [])
              refine gob (fun _ k => XS.iloadN X545.here hx rfl (hb hby at_92) rfl k) ?_
              show gO (tF T545 m 93 (la7 p0 p1 p2 p3 p4 4 b532 4) [(.int p2)])
              by_cases hc93_696 : (0 : Int32) < p2
              · skip
                refine gob (fun _ k => XS.ifNo X545.here hx rfl (hb hby at_93) rfl ((if0 _ _).trans (tlt hc93_696).2.2.2) k) ?_
                show gO (tF T545 m 96 (la7 p0 p1 p2 p3 p4 4 b532 4) [])
                refine gob (fun _ k => XS.iinc X545.here hx rfl (hb hby at_96) rfl (l' := (la7 p0 p1 p2 p3 p4 4 b532 6)) rfl k) ?_
                show gO (tF T545 m 99 (la7 p0 p1 p2 p3 p4 4 b532 6) [])
                refine gob (fun _ k => XS.iload X545.here hx rfl (hb hby at_99) rfl k) ?_
                show gO (tF T545 m 101 (la7 p0 p1 p2 p3 p4 4 b532 6) [(.int 4)])
                refine gob (fun _ k => XS.iconst X545.here hx rfl (hb hby at_101) k) ?_
                show gO (tF T545 m 102 (la7 p0 p1 p2 p3 p4 4 b532 6) [(.int 3), (.int 4)])
                refine gob (fun _ k => XS.icmpNo X545.here hx rfl (hb hby at_102) rfl (tlt (by decide : (3 : Int32) < (4 : Int32))).2.2.2 k) ?_
                show gO (tF T545 m 105 (la7 p0 p1 p2 p3 p4 4 b532 6) [])
                refine gob (fun _ k => XS.iloadN X545.here hx rfl (hb hby at_105) rfl k) ?_
                show gO (tF T545 m 106 (la7 p0 p1 p2 p3 p4 4 b532 6) [(.int p3)])
                by_cases hc106_697 : (0 : Int32) < p3
                · skip
                  refine gob (fun _ k => XS.ifNo X545.here hx rfl (hb hby at_106) rfl ((if0 _ _).trans (tlt hc106_697).2.2.2) k) ?_
                  show gO (tF T545 m 109 (la7 p0 p1 p2 p3 p4 4 b532 6) [])
                  refine gob (fun _ k => XS.iinc X545.here hx rfl (hb hby at_109) rfl (l' := (la7 p0 p1 p2 p3 p4 4 b532 7)) rfl k) ?_
                  show gO (tF T545 m 112 (la7 p0 p1 p2 p3 p4 4 b532 7) [])
                  refine seg (7 : Int32) ?_
                  intro T698 lc698 h698 b698_1 b698_2 k698_1 k698_2 X698 e698 N698 z698 V698 V698_1 V698_2
                  show gO (tF T698 m 282 (la8 p0 p1 p2 p3 p4 4 b532 7 b698_1 b698_2) [])
                  refine gob (fun _ k => XS.aload X698.here hx rfl (hb hby at_282) rfl rfl k) ?_
                  show gO (tF T698 m 284 (la8 p0 p1 p2 p3 p4 4 b532 7 b698_1 b698_2) [(.ref b532)])
                  obtain ⟨_, _, ⟨T699, L699, k699, n699⟩, -, X699, ⟨Lc699, hQ699, l699, y699, z699⟩, st699⟩ := Jvm.LawKit.callS X698 hx (y := (⟨"com/example/coevolution/coevolution/measure/Measures", "averagePrecision", "([I)D"⟩ : MethodName)) hown (mvT hZ (hW hw 2 rfl)) (mvT hZ (hW hw 3 rfl)) (mvT hZ (hW hw 4 rfl)) (mvT hZ (hW hw 5 rfl)) (by decide) (backOf (W := 0) (rmap4 l Z a0 hw [] b532 k532 p0 p1 p2 p3 h698 n0 z698 V698) hZ (hW hw 5 rfl) (hW hw 4 rfl) (by decide) (by decide)) (g := (mkF m 284 (la8 p0 p1 p2 p3 p4 4 b532 7 b698_1 b698_2) [(.ref b532)])) rfl (by rw [hml]; rfl) (argsL := [(.ref b532)]) (rest := []) (lenOf pd_0 rfl) rfl (by show 2 * 0 + _ ≤ _; exact Nat.le_of_eq rfl) (hb hby at_284) (fun _ _ => ⟨rfl, e698, (by decide : 3 + 0 ≤ _), (by decide : 36 + 0 ≤ _)⟩)
                  dsimp only [Pt.U, Pt.locs, Pt.cells, Pt.slots] at X699 l699 y699 z699 st699 hQ699
                  replace X699 := castX X699 (y699.trans (rfl : _ = 3)) (z699.trans (rfl : _ = 36))
                  obtain ⟨r699, rfl, hr699, Nq699, e699⟩ := hQ699
                  have N699 : Fr n0 L699 := l699 ▸ Fr.app N698 Nq699
                  refine gob st699 ?_
                  show gO (tF T699 m 287 (la8 p0 p1 p2 p3 p4 4 b532 7 b698_1 b698_2) [(.double r699)])
                  have hlr699 : r699 = (4603929819069138716 : UInt64) := by simpa [hc67_655, hc80_695, hc93_696, hc106_697] using hr699
                  subst hlr699
                  show gO (tF T699 m 287 (la8 p0 p1 p2 p3 p4 4 b532 7 b698_1 b698_2) [(.double (4603929819069138716 : UInt64))])
                  refine gob (fun _ k => XS.dstore X699.here hx rfl (hb hby at_287) rfl (l' := (la10 p0 p1 p2 p3 p4 4 b532 7 b698_1 b698_2 (4603929819069138716 : UInt64))) rfl k) ?_
                  show gO (tF T699 m 289 (la10 p0 p1 p2 p3 p4 4 b532 7 b698_1 b698_2 (4603929819069138716 : UInt64)) [])
                  refine gob (fun _ k => XS.iload X699.here hx rfl (hb hby at_289) rfl k) ?_
                  show gO (tF T699 m 291 (la10 p0 p1 p2 p3 p4 4 b532 7 b698_1 b698_2 (4603929819069138716 : UInt64)) [(.int 7)])
                  refine gob (fun _ k => XS.ifYes X699.here hx rfl (pc0 := 291) (pc' := 307) rfl (hb hby at_291) rfl ((if0 _ _).trans (feq (by decide : ¬ ((7 : Int32) = (0 : Int32)))).2) (by decide) (by decide) k) ?_
                  show gO (tF T699 m 307 (la10 p0 p1 p2 p3 p4 4 b532 7 b698_1 b698_2 (4603929819069138716 : UInt64)) [])
                  refine gob (fun _ k => XS.dload X699.here hx rfl (hb hby at_307) rfl k) ?_
                  show gO (tF T699 m 309 (la10 p0 p1 p2 p3 p4 4 b532 7 b698_1 b698_2 (4603929819069138716 : UInt64)) [(.double (4603929819069138716 : UInt64))])
                  refine gob (fun _ k => XS.aload X699.here hx rfl (hb hby at_309) rfl rfl k) ?_
                  show gO (tF T699 m 311 (la10 p0 p1 p2 p3 p4 4 b532 7 b698_1 b698_2 (4603929819069138716 : UInt64)) [(.ref b698_2), (.double (4603929819069138716 : UInt64))])
                  refine gob (fun _ k => XS.iload X699.here hx rfl (hb hby at_311) rfl k) ?_
                  show gO (tF T699 m 313 (la10 p0 p1 p2 p3 p4 4 b532 7 b698_1 b698_2 (4603929819069138716 : UInt64)) [(.int 7), (.ref b698_2), (.double (4603929819069138716 : UInt64))])
                  obtain ⟨cl700, Ar700, aq700, S700, N700, H700, G700⟩ := id V698_2
                  have hin700 : ¬ ((7 : Int32) < 0 ∨ cl700.slots.size ≤ ((7 : Int32)).toNatClampNeg) := inb_of S700 ⟨by decide, by decide⟩
                  refine gob (X699.iaload hx (j := (7 : Int32)) (v := (.int 36)) (by rw [e699]; exact Ar700.1) (State.isArrayOf_alike hZ.alike Ar700.2.1) Ar700.2.2 hin700 (Has.at H700 hin700 rfl) (g := (mkF m 313 (la10 p0 p1 p2 p3 p4 4 b532 7 b698_1 b698_2 (4603929819069138716 : UInt64)) [(.int 7), (.ref b698_2), (.double (4603929819069138716 : UInt64))])) rfl rfl (hb hby at_313)) ?_
                  show gO (tF T699 m 314 (la10 p0 p1 p2 p3 p4 4 b532 7 b698_1 b698_2 (4603929819069138716 : UInt64)) [(.int 36), (.double (4603929819069138716 : UInt64))])
                  refine gob (fun _ k => XS.i2dS X699.here hx rfl (hb hby at_314) rfl (v := (4630263366890291200 : UInt64)) (by decide +kernel) k) ?_
                  show gO (tF T699 m 315 (la10 p0 p1 p2 p3 p4 4 b532 7 b698_1 b698_2 (4603929819069138716 : UInt64)) [(.double (4630263366890291200 : UInt64)), (.double (4603929819069138716 : UInt64))])
                  refine gob (fun _ k => XS.dmulS X699.here hx rfl (hb hby at_315) rfl (v := (4627167142146473984 : UInt64)) (by unfold Jvm.Free.Fl.NoNaN64; decide +kernel) (by decide +kernel) k) ?_
                  show gO (tF T699 m 316 (la10 p0 p1 p2 p3 p4 4 b532 7 b698_1 b698_2 (4603929819069138716 : UInt64)) [(.double (4627167142146473984 : UInt64))])
                  refine gob (fun _ k => XS.aload X699.here hx rfl (hb hby at_316) rfl rfl k) ?_
                  show gO (tF T699 m 318 (la10 p0 p1 p2 p3 p4 4 b532 7 b698_1 b698_2 (4603929819069138716 : UInt64)) [(.ref b698_1), (.double (4627167142146473984 : UInt64))])
                  refine gob (fun _ k => XS.iload X699.here hx rfl (hb hby at_318) rfl k) ?_
                  show gO (tF T699 m 320 (la10 p0 p1 p2 p3 p4 4 b532 7 b698_1 b698_2 (4603929819069138716 : UInt64)) [(.int 7), (.ref b698_1), (.double (4627167142146473984 : UInt64))])
                  obtain ⟨cl701, Ar701, aq701, S701, N701, H701, G701⟩ := id V698_1
                  have hin701 : ¬ ((7 : Int32) < 0 ∨ cl701.slots.size ≤ ((7 : Int32)).toNatClampNeg) := inb_of S701 ⟨by decide, by decide⟩
                  refine gob (X699.iaload hx (j := (7 : Int32)) (v := (.int 23)) (by rw [e699]; exact Ar701.1) (State.isArrayOf_alike hZ.alike Ar701.2.1) Ar701.2.2 hin701 (Has.at H701 hin701 rfl) (g := (mkF m 320 (la10 p0 p1 p2 p3 p4 4 b532 7 b698_1 b698_2 (4603929819069138716 : UInt64)) [(.int 7), (.ref b698_1), (.double (4627167142146473984 : UInt64))])) rfl rfl (hb hby at_320)) ?_
                  show gO (tF T699 m 321 (la10 p0 p1 p2 p3 p4 4 b532 7 b698_1 b698_2 (4603929819069138716 : UInt64)) [(.int 23), (.double (4627167142146473984 : UInt64))])
                  refine gob (fun _ k => XS.i2dS X699.here hx rfl (hb hby at_321) rfl (v := (4627167142146473984 : UInt64)) (by decide +kernel) k) ?_
                  show gO (tF T699 m 322 (la10 p0 p1 p2 p3 p4 4 b532 7 b698_1 b698_2 (4603929819069138716 : UInt64)) [(.double (4627167142146473984 : UInt64)), (.double (4627167142146473984 : UInt64))])
                  refine gob (fun _ k => XS.dsubS X699.here hx rfl (hb hby at_322) rfl (v := (0 : UInt64)) (by unfold Jvm.Free.Fl.NoNaN64; decide +kernel) (by decide +kernel) k) ?_
                  show gO (tF T699 m 323 (la10 p0 p1 p2 p3 p4 4 b532 7 b698_1 b698_2 (4603929819069138716 : UInt64)) [(.double (0 : UInt64))])
                  refine gob (fun _ k => XS.dstore X699.here hx rfl (hb hby at_323) rfl (l' := (la11 p0 p1 p2 p3 p4 4 b532 7 b698_1 b698_2 (4603929819069138716 : UInt64) (0 : UInt64))) rfl k) ?_
                  show gO (tF T699 m 325 (la11 p0 p1 p2 p3 p4 4 b532 7 b698_1 b698_2 (4603929819069138716 : UInt64) (0 : UInt64)) [])
                  refine gob (fun _ k => XS.dload X699.here hx rfl (hb hby at_325) rfl k) ?_
                  show gO (tF T699 m 327 (la11 p0 p1 p2 p3 p4 4 b532 7 b698_1 b698_2 (4603929819069138716 : UInt64) (0 : UInt64)) [(.double (0 : UInt64))])
                  refine gob (X699.ldc2DoubleC hx hown (mvT hZ (hW hw 6 rfl)) (g := (mkF m 327 (la11 p0 p1 p2 p3 p4 4 b532 7 b698_1 b698_2 (4603929819069138716 : UInt64) (0 : UInt64)) [(.double (0 : UInt64))])) rfl (hb hby at_327)) ?_
                  show gO (tF T699 m 330 (la11 p0 p1 p2 p3 p4 4 b532 7 b698_1 b698_2 (4603929819069138716 : UInt64) (0 : UInt64)) [(.double (4472406533629990549 : UInt64)), (.double (0 : UInt64))])
                  refine gob (fun _ k => XS.dcmpS X699.here hx rfl (hb hby at_330) rfl (v := (-1 : Int32)) (by decide +kernel) k) ?_
                  show gO (tF T699 m 331 (la11 p0 p1 p2 p3 p4 4 b532 7 b698_1 b698_2 (4603929819069138716 : UInt64) (0 : UInt64)) [(.int (-1))])
                  refine gob (fun _ k => XS.ifNo X699.here hx rfl (hb hby at_331) rfl ((if0 _ _).trans (tlt (by decide : (-1 : Int32) < (0 : Int32))).2.1) k) ?_
                  show gO (tF T699 m 334 (la11 p0 p1 p2 p3 p4 4 b532 7 b698_1 b698_2 (4603929819069138716 : UInt64) (0 : UInt64)) [])
                  refine gob (fun _ k => XS.dload X699.here hx rfl (hb hby at_334) rfl k) ?_
                  show gO (tF T699 m 336 (la11 p0 p1 p2 p3 p4 4 b532 7 b698_1 b698_2 (4603929819069138716 : UInt64) (0 : UInt64)) [(.double (0 : UInt64))])
                  refine gob (X699.ldc2DoubleC hx hown (mvT hZ (hW hw 7 rfl)) (g := (mkF m 336 (la11 p0 p1 p2 p3 p4 4 b532 7 b698_1 b698_2 (4603929819069138716 : UInt64) (0 : UInt64)) [(.double (0 : UInt64))])) rfl (hb hby at_336)) ?_
                  show gO (tF T699 m 339 (la11 p0 p1 p2 p3 p4 4 b532 7 b698_1 b698_2 (4603929819069138716 : UInt64) (0 : UInt64)) [(.double (13695778570484766357 : UInt64)), (.double (0 : UInt64))])
                  refine gob (fun _ k => XS.dcmpS X699.here hx rfl (hb hby at_339) rfl (v := (1 : Int32)) (by decide +kernel) k) ?_
                  show gO (tF T699 m 340 (la11 p0 p1 p2 p3 p4 4 b532 7 b698_1 b698_2 (4603929819069138716 : UInt64) (0 : UInt64)) [(.int 1)])
                  refine gob (fun _ k => XS.ifNo X699.here hx rfl (hb hby at_340) rfl ((if0 _ _).trans (tlt (by decide : (0 : Int32) < (1 : Int32))).2.2.2) k) ?_
                  show gO (tF T699 m 343 (la11 p0 p1 p2 p3 p4 4 b532 7 b698_1 b698_2 (4603929819069138716 : UInt64) (0 : UInt64)) [])
                  refine gob (fun _ k => XS.iconst X699.here hx rfl (hb hby at_343) k) ?_
                  show gO (tF T699 m 344 (la11 p0 p1 p2 p3 p4 4 b532 7 b698_1 b698_2 (4603929819069138716 : UInt64) (0 : UInt64)) [(.int 1)])
                  refine gob (fun _ k => XS.goto X699.here hx rfl (pc0 := 344) (pc' := 348) rfl (hb hby at_344) (by decide) (by decide) k) ?_
                  show gO (tF T699 m 348 (la11 p0 p1 p2 p3 p4 4 b532 7 b698_1 b698_2 (4603929819069138716 : UInt64) (0 : UInt64)) [(.int 1)])
                  refine goZ X699 hx hlk (t := .boolean) Bd.returns (by simp) (hb hby at_348) (z' := (1 : Int32)) rfl ?_ (by decide) (by decide)
                  show Q0 Z p0 p1 p2 p3 p4 h0 n0 (some (.int (1 : Int32))) T699.heap _
                  exact ⟨rfl, N699⟩
                · skip
                  refine gob (fun _ k => XS.ifYes X545.here hx rfl (pc0 := 106) (pc' := 112) rfl (hb hby at_106) rfl ((if0 _ _).trans (flt hc106_697).2.2.2) (by decide) (by decide) k) ?_
                  show gO (tF T545 m 112 (la7 p0 p1 p2 p3 p4 4 b532 6) [])
                  refine seg (6 : Int32) ?_
                  intro T702 lc702 h702 b702_1 b702_2 k702_1 k702_2 X702 e702 N702 z702 V702 V702_1 V702_2
                  show gO (tF T702 m 282 (la8 p0 p1 p2 p3 p4 4 b532 6 b702_1 b702_2) [])
                  refine gob (fun _ k => XS.aload X702.here hx rfl (hb hby at_282) rfl rfl k) ?_
                  show gO (tF T702 m 284 (la8 p0 p1 p2 p3 p4 4 b532 6 b702_1 b702_2) [(.ref b532)])
                  obtain ⟨_, _, ⟨T703, L703, k703, n703⟩, -, X703, ⟨Lc703, hQ703, l703, y703, z703⟩, st703⟩ := Jvm.LawKit.callS X702 hx (y := (⟨"com/example/coevolution/coevolution/measure/Measures", "averagePrecision", "([I)D"⟩ : MethodName)) hown (mvT hZ (hW hw 2 rfl)) (mvT hZ (hW hw 3 rfl)) (mvT hZ (hW hw 4 rfl)) (mvT hZ (hW hw 5 rfl)) (by decide) (backOf (W := 0) (rmap4 l Z a0 hw [] b532 k532 p0 p1 p2 p3 h702 n0 z702 V702) hZ (hW hw 5 rfl) (hW hw 4 rfl) (by decide) (by decide)) (g := (mkF m 284 (la8 p0 p1 p2 p3 p4 4 b532 6 b702_1 b702_2) [(.ref b532)])) rfl (by rw [hml]; rfl) (argsL := [(.ref b532)]) (rest := []) (lenOf pd_0 rfl) rfl (by show 2 * 0 + _ ≤ _; exact Nat.le_of_eq rfl) (hb hby at_284) (fun _ _ => ⟨rfl, e702, (by decide : 3 + 0 ≤ _), (by decide : 36 + 0 ≤ _)⟩)
                  dsimp only [Pt.U, Pt.locs, Pt.cells, Pt.slots] at X703 l703 y703 z703 st703 hQ703
                  replace X703 := castX X703 (y703.trans (rfl : _ = 3)) (z703.trans (rfl : _ = 36))
                  obtain ⟨r703, rfl, hr703, Nq703, e703⟩ := hQ703
                  have N703 : Fr n0 L703 := l703 ▸ Fr.app N702 Nq703
                  refine gob st703 ?_
                  show gO (tF T703 m 287 (la8 p0 p1 p2 p3 p4 4 b532 6 b702_1 b702_2) [(.double r703)])
                  have hlr703 : r703 = (4603429419110541994 : UInt64) := by simpa [hc67_655, hc80_695, hc93_696, hc106_697] using hr703
                  subst hlr703
                  show gO (tF T703 m 287 (la8 p0 p1 p2 p3 p4 4 b532 6 b702_1 b702_2) [(.double (4603429419110541994 : UInt64))])
                  refine gob (fun _ k => XS.dstore X703.here hx rfl (hb hby at_287) rfl (l' := (la10 p0 p1 p2 p3 p4 4 b532 6 b702_1 b702_2 (4603429419110541994 : UInt64))) rfl k) ?_
                  show gO (tF T703 m 289 (la10 p0 p1 p2 p3 p4 4 b532 6 b702_1 b702_2 (4603429419110541994 : UInt64)) [])
                  refine gob (fun _ k => XS.iload X703.here hx rfl (hb hby at_289) rfl k) ?_
                  show gO (tF T703 m 291 (la10 p0 p1 p2 p3 p4 4 b532 6 b702_1 b702_2 (4603429419110541994 : UInt64)) [(.int 6)])
                  refine gob (fun _ k => XS.ifYes X703.here hx rfl (pc0 := 291) (pc' := 307) rfl (hb hby at_291) rfl ((if0 _ _).trans (feq (by decide : ¬ ((6 : Int32) = (0 : Int32)))).2) (by decide) (by decide) k) ?_
                  show gO (tF T703 m 307 (la10 p0 p1 p2 p3 p4 4 b532 6 b702_1 b702_2 (4603429419110541994 : UInt64)) [])
                  refine gob (fun _ k => XS.dload X703.here hx rfl (hb hby at_307) rfl k) ?_
                  show gO (tF T703 m 309 (la10 p0 p1 p2 p3 p4 4 b532 6 b702_1 b702_2 (4603429419110541994 : UInt64)) [(.double (4603429419110541994 : UInt64))])
                  refine gob (fun _ k => XS.aload X703.here hx rfl (hb hby at_309) rfl rfl k) ?_
                  show gO (tF T703 m 311 (la10 p0 p1 p2 p3 p4 4 b532 6 b702_1 b702_2 (4603429419110541994 : UInt64)) [(.ref b702_2), (.double (4603429419110541994 : UInt64))])
                  refine gob (fun _ k => XS.iload X703.here hx rfl (hb hby at_311) rfl k) ?_
                  show gO (tF T703 m 313 (la10 p0 p1 p2 p3 p4 4 b532 6 b702_1 b702_2 (4603429419110541994 : UInt64)) [(.int 6), (.ref b702_2), (.double (4603429419110541994 : UInt64))])
                  obtain ⟨cl704, Ar704, aq704, S704, N704, H704, G704⟩ := id V702_2
                  have hin704 : ¬ ((6 : Int32) < 0 ∨ cl704.slots.size ≤ ((6 : Int32)).toNatClampNeg) := inb_of S704 ⟨by decide, by decide⟩
                  refine gob (X703.iaload hx (j := (6 : Int32)) (v := (.int 12)) (by rw [e703]; exact Ar704.1) (State.isArrayOf_alike hZ.alike Ar704.2.1) Ar704.2.2 hin704 (Has.at H704 hin704 rfl) (g := (mkF m 313 (la10 p0 p1 p2 p3 p4 4 b532 6 b702_1 b702_2 (4603429419110541994 : UInt64)) [(.int 6), (.ref b702_2), (.double (4603429419110541994 : UInt64))])) rfl rfl (hb hby at_313)) ?_
                  show gO (tF T703 m 314 (la10 p0 p1 p2 p3 p4 4 b532 6 b702_1 b702_2 (4603429419110541994 : UInt64)) [(.int 12), (.double (4603429419110541994 : UInt64))])
                  refine gob (fun _ k => XS.i2dS X703.here hx rfl (hb hby at_314) rfl (v := (4622945017495814144 : UInt64)) (by decide +kernel) k) ?_
                  show gO (tF T703 m 315 (la10 p0 p1 p2 p3 p4 4 b532 6 b702_1 b702_2 (4603429419110541994 : UInt64)) [(.double (4622945017495814144 : UInt64)), (.double (4603429419110541994 : UInt64))])
                  refine gob (fun _ k => XS.dmulS X703.here hx rfl (hb hby at_315) rfl (v := (4619567317775286271 : UInt64)) (by unfold Jvm.Free.Fl.NoNaN64; decide +kernel) (by decide +kernel) k) ?_
                  show gO (tF T703 m 316 (la10 p0 p1 p2 p3 p4 4 b532 6 b702_1 b702_2 (4603429419110541994 : UInt64)) [(.double (4619567317775286271 : UInt64))])
                  refine gob (fun _ k => XS.aload X703.here hx rfl (hb hby at_316) rfl rfl k) ?_
                  show gO (tF T703 m 318 (la10 p0 p1 p2 p3 p4 4 b532 6 b702_1 b702_2 (4603429419110541994 : UInt64)) [(.ref b702_1), (.double (4619567317775286271 : UInt64))])
                  refine gob (fun _ k => XS.iload X703.here hx rfl (hb hby at_318) rfl k) ?_
                  show gO (tF T703 m 320 (la10 p0 p1 p2 p3 p4 4 b532 6 b702_1 b702_2 (4603429419110541994 : UInt64)) [(.int 6), (.ref b702_1), (.double (4619567317775286271 : UInt64))])
                  obtain ⟨cl705, Ar705, aq705, S705, N705, H705, G705⟩ := id V702_1
                  have hin705 : ¬ ((6 : Int32) < 0 ∨ cl705.slots.size ≤ ((6 : Int32)).toNatClampNeg) := inb_of S705 ⟨by decide, by decide⟩
                  refine gob (X703.iaload hx (j := (6 : Int32)) (v := (.int 7)) (by rw [e703]; exact Ar705.1) (State.isArrayOf_alike hZ.alike Ar705.2.1) Ar705.2.2 hin705 (Has.at H705 hin705 rfl) (g := (mkF m 320 (la10 p0 p1 p2 p3 p4 4 b532 6 b702_1 b702_2 (4603429419110541994 : UInt64)) [(.int 6), (.ref b702_1), (.double (4619567317775286271 : UInt64))])) rfl rfl (hb hby at_320)) ?_
                  show gO (tF T703 m 321 (la10 p0 p1 p2 p3 p4 4 b532 6 b702_1 b702_2 (4603429419110541994 : UInt64)) [(.int 7), (.double (4619567317775286271 : UInt64))])
                  refine gob (fun _ k => XS.i2dS X703.here hx rfl (hb hby at_321) rfl (v := (4619567317775286272 : UInt64)) (by decide +kernel) k) ?_
                  show gO (tF T703 m 322 (la10 p0 p1 p2 p3 p4 4 b532 6 b702_1 b702_2 (4603429419110541994 : UInt64)) [(.double (4619567317775286272 : UInt64)), (.double (4619567317775286271 : UInt64))])
                  refine gob (fun _ k => XS.dsubS X703.here hx rfl (hb hby at_322) rfl (v := (13605374474286268416 : UInt64)) (by unfold Jvm.Free.Fl.NoNaN64; decide +kernel) (by decide +kernel) k) ?_
                  show gO (tF T703 m 323 (la10 p0 p1 p2 p3 p4 4 b532 6 b702_1 b702_2 (4603429419110541994 : UInt64)) [(.double (13605374474286268416 : UInt64))])
                  refine gob (fun _ k => XS.dstore X703.here hx rfl (hb hby at_323) rfl (l' := (la11 p0 p1 p2 p3 p4 4 b532 6 b702_1 b702_2 (4603429419110541994 : UInt64) (13605374474286268416 : UInt64))) rfl k) ?_
                  show gO (tF T703 m 325 (la11 p0 p1 p2 p3 p4 4 b532 6 b702_1 b702_2 (4603429419110541994 : UInt64) (13605374474286268416 : UInt64)) [])
                  refine gob (fun _ k => XS.dload X703.here hx rfl (hb hby at_325) rfl k) ?_
                  show gO (tF T703 m 327 (la11 p0 p1 p2 p3 p4 4 b532 6 b702_1 b702_2 (4603429419110541994 : UInt64) (13605374474286268416 : UInt64)) [(.double (13605374474286268416 : UInt64))])
                  refine gob (X703.ldc2DoubleC hx hown (mvT hZ (hW hw 6 rfl)) (g := (mkF m 327 (la11 p0 p1 p2 p3 p4 4 b532 6 b702_1 b702_2 (4603429419110541994 : UInt64) (13605374474286268416 : UInt64)) [(.double (13605374474286268416 : UInt64))])) rfl (hb hby at_327)) ?_
                  show gO (tF T703 m 330 (la11 p0 p1 p2 p3 p4 4 b532 6 b702_1 b702_2 (4603429419110541994 : UInt64) (13605374474286268416 : UInt64)) [(.double (4472406533629990549 : UInt64)), (.double (13605374474286268416 : UInt64))])
                  refine gob (fun _ k => XS.dcmpS X703.here hx rfl (hb hby at_330) rfl (v := (-1 : Int32)) (by decide +kernel) k) ?_
                  show gO (tF T703 m 331 (la11 p0 p1 p2 p3 p4 4 b532 6 b702_1 b702_2 (4603429419110541994 : UInt64) (13605374474286268416 : UInt64)) [(.int (-1))])
                  refine gob (fun _ k => XS.ifNo X703.here hx rfl (hb hby at_331) rfl ((if0 _ _).trans (tlt (by decide : (-1 : Int32) < (0 : Int32))).2.1) k) ?_
                  show gO (tF T703 m 334 (la11 p0 p1 p2 p3 p4 4 b532 6 b702_1 b702_2 (4603429419110541994 : UInt64) (13605374474286268416 : UInt64)) [])
                  refine gob (fun _ k => XS.dload X703.here hx rfl (hb hby at_334) rfl k) ?_
                  show gO (tF T703 m 336 (la11 p0 p1 p2 p3 p4 4 b532 6 b702_1 b702_2 (4603429419110541994 : UInt64) (13605374474286268416 : UInt64)) [(.double (13605374474286268416 : UInt64))])
                  refine gob (X703.ldc2DoubleC hx hown (mvT hZ (hW hw 7 rfl)) (g := (mkF m 336 (la11 p0 p1 p2 p3 p4 4 b532 6 b702_1 b702_2 (4603429419110541994 : UInt64) (13605374474286268416 : UInt64)) [(.double (13605374474286268416 : UInt64))])) rfl (hb hby at_336)) ?_
                  show gO (tF T703 m 339 (la11 p0 p1 p2 p3 p4 4 b532 6 b702_1 b702_2 (4603429419110541994 : UInt64) (13605374474286268416 : UInt64)) [(.double (13695778570484766357 : UInt64)), (.double (13605374474286268416 : UInt64))])
                  refine gob (fun _ k => XS.dcmpS X703.here hx rfl (hb hby at_339) rfl (v := (1 : Int32)) (by decide +kernel) k) ?_
                  show gO (tF T703 m 340 (la11 p0 p1 p2 p3 p4 4 b532 6 b702_1 b702_2 (4603429419110541994 : UInt64) (13605374474286268416 : UInt64)) [(.int 1)])
                  refine gob (fun _ k => XS.ifNo X703.here hx rfl (hb hby at_340) rfl ((if0 _ _).trans (tlt (by decide : (0 : Int32) < (1 : Int32))).2.2.2) k) ?_
                  show gO (tF T703 m 343 (la11 p0 p1 p2 p3 p4 4 b532 6 b702_1 b702_2 (4603429419110541994 : UInt64) (13605374474286268416 : UInt64)) [])
                  refine gob (fun _ k => XS.iconst X703.here hx rfl (hb hby at_343) k) ?_
                  show gO (tF T703 m 344 (la11 p0 p1 p2 p3 p4 4 b532 6 b702_1 b702_2 (4603429419110541994 : UInt64) (13605374474286268416 : UInt64)) [(.int 1)])
                  refine gob (fun _ k => XS.goto X703.here hx rfl (pc0 := 344) (pc' := 348) rfl (hb hby at_344) (by decide) (by decide) k) ?_
                  show gO (tF T703 m 348 (la11 p0 p1 p2 p3 p4 4 b532 6 b702_1 b702_2 (4603429419110541994 : UInt64) (13605374474286268416 : UInt64)) [(.int 1)])
                  refine goZ X703 hx hlk (t := .boolean) Bd.returns (by simp) (hb hby at_348) (z' := (1 : Int32)) rfl ?_ (by decide) (by decide)
                  show Q0 Z p0 p1 p2 p3 p4 h0 n0 (some (.int (1 : Int32))) T703.heap _
                  exact ⟨rfl, N703⟩
              · skip
                refine gob (fun _ k => XS.ifYes X545.here hx rfl (pc0 := 93) (pc' := 99) rfl (hb hby at_93) rfl ((if0 _ _).trans (flt hc93_696).2.2.2) (by decide) (by decide) k) ?_
                show gO (tF T545 m 99 (la7 p0 p1 p2 p3 p4 4 b532 4) [])
                refine gob (fun _ k => XS.iload X545.here hx rfl (hb hby at_99) rfl k) ?_
                show gO (tF T545 m 101 (la7 p0 p1 p2 p3 p4 4 b532 4) [(.int 4)])
                refine gob (fun _ k => XS.iconst X545.here hx rfl (hb hby at_101) k) ?_
                show gO (tF T545 m 102 (la7 p0 p1 p2 p3 p4 4 b532 4) [(.int 3), (.int 4)])
                refine gob (fun _ k => XS.icmpNo X545.here hx rfl (hb hby at_102) rfl (tlt (by decide : (3 : Int32) < (4 : Int32))).2.2.2 k) ?_
                show gO (tF T545 m 105 (la7 p0 p1 p2 p3 p4 4 b532 4) [])
                refine gob (fun _ k => XS.iloadN X545.here hx rfl (hb hby at_105) rfl k) ?_
                show gO (tF T545 m 106 (la7 p0 p1 p2 p3 p4 4 b532 4) [(.int p3)])
                by_cases hc106_706 : (0 : Int32) < p3
                · skip
                  refine gob (fun _ k => XS.ifNo X545.here hx rfl (hb hby at_106) rfl ((if0 _ _).trans (tlt hc106_706).2.2.2) k) ?_
                  show gO (tF T545 m 109 (la7 p0 p1 p2 p3 p4 4 b532 4) [])
                  refine gob (fun _ k => XS.iinc X545.here hx rfl (hb hby at_109) rfl (l' := (la7 p0 p1 p2 p3 p4 4 b532 5)) rfl k) ?_
                  show gO (tF T545 m 112 (la7 p0 p1 p2 p3 p4 4 b532 5) [])
                  refine seg (5 : Int32) ?_
                  intro T707 lc707 h707 b707_1 b707_2 k707_1 k707_2 X707 e707 N707 z707 V707 V707_1 V707_2
                  show gO (tF T707 m 282 (la8 p0 p1 p2 p3 p4 4 b532 5 b707_1 b707_2) [])
                  refine gob (fun _ k => XS.aload X707.here hx rfl (hb hby at_282) rfl rfl k) ?_
                  show gO (tF T707 m 284 (la8 p0 p1 p2 p3 p4 4 b532 5 b707_1 b707_2) [(.ref b532)])
                  obtain ⟨_, _, ⟨T708, L708, k708, n708⟩, -, X708, ⟨Lc708, hQ708, l708, y708, z708⟩, st708⟩ := Jvm.LawKit.callS X707 hx (y := (⟨"com/example/coevolution/coevolution/measure/Measures", "averagePrecision", "([I)D"⟩ : MethodName)) hown (mvT hZ (hW hw 2 rfl)) (mvT hZ (hW hw 3 rfl)) (mvT hZ (hW hw 4 rfl)) (mvT hZ (hW hw 5 rfl)) (by decide) (backOf (W := 0) (rmap4 l Z a0 hw [] b532 k532 p0 p1 p2 p3 h707 n0 z707 V707) hZ (hW hw 5 rfl) (hW hw 4 rfl) (by decide) (by decide)) (g := (mkF m 284 (la8 p0 p1 p2 p3 p4 4 b532 5 b707_1 b707_2) [(.ref b532)])) rfl (by rw [hml]; rfl) (argsL := [(.ref b532)]) (rest := []) (lenOf pd_0 rfl) rfl (by show 2 * 0 + _ ≤ _; exact Nat.le_of_eq rfl) (hb hby at_284) (fun _ _ => ⟨rfl, e707, (by decide : 3 + 0 ≤ _), (by decide : 36 + 0 ≤ _)⟩)
                  dsimp only [Pt.U, Pt.locs, Pt.cells, Pt.slots] at X708 l708 y708 z708 st708 hQ708
                  replace X708 := castX X708 (y708.trans (rfl : _ = 3)) (z708.trans (rfl : _ = 36))
                  obtain ⟨r708, rfl, hr708, Nq708, e708⟩ := hQ708
                  have N708 : Fr n0 L708 := l708 ▸ Fr.app N707 Nq708
                  refine gob st708 ?_
                  show gO (tF T708 m 287 (la8 p0 p1 p2 p3 p4 4 b532 5 b707_1 b707_2) [(.double r708)])
                  have hlr708 : r708 = (4602678819172646912 : UInt64) := by simpa [hc67_655, hc80_695, hc93_696, hc106_706] using hr708
                  subst hlr708
                  show gO (tF T708 m 287 (la8 p0 p1 p2 p3 p4 4 b532 5 b707_1 b707_2) [(.double (4602678819172646912 : UInt64))])
                  refine gob (fun _ k => XS.dstore X708.here hx rfl (hb hby at_287) rfl (l' := (la10 p0 p1 p2 p3 p4 4 b532 5 b707_1 b707_2 (4602678819172646912 : UInt64))) rfl k) ?_
                  show gO (tF T708 m 289 (la10 p0 p1 p2 p3 p4 4 b532 5 b707_1 b707_2 (4602678819172646912 : UInt64)) [])
                  refine gob (fun _ k => XS.iload X708.here hx rfl (hb hby at_289) rfl k) ?_
                  show gO (tF T708 m 291 (la10 p0 p1 p2 p3 p4 4 b532 5 b707_1 b707_2 (4602678819172646912 : UInt64)) [(.int 5)])
                  refine gob (fun _ k => XS.ifYes X708.here hx rfl (pc0 := 291) (pc' := 307) rfl (hb hby at_291) rfl ((if0 _ _).trans (feq (by decide : ¬ ((5 : Int32) = (0 : Int32)))).2) (by decide) (by decide) k) ?_
                  show gO (tF T708 m 307 (la10 p0 p1 p2 p3 p4 4 b532 5 b707_1 b707_2 (4602678819172646912 : UInt64)) [])
                  refine gob (fun _ k => XS.dload X708.here hx rfl (hb hby at_307) rfl k) ?_
                  show gO (tF T708 m 309 (la10 p0 p1 p2 p3 p4 4 b532 5 b707_1 b707_2 (4602678819172646912 : UInt64)) [(.double (4602678819172646912 : UInt64))])
                  refine gob (fun _ k => XS.aload X708.here hx rfl (hb hby at_309) rfl rfl k) ?_
                  show gO (tF T708 m 311 (la10 p0 p1 p2 p3 p4 4 b532 5 b707_1 b707_2 (4602678819172646912 : UInt64)) [(.ref b707_2), (.double (4602678819172646912 : UInt64))])
                  refine gob (fun _ k => XS.iload X708.here hx rfl (hb hby at_311) rfl k) ?_
                  show gO (tF T708 m 313 (la10 p0 p1 p2 p3 p4 4 b532 5 b707_1 b707_2 (4602678819172646912 : UInt64)) [(.int 5), (.ref b707_2), (.double (4602678819172646912 : UInt64))])
                  obtain ⟨cl709, Ar709, aq709, S709, N709, H709, G709⟩ := id V707_2
                  have hin709 : ¬ ((5 : Int32) < 0 ∨ cl709.slots.size ≤ ((5 : Int32)).toNatClampNeg) := inb_of S709 ⟨by decide, by decide⟩
                  refine gob (X708.iaload hx (j := (5 : Int32)) (v := (.int 2)) (by rw [e708]; exact Ar709.1) (State.isArrayOf_alike hZ.alike Ar709.2.1) Ar709.2.2 hin709 (Has.at H709 hin709 rfl) (g := (mkF m 313 (la10 p0 p1 p2 p3 p4 4 b532 5 b707_1 b707_2 (4602678819172646912 : UInt64)) [(.int 5), (.ref b707_2), (.double (4602678819172646912 : UInt64))])) rfl rfl (hb hby at_313)) ?_
                  show gO (tF T708 m 314 (la10 p0 p1 p2 p3 p4 4 b532 5 b707_1 b707_2 (4602678819172646912 : UInt64)) [(.int 2), (.double (4602678819172646912 : UInt64))])
                  refine gob (fun _ k => XS.i2dS X708.here hx rfl (hb hby at_314) rfl (v := (4611686018427387904 : UInt64)) (by decide +kernel) k) ?_
                  show gO (tF T708 m 315 (la10 p0 p1 p2 p3 p4 4 b532 5 b707_1 b707_2 (4602678819172646912 : UInt64)) [(.double (4611686018427387904 : UInt64)), (.double (4602678819172646912 : UInt64))])
                  refine gob (fun _ k => XS.dmulS X708.here hx rfl (hb hby at_315) rfl (v := (4607182418800017408 : UInt64)) (by unfold Jvm.Free.Fl.NoNaN64; decide +kernel) (by decide +kernel) k) ?_
                  show gO (tF T708 m 316 (la10 p0 p1 p2 p3 p4 4 b532 5 b707_1 b707_2 (4602678819172646912 : UInt64)) [(.double (4607182418800017408 : UInt64))])
                  refine gob (fun _ k => XS.aload X708.here hx rfl (hb hby at_316) rfl rfl k) ?_
                  show gO (tF T708 m 318 (la10 p0 p1 p2 p3 p4 4 b532 5 b707_1 b707_2 (4602678819172646912 : UInt64)) [(.ref b707_1), (.double (4607182418800017408 : UInt64))])
                  refine gob (fun _ k => XS.iload X708.here hx rfl (hb hby at_318) rfl k) ?_
                  show gO (tF T708 m 320 (la10 p0 p1 p2 p3 p4 4 b532 5 b707_1 b707_2 (4602678819172646912 : UInt64)) [(.int 5), (.ref b707_1), (.double (4607182418800017408 : UInt64))])
                  obtain ⟨cl710, Ar710, aq710, S710, N710, H710, G710⟩ := id V707_1
                  have hin710 : ¬ ((5 : Int32) < 0 ∨ cl710.slots.size ≤ ((5 : Int32)).toNatClampNeg) := inb_of S710 ⟨by decide, by decide⟩
                  refine gob (X708.iaload hx (j := (5 : Int32)) (v := (.int 1)) (by rw [e708]; exact Ar710.1) (State.isArrayOf_alike hZ.alike Ar710.2.1) Ar710.2.2 hin710 (Has.at H710 hin710 rfl) (g := (mkF m 320 (la10 p0 p1 p2 p3 p4 4 b532 5 b707_1 b707_2 (4602678819172646912 : UInt64)) [(.int 5), (.ref b707_1), (.double (4607182418800017408 : UInt64))])) rfl rfl (hb hby at_320)) ?_
                  show gO (tF T708 m 321 (la10 p0 p1 p2 p3 p4 4 b532 5 b707_1 b707_2 (4602678819172646912 : UInt64)) [(.int 1), (.double (4607182418800017408 : UInt64))])
                  refine gob (fun _ k => XS.i2dS X708.here hx rfl (hb hby at_321) rfl (v := (4607182418800017408 : UInt64)) (by decide +kernel) k) ?_
                  show gO (tF T708 m 322 (la10 p0 p1 p2 p3 p4 4 b532 5 b707_1 b707_2 (4602678819172646912 : UInt64)) [(.double (4607182418800017408 : UInt64)), (.double (4607182418800017408 : UInt64))])
                  refine gob (fun _ k => XS.dsubS X708.here hx rfl (hb hby at_322) rfl (v := (0 : UInt64)) (by unfold Jvm.Free.Fl.NoNaN64; decide +kernel) (by decide +kernel) k) ?_
                  show gO (tF T708 m 323 (la10 p0 p1 p2 p3 p4 4 b532 5 b707_1 b707_2 (4602678819172646912 : UInt64)) [(.double (0 : UInt64))])
                  refine gob (fun _ k => XS.dstore X708.here hx rfl (hb hby at_323) rfl (l' := (la11 p0 p1 p2 p3 p4 4 b532 5 b707_1 b707_2 (4602678819172646912 : UInt64) (0 : UInt64))) rfl k) ?_
                  show gO (tF T708 m 325 (la11 p0 p1 p2 p3 p4 4 b532 5 b707_1 b707_2 (4602678819172646912 : UInt64) (0 : UInt64)) [])
                  refine gob (fun _ k => XS.dload X708.here hx rfl (hb hby at_325) rfl k) ?_
                  show gO (tF T708 m 327 (la11 p0 p1 p2 p3 p4 4 b532 5 b707_1 b707_2 (4602678819172646912 : UInt64) (0 : UInt64)) [(.double (0 : UInt64))])
                  refine gob (X708.ldc2DoubleC hx hown (mvT hZ (hW hw 6 rfl)) (g := (mkF m 327 (la11 p0 p1 p2 p3 p4 4 b532 5 b707_1 b707_2 (4602678819172646912 : UInt64) (0 : UInt64)) [(.double (0 : UInt64))])) rfl (hb hby at_327)) ?_
                  show gO (tF T708 m 330 (la11 p0 p1 p2 p3 p4 4 b532 5 b707_1 b707_2 (4602678819172646912 : UInt64) (0 : UInt64)) [(.double (4472406533629990549 : UInt64)), (.double (0 : UInt64))])
                  refine gob (fun _ k => XS.dcmpS X708.here hx rfl (hb hby at_330) rfl (v := (-1 : Int32)) (by decide +kernel) k) ?_
                  show gO (tF T708 m 331 (la11 p0 p1 p2 p3 p4 4 b532 5 b707_1 b707_2 (4602678819172646912 : UInt64) (0 : UInt64)) [(.int (-1))])
                  refine gob (fun _ k => XS.ifNo X708.here hx rfl (hb hby at_331) rfl ((if0 _ _).trans (tlt (by decide : (-1 : Int32) < (0 : Int32))).2.1) k) ?_
                  show gO (tF T708 m 334 (la11 p0 p1 p2 p3 p4 4 b532 5 b707_1 b707_2 (4602678819172646912 : UInt64) (0 : UInt64)) [])
                  refine gob (fun _ k => XS.dload X708.here hx rfl (hb hby at_334) rfl k) ?_
                  show gO (tF T708 m 336 (la11 p0 p1 p2 p3 p4 4 b532 5 b707_1 b707_2 (4602678819172646912 : UInt64) (0 : UInt64)) [(.double (0 : UInt64))])
                  refine gob (X708.ldc2DoubleC hx hown (mvT hZ (hW hw 7 rfl)) (g := (mkF m 336 (la11 p0 p1 p2 p3 p4 4 b532 5 b707_1 b707_2 (4602678819172646912 : UInt64) (0 : UInt64)) [(.double (0 : UInt64))])) rfl (hb hby at_336)) ?_
                  show gO (tF T708 m 339 (la11 p0 p1 p2 p3 p4 4 b532 5 b707_1 b707_2 (4602678819172646912 : UInt64) (0 : UInt64)) [(.double (13695778570484766357 : UInt64)), (.double (0 : UInt64))])
                  refine gob (fun _ k => XS.dcmpS X708.here hx rfl (hb hby at_339) rfl (v := (1 : Int32)) (by decide +kernel) k) ?_
                  show gO (tF T708 m 340 (la11 p0 p1 p2 p3 p4 4 b532 5 b707_1 b707_2 (4602678819172646912 : UInt64) (0 : UInt64)) [(.int 1)])
                  refine gob (fun _ k => XS.ifNo X708.here hx rfl (hb hby at_340) rfl ((if0 _ _).trans (tlt (by decide : (0 : Int32) < (1 : Int32))).2.2.2) k) ?_
                  show gO (tF T708 m 343 (la11 p0 p1 p2 p3 p4 4 b532 5 b707_1 b707_2 (4602678819172646912 : UInt64) (0 : UInt64)) [])
                  refine gob (fun _ k => XS.iconst X708.here hx rfl (hb hby at_343) k) ?_
                  show gO (tF T708 m 344 (la11 p0 p1 p2 p3 p4 4 b532 5 b707_1 b707_2 (4602678819172646912 : UInt64) (0 : UInt64)) [(.int 1)])
                  refine gob (fun _ k => XS.goto X708.here hx rfl (pc0 := 344) (pc' := 348) rfl (hb hby at_344) (by decide) (by decide) k) ?_
                  show gO (tF T708 m 348 (la11 p0 p1 p2 p3 p4 4 b532 5 b707_1 b707_2 (4602678819172646912 : UInt64) (0 : UInt64)) [(.int 1)])
                  refine goZ X708 hx hlk (t := .boolean) Bd.returns (by simp) (hb hby at_348) (z' := (1 : Int32)) rfl ?_ (by decide) (by decide)
                  show Q0 Z p0 p1 p2 p3 p4 h0 n0 (some (.int (1 : Int32))) T708.heap _
                  exact ⟨rfl, N708⟩
                · skip
                  refine gob (fun _ k => XS.ifYes X545.here hx rfl (pc0 := 106) (pc' := 112) rfl (hb hby at_106) rfl ((if0 _ _).trans (flt hc106_706).2.2.2) (by decide) (by decide) k) ?_
                  show gO (tF T545 m 112 (la7 p0 p1 p2 p3 p4 4 b532 4) [])
                  refine seg (4 : Int32) ?_
                  intro T711 lc711 h711 b711_1 b711_2 k711_1 k711_2 X711 e711 N711 z711 V711 V711_1 V711_2
                  show gO (tF T711 m 282 (la8 p0 p1 p2 p3 p4 4 b532 4 b711_1 b711_2) [])
                  refine gob (fun _ k => XS.aload X711.here hx rfl (hb hby at_282) rfl rfl k) ?_
                  show gO (tF T711 m 284 (la8 p0 p1 p2 p3 p4 4 b532 4 b711_1 b711_2) [(.ref b532)])
                  obtain ⟨_, _, ⟨T712, L712, k712, n712⟩, -, X712, ⟨Lc712, hQ712, l712, y712, z712⟩, st712⟩ := Jvm.LawKit.callS X711 hx (y := (⟨"com/example/coevolution/coevolution/measure/Measures", "averagePrecision", "([I)D"⟩ : MethodName)) hown (mvT hZ (hW hw 2 rfl)) (mvT hZ (hW hw 3 rfl)) (mvT hZ (hW hw 4 rfl)) (mvT hZ (hW hw 5 rfl)) (by decide) (backOf (W := 0) (rmap4 l Z a0 hw [] b532 k532 p0 p1 p2 p3 h711 n0 z711 V711) hZ (hW hw 5 rfl) (hW hw 4 rfl) (by decide) (by decide)) (g := (mkF m 284 (la8 p0 p1 p2 p3 p4 4 b532 4 b711_1 b711_2) [(.ref b532)])) rfl (by rw [hml]; rfl) (argsL := [(.ref b532)]) (rest := []) (lenOf pd_0 rfl) rfl (by show 2 * 0 + _ ≤ _; exact Nat.le_of_eq rfl) (hb hby at_284) (fun _ _ => ⟨rfl, e711, (by decide : 3 + 0 ≤ _), (by decide : 36 + 0 ≤ _)⟩)
                  dsimp only [Pt.U, Pt.locs, Pt.cells, Pt.slots] at X712 l712 y712 z712 st712 hQ712
                  replace X712 := castX X712 (y712.trans (rfl : _ = 3)) (z712.trans (rfl : _ = 36))
                  obtain ⟨r712, rfl, hr712, Nq712, e712⟩ := hQ712
                  have N712 : Fr n0 L712 := l712 ▸ Fr.app N711 Nq712
                  refine gob st712 ?_
                  show gO (tF T712 m 287 (la8 p0 p1 p2 p3 p4 4 b532 4 b711_1 b711_2) [(.double r712)])
                  have hlr712 : r712 = (4602678819172646912 : UInt64) := by simpa [hc67_655, hc80_695, hc93_696, hc106_706] using hr712
                  subst hlr712
                  show gO (tF T712 m 287 (la8 p0 p1 p2 p3 p4 4 b532 4 b711_1 b711_2) [(.double (4602678819172646912 : UInt64))])
                  refine gob (fun _ k => XS.dstore X712.here hx rfl (hb hby at_287) rfl (l' := (la10 p0 p1 p2 p3 p4 4 b532 4 b711_1 b711_2 (4602678819172646912 : UInt64))) rfl k) ?_
                  show gO (tF T712 m 289 (la10 p0 p1 p2 p3 p4 4 b532 4 b711_1 b711_2 (4602678819172646912 : UInt64)) [])
                  refine gob (fun _ k => XS.iload X712.here hx rfl (hb hby at_289) rfl k) ?_
                  show gO (tF T712 m 291 (la10 p0 p1 p2 p3 p4 4 b532 4 b711_1 b711_2 (4602678819172646912 : UInt64)) [(.int 4)])
                  refine gob (fun _ k => XS.ifYes X712.here hx rfl (pc0 := 291) (pc' := 307) rfl (hb hby at_291) rfl ((if0 _ _).trans (feq (by decide : ¬ ((4 : Int32) = (0 : Int32)))).2) (by decide) (by decide) k) ?_
                  show gO (tF T712 m 307 (la10 p0 p1 p2 p3 p4 4 b532 4 b711_1 b711_2 (4602678819172646912 : UInt64)) [])
                  refine gob (fun _ k => XS.dload X712.here hx rfl (hb hby at_307) rfl k) ?_
                  show gO (tF T712 m 309 (la10 p0 p1 p2 p3 p4 4 b532 4 b711_1 b711_2 (4602678819172646912 : UInt64)) [(.double (4602678819172646912 : UInt64))])
                  refine gob (fun _ k => XS.aload X712.here hx rfl (hb hby at_309) rfl rfl k) ?_
                  show gO (tF T712 m 311 (la10 p0 p1 p2 p3 p4 4 b532 4 b711_1 b711_2 (4602678819172646912 : UInt64)) [(.ref b711_2), (.double (4602678819172646912 : UInt64))])
                  refine gob (fun _ k => XS.iload X712.here hx rfl (hb hby at_311) rfl k) ?_
                  show gO (tF T712 m 313 (la10 p0 p1 p2 p3 p4 4 b532 4 b711_1 b711_2 (4602678819172646912 : UInt64)) [(.int 4), (.ref b711_2), (.double (4602678819172646912 : UInt64))])
                  obtain ⟨cl713, Ar713, aq713, S713, N713, H713, G713⟩ := id V711_2
                  have hin713 : ¬ ((4 : Int32) < 0 ∨ cl713.slots.size ≤ ((4 : Int32)).toNatClampNeg) := inb_of S713 ⟨by decide, by decide⟩
                  refine gob (X712.iaload hx (j := (4 : Int32)) (v := (.int 2)) (by rw [e712]; exact Ar713.1) (State.isArrayOf_alike hZ.alike Ar713.2.1) Ar713.2.2 hin713 (Has.at H713 hin713 rfl) (g := (mkF m 313 (la10 p0 p1 p2 p3 p4 4 b532 4 b711_1 b711_2 (4602678819172646912 : UInt64)) [(.int 4), (.ref b711_2), (.double (4602678819172646912 : UInt64))])) rfl rfl (hb hby at_313)) ?_
                  show gO (tF T712 m 314 (la10 p0 p1 p2 p3 p4 4 b532 4 b711_1 b711_2 (4602678819172646912 : UInt64)) [(.int 2), (.double (4602678819172646912 : UInt64))])
                  refine gob (fun _ k => XS.i2dS X712.here hx rfl (hb hby at_314) rfl (v := (4611686018427387904 : UInt64)) (by decide +kernel) k) ?_
                  show gO (tF T712 m 315 (la10 p0 p1 p2 p3 p4 4 b532 4 b711_1 b711_2 (4602678819172646912 : UInt64)) [(.double (4611686018427387904 : UInt64)), (.double (4602678819172646912 : UInt64))])
                  refine gob (fun _ k => XS.dmulS X712.here hx rfl (hb hby at_315) rfl (v := (4607182418800017408 : UInt64)) (by unfold Jvm.Free.Fl.NoNaN64; decide +kernel) (by decide +kernel) k) ?_
                  show gO (tF T712 m 316 (la10 p0 p1 p2 p3 p4 4 b532 4 b711_1 b711_2 (4602678819172646912 : UInt64)) [(.double (4607182418800017408 : UInt64))])
                  refine gob (fun _ k => XS.aload X712.here hx rfl (hb hby at_316) rfl rfl k) ?_
                  show gO (tF T712 m 318 (la10 p0 p1 p2 p3 p4 4 b532 4 b711_1 b711_2 (4602678819172646912 : UInt64)) [(.ref b711_1), (.double (4607182418800017408 : UInt64))])
                  refine gob (fun _ k => XS.iload X712.here hx rfl (hb hby at_318) rfl k) ?_
                  show gO (tF T712 m 320 (la10 p0 p1 p2 p3 p4 4 b532 4 b711_1 b711_2 (4602678819172646912 : UInt64)) [(.int 4), (.ref b711_1), (.double (4607182418800017408 : UInt64))])
                  obtain ⟨cl714, Ar714, aq714, S714, N714, H714, G714⟩ := id V711_1
                  have hin714 : ¬ ((4 : Int32) < 0 ∨ cl714.slots.size ≤ ((4 : Int32)).toNatClampNeg) := inb_of S714 ⟨by decide, by decide⟩
                  refine gob (X712.iaload hx (j := (4 : Int32)) (v := (.int 1)) (by rw [e712]; exact Ar714.1) (State.isArrayOf_alike hZ.alike Ar714.2.1) Ar714.2.2 hin714 (Has.at H714 hin714 rfl) (g := (mkF m 320 (la10 p0 p1 p2 p3 p4 4 b532 4 b711_1 b711_2 (4602678819172646912 : UInt64)) [(.int 4), (.ref b711_1), (.double (4607182418800017408 : UInt64))])) rfl rfl (hb hby at_320)) ?_
                  show gO (tF T712 m 321 (la10 p0 p1 p2 p3 p4 4 b532 4 b711_1 b711_2 (4602678819172646912 : UInt64)) [(.int 1), (.double (4607182418800017408 : UInt64))])
                  refine gob (fun _ k => XS.i2dS X712.here hx rfl (hb hby at_321) rfl (v := (4607182418800017408 : UInt64)) (by decide +kernel) k) ?_
                  show gO (tF T712 m 322 (la10 p0 p1 p2 p3 p4 4 b532 4 b711_1 b711_2 (4602678819172646912 : UInt64)) [(.double (4607182418800017408 : UInt64)), (.double (4607182418800017408 : UInt64))])
                  refine gob (fun _ k => XS.dsubS X712.here hx rfl (hb hby at_322) rfl (v := (0 : UInt64)) (by unfold Jvm.Free.Fl.NoNaN64; decide +kernel) (by decide +kernel) k) ?_
                  show gO (tF T712 m 323 (la10 p0 p1 p2 p3 p4 4 b532 4 b711_1 b711_2 (4602678819172646912 : UInt64)) [(.double (0 : UInt64))])
                  refine gob (fun _ k => XS.dstore X712.here hx rfl (hb hby at_323) rfl (l' := (la11 p0 p1 p2 p3 p4 4 b532 4 b711_1 b711_2 (4602678819172646912 : UInt64) (0 : UInt64))) rfl k) ?_
                  show gO (tF T712 m 325 (la11 p0 p1 p2 p3 p4 4 b532 4 b711_1 b711_2 (4602678819172646912 : UInt64) (0 : UInt64)) [])
                  refine gob (fun _ k => XS.dload X712.here hx rfl (hb hby at_325) rfl k) ?_
                  show gO (tF T712 m 327 (la11 p0 p1 p2 p3 p4 4 b532 4 b711_1 b711_2 (4602678819172646912 : UInt64) (0 : UInt64)) [(.double (0 : UInt64))])
                  refine gob (X712.ldc2DoubleC hx hown (mvT hZ (hW hw 6 rfl)) (g := (mkF m 327 (la11 p0 p1 p2 p3 p4 4 b532 4 b711_1 b711_2 (4602678819172646912 : UInt64) (0 : UInt64)) [(.double (0 : UInt64))])) rfl (hb hby at_327)) ?_
                  show gO (tF T712 m 330 (la11 p0 p1 p2 p3 p4 4 b532 4 b711_1 b711_2 (4602678819172646912 : UInt64) (0 : UInt64)) [(.double (4472406533629990549 : UInt64)), (.double (0 : UInt64))])
                  refine gob (fun _ k => XS.dcmpS X712.here hx rfl (hb hby at_330) rfl (v := (-1 : Int32)) (by decide +kernel) k) ?_
                  show gO (tF T712 m 331 (la11 p0 p1 p2 p3 p4 4 b532 4 b711_1 b711_2 (4602678819172646912 : UInt64) (0 : UInt64)) [(.int (-1))])
                  refine gob (fun _ k => XS.ifNo X712.here hx rfl (hb hby at_331) rfl ((if0 _ _).trans (tlt (by decide : (-1 : Int32) < (0 : Int32))).2.1) k) ?_
                  show gO (tF T712 m 334 (la11 p0 p1 p2 p3 p4 4 b532 4 b711_1 b711_2 (4602678819172646912 : UInt64) (0 : UInt64)) [])
                  refine gob (fun _ k => XS.dload X712.here hx rfl (hb hby at_334) rfl k) ?_
                  show gO (tF T712 m 336 (la11 p0 p1 p2 p3 p4 4 b532 4 b711_1 b711_2 (4602678819172646912 : UInt64) (0 : UInt64)) [(.double (0 : UInt64))])
                  refine gob (X712.ldc2DoubleC hx hown (mvT hZ (hW hw 7 rfl)) (g := (mkF m 336 (la11 p0 p1 p2 p3 p4 4 b532 4 b711_1 b711_2 (4602678819172646912 : UInt64) (0 : UInt64)) [(.double (0 : UInt64))])) rfl (hb hby at_336)) ?_
                  show gO (tF T712 m 339 (la11 p0 p1 p2 p3 p4 4 b532 4 b711_1 b711_2 (4602678819172646912 : UInt64) (0 : UInt64)) [(.double (13695778570484766357 : UInt64)), (.double (0 : UInt64))])
                  refine gob (fun _ k => XS.dcmpS X712.here hx rfl (hb hby at_339) rfl (v := (1 : Int32)) (by decide +kernel) k) ?_
                  show gO (tF T712 m 340 (la11 p0 p1 p2 p3 p4 4 b532 4 b711_1 b711_2 (4602678819172646912 : UInt64) (0 : UInt64)) [(.int 1)])
                  refine gob (fun _ k => XS.ifNo X712.here hx rfl (hb hby at_340) rfl ((if0 _ _).trans (tlt (by decide : (0 : Int32) < (1 : Int32))).2.2.2) k) ?_
                  show gO (tF T712 m 343 (la11 p0 p1 p2 p3 p4 4 b532 4 b711_1 b711_2 (4602678819172646912 : UInt64) (0 : UInt64)) [])
                  refine gob (fun _ k => XS.iconst X712.here hx rfl (hb hby at_343) k) ?_
                  show gO (tF T712 m 344 (la11 p0 p1 p2 p3 p4 4 b532 4 b711_1 b711_2 (4602678819172646912 : UInt64) (0 : UInt64)) [(.int 1)])
                  refine gob (fun _ k => XS.goto X712.here hx rfl (pc0 := 344) (pc' := 348) rfl (hb hby at_344) (by decide) (by decide) k) ?_
                  show gO (tF T712 m 348 (la11 p0 p1 p2 p3 p4 4 b532 4 b711_1 b711_2 (4602678819172646912 : UInt64) (0 : UInt64)) [(.int 1)])
                  refine goZ X712 hx hlk (t := .boolean) Bd.returns (by simp) (hb hby at_348) (z' := (1 : Int32)) rfl ?_ (by decide) (by decide)
                  show Q0 Z p0 p1 p2 p3 p4 h0 n0 (some (.int (1 : Int32))) T712.heap _
                  exact ⟨rfl, N712⟩
            · skip
              refine gob (fun _ k => XS.ifYes X545.here hx rfl (pc0 := 80) (pc' := 86) rfl (hb hby at_80) rfl ((if0 _ _).trans (flt hc80_695).2.2.2) (by decide) (by decide) k) ?_
              show gO (tF T545 m 86 (la7 p0 p1 p2 p3 p4 4 b532 0) [])
              refine gob (fun _ k => XS.iload X545.here hx rfl (hb hby at_86) rfl k) ?_
              show gO (tF T545 m 88 (la7 p0 p1 p2 p3 p4 4 b532 0) [(.int 4)])
              refine gob (fun _ k => XS.iconst X545.here hx rfl (hb hby at_88) k) ?_
              show gO (tF T545 m 89 (la7 p0 p1 p2 p3 p4 4 b532 0) [(.int 2), (.int 4)])
              refine gob (fun _ k => XS.icmpNo X545.here hx rfl (hb hby at_89) rfl (tlt (by decide : (2 : Int32) < (4 : Int32))).2.2.2 k) ?_
              show gO (tF T545 m 92 (la7 p0 p1 p2 p3 p4 4 b532 0) [])
              refine gob (fun _ k => XS.iloadN X545.here hx rfl (hb hby at_92) rfl k) ?_
              show gO (tF T545 m 93 (la7 p0 p1 p2 p3 p4 4 b532 0) [(.int p2)])
              by_cases hc93_715 : (0 : Int32) < p2
              · skip
                refine gob (fun _ k => XS.ifNo X545.here hx rfl (hb hby at_93) rfl ((if0 _ _).trans (tlt hc93_715).2.2.2) k) ?_
                show gO (tF T545 m 96 (la7 p0 p1 p2 p3 p4 4 b532 0) [])
                refine gob (fun _ k => XS.iinc X545.here hx rfl (hb hby at_96) rfl (l' := (la7 p0 p1 p2 p3 p4 4 b532 2)) rfl k) ?_
                show gO (tF T545 m 99 (la7 p0 p1 p2 p3 p4 4 b532 2) [])
                refine gob (fun _ k => XS.iload X545.here hx rfl (hb hby at_99) rfl k) ?_
                show gO (tF T545 m 101 (la7 p0 p1 p2 p3 p4 4 b532 2) [(.int 4)])
                refine gob (fun _ k => XS.iconst X545.here hx rfl (hb hby at_101) k) ?_
                show gO (tF T545 m 102 (la7 p0 p1 p2 p3 p4 4 b532 2) [(.int 3), (.int 4)])
                refine gob (fun _ k => XS.icmpNo X545.here hx rfl (hb hby at_102) rfl (tlt (by decide : (3 : Int32) < (4 : Int32))).2.2.2 k) ?_
                show gO (tF T545 m 105 (la7 p0 p1 p2 p3 p4 4 b532 2) [])
                refine gob (fun _ k => XS.iloadN X545.here hx rfl (hb hby at_105) rfl k) ?_
                show gO (tF T545 m 106 (la7 p0 p1 p2 p3 p4 4 b532 2) [(.int p3)])
                by_cases hc106_716 : (0 : Int32) < p3
                · skip
                  refine gob (fun _ k => XS.ifNo X545.here hx rfl (hb hby at_106) rfl ((if0 _ _).trans (tlt hc106_716).2.2.2) k) ?_
                  show gO (tF T545 m 109 (la7 p0 p1 p2 p3 p4 4 b532 2) [])
                  refine gob (fun _ k => XS.iinc X545.here hx rfl (hb hby at_109) rfl (l' := (la7 p0 p1 p2 p3 p4 4 b532 3)) rfl k) ?_
                  show gO (tF T545 m 112 (la7 p0 p1 p2 p3 p4 4 b532 3) [])
                  refine seg (3 : Int32) ?_
                  intro T717 lc717 h717 b717_1 b717_2 k717_1 k717_2 X717 e717 N717 z717 V717 V717_1 V717_2
                  show gO (tF T717 m 282 (la8 p0 p1 p2 p3 p4 4 b532 3 b717_1 b717_2) [])
                  refine gob (fun _ k => XS.aload X717.here hx rfl (hb hby at_282) rfl rfl k) ?_
                  show gO (tF T717 m 284 (la8 p0 p1 p2 p3 p4 4 b532 3 b717_1 b717_2) [(.ref b532)])
                  obtain ⟨_, _, ⟨T718, L718, k718, n718⟩, -, X718, ⟨Lc718, hQ718, l718, y718, z718⟩, st718⟩ := Jvm.LawKit.callS X717 hx (y := (⟨"com/example/coevolution/coevolution/measure/Measures", "averagePrecision", "([I)D"⟩ : MethodName)) hown (mvT hZ (hW hw 2 rfl)) (mvT hZ (hW hw 3 rfl)) (mvT hZ (hW hw 4 rfl)) (mvT hZ (hW hw 5 rfl)) (by decide) (backOf (W := 0) (rmap4 l Z a0 hw [] b532 k532 p0 p1 p2 p3 h717 n0 z717 V717) hZ (hW hw 5 rfl) (hW hw 4 rfl) (by decide) (by decide)) (g := (mkF m 284 (la8 p0 p1 p2 p3 p4 4 b532 3 b717_1 b717_2) [(.ref b532)])) rfl (by rw [hml]; rfl) (argsL := [(.ref b532)]) (rest := []) (lenOf pd_0 rfl) rfl (by show 2 * 0 + _ ≤ _; exact Nat.le_of_eq rfl) (hb hby at_284) (fun _ _ => ⟨rfl, e717, (by decide : 3 + 0 ≤ _), (by decide : 36 + 0 ≤ _)⟩)
                  dsimp only [Pt.U, Pt.locs, Pt.cells, Pt.slots] at X718 l718 y718 z718 st718 hQ718
                  replace X718 := castX X718 (y718.trans (rfl : _ = 3)) (z718.trans (rfl : _ = 36))
                  obtain ⟨r718, rfl, hr718, Nq718, e718⟩ := hQ718
                  have N718 : Fr n0 L718 := l718 ▸ Fr.app N717 Nq718
                  refine gob st718 ?_
                  show gO (tF T718 m 287 (la8 p0 p1 p2 p3 p4 4 b532 3 b717_1 b717_2) [(.double r718)])
                  have hlr718 : r718 = (4601177619296856746 : UInt64) := by simpa [hc67_655, hc80_695, hc93_715, hc106_716] using hr718
                  subst hlr718
                  show gO (tF T718 m 287 (la8 p0 p1 p2 p3 p4 4 b532 3 b717_1 b717_2) [(.double (4601177619296856746 : UInt64))])
                  refine gob (fun _ k => XS.dstore X718.here hx rfl (hb hby at_287) rfl (l' := (la10 p0 p1 p2 p3 p4 4 b532 3 b717_1 b717_2 (4601177619296856746 : UInt64))) rfl k) ?_
                  show gO (tF T718 m 289 (la10 p0 p1 p2 p3 p4 4 b532 3 b717_1 b717_2 (4601177619296856746 : UInt64)) [])
                  refine gob (fun _ k => XS.iload X718.here hx rfl (hb hby at_289) rfl k) ?_
                  show gO (tF T718 m 291 (la10 p0 p1 p2 p3 p4 4 b532 3 b717_1 b717_2 (4601177619296856746 : UInt64)) [(.int 3)])
                  refine gob (fun _ k => XS.ifYes X718.here hx rfl (pc0 := 291) (pc' := 307) rfl (hb hby at_291) rfl ((if0 _ _).trans (feq (by decide : ¬ ((3 : Int32) = (0 : Int32)))).2) (by decide) (by decide) k) ?_
                  show gO (tF T718 m 307 (la10 p0 p1 p2 p3 p4 4 b532 3 b717_1 b717_2 (4601177619296856746 : UInt64)) [])
                  refine gob (fun _ k => XS.dload X718.here hx rfl (hb hby at_307) rfl k) ?_
                  show gO (tF T718 m 309 (la10 p0 p1 p2 p3 p4 4 b532 3 b717_1 b717_2 (4601177619296856746 : UInt64)) [(.double (4601177619296856746 : UInt64))])
                  refine gob (fun _ k => XS.aload X718.here hx rfl (hb hby at_309) rfl rfl k) ?_
                  show gO (tF T718 m 311 (la10 p0 p1 p2 p3 p4 4 b532 3 b717_1 b717_2 (4601177619296856746 : UInt64)) [(.ref b717_2), (.double (4601177619296856746 : UInt64))])
                  refine gob (fun _ k => XS.iload X718.here hx rfl (hb hby at_311) rfl k) ?_
                  show gO (tF T718 m 313 (la10 p0 p1 p2 p3 p4 4 b532 3 b717_1 b717_2 (4601177619296856746 : UInt64)) [(.int 3), (.ref b717_2), (.double (4601177619296856746 : UInt64))])
                  obtain ⟨cl719, Ar719, aq719, S719, N719, H719, G719⟩ := id V717_2
                  have hin719 : ¬ ((3 : Int32) < 0 ∨ cl719.slots.size ≤ ((3 : Int32)).toNatClampNeg) := inb_of S719 ⟨by decide, by decide⟩
                  refine gob (X718.iaload hx (j := (3 : Int32)) (v := (.int 12)) (by rw [e718]; exact Ar719.1) (State.isArrayOf_alike hZ.alike Ar719.2.1) Ar719.2.2 hin719 (Has.at H719 hin719 rfl) (g := (mkF m 313 (la10 p0 p1 p2 p3 p4 4 b532 3 b717_1 b717_2 (4601177619296856746 : UInt64)) [(.int 3), (.ref b717_2), (.double (4601177619296856746 : UInt64))])) rfl rfl (hb hby at_313)) ?_
                  show gO (tF T718 m 314 (la10 p0 p1 p2 p3 p4 4 b532 3 b717_1 b717_2 (4601177619296856746 : UInt64)) [(.int 12), (.double (4601177619296856746 : UInt64))])
                  refine gob (fun _ k => XS.i2dS X718.here hx rfl (hb hby at_314) rfl (v := (4622945017495814144 : UInt64)) (by decide +kernel) k) ?_
                  show gO (tF T718 m 315 (la10 p0 p1 p2 p3 p4 4 b532 3 b717_1 b717_2 (4601177619296856746 : UInt64)) [(.double (4622945017495814144 : UInt64)), (.double (4601177619296856746 : UInt64))])
                  refine gob (fun _ k => XS.dmulS X718.here hx rfl (hb hby at_315) rfl (v := (4617315517961601024 : UInt64)) (by unfold Jvm.Free.Fl.NoNaN64; decide +kernel) (by decide +kernel) k) ?_
                  show gO (tF T718 m 316 (la10 p0 p1 p2 p3 p4 4 b532 3 b717_1 b717_2 (4601177619296856746 : UInt64)) [(.double (4617315517961601024 : UInt64))])
                  refine gob (fun _ k => XS.aload X718.here hx rfl (hb hby at_316) rfl rfl k) ?_
                  show gO (tF T718 m 318 (la10 p0 p1 p2 p3 p4 4 b532 3 b717_1 b717_2 (4601177619296856746 : UInt64)) [(.ref b717_1), (.double (4617315517961601024 : UInt64))])
                  refine gob (fun _ k => XS.iload X718.here hx rfl (hb hby at_318) rfl k) ?_
                  show gO (tF T718 m 320 (la10 p0 p1 p2 p3 p4 4 b532 3 b717_1 b717_2 (4601177619296856746 : UInt64)) [(.int 3), (.ref b717_1), (.double (4617315517961601024 : UInt64))])
                  obtain ⟨cl720, Ar720, aq720, S720, N720, H720, G720⟩ := id V717_1
                  have hin720 : ¬ ((3 : Int32) < 0 ∨ cl720.slots.size ≤ ((3 : Int32)).toNatClampNeg) := inb_of S720 ⟨by decide, by decide⟩
                  refine gob (X718.iaload hx (j := (3 : Int32)) (v := (.int 5)) (by rw [e718]; exact Ar720.1) (State.isArrayOf_alike hZ.alike Ar720.2.1) Ar720.2.2 hin720 (Has.at H720 hin720 rfl) (g := (mkF m 320 (la10 p0 p1 p2 p3 p4 4 b532 3 b717_1 b717_2 (4601177619296856746 : UInt64)) [(.int 3), (.ref b717_1), (.double (4617315517961601024 : UInt64))])) rfl rfl (hb hby at_320)) ?_
                  show gO (tF T718 m 321 (la10 p0 p1 p2 p3 p4 4 b532 3 b717_1 b717_2 (4601177619296856746 : UInt64)) [(.int 5), (.double (4617315517961601024 : UInt64))])
                  refine gob (fun _ k => XS.i2dS X718.here hx rfl (hb hby at_321) rfl (v := (4617315517961601024 : UInt64)) (by decide +kernel) k) ?_
                  show gO (tF T718 m 322 (la10 p0 p1 p2 p3 p4 4 b532 3 b717_1 b717_2 (4601177619296856746 : UInt64)) [(.double (4617315517961601024 : UInt64)), (.double (4617315517961601024 : UInt64))])
                  refine gob (fun _ k => XS.dsubS X718.here hx rfl (hb hby at_322) rfl (v := (0 : UInt64)) (by unfold Jvm.Free.Fl.NoNaN64; decide +kernel) (by decide +kernel) k) ?_
                  show gO (tF T718 m 323 (la10 p0 p1 p2 p3 p4 4 b532 3 b717_1 b717_2 (4601177619296856746 : UInt64)) [(.double (0 : UInt64))])
                  refine gob (fun _ k => XS.dstore X718.here hx rfl (hb hby at_323) rfl (l' := (la11 p0 p1 p2 p3 p4 4 b532 3 b717_1 b717_2 (4601177619296856746 : UInt64) (0 : UInt64))) rfl k) ?_
                  show gO (tF T718 m 325 (la11 p0 p1 p2 p3 p4 4 b532 3 b717_1 b717_2 (4601177619296856746 : UInt64) (0 : UInt64)) [])
                  refine gob (fun _ k => XS.dload X718.here hx rfl (hb hby at_325) rfl k) ?_
                  show gO (tF T718 m 327 (la11 p0 p1 p2 p3 p4 4 b532 3 b717_1 b717_2 (4601177619296856746 : UInt64) (0 : UInt64)) [(.double (0 : UInt64))])
                  refine gob (X718.ldc2DoubleC hx hown (mvT hZ (hW hw 6 rfl)) (g := (mkF m 327 (la11 p0 p1 p2 p3 p4 4 b532 3 b717_1 b717_2 (4601177619296856746 : UInt64) (0 : UInt64)) [(.double (0 : UInt64))])) rfl (hb hby at_327)) ?_
                  show gO (tF T718 m 330 (la11 p0 p1 p2 p3 p4 4 b532 3 b717_1 b717_2 (4601177619296856746 : UInt64) (0 : UInt64)) [(.double (4472406533629990549 : UInt64)), (.double (0 : UInt64))])
                  refine gob (fun _ k => XS.dcmpS X718.here hx rfl (hb hby at_330) rfl (v := (-1 : Int32)) (by decide +kernel) k) ?_
                  show gO (tF T718 m 331 (la11 p0 p1 p2 p3 p4 4 b532 3 b717_1 b717_2 (4601177619296856746 : UInt64) (0 : UInt64)) [(.int (-1))])
                  refine gob (fun _ k => XS.ifNo X718.here hx rfl (hb hby at_331) rfl ((if0 _ _).trans (tlt (by decide : (-1 : Int32) < (0 : Int32))).2.1) k) ?_
                  show gO (tF T718 m 334 (la11 p0 p1 p2 p3 p4 4 b532 3 b717_1 b717_2 (4601177619296856746 : UInt64) (0 : UInt64)) [])
                  refine gob (fun _ k => XS.dload X718.here hx rfl (hb hby at_334) rfl k) ?_
                  show gO (tF T718 m 336 (la11 p0 p1 p2 p3 p4 4 b532 3 b717_1 b717_2 (4601177619296856746 : UInt64) (0 : UInt64)) [(.double (0 : UInt64))])
                  refine gob (X718.ldc2DoubleC hx hown (mvT hZ (hW hw 7 rfl)) (g := (mkF m 336 (la11 p0 p1 p2 p3 p4 4 b532 3 b717_1 b717_2 (4601177619296856746 : UInt64) (0 : UInt64)) [(.double (0 : UInt64))])) rfl (hb hby at_336)) ?_
                  show gO (tF T718 m 339 (la11 p0 p1 p2 p3 p4 4 b532 3 b717_1 b717_2 (4601177619296856746 : UInt64) (0 : UInt64)) [(.double (13695778570484766357 : UInt64)), (.double (0 : UInt64))])
                  refine gob (fun _ k => XS.dcmpS X718.here hx rfl (hb hby at_339) rfl (v := (1 : Int32)) (by decide +kernel) k) ?_
                  show gO (tF T718 m 340 (la11 p0 p1 p2 p3 p4 4 b532 3 b717_1 b717_2 (4601177619296856746 : UInt64) (0 : UInt64)) [(.int 1)])
                  refine gob (fun _ k => XS.ifNo X718.here hx rfl (hb hby at_340) rfl ((if0 _ _).trans (tlt (by decide : (0 : Int32) < (1 : Int32))).2.2.2) k) ?_
                  show gO (tF T718 m 343 (la11 p0 p1 p2 p3 p4 4 b532 3 b717_1 b717_2 (4601177619296856746 : UInt64) (0 : UInt64)) [])
                  refine gob (fun _ k => XS.iconst X718.here hx rfl (hb hby at_343) k) ?_
                  show gO (tF T718 m 344 (la11 p0 p1 p2 p3 p4 4 b532 3 b717_1 b717_2 (4601177619296856746 : UInt64) (0 : UInt64)) [(.int 1)])
                  refine gob (fun _ k => XS.goto X718.here hx rfl (pc0 := 344) (pc' := 348) rfl (hb hby at_344) (by decide) (by decide) k) ?_
                  show gO (tF T718 m 348 (la11 p0 p1 p2 p3 p4 4 b532 3 b717_1 b717_2 (4601177619296856746 : UInt64) (0 : UInt64)) [(.int 1)])
                  refine goZ X718 hx hlk (t := .boolean) Bd.returns (by simp) (hb hby at_348) (z' := (1 : Int32)) rfl ?_ (by decide) (by decide)
                  show Q0 Z p0 p1 p2 p3 p4 h0 n0 (some (.int (1 : Int32))) T718.heap _
                  exact ⟨rfl, N718⟩
                · skip
                  refine gob (fun _ k => XS.ifYes X545.here hx rfl (pc0 := 106) (pc' := 112) rfl (hb hby at_106) rfl ((if0 _ _).trans (flt hc106_716).2.2.2) (by decide) (by decide) k) ?_
                  show gO (tF T545 m 112 (la7 p0 p1 p2 p3 p4 4 b532 2) [])
                  refine seg (2 : Int32) ?_
                  intro T721 lc721 h721 b721_1 b721_2 k721_1 k721_2 X721 e721 N721 z721 V721 V721_1 V721_2
                  show gO (tF T721 m 282 (la8 p0 p1 p2 p3 p4 4 b532 2 b721_1 b721_2) [])
                  refine gob (fun _ k => XS.aload X721.here hx rfl (hb hby at_282) rfl rfl k) ?_
                  show gO (tF T721 m 284 (la8 p0 p1 p2 p3 p4 4 b532 2 b721_1 b721_2) [(.ref b532)])
                  obtain ⟨_, _, ⟨T722, L722, k722, n722⟩, -, X722, ⟨Lc722, hQ722, l722, y722, z722⟩, st722⟩ := Jvm.LawKit.callS X721 hx (y := (⟨"com/example/coevolution/coevolution/measure/Measures", "averagePrecision", "([I)D"⟩ : MethodName)) hown (mvT hZ (hW hw 2 rfl)) (mvT hZ (hW hw 3 rfl)) (mvT hZ (hW hw 4 rfl)) (mvT hZ (hW hw 5 rfl)) (by decide) (backOf (W := 0) (rmap4 l Z a0 hw [] b532 k532 p0 p1 p2 p3 h721 n0 z721 V721) hZ (hW hw 5 rfl) (hW hw 4 rfl) (by decide) (by decide)) (g := (mkF m 284 (la8 p0 p1 p2 p3 p4 4 b532 2 b721_1 b721_2) [(.ref b532)])) rfl (by rw [hml]; rfl) (argsL := [(.ref b532)]) (rest := []) (lenOf pd_0 rfl) rfl (by show 2 * 0 + _ ≤ _; exact Nat.le_of_eq rfl) (hb hby at_284) (fun _ _ => ⟨rfl, e721, (by decide : 3 + 0 ≤ _), (by decide : 36 + 0 ≤ _)⟩)
                  dsimp only [Pt.U, Pt.locs, Pt.cells, Pt.slots] at X722 l722 y722 z722 st722 hQ722
                  replace X722 := castX X722 (y722.trans (rfl : _ = 3)) (z722.trans (rfl : _ = 36))
                  obtain ⟨r722, rfl, hr722, Nq722, e722⟩ := hQ722
                  have N722 : Fr n0 L722 := l722 ▸ Fr.app N721 Nq722
                  refine gob st722 ?_
                  show gO (tF T722 m 287 (la8 p0 p1 p2 p3 p4 4 b532 2 b721_1 b721_2) [(.double r722)])
                  have hlr722 : r722 = (4599676419421066581 : UInt64) := by simpa [hc67_655, hc80_695, hc93_715, hc106_716] using hr722
                  subst hlr722
                  show gO (tF T722 m 287 (la8 p0 p1 p2 p3 p4 4 b532 2 b721_1 b721_2) [(.double (4599676419421066581 : UInt64))])
                  refine gob (fun _ k => XS.dstore X722.here hx rfl (hb hby at_287) rfl (l' := (la10 p0 p1 p2 p3 p4 4 b532 2 b721_1 b721_2 (4599676419421066581 : UInt64))) rfl k) ?_
                  show gO (tF T722 m 289 (la10 p0 p1 p2 p3 p4 4 b532 2 b721_1 b721_2 (4599676419421066581 : UInt64)) [])
                  refine gob (fun _ k => XS.iload X722.here hx rfl (hb hby at_289) rfl k) ?_
                  show gO (tF T722 m 291 (la10 p0 p1 p2 p3 p4 4 b532 2 b721_1 b721_2 (4599676419421066581 : UInt64)) [(.int 2)])
                  refine gob (fun _ k => XS.ifYes X722.here hx rfl (pc0 := 291) (pc' := 307) rfl (hb hby at_291) rfl ((if0 _ _).trans (feq (by decide : ¬ ((2 : Int32) = (0 : Int32)))).2) (by decide) (by decide) k) ?_
                  show gO (tF T722 m 307 (la10 p0 p1 p2 p3 p4 4 b532 2 b721_1 b721_2 (4599676419421066581 : UInt64)) [])
                  refine gob (fun _ k => XS.dload X722.here hx rfl (hb hby at_307) rfl k) ?_
                  show gO (tF T722 m 309 (la10 p0 p1 p2 p3 p4 4 b532 2 b721_1 b721_2 (4599676419421066581 : UInt64)) [(.double (4599676419421066581 : UInt64))])
                  refine gob (fun _ k => XS.aload X722.here hx rfl (hb hby at_309) rfl rfl k) ?_
                  show gO (tF T722 m 311 (la10 p0 p1 p2 p3 p4 4 b532 2 b721_1 b721_2 (4599676419421066581 : UInt64)) [(.ref b721_2), (.double (4599676419421066581 : UInt64))])
                  refine gob (fun _ k => XS.iload X722.here hx rfl (hb hby at_311) rfl k) ?_
                  show gO (tF T722 m 313 (la10 p0 p1 p2 p3 p4 4 b532 2 b721_1 b721_2 (4599676419421066581 : UInt64)) [(.int 2), (.ref b721_2), (.double (4599676419421066581 : UInt64))])
                  obtain ⟨cl723, Ar723, aq723, S723, N723, H723, G723⟩ := id V721_2
                  have hin723 : ¬ ((2 : Int32) < 0 ∨ cl723.slots.size ≤ ((2 : Int32)).toNatClampNeg) := inb_of S723 ⟨by decide, by decide⟩
                  refine gob (X722.iaload hx (j := (2 : Int32)) (v := (.int 3)) (by rw [e722]; exact Ar723.1) (State.isArrayOf_alike hZ.alike Ar723.2.1) Ar723.2.2 hin723 (Has.at H723 hin723 rfl) (g := (mkF m 313 (la10 p0 p1 p2 p3 p4 4 b532 2 b721_1 b721_2 (4599676419421066581 : UInt64)) [(.int 2), (.ref b721_2), (.double (4599676419421066581 : UInt64))])) rfl rfl (hb hby at_313)) ?_
                  show gO (tF T722 m 314 (la10 p0 p1 p2 p3 p4 4 b532 2 b721_1 b721_2 (4599676419421066581 : UInt64)) [(.int 3), (.double (4599676419421066581 : UInt64))])
                  refine gob (fun _ k => XS.i2dS X722.here hx rfl (hb hby at_314) rfl (v := (4613937818241073152 : UInt64)) (by decide +kernel) k) ?_
                  show gO (tF T722 m 315 (la10 p0 p1 p2 p3 p4 4 b532 2 b721_1 b721_2 (4599676419421066581 : UInt64)) [(.double (4613937818241073152 : UInt64)), (.double (4599676419421066581 : UInt64))])
                  refine gob (fun _ k => XS.dmulS X722.here hx rfl (hb hby at_315) rfl (v := (4607182418800017408 : UInt64)) (by unfold Jvm.Free.Fl.NoNaN64; decide +kernel) (by decide +kernel) k) ?_
                  show gO (tF T722 m 316 (la10 p0 p1 p2 p3 p4 4 b532 2 b721_1 b721_2 (4599676419421066581 : UInt64)) [(.double (4607182418800017408 : UInt64))])
                  refine gob (fun _ k => XS.aload X722.here hx rfl (hb hby at_316) rfl rfl k) ?_
                  show gO (tF T722 m 318 (la10 p0 p1 p2 p3 p4 4 b532 2 b721_1 b721_2 (4599676419421066581 : UInt64)) [(.ref b721_1), (.double (4607182418800017408 : UInt64))])
                  refine gob (fun _ k => XS.iload X722.here hx rfl (hb hby at_318) rfl k) ?_
                  show gO (tF T722 m 320 (la10 p0 p1 p2 p3 p4 4 b532 2 b721_1 b721_2 (4599676419421066581 : UInt64)) [(.int 2), (.ref b721_1), (.double (4607182418800017408 : UInt64))])
                  obtain ⟨cl724, Ar724, aq724, S724, N724, H724, G724⟩ := id V721_1
                  have hin724 : ¬ ((2 : Int32) < 0 ∨ cl724.slots.size ≤ ((2 : Int32)).toNatClampNeg) := inb_of S724 ⟨by decide, by decide⟩
                  refine gob (X722.iaload hx (j := (2 : Int32)) (v := (.int 1)) (by rw [e722]; exact Ar724.1) (State.isArrayOf_alike hZ.alike Ar724.2.1) Ar724.2.2 hin724 (Has.at H724 hin724 rfl) (g := (mkF m 320 (la10 p0 p1 p2 p3 p4 4 b532 2 b721_1 b721_2 (4599676419421066581 : UInt64)) [(.int 2), (.ref b721_1), (.double (4607182418800017408 : UInt64))])) rfl rfl (hb hby at_320)) ?_
                  show gO (tF T722 m 321 (la10 p0 p1 p2 p3 p4 4 b532 2 b721_1 b721_2 (4599676419421066581 : UInt64)) [(.int 1), (.double (4607182418800017408 : UInt64))])
                  refine gob (fun _ k => XS.i2dS X722.here hx rfl (hb hby at_321) rfl (v := (4607182418800017408 : UInt64)) (by decide +kernel) k) ?_
                  show gO (tF T722 m 322 (la10 p0 p1 p2 p3 p4 4 b532 2 b721_1 b721_2 (4599676419421066581 : UInt64)) [(.double (4607182418800017408 : UInt64)), (.double (4607182418800017408 : UInt64))])
                  refine gob (fun _ k => XS.dsubS X722.here hx rfl (hb hby at_322) rfl (v := (0 : UInt64)) (by unfold Jvm.Free.Fl.NoNaN64; decide +kernel) (by decide +kernel) k) ?_
                  show gO (tF T722 m 323 (la10 p0 p1 p2 p3 p4 4 b532 2 b721_1 b721_2 (4599676419421066581 : UInt64)) [(.double (0 : UInt64))])
                  refine gob (fun _ k => XS.dstore X722.here hx rfl (hb hby at_323) rfl (l' := (la11 p0 p1 p2 p3 p4 4 b532 2 b721_1 b721_2 (4599676419421066581 : UInt64) (0 : UInt64))) rfl k) ?_
                  show gO (tF T722 m 325 (la11 p0 p1 p2 p3 p4 4 b532 2 b721_1 b721_2 (4599676419421066581 : UInt64) (0 : UInt64)) [])
                  refine gob (fun _ k => XS.dload X722.here hx rfl (hb hby at_325) rfl k) ?_
                  show gO (tF T722 m 327 (la11 p0 p1 p2 p3 p4 4 b532 2 b721_1 b721_2 (4599676419421066581 : UInt64) (0 : UInt64)) [(.double (0 : UInt64))])
                  refine gob (X722.ldc2DoubleC hx hown (mvT hZ (hW hw 6 rfl)) (g := (mkF m 327 (la11 p0 p1 p2 p3 p4 4 b532 2 b721_1 b721_2 (4599676419421066581 : UInt64) (0 : UInt64)) [(.double (0 : UInt64))])) rfl (hb hby at_327)) ?_
                  show gO (tF T722 m 330 (la11 p0 p1 p2 p3 p4 4 b532 2 b721_1 b721_2 (4599676419421066581 : UInt64) (0 : UInt64)) [(.double (4472406533629990549 : UInt64)), (.double (0 : UInt64))])
                  refine gob (fun _ k => XS.dcmpS X722.here hx rfl (hb hby at_330) rfl (v := (-1 : Int32)) (by decide +kernel) k) ?_
                  show gO (tF T722 m 331 (la11 p0 p1 p2 p3 p4 4 b532 2 b721_1 b721_2 (4599676419421066581 : UInt64) (0 : UInt64)) [(.int (-1))])
                  refine gob (fun _ k => XS.ifNo X722.here hx rfl (hb hby at_331) rfl ((if0 _ _).trans (tlt (by decide : (-1 : Int32) < (0 : Int32))).2.1) k) ?_
                  show gO (tF T722 m 334 (la11 p0 p1 p2 p3 p4 4 b532 2 b721_1 b721_2 (4599676419421066581 : UInt64) (0 : UInt64)) [])
                  refine gob (fun _ k => XS.dload X722.here hx rfl (hb hby at_334) rfl k) ?_
                  show gO (tF T722 m 336 (la11 p0 p1 p2 p3 p4 4 b532 2 b721_1 b721_2 (4599676419421066581 : UInt64) (0 : UInt64)) [(.double (0 : UInt64))])
                  refine gob (X722.ldc2DoubleC hx hown (mvT hZ (hW hw 7 rfl)) (g := (mkF m 336 (la11 p0 p1 p2 p3 p4 4 b532 2 b721_1 b721_2 (4599676419421066581 : UInt64) (0 : UInt64)) [(.double (0 : UInt64))])) rfl (hb hby at_336)) ?_
                  show gO (tF T722 m 339 (la11 p0 p1 p2 p3 p4 4 b532 2 b721_1 b721_2 (4599676419421066581 : UInt64) (0 : UInt64)) [(.double (13695778570484766357 : UInt64)), (.double (0 : UInt64))])
                  refine gob (fun _ k => XS.dcmpS X722.here hx rfl (hb hby at_339) rfl (v := (1 : Int32)) (by decide +kernel) k) ?_
                  show gO (tF T722 m 340 (la11 p0 p1 p2 p3 p4 4 b532 2 b721_1 b721_2 (4599676419421066581 : UInt64) (0 : UInt64)) [(.int 1)])
                  refine gob (fun _ k => XS.ifNo X722.here hx rfl (hb hby at_340) rfl ((if0 _ _).trans (tlt (by decide : (0 : Int32) < (1 : Int32))).2.2.2) k) ?_
                  show gO (tF T722 m 343 (la11 p0 p1 p2 p3 p4 4 b532 2 b721_1 b721_2 (4599676419421066581 : UInt64) (0 : UInt64)) [])
                  refine gob (fun _ k => XS.iconst X722.here hx rfl (hb hby at_343) k) ?_
                  show gO (tF T722 m 344 (la11 p0 p1 p2 p3 p4 4 b532 2 b721_1 b721_2 (4599676419421066581 : UInt64) (0 : UInt64)) [(.int 1)])
                  refine gob (fun _ k => XS.goto X722.here hx rfl (pc0 := 344) (pc' := 348) rfl (hb hby at_344) (by decide) (by decide) k) ?_
                  show gO (tF T722 m 348 (la11 p0 p1 p2 p3 p4 4 b532 2 b721_1 b721_2 (4599676419421066581 : UInt64) (0 : UInt64)) [(.int 1)])
                  refine goZ X722 hx hlk (t := .boolean) Bd.returns (by simp) (hb hby at_348) (z' := (1 : Int32)) rfl ?_ (by decide) (by decide)
                  show Q0 Z p0 p1 p2 p3 p4 h0 n0 (some (.int (1 : Int32))) T722.heap _
                  exact ⟨rfl, N722⟩
              · skip
                refine gob (fun _ k => XS.ifYes X545.here hx rfl (pc0 := 93) (pc' := 99) rfl (hb hby at_93) rfl ((if0 _ _).trans (flt hc93_715).2.2.2) (by decide) (by decide) k) ?_
                show gO (tF T545 m 99 (la7 p0 p1 p2 p3 p4 4 b532 0) [])
                refine gob (fun _ k => XS.iload X545.here hx rfl (hb hby at_99) rfl k) ?_
                show gO (tF T545 m 101 (la7 p0 p1 p2 p3 p4 4 b532 0) [(.int 4)])
                refine gob (fun _ k => XS.iconst X545.here hx rfl (hb hby at_101) k) ?_
                show gO (tF T545 m 102 (la7 p0 p1 p2 p3 p4 4 b532 0) [(.int 3), (.int 4)])
                refine gob (fun _ k => XS.icmpNo X545.here hx rfl (hb hby at_102) rfl (tlt (by decide : (3 : Int32) < (4 : Int32))).2.2.2 k) ?_
                show gO (tF T545 m 105 (la7 p0 p1 p2 p3 p4 4 b532 0) [])
                refine gob (fun _ k => XS.iloadN X545.here hx rfl (hb hby at_105) rfl k) ?_
                show gO (tF T545 m 106 (la7 p0 p1 p2 p3 p4 4 b532 0) [(.int p3)])
                by_cases hc106_725 : (0 : Int32) < p3
                · skip
                  refine gob (fun _ k => XS.ifNo X545.here hx rfl (hb hby at_106) rfl ((if0 _ _).trans (tlt hc106_725).2.2.2) k) ?_
                  show gO (tF T545 m 109 (la7 p0 p1 p2 p3 p4 4 b532 0) [])
                  refine gob (fun _ k => XS.iinc X545.here hx rfl (hb hby at_109) rfl (l' := (la7 p0 p1 p2 p3 p4 4 b532 1)) rfl k) ?_
                  show gO (tF T545 m 112 (la7 p0 p1 p2 p3 p4 4 b532 1) [])
                  refine seg (1 : Int32) ?_
                  intro T726 lc726 h726 b726_1 b726_2 k726_1 k726_2 X726 e726 N726 z726 V726 V726_1 V726_2
                  show gO (tF T726 m 282 (la8 p0 p1 p2 p3 p4 4 b532 1 b726_1 b726_2) [])
                  refine gob (fun _ k => XS.aload X726.here hx rfl (hb hby at_282) rfl rfl k) ?_
                  show gO (tF T726 m 284 (la8 p0 p1 p2 p3 p4 4 b532 1 b726_1 b726_2) [(.ref b532)])
                  obtain ⟨_, _, ⟨T727, L727, k727, n727⟩, -, X727, ⟨Lc727, hQ727, l727, y727, z727⟩, st727⟩ := Jvm.LawKit.callS X726 hx (y := (⟨"com/example/coevolution/coevolution/measure/Measures", "averagePrecision", "([I)D"⟩ : MethodName)) hown (mvT hZ (hW hw 2 rfl)) (mvT hZ (hW hw 3 rfl)) (mvT hZ (hW hw 4 rfl)) (mvT hZ (hW hw 5 rfl)) (by decide) (backOf (W := 0) (rmap4 l Z a0 hw [] b532 k532 p0 p1 p2 p3 h726 n0 z726 V726) hZ (hW hw 5 rfl) (hW hw 4 rfl) (by decide) (by decide)) (g := (mkF m 284 (la8 p0 p1 p2 p3 p4 4 b532 1 b726_1 b726_2) [(.ref b532)])) rfl (by rw [hml]; rfl) (argsL := [(.ref b532)]) (rest := []) (lenOf pd_0 rfl) rfl (by show 2 * 0 + _ ≤ _; exact Nat.le_of_eq rfl) (hb hby at_284) (fun _ _ => ⟨rfl, e726, (by decide : 3 + 0 ≤ _), (by decide : 36 + 0 ≤ _)⟩)
                  dsimp only [Pt.U, Pt.locs, Pt.cells, Pt.slots] at X727 l727 y727 z727 st727 hQ727
                  replace X727 := castX X727 (y727.trans (rfl : _ = 3)) (z727.trans (rfl : _ = 36))
                  obtain ⟨r727, rfl, hr727, Nq727, e727⟩ := hQ727
                  have N727 : Fr n0 L727 := l727 ▸ Fr.app N726 Nq727
                  refine gob st727 ?_
                  show gO (tF T727 m 287 (la8 p0 p1 p2 p3 p4 4 b532 1 b726_1 b726_2) [(.double r727)])
                  have hlr727 : r727 = (4598175219545276416 : UInt64) := by simpa [hc67_655, hc80_695, hc93_715, hc106_725] using hr727
                  subst hlr727
                  show gO (tF T727 m 287 (la8 p0 p1 p2 p3 p4 4 b532 1 b726_1 b726_2) [(.double (4598175219545276416 : UInt64))])
                  refine gob (fun _ k => XS.dstore X727.here hx rfl (hb hby at_287) rfl (l' := (la10 p0 p1 p2 p3 p4 4 b532 1 b726_1 b726_2 (4598175219545276416 : UInt64))) rfl k) ?_
                  show gO (tF T727 m 289 (la10 p0 p1 p2 p3 p4 4 b532 1 b726_1 b726_2 (4598175219545276416 : UInt64)) [])
                  refine gob (fun _ k => XS.iload X727.here hx rfl (hb hby at_289) rfl k) ?_
                  show gO (tF T727 m 291 (la10 p0 p1 p2 p3 p4 4 b532 1 b726_1 b726_2 (4598175219545276416 : UInt64)) [(.int 1)])
                  refine gob (fun _ k => XS.ifYes X727.here hx rfl (pc0 := 291) (pc' := 307) rfl (hb hby at_291) rfl ((if0 _ _).trans (feq (by decide : ¬ ((1 : Int32) = (0 : Int32)))).2) (by decide) (by decide) k) ?_
                  show gO (tF T727 m 307 (la10 p0 p1 p2 p3 p4 4 b532 1 b726_1 b726_2 (4598175219545276416 : UInt64)) [])
                  refine gob (fun _ k => XS.dload X727.here hx rfl (hb hby at_307) rfl k) ?_
                  show gO (tF T727 m 309 (la10 p0 p1 p2 p3 p4 4 b532 1 b726_1 b726_2 (4598175219545276416 : UInt64)) [(.double (4598175219545276416 : UInt64))])
                  refine gob (fun _ k => XS.aload X727.here hx rfl (hb hby at_309) rfl rfl k) ?_
                  show gO (tF T727 m 311 (la10 p0 p1 p2 p3 p4 4 b532 1 b726_1 b726_2 (4598175219545276416 : UInt64)) [(.ref b726_2), (.double (4598175219545276416 : UInt64))])
                  refine gob (fun _ k => XS.iload X727.here hx rfl (hb hby at_311) rfl k) ?_
                  show gO (tF T727 m 313 (la10 p0 p1 p2 p3 p4 4 b532 1 b726_1 b726_2 (4598175219545276416 : UInt64)) [(.int 1), (.ref b726_2), (.double (4598175219545276416 : UInt64))])
                  obtain ⟨cl728, Ar728, aq728, S728, N728, H728, G728⟩ := id V726_2
                  have hin728 : ¬ ((1 : Int32) < 0 ∨ cl728.slots.size ≤ ((1 : Int32)).toNatClampNeg) := inb_of S728 ⟨by decide, by decide⟩
                  refine gob (X727.iaload hx (j := (1 : Int32)) (v := (.int 4)) (by rw [e727]; exact Ar728.1) (State.isArrayOf_alike hZ.alike Ar728.2.1) Ar728.2.2 hin728 (Has.at H728 hin728 rfl) (g := (mkF m 313 (la10 p0 p1 p2 p3 p4 4 b532 1 b726_1 b726_2 (4598175219545276416 : UInt64)) [(.int 1), (.ref b726_2), (.double (4598175219545276416 : UInt64))])) rfl rfl (hb hby at_313)) ?_
                  show gO (tF T727 m 314 (la10 p0 p1 p2 p3 p4 4 b532 1 b726_1 b726_2 (4598175219545276416 : UInt64)) [(.int 4), (.double (4598175219545276416 : UInt64))])
                  refine gob (fun _ k => XS.i2dS X727.here hx rfl (hb hby at_314) rfl (v := (4616189618054758400 : UInt64)) (by decide +kernel) k) ?_
                  show gO (tF T727 m 315 (la10 p0 p1 p2 p3 p4 4 b532 1 b726_1 b726_2 (4598175219545276416 : UInt64)) [(.double (4616189618054758400 : UInt64)), (.double (4598175219545276416 : UInt64))])
                  refine gob (fun _ k => XS.dmulS X727.here hx rfl (hb hby at_315) rfl (v := (4607182418800017408 : UInt64)) (by unfold Jvm.Free.Fl.NoNaN64; decide +kernel) (by decide +kernel) k) ?_
                  show gO (tF T727 m 316 (la10 p0 p1 p2 p3 p4 4 b532 1 b726_1 b726_2 (4598175219545276416 : UInt64)) [(.double (4607182418800017408 : UInt64))])
                  refine gob (fun _ k => XS.aload X727.here hx rfl (hb hby at_316) rfl rfl k) ?_
                  show gO (tF T727 m 318 (la10 p0 p1 p2 p3 p4 4 b532 1 b726_1 b726_2 (4598175219545276416 : UInt64)) [(.ref b726_1), (.double (4607182418800017408 : UInt64))])
                  refine gob (fun _ k => XS.iload X727.here hx rfl (hb hby at_318) rfl k) ?_
                  show gO (tF T727 m 320 (la10 p0 p1 p2 p3 p4 4 b532 1 b726_1 b726_2 (4598175219545276416 : UInt64)) [(.int 1), (.ref b726_1), (.double (4607182418800017408 : UInt64))])
                  obtain ⟨cl729, Ar729, aq729, S729, N729, H729, G729⟩ := id V726_1
                  have hin729 : ¬ ((1 : Int32) < 0 ∨ cl729.slots.size ≤ ((1 : Int32)).toNatClampNeg) := inb_of S729 ⟨by decide, by decide⟩
                  refine gob (X727.iaload hx (j := (1 : Int32)) (v := (.int 1)) (by rw [e727]; exact Ar729.1) (State.isArrayOf_alike hZ.alike Ar729.2.1) Ar729.2.2 hin729 (Has.at H729 hin729 rfl) (g := (mkF m 320 (la10 p0 p1 p2 p3 p4 4 b532 1 b726_1 b726_2 (4598175219545276416 : UInt64)) [(.int 1), (.ref b726_1), (.double (4607182418800017408 : UInt64))])) rfl rfl (hb hby at_320)) ?_
                  show gO (tF T727 m 321 (la10 p0 p1 p2 p3 p4 4 b532 1 b726_1 b726_2 (4598175219545276416 : UInt64)) [(.int 1), (.double (4607182418800017408 : UInt64))])
                  refine gob (fun _ k => XS.i2dS X727.here hx rfl (hb hby at_321) rfl (v := (4607182418800017408 : UInt64)) (by decide +kernel) k) ?_
                  show gO (tF T727 m 322 (la10 p0 p1 p2 p3 p4 4 b532 1 b726_1 b726_2 (4598175219545276416 : UInt64)) [(.double (4607182418800017408 : UInt64)), (.double (4607182418800017408 : UInt64))])
                  refine gob (fun _ k => XS.dsubS X727.here hx rfl (hb hby at_322) rfl (v := (0 : UInt64)) (by unfold Jvm.Free.Fl.NoNaN64; decide +kernel) (by decide +kernel) k) ?_
                  show gO (tF T727 m 323 (la10 p0 p1 p2 p3 p4 4 b532 1 b726_1 b726_2 (4598175219545276416 : UInt64)) [(.double (0 : UInt64))])
                  refine gob (fun _ k => XS.dstore X727.here hx rfl (hb hby at_323) rfl (l' := (la11 p0 p1 p2 p3 p4 4 b532 1 b726_1 b726_2 (4598175219545276416 : UInt64) (0 : UInt64))) rfl k) ?_
                  show gO (tF T727 m 325 (la11 p0 p1 p2 p3 p4 4 b532 1 b726_1 b726_2 (4598175219545276416 : UInt64) (0 : UInt64)) [])
                  refine gob (fun _ k => XS.dload X727.here hx rfl (hb hby at_325) rfl k) ?_
                  show gO (tF T727 m 327 (la11 p0 p1 p2 p3 p4 4 b532 1 b726_1 b726_2 (4598175219545276416 : UInt64) (0 : UInt64)) [(.double (0 : UInt64))])
                  refine gob (X727.ldc2DoubleC hx hown (mvT hZ (hW hw 6 rfl)) (g := (mkF m 327 (la11 p0 p1 p2 p3 p4 4 b532 1 b726_1 b726_2 (4598175219545276416 : UInt64) (0 : UInt64)) [(.double (0 : UInt64))])) rfl (hb hby at_327)) ?_
                  show gO (tF T727 m 330 (la11 p0 p1 p2 p3 p4 4 b532 1 b726_1 b726_2 (4598175219545276416 : UInt64) (0 : UInt64)) [(.double (4472406533629990549 : UInt64)), (.double (0 : UInt64))])
                  refine gob (fun _ k => XS.dcmpS X727.here hx rfl (hb hby at_330) rfl (v := (-1 : Int32)) (by decide +kernel) k) ?_
                  show gO (tF T727 m 331 (la11 p0 p1 p2 p3 p4 4 b532 1 b726_1 b726_2 (4598175219545276416 : UInt64) (0 : UInt64)) [(.int (-1))])
                  refine gob (fun _ k => XS.ifNo X727.here hx rfl (hb hby at_331) rfl ((if0 _ _).trans (tlt (by decide : (-1 : Int32) < (0 : Int32))).2.1) k) ?_
                  show gO (tF T727 m 334 (la11 p0 p1 p2 p3 p4 4 b532 1 b726_1 b726_2 (4598175219545276416 : UInt64) (0 : UInt64)) [])
                  refine gob (fun _ k => XS.dload X727.here hx rfl (hb hby at_334) rfl k) ?_
                  show gO (tF T727 m 336 (la11 p0 p1 p2 p3 p4 4 b532 1 b726_1 b726_2 (4598175219545276416 : UInt64) (0 : UInt64)) [(.double (0 : UInt64))])
                  refine gob (X727.ldc2DoubleC hx hown (mvT hZ (hW hw 7 rfl)) (g := (mkF m 336 (la11 p0 p1 p2 p3 p4 4 b532 1 b726_1 b726_2 (4598175219545276416 : UInt64) (0 : UInt64)) [(.double (0 : UInt64))])) rfl (hb hby at_336)) ?_
                  show gO (tF T727 m 339 (la11 p0 p1 p2 p3 p4 4 b532 1 b726_1 b726_2 (4598175219545276416 : UInt64) (0 : UInt64)) [(.double (13695778570484766357 : UInt64)), (.double (0 : UInt64))])
                  refine gob (fun _ k => XS.dcmpS X727.here hx rfl (hb hby at_339) rfl (v := (1 : Int32)) (by decide +kernel) k) ?_
                  show gO (tF T727 m 340 (la11 p0 p1 p2 p3 p4 4 b532 1 b726_1 b726_2 (4598175219545276416 : UInt64) (0 : UInt64)) [(.int 1)])
                  refine gob (fun _ k => XS.ifNo X727.here hx rfl (hb hby at_340) rfl ((if0 _ _).trans (tlt (by decide : (0 : Int32) < (1 : Int32))).2.2.2) k) ?_
                  show gO (tF T727 m 343 (la11 p0 p1 p2 p3 p4 4 b532 1 b726_1 b726_2 (4598175219545276416 : UInt64) (0 : UInt64)) [])
                  refine gob (fun _ k => XS.iconst X727.here hx rfl (hb hby at_343) k) ?_
                  show gO (tF T727 m 344 (la11 p0 p1 p2 p3 p4 4 b532 1 b726_1 b726_2 (4598175219545276416 : UInt64) (0 : UInt64)) [(.int 1)])
                  refine gob (fun _ k => XS.goto X727.here hx rfl (pc0 := 344) (pc' := 348) rfl (hb hby at_344) (by decide) (by decide) k) ?_
                  show gO (tF T727 m 348 (la11 p0 p1 p2 p3 p4 4 b532 1 b726_1 b726_2 (4598175219545276416 : UInt64) (0 : UInt64)) [(.int 1)])
                  refine goZ X727 hx hlk (t := .boolean) Bd.returns (by simp) (hb hby at_348) (z' := (1 : Int32)) rfl ?_ (by decide) (by decide)
                  show Q0 Z p0 p1 p2 p3 p4 h0 n0 (some (.int (1 : Int32))) T727.heap _
                  exact ⟨rfl, N727⟩
                · skip
                  refine gob (fun _ k => XS.ifYes X545.here hx rfl (pc0 := 106) (pc' := 112) rfl (hb hby at_106) rfl ((if0 _ _).trans (flt hc106_725).2.2.2) (by decide) (by decide) k) ?_
                  show gO (tF T545 m 112 (la7 p0 p1 p2 p3 p4 4 b532 0) [])
                  refine seg (0 : Int32) ?_
                  intro T730 lc730 h730 b730_1 b730_2 k730_1 k730_2 X730 e730 N730 z730 V730 V730_1 V730_2
                  show gO (tF T730 m 282 (la8 p0 p1 p2 p3 p4 4 b532 0 b730_1 b730_2) [])
                  refine gob (fun _ k => XS.aload X730.here hx rfl (hb hby at_282) rfl rfl k) ?_
                  show gO (tF T730 m 284 (la8 p0 p1 p2 p3 p4 4 b532 0 b730_1 b730_2) [(.ref b532)])
                  obtain ⟨_, _, ⟨T731, L731, k731, n731⟩, -, X731, ⟨Lc731, hQ731, l731, y731, z731⟩, st731⟩ := Jvm.LawKit.callS X730 hx (y := (⟨"com/example/coevolution/coevolution/measure/Measures", "averagePrecision", "([I)D"⟩ : MethodName)) hown (mvT hZ (hW hw 2 rfl)) (mvT hZ (hW hw 3 rfl)) (mvT hZ (hW hw 4 rfl)) (mvT hZ (hW hw 5 rfl)) (by decide) (backOf (W := 0) (rmap4 l Z a0 hw [] b532 k532 p0 p1 p2 p3 h730 n0 z730 V730) hZ (hW hw 5 rfl) (hW hw 4 rfl) (by decide) (by decide)) (g := (mkF m 284 (la8 p0 p1 p2 p3 p4 4 b532 0 b730_1 b730_2) [(.ref b532)])) rfl (by rw [hml]; rfl) (argsL := [(.ref b532)]) (rest := []) (lenOf pd_0 rfl) rfl (by show 2 * 0 + _ ≤ _; exact Nat.le_of_eq rfl) (hb hby at_284) (fun _ _ => ⟨rfl, e730, (by decide : 3 + 0 ≤ _), (by decide : 36 + 0 ≤ _)⟩)
                  dsimp only [Pt.U, Pt.locs, Pt.cells, Pt.slots] at X731 l731 y731 z731 st731 hQ731
                  replace X731 := castX X731 (y731.trans (rfl : _ = 3)) (z731.trans (rfl : _ = 36))
                  obtain ⟨r731, rfl, hr731, Nq731, e731⟩ := hQ731
                  have N731 : Fr n0 L731 := l731 ▸ Fr.app N730 Nq731
                  refine gob st731 ?_
                  show gO (tF T731 m 287 (la8 p0 p1 p2 p3 p4 4 b532 0 b730_1 b730_2) [(.double r731)])
                  have hlr731 : r731 = (0 : UInt64) := by simpa [hc67_655, hc80_695, hc93_715, hc106_725] using hr731
                  subst hlr731
                  show gO (tF T731 m 287 (la8 p0 p1 p2 p3 p4 4 b532 0 b730_1 b730_2) [(.double (0 : UInt64))])
                  refine gob (fun _ k => XS.dstore X731.here hx rfl (hb hby at_287) rfl (l' := (la10 p0 p1 p2 p3 p4 4 b532 0 b730_1 b730_2 (0 : UInt64))) rfl k) ?_
                  show gO (tF T731 m 289 (la10 p0 p1 p2 p3 p4 4 b532 0 b730_1 b730_2 (0 : UInt64)) [])
                  refine gob (fun _ k => XS.iload X731.here hx rfl (hb hby at_289) rfl k) ?_
                  show gO (tF T731 m 291 (la10 p0 p1 p2 p3 p4 4 b532 0 b730_1 b730_2 (0 : UInt64)) [(.int 0)])
                  refine gob (fun _ k => XS.ifNo X731.here hx rfl (hb hby at_291) rfl ((if0 _ _).trans (teq (by decide : (0 : Int32) = (0 : Int32))).2) k) ?_
                  show gO (tF T731 m 294 (la10 p0 p1 p2 p3 p4 4 b532 0 b730_1 b730_2 (0 : UInt64)) [])
                  refine gob (fun _ k => XS.dload X731.here hx rfl (hb hby at_294) rfl k) ?_
                  show gO (tF T731 m 296 (la10 p0 p1 p2 p3 p4 4 b532 0 b730_1 b730_2 (0 : UInt64)) [(.double (0 : UInt64))])
                  refine gob (fun _ k => XS.dconst0 X731.here hx rfl (hb hby at_296) (v := (0 : UInt64)) (by decide +kernel) k) ?_
                  show gO (tF T731 m 297 (la10 p0 p1 p2 p3 p4 4 b532 0 b730_1 b730_2 (0 : UInt64)) [(.double (0 : UInt64)), (.double (0 : UInt64))])
                  refine gob (fun _ k => XS.dcmpS X731.here hx rfl (hb hby at_297) rfl (v := (0 : Int32)) (by decide +kernel) k) ?_
                  show gO (tF T731 m 298 (la10 p0 p1 p2 p3 p4 4 b532 0 b730_1 b730_2 (0 : UInt64)) [(.int 0)])
                  refine gob (fun _ k => XS.ifNo X731.here hx rfl (hb hby at_298) rfl ((if0 _ _).trans (teq (by decide : (0 : Int32) = (0 : Int32))).2) k) ?_
                  show gO (tF T731 m 301 (la10 p0 p1 p2 p3 p4 4 b532 0 b730_1 b730_2 (0 : UInt64)) [])
                  refine gob (fun _ k => XS.iconst X731.here hx rfl (hb hby at_301) k) ?_
                  show gO (tF T731 m 302 (la10 p0 p1 p2 p3 p4 4 b532 0 b730_1 b730_2 (0 : UInt64)) [(.int 1)])
                  refine gob (fun _ k => XS.goto X731.here hx rfl (pc0 := 302) (pc' := 306) rfl (hb hby at_302) (by decide) (by decide) k) ?_
                  show gO (tF T731 m 306 (la10 p0 p1 p2 p3 p4 4 b532 0 b730_1 b730_2 (0 : UInt64)) [(.int 1)])
                  refine goZ X731 hx hlk (t := .boolean) Bd.returns (by simp) (hb hby at_306) (z' := (1 : Int32)) rfl ?_ (by decide) (by decide)
                  show Q0 Z p0 p1 p2 p3 p4 h0 n0 (some (.int (1 : Int32))) T731.heap _
                  exact ⟨rfl, N731⟩
set_option maxRecDepth 65536 in
set_option maxHeartbeats 40000000 in
theorem comes_1 {Post : Tables → Env → Array Value → State → Outcome → State → Prop} (hpost : ∀ tb e args s v u, (limb_1_1.after args s (.returned v) u = true ∧ limb_1_2.after args s (.returned v) u = true ∧ True) → FrameEnd s (.returned v) u (Jvm.fieldLocs frame_1_writes args s ++ Jvm.arrayLocs frame_1_arrays args s ++ Jvm.staticLocs frame_1_statics s) 16 192 → Post tb e args s (.returned v) u) :
    ArmFor flags0 classFile x code maxLocals ret World_1 tables_1 room_1 Calls_1 rest_1 Pre_1 Post := by
  intro l hfl _ _ p e ha hc hk s m args below hf hA hF happ hP
  obtain ⟨hcalls, hrest, hpre⟩ := hP
  obtain ⟨-, -, -, hnamed, -, -, -, hat⟩ := (Spec.applies_iff hf).mp happ
  obtain ⟨hg, hn⟩ := and_e (Cond.before_iff.mp (show (Jvm.Cond.and given_1 narrow_1).before args s = true from hpre))
  obtain ⟨g1, g2⟩ := and_e hg
  obtain ⟨g3, g4⟩ := and_e g2
  obtain ⟨g5, g6⟩ := and_e g4
  obtain ⟨g7, g8⟩ := and_e g6
  obtain ⟨g9, g10⟩ := and_e g8
  obtain ⟨w0, w1, w2, w3, w4, rfl⟩ : ∃ w0 w1 w2 w3 w4 : Value, args = #[w0, w1, w2, w3, w4] := by
    have hs : args.size = 5 := by simpa [Cond.value, given_1] using g1
    obtain ⟨L⟩ := args
    match L, hs with
    | [w0, w1, w2, w3, w4], _ => exact ⟨w0, w1, w2, w3, w4, rfl⟩
  have hw := fun d (hd : d ∈ tables_1) => atoms_spec (ws := Jvm.Cond.code x code maxLocals ret :: tables_1) hat d (List.mem_cons_of_mem _ hd)
  have hfit : Fit s := fun {y c} hc i hi => by
    obtain ⟨ha, rfl⟩ := Array.getElem?_eq_some_iff.mp hc
    have q := List.all_eq_true.mp ((Array.all_eq_true_iff_forall_mem.mp hF) _ (Array.getElem_mem ha)) i (List.mem_range.mpr hi)
    simpa [Array.getElem?_eq_getElem hi] using q
  obtain ⟨i0, ei0⟩ := is_v g3
  obtain rfl : w0 = (.int i0) := Option.some.inj ei0
  obtain ⟨i1, ei1⟩ := is_v g5
  obtain rfl : w1 = (.int i1) := Option.some.inj ei1
  obtain ⟨i2, ei2⟩ := is_v g7
  obtain rfl : w2 = (.int i2) := Option.some.inj ei2
  obtain ⟨i3, ei3⟩ := is_v g9
  obtain rfl : w3 = (.int i3) := Option.some.inj ei3
  obtain ⟨i4, ei4⟩ := is_v g10
  obtain rfl : w4 = (.int i4) := Option.some.inj ei4
  obtain ⟨n, o, h1, h2, h3, _, L, rfl, ⟨rfl, N⟩, hq⟩ := rm0 l s _ hw tables_1 i0 i1 i2 i3 i4 s.heap s.heap.size (Nat.le_refl _)  p e ha hc hk s m _ below hf ((Spec.applies_iff_loose hf).mp happ).1 ⟨rfl, State.Warmed39.refl s, rfl⟩ trivial
  exact ⟨n, _, h1, h2, h3, hpost _ _ _ _ _ _ ⟨Cond.after_iff.mpr rfl, Cond.after_iff.mpr (eq_i res_at (Term.int_eval (1)) rfl), trivial⟩ ⟨hq.1, hq.2.1, (hq.2.2.sift fun y hy => Or.inr (N y hy)).mono (by decide) (by decide)⟩⟩
theorem main_1_1 : Claimed_1_1 := comes_1 fun _ _ _ _ _ _ h hF => ⟨h.1, hF⟩
theorem main_1_2 : Claimed_1_2 := comes_1 fun _ _ _ _ _ _ h hF => ⟨h.2.1, hF⟩
end Jvm.Pilot.@@N@@
namespace Jvm.Pilot.@@N@@
open Jvm Jvm.ClassFile Sem Op Lib Jvm.Free Jvm.Stand Jvm.Pilot.@@N@@.Jvm.D
/-! MADE BY PROGRAM (witnessworld.py) out of the Statement's table words and the real class files: 9 classes; the members and pool entries that the words name. The judged class is class 1, her method 1. -/
namespace start1
open Jvm.ClassFile
def u (s : String) : CpInfo := .utf8 (stringToUtf16 s)
/-- a pool by its gaps: so many unusable entries, then the entry; so many at the end -/
def gap : Nat → List CpInfo → List CpInfo
  | 0, r => r
  | n + 1, r => .unusable :: gap n r
def poolList (es : List (Nat × CpInfo)) (last : Nat) : List CpInfo := es.foldr (fun e r => gap e.1 (e.2 :: r)) (gap last [])
def pool (es : List (Nat × CpInfo)) (last : Nat) : Array CpInfo := ⟨poolList es last⟩
def fileOf (pool : Array CpInfo) (this : Nat) (attrs : Array Attribute := #[]) (ms : Array MethodInfo := #[]) (fl : Nat := 33) (sup : Nat := 0) (ifs : Array Nat := #[]) (fds : Array FieldInfo := #[]) : ClassFile where
  minorVersion := 0
  majorVersion := 65
  constantPool := pool
  accessFlags := fl
  thisClass := this
  superClass := sup
  interfaces := ifs
  fields := fds
  methods := ms
  attributes := attrs
def plain (name : String) (sup : Option ClassId) : Class where
  name := name
  kind := .ordinary
  loader := none
  accessFlags := 33
  super := sup
  interfaces := #[]
  cf := none
  fields := #[]
  methods := #[]
  instanceTypes := #[]
  staticTypes := #[]
  resolved := #[]
  callSites := []
  init := .initialized
  statics := none
  mirror := none

def pool0 : Array CpInfo := pool [(5, u "<init>"), (0, u "()V"), (1, .class_ 10), (1, u "java/lang/Object")] 113

def k0m0 : Method := { name := "<init>", desc := "()V", sig := { parameters := [], returnType := none }, accessFlags := 1, code := none }
/-- java/lang/Object -/
def k0 : Class := { plain "java/lang/Object" none with
  accessFlags := 33
  interfaces := #[]
  cf := some (fileOf pool0 8 #[] #[{ accessFlags := 1, nameIndex := 5, descriptorIndex := 6, attributes := #[] }] 33 0 #[] #[])
  fields := #[]
  methods := #[k0m0]
  instanceTypes := #[]
  staticTypes := #[]
  resolved := Array.replicate 124 none
  statics := none }

def pool1 : Array CpInfo := pool [(2, .class_ 4), (1, u "java/lang/Object"), (0, u "<init>"), (0, u "()V"), (0, .integer 2147483647), (0, .methodref 9 10), (0, .class_ 11), (0, .nameAndType 12 13), (0, u "com/example/coevolution/coevolution/measure/Measures"), (0, u "averagePrecision"), (0, u "([I)D"), (0, .double 4472406533629990549), (1, .double 13695778570484766357), (1, .class_ 19), (0, u "com/example/coevolution/coevolution/measure/MeasuresAveragePrecisionPinLaw"), (2, u "law"), (0, u "(IIIII)Z")] 5

def k1m0 : Method := { name := "<init>", desc := "()V", sig := { parameters := [], returnType := none }, accessFlags := 2, code := none }
def k1c1 : Code := { maxStack := 4, maxLocals := 14, code := code, exceptionTable := #[], attributes := #[] }
def k1m1 : Method := { name := "law", desc := "(IIIII)Z", sig := { parameters := [.int, .int, .int, .int, .int], returnType := some .boolean }, accessFlags := 9, code := some k1c1 }
/-- com/example/coevolution/coevolution/measure/MeasuresAveragePrecisionPinLaw -/
def k1 : Class := { plain "com/example/coevolution/coevolution/measure/MeasuresAveragePrecisionPinLaw" (some 0) with
  accessFlags := 49
  interfaces := #[]
  cf := some (fileOf pool1 18 #[] #[{ accessFlags := 2, nameIndex := 5, descriptorIndex := 6, attributes := #[] }, { accessFlags := 9, nameIndex := 22, descriptorIndex := 23, attributes := #[] }] 49 2 #[] #[])
  fields := #[]
  methods := #[k1m0, k1m1]
  instanceTypes := #[]
  staticTypes := #[]
  resolved := Array.replicate 29 none
  statics := none }

def pool2 : Array CpInfo := pool [(2, .class_ 4), (1, u "java/lang/Object"), (0, u "<init>"), (0, u "()V"), (1, .class_ 10), (1, u "com/example/coevolution/coevolution/measure/Measures"), (38, u "LN_2"), (0, u "D"), (11, u "MAX_CUTOFF"), (0, u "I"), (4, u "averagePrecision"), (0, u "([I)D")] 22

def k2m0 : Method := { name := "<init>", desc := "()V", sig := { parameters := [], returnType := none }, accessFlags := 2, code := none }
def k2c1 : Code := { maxStack := 6, maxLocals := 5, code := prog_57_method_2_code, exceptionTable := #[], attributes := #[] }
def k2m1 : Method := { name := "averagePrecision", desc := "([I)D", sig := { parameters := [(.array .int)], returnType := some .double }, accessFlags := 9, code := some k2c1 }
/-- com/example/coevolution/coevolution/measure/Measures -/
def k2 : Class := { plain "com/example/coevolution/coevolution/measure/Measures" (some 0) with
  accessFlags := 49
  interfaces := #[]
  cf := some (fileOf pool2 8 #[] #[{ accessFlags := 2, nameIndex := 5, descriptorIndex := 6, attributes := #[] }, { accessFlags := 9, nameIndex := 68, descriptorIndex := 69, attributes := #[] }] 49 2 #[] #[{ accessFlags := 25, nameIndex := 62, descriptorIndex := 63, attributes := #[] }, { accessFlags := 26, nameIndex := 49, descriptorIndex := 50, attributes := #[] }])
  fields := #[{ name := "MAX_CUTOFF", type := .int, accessFlags := 25, slot := 0, constantValue := 0 }, { name := "LN_2", type := .double, accessFlags := 26, slot := 1, constantValue := 0 }]
  methods := #[k2m0, k2m1]
  instanceTypes := #[]
  staticTypes := #[.int, .double]
  resolved := Array.replicate 92 none
  statics := none }

def pool3 : Array CpInfo := pool [(1, u "java/lang/Cloneable"), (0, .class_ 1), (0, u "java/lang/Object"), (0, .class_ 3)] 3

/-- java/lang/Cloneable -/
def k3 : Class := { plain "java/lang/Cloneable" (some 0) with
  accessFlags := 1537
  interfaces := #[]
  cf := some (fileOf pool3 2 #[] #[] 1537 4 #[] #[])
  fields := #[]
  methods := #[]
  instanceTypes := #[]
  staticTypes := #[]
  resolved := Array.replicate 8 none
  statics := none }

def pool4 : Array CpInfo := pool [(1, u "java/io/Serializable"), (0, .class_ 1), (0, u "java/lang/Object"), (0, .class_ 3)] 3

/-- java/io/Serializable -/
def k4 : Class := { plain "java/io/Serializable" (some 0) with
  accessFlags := 1537
  interfaces := #[]
  cf := some (fileOf pool4 2 #[] #[] 1537 4 #[] #[])
  fields := #[]
  methods := #[]
  instanceTypes := #[]
  staticTypes := #[]
  resolved := Array.replicate 8 none
  statics := none }

/-- the primitive byte -/
def k5 : Class := { plain "byte" none with kind := .primitive 'B', accessFlags := 0x411 }
/-- [B -/
def k6 : Class := { plain "[B" (some 0) with kind := .array 5 .byte, interfaces := #[3, 4], accessFlags := 1041 }

/-- the primitive int -/
def k7 : Class := { plain "int" none with kind := .primitive 'I', accessFlags := 0x411 }
/-- [I -/
def k8 : Class := { plain "[I" (some 0) with kind := .array 7 .int, interfaces := #[3, 4], accessFlags := 1041 }

def heap : Heap := #[]
def classes : Array Class := #[k0, k1, k2, k3, k4, k5, k6, k7, k8]
def interned : List (Array UInt16 × Addr) := []
def slotsUsed : Nat := 0
def theMethod : MethodId := ⟨1, 1⟩
def args0 : Array Value := #[.int 5, .int 6, .int 6, .int 6, .int 6]
def aboutOver (below : List Frame) : State where
  vm := { classes := classes, interned := interned.toArray }
  heap := heap
  slotsUsed := slotsUsed
  threads := #[{ frames := .invoking theMethod args0 :: below }]
def below0 : List Frame := [.native { method := ⟨0, 0⟩, args := #[] }]
def about1 : State := aboutOver below0
def p0 : Program := .bare "" "" ""
def e0 : Env := launch0.env 0 0 0
theorem w_frames : about1.frames = Frame.invoking theMethod args0 :: below0 := rfl
set_option maxRecDepth 65536 in
theorem w_args : argsFit about1.vm theMethod args0 = true := by decide +kernel
set_option maxRecDepth 65536 in
theorem w_heap : heapFits about1 = true := by decide +kernel
set_option maxRecDepth 65536 in
theorem w_runnable : about1.curStatus? = some .runnable := by decide +kernel
set_option maxRecDepth 65536 in
theorem w_alone : about1.alone = true := by decide +kernel
set_option maxRecDepth 65536 in
theorem w_named : about1.methodNamed? x = some theMethod := by decide +kernel
set_option maxRecDepth 65536 in
theorem w_hears : about1.hears theMethod below0 = true := by decide +kernel
set_option maxRecDepth 65536 in
theorem w_ripe : about1.ripe theMethod args0 below0 = true := by decide +kernel
theorem w_running : about1.status = .running := rfl
set_option maxRecDepth 65536 in
theorem w_room : about1.hasRoom e0.platform room_1 = true :=
  launch0.hasRoom_least _ room_1 (by decide +kernel) (by decide +kernel) (by decide +kernel) (by decide +kernel) (by decide +kernel) (by decide +kernel)
theorem allAtoms_all (ts : List Jvm.Cond) (a : Array Jvm.Value) (st : Jvm.State) : (allAtoms ts).before a st = ts.all (fun c => c.before a st) := by
  induction ts with
  | nil => rfl
  | cons c t ih =>
    show (Jvm.Cond.and c (allAtoms t)).before a st = _
    rw [Jvm.Cond.before_and, ih, List.all_cons]
def words1 : List Jvm.Cond := Jvm.Cond.code x code maxLocals ret :: tables_1
/-- a 'code' word, met by the world's own term for the bytes: nothing is compared byte by byte -/
theorem code_word {y : MethodName} {bytes : ByteArray} {mx : Nat} {rt : Option FieldType} {a : Array Value} {s : State} {m : MethodId} {meth : Method} {c : Code} (h1 : s.methodNamed? y = some m) (h2 : s.vm.method? m = some meth) (h3 : meth.code = some c) (h4 : c.code = bytes)
    (h5 : (c.maxLocals == mx && c.exceptionTable.isEmpty && decide (c.maxStack ≤ mostOperands) && decide (meth.sig.returnType = rt) && !meth.locks && decide (parseMethodDescriptor y.desc = some meth.sig)) = true) : (Jvm.Cond.code y bytes mx rt).before a s = true := by
  simp only [Bool.and_eq_true, beq_iff_eq, Bool.not_eq_true', decide_eq_true_eq] at h5
  obtain ⟨⟨⟨⟨⟨g1, g2⟩, g3⟩, g4⟩, g5⟩, g6⟩ := h5
  simp [Cond.before, Cond.holds, Cond.value, h1, h2, h3, h4, g1, g2, g3, g4, g5, g6]
def isCode : Jvm.Cond → Bool
  | .code _ _ _ _ => true
  | _ => false
theorem all_split {L : List Jvm.Cond} {P : Jvm.Cond → Bool} (h1 : L.all (fun c => isCode c || P c) = true) (h2 : ∀ c ∈ L.filter isCode, P c = true) : L.all P = true := by
  refine List.all_eq_true.mpr fun c hc => ?_
  have h := List.all_eq_true.mp h1 c hc
  rcases Bool.eq_false_or_eq_true (isCode c) with hi | hi
  · exact h2 c (List.mem_filter.mpr ⟨hc, hi⟩)
  · simpa [hi] using h
set_option maxRecDepth 65536 in
theorem w_c0 : (Jvm.Cond.code x code maxLocals ret).before args0 about1 = true := code_word (m := ⟨1, 1⟩) (meth := k1m1) (c := k1c1) (by decide +kernel) rfl rfl rfl (by decide +kernel)
set_option maxRecDepth 65536 in
theorem w_c1 : (Jvm.Cond.code ({ cls := "com/example/coevolution/coevolution/measure/Measures", name := "averagePrecision", desc := "([I)D" } : Jvm.MethodName) prog_57_method_2_code (5 : Nat) (Option.some Jvm.ClassFile.FieldType.double)).before args0 about1 = true := code_word (m := ⟨2, 1⟩) (meth := k2m1) (c := k2c1) (by decide +kernel) rfl rfl rfl (by decide +kernel)
def codes1 : List Jvm.Cond := [Jvm.Cond.code x code maxLocals ret, Jvm.Cond.code ({ cls := "com/example/coevolution/coevolution/measure/Measures", name := "averagePrecision", desc := "([I)D" } : Jvm.MethodName) prog_57_method_2_code (5 : Nat) (Option.some Jvm.ClassFile.FieldType.double)]
set_option maxRecDepth 65536 in
theorem codes_eq : words1.filter isCode = codes1 := rfl
theorem w_codes : ∀ c ∈ words1.filter isCode, c.before args0 about1 = true := by
  rw [codes_eq]
  intro c hc
  simp only [codes1, List.mem_cons, List.not_mem_nil, or_false] at hc
  rcases hc with rfl | rfl
  · exact w_c0
  · exact w_c1
set_option maxRecDepth 65536 in
theorem w_t1 : words1.all (fun c => isCode c || c.before args0 about1) = true := by decide +kernel
theorem w_tables : (allAtoms (Jvm.Cond.code x code maxLocals ret :: tables_1)).before args0 about1 = true := by
  rw [allAtoms_all]
  show words1.all (fun c => c.before args0 about1) = true
  refine all_split ?_ w_codes
  rw [w_t1]
set_option maxRecDepth 65536 in
theorem w_case : (Jvm.Cond.and given_1 narrow_1).before args0 about1 = true := by decide +kernel
theorem w_applies : (headSpec (Jvm.Cond.code x code maxLocals ret :: tables_1) room_1).applies x e0.platform about1 = true :=
  (Spec.applies_iff w_frames).mpr ⟨w_running, w_runnable, w_alone, w_named, w_hears, w_ripe, w_room, w_tables⟩
theorem atStart : AtStart classFile x code maxLocals ret World_1 tables_1 room_1 Calls_1 rest_1 Pre_1 launch0 p0 e0 about1 theMethod args0 below0 :=
  ⟨lists_1, trivial, launch0.admits_env _ _ _, launch0.least_env, fairChoices_fair.cas, fairChoices_fair.clock, w_frames, w_args, w_heap, w_applies, trivial, trivial, w_case⟩
end start1
theorem witness_1 : WitnessClaimed_1 := ⟨start1.p0, start1.e0, start1.about1, start1.theMethod, start1.args0, start1.below0, start1.atStart⟩
end Jvm.Pilot.@@N@@
